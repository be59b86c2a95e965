import JvmDerived
import JvmDerived.Pilot.@@N@@Statement
import JvmDerived.Pilot.@@N@@Code
set_option linter.unusedVariables false
set_option linter.unusedSimpArgs false
@@BLOCK:NumsL.lean.txt@@
namespace Jvm.OwnGo
open Jvm Sem ClassFile Op Lib Jvm.Stand Jvm.Free Jvm.LawKit Jvm.RoadKit
/-- from A the run comes to a state of which K is said -/
def Go (tb : Tables) (e : Env) (below : List Frame) (A : State) (K : State → Prop) : Prop := ∃ u, Steps tb e below A u ∧ K u
theorem Go.by {tb : Tables} {e : Env} {below : List Frame} {A B : State} {K : State → Prop} (h : ∀ t, Steps tb e below B t → Steps tb e below A t) (g : Go tb e below B K) : Go tb e below A K := by
  obtain ⟨u, s, k⟩ := g
  exact ⟨u, h u s, k⟩
theorem Go.tr {tb : Tables} {e : Env} {below : List Frame} {A B : State} {K : State → Prop} (h : Steps tb e below A B) (g : Go tb e below B K) : Go tb e below A K := by
  obtain ⟨u, s, k⟩ := g
  exact ⟨u, h.trans s, k⟩
theorem Go.out {tb : Tables} {e : Env} {below : List Frame} {A : State} {P : State → Outcome → Prop} (g : Go tb e below A (fun u => ∃ o, P u o)) : ∃ u o, Steps tb e below A u ∧ P u o := by
  obtain ⟨u, s, o, k⟩ := g
  exact ⟨u, o, s, k⟩
theorem Go.done {p : Program} {l : Launch} {e : Env} {R : Room} {s : State} {m : MethodId} {args : Array Value} {below : List Frame} {meth : Method} {c : Code} {T : State} {locs : List Loc} {cells slots C D : Nat}
    (X : Stand p l e R s m args below meth c T locs cells slots) {v : Option Value} (hv : meth.sig.returnType = none → v = none) (hlocks : meth.locks = false) {A : State}
    (hst : ∀ fs, (∀ (f : JFrame) (acts : List Action), f.method = m → f.locked = none → f.entered = [] → (doReturn e (T.setTop f) acts v).1 = T.setFrames fs) → Steps p.tables e below A (T.setFrames fs))
    {Q : Option Value → Heap → List Loc → Prop} (hq : Q v T.heap locs) (hc : cells ≤ C) (hs : slots ≤ D) :
    Go p.tables e below A (fun u => ∃ o, u.status = .running ∧ Ended u below o ∧ ∃ v L, o = .returned v ∧ Q v u.heap L ∧ FrameEnd s o u L C D) := by
  obtain ⟨fs, hr, hrun, hended, hW, hsame⟩ := X.leave hv hlocks
  exact ⟨_, hst fs hr, _, hrun, hended, _, _, rfl, hq, ⟨_, rfl⟩, hW, hsame.mono hc hs⟩
theorem Go.doneW {p : Program} {l : Launch} {e : Env} {R : Room} {s : State} {m : MethodId} {args : Array Value} {below : List Frame} {meth : Method} {c : Code} {T : State} {locs : List Loc} {cells slots C D : Nat} {vm1 : Vm}
    (X : Stand p l e R (s.setVm vm1) m args below meth c T locs cells slots) {n : Nat} (hS : s.Since vm1 n) (hn : n ≤ T.heap.size) {v : Option Value} (hv : meth.sig.returnType = none → v = none) (hlocks : meth.locks = false) {A : State}
    (hst : ∀ fs, (∀ (f : JFrame) (acts : List Action), f.method = m → f.locked = none → f.entered = [] → (doReturn e (T.setTop f) acts v).1 = T.setFrames fs) → Steps p.tables e below A (T.setFrames fs))
    {Q : Option Value → Heap → List Loc → Prop} (hq : Q v T.heap locs) (hc : cells ≤ C) (hs : slots ≤ D) :
    Go p.tables e below A (fun u => ∃ o, u.status = .running ∧ Ended u below o ∧ ∃ v L, o = .returned v ∧ Q v u.heap L ∧ ReturnedEndW s o u L C D) := by
  obtain ⟨fs, hr, hrun, hended, h1, h2, h3, h4⟩ := X.leaveW hS hn hv hlocks
  exact ⟨_, hst fs hr, _, hrun, hended, _, _, rfl, hq, h1, h2, h3, h4.mono hc hs⟩
end Jvm.OwnGo
namespace Jvm.OwnFp
open Jvm.FP Jvm.FP.Core Jvm.Free.Fl
/-- the double a is i * 2^e -/
def Dy (i e : Int) (a : UInt64) : Prop := ∃ s c q, val64 a = .fin s c q ∧ Whole i (.fin s c (q - e))
theorem own_const {i e : Int} {a : UInt64} (s : Bool) (c : Nat) (q : Int) (h1 : val64 a = .fin s c q) (h2 : signed s (c * 2 ^ (q - e).toNat) = i * ((2 ^ (-(q - e)).toNat : Nat) : Int)) : Dy i e a := ⟨s, c, q, h1, h2⟩
theorem Dy.noNaN {i e : Int} {a : UInt64} (h : Dy i e a) : NoNaN64 a := by
  obtain ⟨s, c, q, h1, -⟩ := h
  exact val64_no.mpr (by rw [h1]; exact fun q => nomatch q)
theorem Dy.fin {i e : Int} {a : UInt64} (h : Dy i e a) : Fin64 a := by
  obtain ⟨s, c, q, h1, -⟩ := h
  exact fin64_core.mpr ⟨s, c, q, h1⟩
theorem own_fit (s : Bool) {n : Nat} (hn : n ≤ 9007199254740992) {e : Int} (h1 : -1074 ≤ e) (h2 : e ≤ 900) :
    ∃ c q, Core.fits b64 (.fin s c q) ∧ n * 2 ^ (e - q).toNat = c * 1 * 2 ^ (q - e).toNat := by
  have e1 : b64.qmin = -1074 := qmin_b64
  have e2 : b64.qmax = 971 := by decide
  have e3 : b64.tails = 2 ^ 52 := tails_b64
  have e4 : b64.p = 53 := rfl
  have k53 : (9007199254740992 : Nat) = 2 ^ 53 := by decide
  by_cases h0 : n = 0
  · subst h0
    exact ⟨0, b64.qmin, zero_fits good_b64 s, by simp⟩
  by_cases hp : n = 9007199254740992
  · refine ⟨2 ^ 52, e + 1, ⟨by rw [e4]; decide, by rw [e1]; omega, by rw [e2]; omega, Or.inr (by rw [e3]; exact Nat.le_refl _)⟩, ?_⟩
    rw [show (e - (e + 1)).toNat = 0 by omega, show (e + 1 - e).toNat = 1 by omega, hp]
  · have l1 : 2 ^ n.log2 ≤ n := Nat.log2_self_le h0
    have l2 : n < 2 ^ (n.log2 + 1) := Nat.lt_log2_self
    have l3 : n.log2 < 53 := (Nat.pow_lt_pow_iff_right (by decide : 1 < 2)).mp (Nat.lt_of_le_of_lt l1 (by omega))
    generalize n.log2 = L at l1 l2 l3
    by_cases hq : -1074 ≤ e - (52 - (L : Int))
    · refine ⟨n * 2 ^ (52 - L), e - (52 - (L : Int)), ⟨?_, by rw [e1]; omega, by rw [e2]; omega, Or.inr ?_⟩, ?_⟩
      · rw [e4]
        calc n * 2 ^ (52 - L) < 2 ^ (L + 1) * 2 ^ (52 - L) := Nat.mul_lt_mul_of_pos_right l2 (Nat.two_pow_pos _)
          _ = 2 ^ 53 := by rw [← Nat.pow_add]; congr 1; omega
      · rw [e3]
        calc 2 ^ 52 = 2 ^ L * 2 ^ (52 - L) := by rw [← Nat.pow_add]; congr 1; omega
          _ ≤ n * 2 ^ (52 - L) := Nat.mul_le_mul_right _ l1
      · rw [show (e - (e - (52 - (L : Int)))).toNat = 52 - L by omega, show (e - (52 - (L : Int)) - e).toNat = 0 by omega]
        simp
    · refine ⟨n * 2 ^ (e + 1074).toNat, -1074, ⟨?_, by rw [e1]; omega, by rw [e2]; omega, Or.inl e1.symm⟩, ?_⟩
      · rw [e4]
        calc n * 2 ^ (e + 1074).toNat < 2 ^ (L + 1) * 2 ^ (e + 1074).toNat := Nat.mul_lt_mul_of_pos_right l2 (Nat.two_pow_pos _)
          _ = 2 ^ (L + 1 + (e + 1074).toNat) := by rw [← Nat.pow_add]
          _ ≤ 2 ^ 53 := Nat.pow_le_pow_right (by decide) (by omega)
      · rw [show (e - -1074).toNat = (e + 1074).toNat by omega, show (-1074 - e).toNat = 0 by omega]
        simp
theorem own_sg {i : Int} {s : Bool} {c : Nat} {q : Int} (h : Whole i (.fin s c q)) : signed s i.natAbs = i := by
  by_cases hi : i = 0
  · rw [hi]; exact signed_zero s
  · rw [whole_sign h hi]
    unfold signed
    by_cases z : i < 0
    · simp only [z, decide_true, if_true]; omega
    · simp only [z, decide_false]; simp; omega
theorem own_whole {i e : Int} {s : Bool} {c : Nat} {q : Int} (hs : signed s i.natAbs = i) (h : i.natAbs * 2 ^ (e - q).toNat = c * 1 * 2 ^ (q - e).toNat) : Whole i (.fin s c (q - e)) := by
  show signed s (c * 2 ^ (q - e).toNat) = i * ((2 ^ (-(q - e)).toNat : Nat) : Int)
  rw [Nat.mul_one] at h
  rw [← h, signed_mul, hs, show -(q - e) = e - q by omega]
/-- a ratio that is i * 2^e -/
theorem own_ratio {i e : Int} {s : Bool} (hs : signed s i.natAbs = i) (hi : i.natAbs ≤ 9007199254740992) (h1 : -1074 ≤ e) (h2 : e ≤ 900) :
    ∃ c q, roundRatio b64 s i.natAbs 1 e = .fin s c q ∧ Whole i (.fin s c (q - e)) := by
  obtain ⟨c, q, hf, h⟩ := own_fit s hi h1 h2
  exact ⟨c, q, roundRatio_exact good_b64 Nat.one_pos hf h, own_whole hs h⟩
theorem own_round {i e : Int} {s : Bool} {c : Nat} {q : Int} (h : Whole i (.fin s c (q - e))) (hi : i.natAbs ≤ 9007199254740992) (h1 : -1074 ≤ e) (h2 : e ≤ 900) :
    ∃ s' c' q', Core.round b64 (.fin s c q) = .fin s' c' q' ∧ Whole i (.fin s' c' (q' - e)) := by
  obtain ⟨c', q', r1, r2⟩ := own_ratio (own_sg h) hi h1 h2
  refine ⟨s, c', q', ?_, r2⟩
  have w := whole_natAbs h
  show roundRatio b64 s c 1 q = _
  rw [← r1]
  refine roundRatio_congr Nat.one_pos Nat.one_pos ?_
  rw [Nat.mul_one, Nat.mul_one, w, show -(q - e) = e - q by omega]
theorem Dy.add {i j e : Int} {a b : UInt64} (ha : Dy i e a) (hb : Dy j e b) (hi : (i + j).natAbs ≤ 9007199254740992) (h1 : -1074 ≤ e) (h2 : e ≤ 900) : Dy (i + j) e (FP.dadd a b) := by
  obtain ⟨s, c, q, a1, a2⟩ := ha
  obtain ⟨t, d, r, b1, b2⟩ := hb
  have w := whole_sum a2 b2
  have hm : min (q - e) (r - e) = min q r - e := by omega
  have hV : sumUnits s c (q - e) t d (r - e) (min q r - e) = sumUnits s c q t d r (min q r) := by
    unfold sumUnits inUnits
    rw [show q - e - (min q r - e) = q - min q r by omega, show r - e - (min q r - e) = r - min q r by omega]
  simp only [exactSum] at w
  rw [hm, hV] at w
  obtain ⟨s', c', q', r1, r2⟩ := own_round w hi h1 h2
  exact ⟨s', c', q', by rw [val64_dadd, a1, b1]; exact r1, r2⟩
theorem Dy.sub {i j e : Int} {a b : UInt64} (ha : Dy i e a) (hb : Dy j e b) (hi : (i - j).natAbs ≤ 9007199254740992) (h1 : -1074 ≤ e) (h2 : e ≤ 900) : Dy (i - j) e (FP.dsub a b) := by
  obtain ⟨s, c, q, a1, a2⟩ := ha
  obtain ⟨t, d, r, b1, b2⟩ := hb
  have w := whole_sum a2 (whole_negate b2)
  have hm : min (q - e) (r - e) = min q r - e := by omega
  have hV : sumUnits s c (q - e) (!t) d (r - e) (min q r - e) = sumUnits s c q (!t) d r (min q r) := by
    unfold sumUnits inUnits
    rw [show q - e - (min q r - e) = q - min q r by omega, show r - e - (min q r - e) = r - min q r by omega]
  simp only [negate, exactSum] at w
  rw [hm, hV] at w
  obtain ⟨s', c', q', r1, r2⟩ := own_round w hi h1 h2
  exact ⟨s', c', q', by rw [val64_dsub, a1, b1]; exact r1, r2⟩
theorem Dy.mul {i j e g : Int} {a b : UInt64} (ha : Dy i e a) (hb : Dy j g b) (hi : (i * j).natAbs ≤ 9007199254740992) (h1 : -1074 ≤ e + g) (h2 : e + g ≤ 900) : Dy (i * j) (e + g) (FP.dmul a b) := by
  obtain ⟨s, c, q, a1, a2⟩ := ha
  obtain ⟨t, d, r, b1, b2⟩ := hb
  have w := whole_product a2 b2
  simp only [exactProduct] at w
  rw [show q - e + (r - g) = q + r - (e + g) by omega] at w
  obtain ⟨s', c', q', r1, r2⟩ := own_round w hi h1 h2
  exact ⟨s', c', q', by rw [val64_dmul, a1, b1]; exact r1, r2⟩
/-- an exact quotient -/
theorem Dy.div {k j e g : Int} {a b : UInt64} (ha : Dy (k * j) e a) (hb : Dy j g b) (hj : j ≠ 0) (hi : k.natAbs ≤ 9007199254740992) (h1 : -1074 ≤ e - g) (h2 : e - g ≤ 900) : Dy k (e - g) (FP.ddiv a b) := by
  obtain ⟨s, c, q, a1, a2⟩ := ha
  obtain ⟨t, d, r, b1, b2⟩ := hb
  have wa := whole_natAbs a2
  have wb := whole_natAbs b2
  have hd : d ≠ 0 := fun z => hj ((whole_zero b2).mp z)
  have hs : signed (s != t) k.natAbs = k := by
    by_cases hk : k = 0
    · rw [hk]; exact signed_zero _
    · have s1 := whole_sign a2 (Int.mul_ne_zero hk hj)
      have s2 := whole_sign b2 hj
      rw [s1, s2]
      unfold signed
      rcases Int.lt_or_gt_of_ne hk with z | z <;> rcases Int.lt_or_gt_of_ne hj with y | y
      · have := Int.mul_pos_of_neg_of_neg z y
        simp [show ¬ k * j < 0 by omega, y]; omega
      · have := Int.mul_neg_of_neg_of_pos z y
        simp [this, show ¬ j < 0 by omega]; omega
      · have := Int.mul_neg_of_pos_of_neg z y
        simp [this, y]; omega
      · have := Int.mul_pos z y
        simp [show ¬ k * j < 0 by omega, show ¬ j < 0 by omega]; omega
  obtain ⟨c', q', r1, r2⟩ := own_ratio hs hi h1 h2
  refine ⟨_, c', q', ?_, r2⟩
  rw [val64_ddiv, a1, b1]
  show (if d = 0 then _ else roundRatio b64 (s != t) c d (q - r)) = _
  rw [if_neg hd, ← r1]
  refine roundRatio_congr (Nat.pos_of_ne_zero hd) Nat.one_pos ?_
  rw [Nat.mul_one]
  rw [Int.natAbs_mul] at wa
  -- c * 2^(q-e)+ = |k| |j| 2^(q-e)- , d * 2^(r-g)+ = |j| 2^(r-g)-
  have hj' : 0 < j.natAbs := by omega
  apply Nat.eq_of_mul_eq_mul_right (Nat.mul_pos hj' (Nat.mul_pos (Nat.two_pow_pos (q - e).toNat) (Nat.two_pow_pos (-(r - g)).toNat)))
  calc c * 2 ^ (q - r - (e - g)).toNat * (j.natAbs * (2 ^ (q - e).toNat * 2 ^ (-(r - g)).toNat))
      = (c * 2 ^ (q - e).toNat) * (j.natAbs * 2 ^ (-(r - g)).toNat) * 2 ^ (q - r - (e - g)).toNat := by ac_rfl
    _ = (k.natAbs * j.natAbs * 2 ^ (-(q - e)).toNat) * (d * 2 ^ (r - g).toNat) * 2 ^ (q - r - (e - g)).toNat := by rw [wa, wb]
    _ = k.natAbs * d * j.natAbs * 2 ^ ((-(q - e)).toNat + (r - g).toNat + (q - r - (e - g)).toNat) := by rw [Nat.pow_add, Nat.pow_add]; ac_rfl
    _ = k.natAbs * d * j.natAbs * 2 ^ ((e - g - (q - r)).toNat + (q - e).toNat + (-(r - g)).toNat) := by congr 2; omega
    _ = k.natAbs * d * 2 ^ (e - g - (q - r)).toNat * (j.natAbs * (2 ^ (q - e).toNat * 2 ^ (-(r - g)).toNat)) := by rw [Nat.pow_add, Nat.pow_add]; ac_rfl
theorem Dy.scale {i e : Int} {a : UInt64} (h : Dy i e a) (k : Nat) : Dy (i * 2 ^ k) (e - k) a := by
  obtain ⟨s, c, q, a1, a2⟩ := h
  refine ⟨s, c, q, a1, ?_⟩
  have w : signed s (c * 2 ^ (q - e).toNat) = i * ((2 ^ (-(q - e)).toNat : Nat) : Int) := a2
  show signed s (c * 2 ^ (q - (e - k)).toNat) = i * 2 ^ k * ((2 ^ (-(q - (e - k))).toNat : Nat) : Int)
  have p2 : ((2 ^ ((-(q - e)).toNat) : Nat) : Int) ≠ 0 := by
    have := Nat.two_pow_pos ((-(q - e)).toNat); omega
  refine Int.eq_of_mul_eq_mul_right p2 ?_
  have hx : (q - (e - k)).toNat + (-(q - e)).toNat = (q - e).toNat + (k + (-(q - (e - k))).toNat) := by omega
  calc signed s (c * 2 ^ (q - (e - k)).toNat) * ((2 ^ ((-(q - e)).toNat) : Nat) : Int)
      = signed s (c * 2 ^ ((q - (e - k)).toNat + (-(q - e)).toNat)) := by rw [← signed_mul, Nat.pow_add, Nat.mul_assoc]
    _ = signed s (c * 2 ^ (q - e).toNat * 2 ^ (k + (-(q - (e - k))).toNat)) := by rw [hx, Nat.pow_add, Nat.mul_assoc]
    _ = i * ((2 ^ (-(q - e)).toNat : Nat) : Int) * ((2 ^ (k + (-(q - (e - k))).toNat) : Nat) : Int) := by rw [signed_mul, w]
    _ = i * 2 ^ k * ((2 ^ (-(q - (e - k))).toNat : Nat) : Int) * ((2 ^ ((-(q - e)).toNat) : Nat) : Int) := by
        rw [Nat.pow_add, Int.natCast_mul, Int.natCast_pow 2 k]
        show i * _ * ((2 : Int) ^ k * _) = _
        ac_rfl
theorem Dy.unscale {i e : Int} {a : UInt64} (k : Nat) (h : Dy (i * 2 ^ k) e a) : Dy i (e + k) a := by
  obtain ⟨s, c, q, a1, a2⟩ := h
  refine ⟨s, c, q, a1, ?_⟩
  have w : signed s (c * 2 ^ (q - e).toNat) = i * 2 ^ k * ((2 ^ (-(q - e)).toNat : Nat) : Int) := a2
  show signed s (c * 2 ^ (q - (e + k)).toNat) = i * ((2 ^ (-(q - (e + k))).toNat : Nat) : Int)
  have p2 : ((2 ^ (k + (-(q - e)).toNat) : Nat) : Int) ≠ 0 := by
    have := Nat.two_pow_pos (k + (-(q - e)).toNat); omega
  refine Int.eq_of_mul_eq_mul_right p2 ?_
  have hx : (q - (e + k)).toNat + (k + (-(q - e)).toNat) = (q - e).toNat + (-(q - (e + k))).toNat := by omega
  calc signed s (c * 2 ^ (q - (e + k)).toNat) * ((2 ^ (k + (-(q - e)).toNat) : Nat) : Int)
      = signed s (c * 2 ^ ((q - (e + k)).toNat + (k + (-(q - e)).toNat))) := by rw [← signed_mul, Nat.pow_add 2 (q - (e + k)).toNat, Nat.mul_assoc]
    _ = signed s (c * 2 ^ (q - e).toNat * 2 ^ ((-(q - (e + k))).toNat)) := by rw [hx, Nat.pow_add, Nat.mul_assoc]
    _ = i * 2 ^ k * ((2 ^ (-(q - e)).toNat : Nat) : Int) * ((2 ^ ((-(q - (e + k))).toNat) : Nat) : Int) := by rw [signed_mul, w]
    _ = i * ((2 ^ (-(q - (e + k))).toNat : Nat) : Int) * ((2 ^ (k + (-(q - e)).toNat) : Nat) : Int) := by
        rw [Nat.pow_add, Int.natCast_mul, Int.natCast_pow 2 k]
        show i * (2 : Int) ^ k * _ * _ = _ * ((2 : Int) ^ k * _)
        ac_rfl
theorem Dy.cmp {i j e : Int} {a b : UInt64} (ha : Dy i e a) (hb : Dy j e b) : FP.dcmp a b = some (compare i j) := by
  obtain ⟨s, c, q, a1, a2⟩ := ha
  obtain ⟨t, d, r, b1, b2⟩ := hb
  have w := order_whole a2 b2
  have hm : min (q - e) (r - e) = min q r - e := by omega
  simp only [order] at w
  rw [hm] at w
  unfold inUnits at w
  rw [show q - e - (min q r - e) = q - min q r by omega, show r - e - (min q r - e) = r - min q r by omega] at w
  show order (val64 a) (val64 b) = _
  rw [a1, b1]
  exact w
theorem Dy.of_int {i : Int} {a : UInt64} (h : DInt i a) : Dy i 0 a := by
  unfold DInt at h
  cases hv : val64 a with
  | nan => rw [hv] at h; exact h.elim
  | inf => rw [hv] at h; exact h.elim
  | fin s c q => rw [hv] at h; exact ⟨s, c, q, hv, by rw [Int.sub_zero]; exact h⟩
theorem Dy.i2d (x : Int32) : Dy x.toInt 0 (FP.i2d x) := Dy.of_int (i2d_int x)
theorem Dy.l2d {x : Int64} (h : x.toInt.natAbs ≤ 9007199254740992) : Dy x.toInt 0 (FP.l2d x) := Dy.of_int (l2d_int (Nat.le_trans h (by decide)))
/-- the int that a comparison pushes -/
def own_ci (i j : Int) : Int32 := if i < j then -1 else if i = j then 0 else 1
theorem Dy.cmpV {i j e : Int} {a b : UInt64} (ha : Dy i e a) (hb : Dy j e b) (o : Jvm.ClassFile.CmpOp) : Jvm.Op.cmpValue (FP.dcmp a b) o = own_ci i j := by
  rw [ha.cmp hb, compare_ite]
  unfold own_ci
  by_cases h1 : i < j
  · simp only [if_pos h1]; cases o <;> rfl
  · by_cases h2 : i = j
    · simp only [if_neg h1, if_pos h2]; cases o <;> rfl
    · simp only [if_neg h1, if_neg h2]; cases o <;> rfl
theorem own_ci_lt {i j : Int} : own_ci i j < 0 ↔ i < j := by
  unfold own_ci
  by_cases h1 : i < j
  · simp [h1]
  · by_cases h2 : i = j <;> simp [h1, h2]
theorem own_ci_gt {i j : Int} : 0 < own_ci i j ↔ j < i := by
  unfold own_ci
  by_cases h1 : i < j
  · simp [h1]; omega
  · by_cases h2 : i = j
    · simp [h2]
    · simp [h1, h2]; omega
theorem own_ci_eq {i j : Int} : own_ci i j = 0 ↔ i = j := by
  unfold own_ci
  by_cases h1 : i < j
  · simp [h1]; omega
  · by_cases h2 : i = j <;> simp [h1, h2]
theorem Dy.cast {i j e f : Int} {a : UInt64} (h : Dy i e a) (hi : i = j) (he : e = f) : Dy j f a := by subst hi he; exact h
theorem own_zero (e : Int) : Dy 0 e (0 : UInt64) := ⟨false, 0, -1074, by decide +kernel, by
  show signed false (0 * _) = 0 * _
  rw [Nat.zero_mul, Int.zero_mul]; rfl⟩
end Jvm.OwnFp
namespace Jvm.OwnNum
theorem own_mulb {a b A B : Int} (a1 : -A ≤ a) (a2 : a ≤ A) (b1 : -B ≤ b) (b2 : b ≤ B) : -(A * B) ≤ a * b ∧ a * b ≤ A * B := by
  have hm : (a * b).natAbs ≤ A.toNat * B.toNat := by rw [Int.natAbs_mul]; exact Nat.mul_le_mul (by omega) (by omega)
  have hm2 : ((A.toNat * B.toNat : Nat) : Int) = A * B := by rw [Int.natCast_mul, Int.toNat_of_nonneg (by omega), Int.toNat_of_nonneg (by omega)]
  omega
theorem own_i2l (x : Int32) : x.toInt64.toInt = x.toInt := by simp
/-- a remainder by a positive literal -/
theorem own_rem {x k : Int32} {K : Int} (hk : k.toInt = K) (h : 0 < K) : -K < (x % k).toInt ∧ (x % k).toInt < K := by
  rw [Int32.toInt_mod, hk]
  have h1 := Int.tmod_lt_of_pos x.toInt h
  have h2 := Int.lt_tmod_of_pos x.toInt h
  omega
theorem own_and {x k : Int32} {K : Nat} (hk : k.toInt = K) (h0 : K < 2 ^ 31) : 0 ≤ (x &&& k).toInt ∧ (x &&& k).toInt ≤ K := by
  have e : k.toBitVec.toNat = K := by
    have := k.toBitVec.isLt
    have q : k.toInt = k.toBitVec.toInt := rfl
    rw [q, BitVec.toInt_eq_toNat_cond] at hk
    split at hk <;> omega
  have b : (x &&& k).toBitVec.toNat ≤ K := by
    show (x.toBitVec &&& k.toBitVec).toNat ≤ K
    rw [BitVec.toNat_and, e]; exact Nat.and_le_right
  have q : (x &&& k).toInt = (x &&& k).toBitVec.toInt := rfl
  rw [q, BitVec.toInt_eq_toNat_cond]
  split <;> omega
theorem own_add32 {a b : Int32} (h1 : -2147483648 ≤ a.toInt + b.toInt) (h2 : a.toInt + b.toInt < 2147483648) : (a + b).toInt = a.toInt + b.toInt := by
  rw [Int32.toInt_add]; exact Int.bmod_eq_of_le (by omega) (by omega)
theorem own_sub32 {a b : Int32} (h1 : -2147483648 ≤ a.toInt - b.toInt) (h2 : a.toInt - b.toInt < 2147483648) : (a - b).toInt = a.toInt - b.toInt := by
  rw [Int32.toInt_sub]; exact Int.bmod_eq_of_le (by omega) (by omega)
theorem own_mul32 {a b : Int32} (h1 : -2147483648 ≤ a.toInt * b.toInt) (h2 : a.toInt * b.toInt < 2147483648) : (a * b).toInt = a.toInt * b.toInt := by
  rw [Int32.toInt_mul]; exact Int.bmod_eq_of_le (by omega) (by omega)
theorem own_min (a b : Int32) : (if b < a then b else a).toInt = min a.toInt b.toInt := by
  split
  · rename_i h; rw [Int32.lt_iff_toInt_lt] at h; omega
  · rename_i h; rw [Int32.lt_iff_toInt_lt] at h; omega
theorem own_max (a b : Int32) : (if a < b then b else a).toInt = max a.toInt b.toInt := by
  split
  · rename_i h; rw [Int32.lt_iff_toInt_lt] at h; omega
  · rename_i h; rw [Int32.lt_iff_toInt_lt] at h; omega
theorem own_shl {e : Int32} (h0 : 0 ≤ e.toInt) (h1 : e.toInt < 11) : ∃ k : Nat, k ≤ 10 ∧ ((1 : Int32) <<< (e &&& 31)).toInt = 2 ^ k := by
  have hk : e.toInt = 0 ∨ e.toInt = 1 ∨ e.toInt = 2 ∨ e.toInt = 3 ∨ e.toInt = 4 ∨ e.toInt = 5 ∨ e.toInt = 6 ∨ e.toInt = 7 ∨ e.toInt = 8 ∨ e.toInt = 9 ∨ e.toInt = 10 := by omega
  rcases hk with h | h | h | h | h | h | h | h | h | h | h
  · exact ⟨0, by decide, by rw [Int32.toInt_inj.mp (h.trans (by decide : (0 : Int) = (0 : Int32).toInt))]; decide⟩
  · exact ⟨1, by decide, by rw [Int32.toInt_inj.mp (h.trans (by decide : (1 : Int) = (1 : Int32).toInt))]; decide⟩
  · exact ⟨2, by decide, by rw [Int32.toInt_inj.mp (h.trans (by decide : (2 : Int) = (2 : Int32).toInt))]; decide⟩
  · exact ⟨3, by decide, by rw [Int32.toInt_inj.mp (h.trans (by decide : (3 : Int) = (3 : Int32).toInt))]; decide⟩
  · exact ⟨4, by decide, by rw [Int32.toInt_inj.mp (h.trans (by decide : (4 : Int) = (4 : Int32).toInt))]; decide⟩
  · exact ⟨5, by decide, by rw [Int32.toInt_inj.mp (h.trans (by decide : (5 : Int) = (5 : Int32).toInt))]; decide⟩
  · exact ⟨6, by decide, by rw [Int32.toInt_inj.mp (h.trans (by decide : (6 : Int) = (6 : Int32).toInt))]; decide⟩
  · exact ⟨7, by decide, by rw [Int32.toInt_inj.mp (h.trans (by decide : (7 : Int) = (7 : Int32).toInt))]; decide⟩
  · exact ⟨8, by decide, by rw [Int32.toInt_inj.mp (h.trans (by decide : (8 : Int) = (8 : Int32).toInt))]; decide⟩
  · exact ⟨9, by decide, by rw [Int32.toInt_inj.mp (h.trans (by decide : (9 : Int) = (9 : Int32).toInt))]; decide⟩
  · exact ⟨10, by decide, by rw [Int32.toInt_inj.mp (h.trans (by decide : (10 : Int) = (10 : Int32).toInt))]; decide⟩
theorem own_and3 (x : Int32) : (x &&& (3 : Int32)) = (0 : Int32) ∨ (x &&& (3 : Int32)) = (1 : Int32) ∨ (x &&& (3 : Int32)) = (2 : Int32) ∨ (x &&& (3 : Int32)) = (3 : Int32) := by
  have h := own_and (x := x) (k := 3) (K := 3) (by decide) (by decide)
  have q : (x &&& (3 : Int32)).toInt = 0 ∨ (x &&& (3 : Int32)).toInt = 1 ∨ (x &&& (3 : Int32)).toInt = 2 ∨ (x &&& (3 : Int32)).toInt = 3 := by omega
  rcases q with q | q | q | q
  · exact Or.inl (Int32.toInt_inj.mp (q.trans (by decide : (0 : Int) = (0 : Int32).toInt)))
  · exact Or.inr (Or.inl (Int32.toInt_inj.mp (q.trans (by decide : (1 : Int) = (1 : Int32).toInt))))
  · exact Or.inr (Or.inr (Or.inl (Int32.toInt_inj.mp (q.trans (by decide : (2 : Int) = (2 : Int32).toInt)))))
  · exact Or.inr (Or.inr (Or.inr (Int32.toInt_inj.mp (q.trans (by decide : (3 : Int) = (3 : Int32).toInt)))))
theorem own_pow10 {e : Nat} (h : e ≤ 10) : (2 : Int) ^ e ≤ 1024 ∧ 1 ≤ (2 : Int) ^ e := by
  have : ∀ e, e ≤ 10 → (2 : Int) ^ e ≤ 1024 ∧ 1 ≤ (2 : Int) ^ e := by decide
  exact this e h
end Jvm.OwnNum
namespace Jvm.Pilot.@@N@@
open Jvm Jvm.ClassFile Sem Op Lib Jvm.Free Jvm.Stand Jvm.LawKit Jvm.RoadKit Bundle Jvm.OwnGo Jvm.OwnFp Jvm.Pilot.@@N@@.Jvm.D
open Jvm.OwnNum Jvm.FP Jvm.Free.Fl
theorem own_one : Dy 1 0 (4607182418800017408 : UInt64) := own_const false (2 ^ 52) (-52) (by decide +kernel) (by decide +kernel)
theorem d2_0 : decode jdk_30_method_1_code 0 = .ok (.aload_n 0, 1) := by decide +kernel
theorem d2_1 : decode jdk_30_method_1_code 1 = .ok (.invokespecial 1, 3) := by decide +kernel
theorem d2_4 : decode jdk_30_method_1_code 4 = .ok (.return_, 1) := by decide +kernel
theorem pn_0 : plainName "java/lang/Record" = true := by first | (simp [plainName, overriddenIn]; done) | decide +kernel
theorem ef_2 (m : MethodId) (x0 : Addr) : entryFrame m #[(.ref x0)] 1 = mkF m 0 #[.val (.ref x0)] [] := by first | (simp [entryFrame, mkF, argsToLocals, Value.category]; done) | rfl
def Q2 (Z : State) (a1 : Addr)  (h0 : Heap) (n0 : Nat) (v : Option Value) (h : Heap) (L : List Loc) : Prop := v = none ∧ Fr n0 L ∧ h = h0
set_option maxRecDepth 65536 in
set_option maxHeartbeats 40000000 in
theorem rm2 (l : Launch) (Z : State) (a0 : Array Value) (hw : ∀ d ∈ tables_1, d.before a0 Z = true) (ws : List Jvm.Cond) (a1 : Addr)  (h0 : Heap) (n0 : Nat) (Z0 : n0 ≤ h0.size)  :
    MetFree l (⟨"java/lang/Record", "<init>", "()V"⟩ : MethodName) (head1 (Jvm.Cond.code (⟨"java/lang/Record", "<init>", "()V"⟩ : MethodName) jdk_30_method_1_code 1 none :: ws) ({ frames := 1, cells := 0, slots := 0, locals := 12 } : Room)) (fun a U => a = #[(.ref a1)] ∧ Z.Warmed39 U.vm ∧ U.heap = h0) (fun _ _ _ _ _ => True) (fun _ U o U' => ∃ v L, o = .returned v ∧ Q2 Z a1 h0 n0 v U'.heap L ∧ FrameEnd U o U' L ({ frames := 1, cells := 0, slots := 0, locals := 12 } : Room).cells ({ frames := 1, cells := 0, slots := 0, locals := 12 } : Room).slots) := by
  refine MetFree.of_bodySF (plainFor_of_name pn_0) hisR ?_
  intro p e s m args below meth c s₁ Bd hml0 hP hK
  obtain ⟨rfl, hZ, hh⟩ := hP
  have hx := Bd.exec
  have hby := Bd.bytes
  have hml : c.maxLocals = 1 := hml0
  have hown : s.vm.findClass "java/lang/Record" = some m.cls := findClass_of_methodNamed Bd.named
  have hnm := (name_of_methodNamed Bd.named Bd.method).1
  have X : Stand p l e ({ frames := 1, cells := 0, slots := 0, locals := 12 } : Room) s m #[(.ref a1)] below meth c s₁ [] 0 0 := Stand.of_body Bd
  have eT : s₁.heap = h0 := by rw [← hh, Bd.state]; rfl
  have N := Fr.nil n0
  have K := Keep.refl h0 []
  refine Go.out ?_
  obtain ⟨T, eTT⟩ : ∃ z, z = s₁ := ⟨_, rfl⟩
  rw [← eTT] at X eT ⊢
  refine Go.by (fun tt_ kk_ => castTop (ef_2 m a1) kk_) ?_
  show Go p.tables e below (T.setTop (mkF m 0 #[.val (.ref a1)] [])) _
  refine Go.by (fun tt_ kk_ => XS.aloadN X.here hx rfl (hb hby d2_0) rfl rfl kk_) ?_
  show Go p.tables e below (T.setTop (mkF m 1 #[.val (.ref a1)] [(.ref a1)])) _
  obtain ⟨T, X, eT, st⟩ := initO X hx hZ hown (hw _ (List.mem_of_getElem? (i := 12) rfl)) (hw _ (List.mem_of_getElem? (i := 13) rfl)) (hw _ (List.mem_of_getElem? (i := 14) rfl)) eT (g := (mkF m 1 #[.val (.ref a1)] [(.ref a1)])) rfl (by rw [hml]; rfl) rfl (hb hby d2_1) (by decide) (W := 0) (by show 2 * 0 + _ ≤ _; exact Nat.le_of_eq rfl) (by decide)
  refine Go.by st ?_
  show Go p.tables e below (T.setTop (mkF m 4 #[.val (.ref a1)] [])) _
  exact Go.done X  (v := none) (fun _ => rfl) Bd.notSynchronized (fun fs hr => X.returnOut hx Bd.returns (hb hby d2_4) hr) (by rw [eT]; exact ⟨rfl, N, rfl⟩) (by decide) (by decide)
theorem d1_0 : decode prog_17_method_1_code 0 = .ok (.aload_n 0, 1) := by decide +kernel
theorem d1_1 : decode prog_17_method_1_code 1 = .ok (.invokespecial 1, 3) := by decide +kernel
theorem d1_4 : decode prog_17_method_1_code 4 = .ok (.dload_n 1, 1) := by decide +kernel
theorem d1_5 : decode prog_17_method_1_code 5 = .ok (.dconst 0, 1) := by decide +kernel
theorem d1_6 : decode prog_17_method_1_code 6 = .ok (.dcmp .l, 1) := by decide +kernel
theorem d1_7 : decode prog_17_method_1_code 7 = .ok (.ifCond .lt 9, 3) := by decide +kernel
theorem d1_10 : decode prog_17_method_1_code 10 = .ok (.dload_n 1, 1) := by decide +kernel
theorem d1_11 : decode prog_17_method_1_code 11 = .ok (.dconst 1, 1) := by decide +kernel
theorem d1_12 : decode prog_17_method_1_code 12 = .ok (.dcmp .g, 1) := by decide +kernel
theorem d1_13 : decode prog_17_method_1_code 13 = .ok (.ifCond .le 17, 3) := by decide +kernel
theorem d1_16 : decode prog_17_method_1_code 16 = .ok (.new 7, 3) := by decide +kernel
theorem d1_19 : decode prog_17_method_1_code 19 = .ok (.dup, 1) := by decide +kernel
theorem d1_20 : decode prog_17_method_1_code 20 = .ok (.dload_n 1, 1) := by decide +kernel
theorem d1_26 : decode prog_17_method_1_code 26 = .ok (.invokespecial 13, 3) := by decide +kernel
theorem d1_29 : decode prog_17_method_1_code 29 = .ok (.athrow, 1) := by decide +kernel
theorem d1_30 : decode prog_17_method_1_code 30 = .ok (.iconst 4, 1) := by decide +kernel
theorem d1_31 : decode prog_17_method_1_code 31 = .ok (.newarray .double, 2) := by decide +kernel
theorem d1_33 : decode prog_17_method_1_code 33 = .ok (.dup, 1) := by decide +kernel
theorem d1_34 : decode prog_17_method_1_code 34 = .ok (.iconst 0, 1) := by decide +kernel
theorem d1_35 : decode prog_17_method_1_code 35 = .ok (.dload_n 3, 1) := by decide +kernel
theorem d1_36 : decode prog_17_method_1_code 36 = .ok (.dastore, 1) := by decide +kernel
theorem d1_37 : decode prog_17_method_1_code 37 = .ok (.dup, 1) := by decide +kernel
theorem d1_38 : decode prog_17_method_1_code 38 = .ok (.iconst 1, 1) := by decide +kernel
theorem d1_39 : decode prog_17_method_1_code 39 = .ok (.dload 5, 2) := by decide +kernel
theorem d1_41 : decode prog_17_method_1_code 41 = .ok (.dastore, 1) := by decide +kernel
theorem d1_42 : decode prog_17_method_1_code 42 = .ok (.dup, 1) := by decide +kernel
theorem d1_43 : decode prog_17_method_1_code 43 = .ok (.iconst 2, 1) := by decide +kernel
theorem d1_44 : decode prog_17_method_1_code 44 = .ok (.dload 7, 2) := by decide +kernel
theorem d1_46 : decode prog_17_method_1_code 46 = .ok (.dastore, 1) := by decide +kernel
theorem d1_47 : decode prog_17_method_1_code 47 = .ok (.dup, 1) := by decide +kernel
theorem d1_48 : decode prog_17_method_1_code 48 = .ok (.iconst 3, 1) := by decide +kernel
theorem d1_49 : decode prog_17_method_1_code 49 = .ok (.dload 9, 2) := by decide +kernel
theorem d1_51 : decode prog_17_method_1_code 51 = .ok (.dastore, 1) := by decide +kernel
theorem d1_52 : decode prog_17_method_1_code 52 = .ok (.astore 11, 2) := by decide +kernel
theorem d1_54 : decode prog_17_method_1_code 54 = .ok (.aload 11, 2) := by decide +kernel
theorem d1_56 : decode prog_17_method_1_code 56 = .ok (.astore 12, 2) := by decide +kernel
theorem d1_58 : decode prog_17_method_1_code 58 = .ok (.aload 12, 2) := by decide +kernel
theorem d1_60 : decode prog_17_method_1_code 60 = .ok (.arraylength, 1) := by decide +kernel
theorem d1_61 : decode prog_17_method_1_code 61 = .ok (.istore 13, 2) := by decide +kernel
theorem d1_63 : decode prog_17_method_1_code 63 = .ok (.iconst 0, 1) := by decide +kernel
theorem d1_64 : decode prog_17_method_1_code 64 = .ok (.istore 14, 2) := by decide +kernel
theorem d1_66 : decode prog_17_method_1_code 66 = .ok (.iload 14, 2) := by decide +kernel
theorem d1_68 : decode prog_17_method_1_code 68 = .ok (.iload 13, 2) := by decide +kernel
theorem d1_70 : decode prog_17_method_1_code 70 = .ok (.if_icmp .ge 47, 3) := by decide +kernel
theorem d1_73 : decode prog_17_method_1_code 73 = .ok (.aload 12, 2) := by decide +kernel
theorem d1_75 : decode prog_17_method_1_code 75 = .ok (.iload 14, 2) := by decide +kernel
theorem d1_77 : decode prog_17_method_1_code 77 = .ok (.daload, 1) := by decide +kernel
theorem d1_78 : decode prog_17_method_1_code 78 = .ok (.dstore 15, 2) := by decide +kernel
theorem d1_80 : decode prog_17_method_1_code 80 = .ok (.dload 15, 2) := by decide +kernel
theorem d1_82 : decode prog_17_method_1_code 82 = .ok (.dconst 0, 1) := by decide +kernel
theorem d1_83 : decode prog_17_method_1_code 83 = .ok (.dcmp .l, 1) := by decide +kernel
theorem d1_84 : decode prog_17_method_1_code 84 = .ok (.ifCond .lt 12, 3) := by decide +kernel
theorem d1_87 : decode prog_17_method_1_code 87 = .ok (.dload 15, 2) := by decide +kernel
theorem d1_89 : decode prog_17_method_1_code 89 = .ok (.ldc2_w 18, 3) := by decide +kernel
theorem d1_92 : decode prog_17_method_1_code 92 = .ok (.dcmp .g, 1) := by decide +kernel
theorem d1_93 : decode prog_17_method_1_code 93 = .ok (.ifCond .lt 18, 3) := by decide +kernel
theorem d1_96 : decode prog_17_method_1_code 96 = .ok (.new 7, 3) := by decide +kernel
theorem d1_99 : decode prog_17_method_1_code 99 = .ok (.dup, 1) := by decide +kernel
theorem d1_100 : decode prog_17_method_1_code 100 = .ok (.dload 15, 2) := by decide +kernel
theorem d1_107 : decode prog_17_method_1_code 107 = .ok (.invokespecial 13, 3) := by decide +kernel
theorem d1_110 : decode prog_17_method_1_code 110 = .ok (.athrow, 1) := by decide +kernel
theorem d1_111 : decode prog_17_method_1_code 111 = .ok (.iinc 14 1, 3) := by decide +kernel
theorem d1_114 : decode prog_17_method_1_code 114 = .ok (.goto (-48), 3) := by decide +kernel
theorem d1_117 : decode prog_17_method_1_code 117 = .ok (.aload_n 0, 1) := by decide +kernel
theorem d1_118 : decode prog_17_method_1_code 118 = .ok (.dload_n 1, 1) := by decide +kernel
theorem d1_119 : decode prog_17_method_1_code 119 = .ok (.putfield 21, 3) := by decide +kernel
theorem d1_122 : decode prog_17_method_1_code 122 = .ok (.aload_n 0, 1) := by decide +kernel
theorem d1_123 : decode prog_17_method_1_code 123 = .ok (.dload_n 3, 1) := by decide +kernel
theorem d1_124 : decode prog_17_method_1_code 124 = .ok (.putfield 27, 3) := by decide +kernel
theorem d1_127 : decode prog_17_method_1_code 127 = .ok (.aload_n 0, 1) := by decide +kernel
theorem d1_128 : decode prog_17_method_1_code 128 = .ok (.dload 5, 2) := by decide +kernel
theorem d1_130 : decode prog_17_method_1_code 130 = .ok (.putfield 30, 3) := by decide +kernel
theorem d1_133 : decode prog_17_method_1_code 133 = .ok (.aload_n 0, 1) := by decide +kernel
theorem d1_134 : decode prog_17_method_1_code 134 = .ok (.dload 7, 2) := by decide +kernel
theorem d1_136 : decode prog_17_method_1_code 136 = .ok (.putfield 33, 3) := by decide +kernel
theorem d1_139 : decode prog_17_method_1_code 139 = .ok (.aload_n 0, 1) := by decide +kernel
theorem d1_140 : decode prog_17_method_1_code 140 = .ok (.dload 9, 2) := by decide +kernel
theorem d1_142 : decode prog_17_method_1_code 142 = .ok (.putfield 36, 3) := by decide +kernel
theorem d1_145 : decode prog_17_method_1_code 145 = .ok (.return_, 1) := by decide +kernel
theorem pn_1 : plainName "com/example/bogong/bogong/network/Profile" = true := by first | (simp [plainName, overriddenIn]; done) | decide +kernel
theorem pd_0 : parseMethodDescriptor "()V" = some ⟨[], none⟩ := by decide +kernel
theorem ef_1 (m : MethodId) (x0 : Addr) (x1 : UInt64) (x2 : UInt64) (x3 : UInt64) (x4 : UInt64) (x5 : UInt64) : entryFrame m #[(.ref x0), (.double x1), (.double x2), (.double x3), (.double x4), (.double x5)] 17 = mkF m 0 #[.val (.ref x0), .val (.double x1), .second, .val (.double x2), .second, .val (.double x3), .second, .val (.double x4), .second, .val (.double x5), .second, .unset, .unset, .unset, .unset, .unset, .unset] [] := by first | (simp [entryFrame, mkF, argsToLocals, Value.category]; done) | rfl
def Q1 (Z : State) (a1 : Addr) (x1 : UInt64) (x2 : UInt64) (x3 : UInt64) (x4 : UInt64) (x5 : UInt64) (w1 : Int) (w2 : Int) (w3 : Int) (w4 : Int) (w5 : Int) (h0 : Heap) (n0 : Nat) (v : Option Value) (h : Heap) (L : List Loc) : Prop := v = none ∧ Fr n0 L ∧ Keep h0 h [a1] ∧ Exa Z h a1 "com/example/bogong/bogong/network/Profile" ∧ Fld Z h a1 "com/example/bogong/bogong/network/Profile" "share" "D" (.double x1) ∧ Fld Z h a1 "com/example/bogong/bogong/network/Profile" "travelTime" "D" (.double x2) ∧ Fld Z h a1 "com/example/bogong/bogong/network/Profile" "occupancy" "D" (.double x3) ∧ Fld Z h a1 "com/example/bogong/bogong/network/Profile" "nextArrival" "D" (.double x4) ∧ Fld Z h a1 "com/example/bogong/bogong/network/Profile" "queue" "D" (.double x5)
set_option maxRecDepth 65536 in
set_option maxHeartbeats 40000000 in
theorem rm1 (l : Launch) (Z : State) (a0 : Array Value) (hw : ∀ d ∈ tables_1, d.before a0 Z = true) (ws : List Jvm.Cond) (a1 : Addr) (x1 : UInt64) (x2 : UInt64) (x3 : UInt64) (x4 : UInt64) (x5 : UInt64) (w1 : Int) (w2 : Int) (w3 : Int) (w4 : Int) (w5 : Int) (h0 : Heap) (n0 : Nat) (Z0 : n0 ≤ h0.size) (E_a1 : Exa Z h0 a1 "com/example/bogong/bogong/network/Profile") (g_a1 : n0 ≤ a1) (F_share_a1 : Fld Z h0 a1 "com/example/bogong/bogong/network/Profile" "share" "D" (.double (0 : UInt64))) (F_travelTime_a1 : Fld Z h0 a1 "com/example/bogong/bogong/network/Profile" "travelTime" "D" (.double (0 : UInt64))) (F_occupancy_a1 : Fld Z h0 a1 "com/example/bogong/bogong/network/Profile" "occupancy" "D" (.double (0 : UInt64))) (F_nextArrival_a1 : Fld Z h0 a1 "com/example/bogong/bogong/network/Profile" "nextArrival" "D" (.double (0 : UInt64))) (F_queue_a1 : Fld Z h0 a1 "com/example/bogong/bogong/network/Profile" "queue" "D" (.double (0 : UInt64))) (d1 : Dy w1 0 x1) (d2 : Dy w2 0 x2) (d3 : Dy w3 0 x3) (d4 : Dy w4 0 x4) (d5 : Dy w5 0 x5) (b1 : 0 ≤ w1 ∧ w1 ≤ 1) (b2 : 0 ≤ w2) (b3 : 0 ≤ w3) (b4 : 0 ≤ w4) (b5 : 0 ≤ w5) :
    MetFree l (⟨"com/example/bogong/bogong/network/Profile", "<init>", "(DDDDD)V"⟩ : MethodName) (head1 (Jvm.Cond.code (⟨"com/example/bogong/bogong/network/Profile", "<init>", "(DDDDD)V"⟩ : MethodName) prog_17_method_1_code 17 none :: ws) ({ frames := 2, cells := 1, slots := 4, locals := 24 } : Room)) (fun a U => a = #[(.ref a1), (.double x1), (.double x2), (.double x3), (.double x4), (.double x5)] ∧ Z.Warmed39 U.vm ∧ U.heap = h0) (fun _ _ _ _ _ => True) (fun _ U o U' => ∃ v L, o = .returned v ∧ Q1 Z a1 x1 x2 x3 x4 x5 w1 w2 w3 w4 w5 h0 n0 v U'.heap L ∧ FrameEnd U o U' L ({ frames := 2, cells := 1, slots := 4, locals := 24 } : Room).cells ({ frames := 2, cells := 1, slots := 4, locals := 24 } : Room).slots) := by
  refine MetFree.of_bodySF (plainFor_of_name pn_1) hisR ?_
  intro p e s m args below meth c s₁ Bd hml0 hP hK
  obtain ⟨rfl, hZ, hh⟩ := hP
  have hx := Bd.exec
  have hby := Bd.bytes
  have hml : c.maxLocals = 17 := hml0
  have hown : s.vm.findClass "com/example/bogong/bogong/network/Profile" = some m.cls := findClass_of_methodNamed Bd.named
  have hnm := (name_of_methodNamed Bd.named Bd.method).1
  have X : Stand p l e ({ frames := 2, cells := 1, slots := 4, locals := 24 } : Room) s m #[(.ref a1), (.double x1), (.double x2), (.double x3), (.double x4), (.double x5)] below meth c s₁ [] 0 0 := Stand.of_body Bd
  have eT : s₁.heap = h0 := by rw [← hh, Bd.state]; rfl
  have N := Fr.nil n0
  have K := Keep.refl h0 [a1]
  refine Go.out ?_
  obtain ⟨T, eTT⟩ : ∃ z, z = s₁ := ⟨_, rfl⟩
  rw [← eTT] at X eT ⊢
  refine Go.by (fun tt_ kk_ => castTop (ef_1 m a1 x1 x2 x3 x4 x5) kk_) ?_
  show Go p.tables e below (T.setTop (mkF m 0 #[.val (.ref a1), .val (.double x1), .second, .val (.double x2), .second, .val (.double x3), .second, .val (.double x4), .second, .val (.double x5), .second, .unset, .unset, .unset, .unset, .unset, .unset] [])) _
  refine Go.by (fun tt_ kk_ => XS.aloadN X.here hx rfl (hb hby d1_0) rfl rfl kk_) ?_
  show Go p.tables e below (T.setTop (mkF m 1 #[.val (.ref a1), .val (.double x1), .second, .val (.double x2), .second, .val (.double x3), .second, .val (.double x4), .second, .val (.double x5), .second, .unset, .unset, .unset, .unset, .unset, .unset] [(.ref a1)])) _
  obtain ⟨_, _, ⟨T, L_, k_, n_⟩, -, X, ⟨Lc_, hQ, l_, y_, z_⟩, st⟩ := X.specialBack hx (y := (⟨"java/lang/Record", "<init>", "()V"⟩ : MethodName)) rfl hown (mvT hZ (hw _ (List.mem_of_getElem? (i := 7) rfl))) (mvT hZ (hw _ (List.mem_of_getElem? (i := 8) rfl))) (mvT hZ (hw _ (List.mem_of_getElem? (i := 11) rfl))) (by decide) (backOf (W := 0) (rm2 l Z a0 hw [] a1 h0 n0 (Nat.le_trans Z0 K.1) ) hZ (hw _ (List.mem_of_getElem? (i := 11) rfl)) (hw _ (List.mem_of_getElem? (i := 10) rfl)) (by decide) (by decide)) (g := (mkF m 1 #[.val (.ref a1), .val (.double x1), .second, .val (.double x2), .second, .val (.double x3), .second, .val (.double x4), .second, .val (.double x5), .second, .unset, .unset, .unset, .unset, .unset, .unset] [(.ref a1)])) rfl (by rw [hml]; rfl) (Steps.refl _) (a := a1) (argsL := []) (rest := []) (lenOf pd_0 rfl) rfl (by show 2 * 0 + _ ≤ _; exact Nat.le_of_eq rfl) (hb hby d1_1) (fun _ _ => ⟨rfl, eT, (by decide : 0 + 0 ≤ _), (by decide : 0 + 0 ≤ _)⟩)
  dsimp only [Pt.U, Pt.locs, Pt.cells, Pt.slots] at X l_ y_ z_ st hQ
  subst l_ y_ z_
  obtain ⟨rfl, Nq, eh⟩ := hQ
  have N := Fr.app N Nq
  have eT := eh
  refine Go.tr st ?_
  show Go p.tables e below (T.setTop (mkF m 4 #[.val (.ref a1), .val (.double x1), .second, .val (.double x2), .second, .val (.double x3), .second, .val (.double x4), .second, .val (.double x5), .second, .unset, .unset, .unset, .unset, .unset, .unset] [])) _
  refine Go.by (fun tt_ kk_ => XS.dloadN X.here hx rfl (hb hby d1_4) rfl kk_) ?_
  show Go p.tables e below (T.setTop (mkF m 5 #[.val (.ref a1), .val (.double x1), .second, .val (.double x2), .second, .val (.double x3), .second, .val (.double x4), .second, .val (.double x5), .second, .unset, .unset, .unset, .unset, .unset, .unset] [(.double x1)])) _
  refine Go.by (fun tt_ kk_ => XS.dconst0 X.here hx rfl (hb hby d1_5) (v := (0 : UInt64)) rfl kk_) ?_
  show Go p.tables e below (T.setTop (mkF m 6 #[.val (.ref a1), .val (.double x1), .second, .val (.double x2), .second, .val (.double x3), .second, .val (.double x4), .second, .val (.double x5), .second, .unset, .unset, .unset, .unset, .unset, .unset] [(.double (0 : UInt64)), (.double x1)])) _
  refine Go.by (fun tt_ kk_ => XS.dcmpS X.here hx rfl (hb hby d1_6) rfl (d1.cmpV (own_zero 0) .l) kk_) ?_
  show Go p.tables e below (T.setTop (mkF m 7 #[.val (.ref a1), .val (.double x1), .second, .val (.double x2), .second, .val (.double x3), .second, .val (.double x4), .second, .val (.double x5), .second, .unset, .unset, .unset, .unset, .unset, .unset] [(.int (own_ci w1 0))])) _
  refine Go.by (fun tt_ kk_ => XS.ifNo X.here hx rfl (hb hby d1_7) rfl ((if0 _ _).trans (flt (fun q => absurd (own_ci_lt.mp q) (by omega))).1) kk_) ?_
  show Go p.tables e below (T.setTop (mkF m 10 #[.val (.ref a1), .val (.double x1), .second, .val (.double x2), .second, .val (.double x3), .second, .val (.double x4), .second, .val (.double x5), .second, .unset, .unset, .unset, .unset, .unset, .unset] [])) _
  refine Go.by (fun tt_ kk_ => XS.dloadN X.here hx rfl (hb hby d1_10) rfl kk_) ?_
  show Go p.tables e below (T.setTop (mkF m 11 #[.val (.ref a1), .val (.double x1), .second, .val (.double x2), .second, .val (.double x3), .second, .val (.double x4), .second, .val (.double x5), .second, .unset, .unset, .unset, .unset, .unset, .unset] [(.double x1)])) _
  refine Go.by (fun tt_ kk_ => XS.dconst1 X.here hx rfl (hb hby d1_11) (v := (4607182418800017408 : UInt64)) rfl kk_) ?_
  show Go p.tables e below (T.setTop (mkF m 12 #[.val (.ref a1), .val (.double x1), .second, .val (.double x2), .second, .val (.double x3), .second, .val (.double x4), .second, .val (.double x5), .second, .unset, .unset, .unset, .unset, .unset, .unset] [(.double (4607182418800017408 : UInt64)), (.double x1)])) _
  refine Go.by (fun tt_ kk_ => XS.dcmpS X.here hx rfl (hb hby d1_12) rfl (d1.cmpV own_one .g) kk_) ?_
  show Go p.tables e below (T.setTop (mkF m 13 #[.val (.ref a1), .val (.double x1), .second, .val (.double x2), .second, .val (.double x3), .second, .val (.double x4), .second, .val (.double x5), .second, .unset, .unset, .unset, .unset, .unset, .unset] [(.int (own_ci w1 1))])) _
  refine Go.by (fun tt_ kk_ => XS.ifYes X.here hx rfl (pc0 := 13) (pc' := 30) rfl (hb hby d1_13) rfl ((if0 _ _).trans (flt (fun q => absurd (own_ci_gt.mp q) (by omega))).2.2.2) (by decide) (by decide) kk_) ?_
  show Go p.tables e below (T.setTop (mkF m 30 #[.val (.ref a1), .val (.double x1), .second, .val (.double x2), .second, .val (.double x3), .second, .val (.double x4), .second, .val (.double x5), .second, .unset, .unset, .unset, .unset, .unset, .unset] [])) _
  refine Go.by (fun tt_ kk_ => XS.iconst X.here hx rfl (hb hby d1_30) kk_) ?_
  show Go p.tables e below (T.setTop (mkF m 31 #[.val (.ref a1), .val (.double x1), .second, .val (.double x2), .second, .val (.double x3), .second, .val (.double x4), .second, .val (.double x5), .second, .unset, .unset, .unset, .unset, .unset, .unset] [(.int (4 : Int32))])) _
  obtain ⟨T, h2, k_b2, X, eT, E_, A_, st⟩ := newP X hx hZ (hw _ (List.mem_of_getElem? (i := 15) rfl)) eT (g := (mkF m 31 #[.val (.ref a1), .val (.double x1), .second, .val (.double x2), .second, .val (.double x3), .second, .val (.double x4), .second, .val (.double x5), .second, .unset, .unset, .unset, .unset, .unset, .unset] [(.int (4 : Int32))])) rfl (hb hby d1_31) rfl (by decide) (cap := 4) (by decide) (by decide) (by decide) (by decide)
  obtain ⟨b2, g_b2'⟩ : ∃ z, z = h0.size := ⟨_, rfl⟩
  rw [← g_b2'] at A_ st
  have ne_a1_b2 : a1 ≠ b2 := Nat.ne_of_lt (Nat.lt_of_lt_of_le E_a1.lt (Nat.le_of_eq g_b2'.symm))
  have ne_b2_a1 : b2 ≠ a1 := Ne.symm ne_a1_b2
  have g_b2 : n0 ≤ b2 := Nat.le_trans Z0 (Nat.le_trans K.1 (Nat.le_of_eq g_b2'.symm))
  have sz_b2 : h0.size ≤ b2 := Nat.le_trans K.1 (Nat.le_of_eq g_b2'.symm)
  have K := K.ext E_
  have E_a1 := Exa.ext E_ E_a1
  have F_share_a1 := Fld.ext E_ F_share_a1
  have F_travelTime_a1 := Fld.ext E_ F_travelTime_a1
  have F_occupancy_a1 := Fld.ext E_ F_occupancy_a1
  have F_nextArrival_a1 := Fld.ext E_ F_nextArrival_a1
  have F_queue_a1 := Fld.ext E_ F_queue_a1
  have V_b2 := Arv.new A_ (by decide)
  refine Go.by st ?_
  show Go p.tables e below (T.setTop (mkF m 33 #[.val (.ref a1), .val (.double x1), .second, .val (.double x2), .second, .val (.double x3), .second, .val (.double x4), .second, .val (.double x5), .second, .unset, .unset, .unset, .unset, .unset, .unset] [(.ref b2)])) _
  have V_b2 : Arv Z h2 b2 k_b2 .double (4 : Int32) [(.double (0 : UInt64)), (.double (0 : UInt64)), (.double (0 : UInt64)), (.double (0 : UInt64))] (.double (0 : UInt64)) := V_b2.pad (pad_rep [] (.double (0 : UInt64)) 4)
  refine Go.by (fun tt_ kk_ => XS.dup X.here hx rfl (hb hby d1_33) rfl rfl kk_) ?_
  show Go p.tables e below (T.setTop (mkF m 34 #[.val (.ref a1), .val (.double x1), .second, .val (.double x2), .second, .val (.double x3), .second, .val (.double x4), .second, .val (.double x5), .second, .unset, .unset, .unset, .unset, .unset, .unset] [(.ref b2), (.ref b2)])) _
  refine Go.by (fun tt_ kk_ => XS.iconst X.here hx rfl (hb hby d1_34) kk_) ?_
  show Go p.tables e below (T.setTop (mkF m 35 #[.val (.ref a1), .val (.double x1), .second, .val (.double x2), .second, .val (.double x3), .second, .val (.double x4), .second, .val (.double x5), .second, .unset, .unset, .unset, .unset, .unset, .unset] [(.int (0 : Int32)), (.ref b2), (.ref b2)])) _
  refine Go.by (fun tt_ kk_ => XS.dloadN X.here hx rfl (hb hby d1_35) rfl kk_) ?_
  show Go p.tables e below (T.setTop (mkF m 36 #[.val (.ref a1), .val (.double x1), .second, .val (.double x2), .second, .val (.double x3), .second, .val (.double x4), .second, .val (.double x5), .second, .unset, .unset, .unset, .unset, .unset, .unset] [(.double x2), (.int (0 : Int32)), (.ref b2), (.ref b2)])) _
  have Vo_ := V_b2
  obtain ⟨cl_, Ar_, q_, S_, N_, H_, G_⟩ := Vo_
  obtain ⟨T, h3, X, eT, Wh3, st⟩ := stD X hx hZ eT Ar_ (j := (0 : Int32)) (inb_of S_ ⟨by decide, by decide⟩) (g := (mkF m 36 #[.val (.ref a1), .val (.double x1), .second, .val (.double x2), .second, .val (.double x3), .second, .val (.double x4), .second, .val (.double x5), .second, .unset, .unset, .unset, .unset, .unset, .unset] [(.double x2), (.int (0 : Int32)), (.ref b2), (.ref b2)])) rfl rfl (hb hby d1_36)
  have V_b2 := Arv.set Ar_ q_ S_ N_ H_ G_ rfl Wh3 0 rfl (Nat.le_of_ble_eq_true rfl)
  have E_a1 := Exa.wr Wh3 E_a1
  have F_share_a1 := Fld.other Wh3 F_share_a1 (Or.inl ne_a1_b2)
  have F_travelTime_a1 := Fld.other Wh3 F_travelTime_a1 (Or.inl ne_a1_b2)
  have F_occupancy_a1 := Fld.other Wh3 F_occupancy_a1 (Or.inl ne_a1_b2)
  have F_nextArrival_a1 := Fld.other Wh3 F_nextArrival_a1 (Or.inl ne_a1_b2)
  have F_queue_a1 := Fld.other Wh3 F_queue_a1 (Or.inl ne_a1_b2)
  have N := Fr.snoc X N g_b2
  have K := K.wr Wh3 (Or.inr sz_b2)
  refine Go.by st ?_
  show Go p.tables e below (T.setTop (mkF m 37 #[.val (.ref a1), .val (.double x1), .second, .val (.double x2), .second, .val (.double x3), .second, .val (.double x4), .second, .val (.double x5), .second, .unset, .unset, .unset, .unset, .unset, .unset] [(.ref b2)])) _
  refine Go.by (fun tt_ kk_ => XS.dup X.here hx rfl (hb hby d1_37) rfl rfl kk_) ?_
  show Go p.tables e below (T.setTop (mkF m 38 #[.val (.ref a1), .val (.double x1), .second, .val (.double x2), .second, .val (.double x3), .second, .val (.double x4), .second, .val (.double x5), .second, .unset, .unset, .unset, .unset, .unset, .unset] [(.ref b2), (.ref b2)])) _
  refine Go.by (fun tt_ kk_ => XS.iconst X.here hx rfl (hb hby d1_38) kk_) ?_
  show Go p.tables e below (T.setTop (mkF m 39 #[.val (.ref a1), .val (.double x1), .second, .val (.double x2), .second, .val (.double x3), .second, .val (.double x4), .second, .val (.double x5), .second, .unset, .unset, .unset, .unset, .unset, .unset] [(.int (1 : Int32)), (.ref b2), (.ref b2)])) _
  refine Go.by (fun tt_ kk_ => XS.dload X.here hx rfl (hb hby d1_39) rfl kk_) ?_
  show Go p.tables e below (T.setTop (mkF m 41 #[.val (.ref a1), .val (.double x1), .second, .val (.double x2), .second, .val (.double x3), .second, .val (.double x4), .second, .val (.double x5), .second, .unset, .unset, .unset, .unset, .unset, .unset] [(.double x3), (.int (1 : Int32)), (.ref b2), (.ref b2)])) _
  have Vo_ := V_b2
  obtain ⟨cl_, Ar_, q_, S_, N_, H_, G_⟩ := Vo_
  obtain ⟨T, h4, X, eT, Wh4, st⟩ := stD X hx hZ eT Ar_ (j := (1 : Int32)) (inb_of S_ ⟨by decide, by decide⟩) (g := (mkF m 41 #[.val (.ref a1), .val (.double x1), .second, .val (.double x2), .second, .val (.double x3), .second, .val (.double x4), .second, .val (.double x5), .second, .unset, .unset, .unset, .unset, .unset, .unset] [(.double x3), (.int (1 : Int32)), (.ref b2), (.ref b2)])) rfl rfl (hb hby d1_41)
  have V_b2 := Arv.set Ar_ q_ S_ N_ H_ G_ rfl Wh4 1 rfl (Nat.le_of_ble_eq_true rfl)
  have E_a1 := Exa.wr Wh4 E_a1
  have F_share_a1 := Fld.other Wh4 F_share_a1 (Or.inl ne_a1_b2)
  have F_travelTime_a1 := Fld.other Wh4 F_travelTime_a1 (Or.inl ne_a1_b2)
  have F_occupancy_a1 := Fld.other Wh4 F_occupancy_a1 (Or.inl ne_a1_b2)
  have F_nextArrival_a1 := Fld.other Wh4 F_nextArrival_a1 (Or.inl ne_a1_b2)
  have F_queue_a1 := Fld.other Wh4 F_queue_a1 (Or.inl ne_a1_b2)
  have N := Fr.snoc X N g_b2
  have K := K.wr Wh4 (Or.inr sz_b2)
  refine Go.by st ?_
  show Go p.tables e below (T.setTop (mkF m 42 #[.val (.ref a1), .val (.double x1), .second, .val (.double x2), .second, .val (.double x3), .second, .val (.double x4), .second, .val (.double x5), .second, .unset, .unset, .unset, .unset, .unset, .unset] [(.ref b2)])) _
  refine Go.by (fun tt_ kk_ => XS.dup X.here hx rfl (hb hby d1_42) rfl rfl kk_) ?_
  show Go p.tables e below (T.setTop (mkF m 43 #[.val (.ref a1), .val (.double x1), .second, .val (.double x2), .second, .val (.double x3), .second, .val (.double x4), .second, .val (.double x5), .second, .unset, .unset, .unset, .unset, .unset, .unset] [(.ref b2), (.ref b2)])) _
  refine Go.by (fun tt_ kk_ => XS.iconst X.here hx rfl (hb hby d1_43) kk_) ?_
  show Go p.tables e below (T.setTop (mkF m 44 #[.val (.ref a1), .val (.double x1), .second, .val (.double x2), .second, .val (.double x3), .second, .val (.double x4), .second, .val (.double x5), .second, .unset, .unset, .unset, .unset, .unset, .unset] [(.int (2 : Int32)), (.ref b2), (.ref b2)])) _
  refine Go.by (fun tt_ kk_ => XS.dload X.here hx rfl (hb hby d1_44) rfl kk_) ?_
  show Go p.tables e below (T.setTop (mkF m 46 #[.val (.ref a1), .val (.double x1), .second, .val (.double x2), .second, .val (.double x3), .second, .val (.double x4), .second, .val (.double x5), .second, .unset, .unset, .unset, .unset, .unset, .unset] [(.double x4), (.int (2 : Int32)), (.ref b2), (.ref b2)])) _
  have Vo_ := V_b2
  obtain ⟨cl_, Ar_, q_, S_, N_, H_, G_⟩ := Vo_
  obtain ⟨T, h5, X, eT, Wh5, st⟩ := stD X hx hZ eT Ar_ (j := (2 : Int32)) (inb_of S_ ⟨by decide, by decide⟩) (g := (mkF m 46 #[.val (.ref a1), .val (.double x1), .second, .val (.double x2), .second, .val (.double x3), .second, .val (.double x4), .second, .val (.double x5), .second, .unset, .unset, .unset, .unset, .unset, .unset] [(.double x4), (.int (2 : Int32)), (.ref b2), (.ref b2)])) rfl rfl (hb hby d1_46)
  have V_b2 := Arv.set Ar_ q_ S_ N_ H_ G_ rfl Wh5 2 rfl (Nat.le_of_ble_eq_true rfl)
  have E_a1 := Exa.wr Wh5 E_a1
  have F_share_a1 := Fld.other Wh5 F_share_a1 (Or.inl ne_a1_b2)
  have F_travelTime_a1 := Fld.other Wh5 F_travelTime_a1 (Or.inl ne_a1_b2)
  have F_occupancy_a1 := Fld.other Wh5 F_occupancy_a1 (Or.inl ne_a1_b2)
  have F_nextArrival_a1 := Fld.other Wh5 F_nextArrival_a1 (Or.inl ne_a1_b2)
  have F_queue_a1 := Fld.other Wh5 F_queue_a1 (Or.inl ne_a1_b2)
  have N := Fr.snoc X N g_b2
  have K := K.wr Wh5 (Or.inr sz_b2)
  refine Go.by st ?_
  show Go p.tables e below (T.setTop (mkF m 47 #[.val (.ref a1), .val (.double x1), .second, .val (.double x2), .second, .val (.double x3), .second, .val (.double x4), .second, .val (.double x5), .second, .unset, .unset, .unset, .unset, .unset, .unset] [(.ref b2)])) _
  refine Go.by (fun tt_ kk_ => XS.dup X.here hx rfl (hb hby d1_47) rfl rfl kk_) ?_
  show Go p.tables e below (T.setTop (mkF m 48 #[.val (.ref a1), .val (.double x1), .second, .val (.double x2), .second, .val (.double x3), .second, .val (.double x4), .second, .val (.double x5), .second, .unset, .unset, .unset, .unset, .unset, .unset] [(.ref b2), (.ref b2)])) _
  refine Go.by (fun tt_ kk_ => XS.iconst X.here hx rfl (hb hby d1_48) kk_) ?_
  show Go p.tables e below (T.setTop (mkF m 49 #[.val (.ref a1), .val (.double x1), .second, .val (.double x2), .second, .val (.double x3), .second, .val (.double x4), .second, .val (.double x5), .second, .unset, .unset, .unset, .unset, .unset, .unset] [(.int (3 : Int32)), (.ref b2), (.ref b2)])) _
  refine Go.by (fun tt_ kk_ => XS.dload X.here hx rfl (hb hby d1_49) rfl kk_) ?_
  show Go p.tables e below (T.setTop (mkF m 51 #[.val (.ref a1), .val (.double x1), .second, .val (.double x2), .second, .val (.double x3), .second, .val (.double x4), .second, .val (.double x5), .second, .unset, .unset, .unset, .unset, .unset, .unset] [(.double x5), (.int (3 : Int32)), (.ref b2), (.ref b2)])) _
  have Vo_ := V_b2
  obtain ⟨cl_, Ar_, q_, S_, N_, H_, G_⟩ := Vo_
  obtain ⟨T, h6, X, eT, Wh6, st⟩ := stD X hx hZ eT Ar_ (j := (3 : Int32)) (inb_of S_ ⟨by decide, by decide⟩) (g := (mkF m 51 #[.val (.ref a1), .val (.double x1), .second, .val (.double x2), .second, .val (.double x3), .second, .val (.double x4), .second, .val (.double x5), .second, .unset, .unset, .unset, .unset, .unset, .unset] [(.double x5), (.int (3 : Int32)), (.ref b2), (.ref b2)])) rfl rfl (hb hby d1_51)
  have V_b2 := Arv.set Ar_ q_ S_ N_ H_ G_ rfl Wh6 3 rfl (Nat.le_of_ble_eq_true rfl)
  have E_a1 := Exa.wr Wh6 E_a1
  have F_share_a1 := Fld.other Wh6 F_share_a1 (Or.inl ne_a1_b2)
  have F_travelTime_a1 := Fld.other Wh6 F_travelTime_a1 (Or.inl ne_a1_b2)
  have F_occupancy_a1 := Fld.other Wh6 F_occupancy_a1 (Or.inl ne_a1_b2)
  have F_nextArrival_a1 := Fld.other Wh6 F_nextArrival_a1 (Or.inl ne_a1_b2)
  have F_queue_a1 := Fld.other Wh6 F_queue_a1 (Or.inl ne_a1_b2)
  have N := Fr.snoc X N g_b2
  have K := K.wr Wh6 (Or.inr sz_b2)
  refine Go.by st ?_
  show Go p.tables e below (T.setTop (mkF m 52 #[.val (.ref a1), .val (.double x1), .second, .val (.double x2), .second, .val (.double x3), .second, .val (.double x4), .second, .val (.double x5), .second, .unset, .unset, .unset, .unset, .unset, .unset] [(.ref b2)])) _
  refine Go.by (fun tt_ kk_ => XS.astore X.here hx rfl (hb hby d1_52) rfl rfl (l' := #[.val (.ref a1), .val (.double x1), .second, .val (.double x2), .second, .val (.double x3), .second, .val (.double x4), .second, .val (.double x5), .second, .val (.ref b2), .unset, .unset, .unset, .unset, .unset]) rfl kk_) ?_
  show Go p.tables e below (T.setTop (mkF m 54 #[.val (.ref a1), .val (.double x1), .second, .val (.double x2), .second, .val (.double x3), .second, .val (.double x4), .second, .val (.double x5), .second, .val (.ref b2), .unset, .unset, .unset, .unset, .unset] [])) _
  refine Go.by (fun tt_ kk_ => XS.aload X.here hx rfl (hb hby d1_54) rfl rfl kk_) ?_
  show Go p.tables e below (T.setTop (mkF m 56 #[.val (.ref a1), .val (.double x1), .second, .val (.double x2), .second, .val (.double x3), .second, .val (.double x4), .second, .val (.double x5), .second, .val (.ref b2), .unset, .unset, .unset, .unset, .unset] [(.ref b2)])) _
  refine Go.by (fun tt_ kk_ => XS.astore X.here hx rfl (hb hby d1_56) rfl rfl (l' := #[.val (.ref a1), .val (.double x1), .second, .val (.double x2), .second, .val (.double x3), .second, .val (.double x4), .second, .val (.double x5), .second, .val (.ref b2), .val (.ref b2), .unset, .unset, .unset, .unset]) rfl kk_) ?_
  show Go p.tables e below (T.setTop (mkF m 58 #[.val (.ref a1), .val (.double x1), .second, .val (.double x2), .second, .val (.double x3), .second, .val (.double x4), .second, .val (.double x5), .second, .val (.ref b2), .val (.ref b2), .unset, .unset, .unset, .unset] [])) _
  refine Go.by (fun tt_ kk_ => XS.aload X.here hx rfl (hb hby d1_58) rfl rfl kk_) ?_
  show Go p.tables e below (T.setTop (mkF m 60 #[.val (.ref a1), .val (.double x1), .second, .val (.double x2), .second, .val (.double x3), .second, .val (.double x4), .second, .val (.double x5), .second, .val (.ref b2), .val (.ref b2), .unset, .unset, .unset, .unset] [(.ref b2)])) _
  have Vo_ := V_b2
  obtain ⟨cl_, Ar_, q_, S_, N_, H_, G_⟩ := Vo_
  refine Go.by (X.arraylength hx (by rw [eT]; exact Ar_.1) (State.isArrayOf_alike hZ.alike Ar_.2.1) (g := (mkF m 60 #[.val (.ref a1), .val (.double x1), .second, .val (.double x2), .second, .val (.double x3), .second, .val (.double x4), .second, .val (.double x5), .second, .val (.ref b2), .val (.ref b2), .unset, .unset, .unset, .unset] [(.ref b2)])) rfl rfl (hb hby d1_60)) ?_
  rw [len_of S_ N_]
  show Go p.tables e below (T.setTop (mkF m 61 #[.val (.ref a1), .val (.double x1), .second, .val (.double x2), .second, .val (.double x3), .second, .val (.double x4), .second, .val (.double x5), .second, .val (.ref b2), .val (.ref b2), .unset, .unset, .unset, .unset] [(.int (4 : Int32))])) _
  refine Go.by (fun tt_ kk_ => XS.istore X.here hx rfl (hb hby d1_61) rfl (l' := #[.val (.ref a1), .val (.double x1), .second, .val (.double x2), .second, .val (.double x3), .second, .val (.double x4), .second, .val (.double x5), .second, .val (.ref b2), .val (.ref b2), .val (.int (4 : Int32)), .unset, .unset, .unset]) rfl kk_) ?_
  show Go p.tables e below (T.setTop (mkF m 63 #[.val (.ref a1), .val (.double x1), .second, .val (.double x2), .second, .val (.double x3), .second, .val (.double x4), .second, .val (.double x5), .second, .val (.ref b2), .val (.ref b2), .val (.int (4 : Int32)), .unset, .unset, .unset] [])) _
  refine Go.by (fun tt_ kk_ => XS.iconst X.here hx rfl (hb hby d1_63) kk_) ?_
  show Go p.tables e below (T.setTop (mkF m 64 #[.val (.ref a1), .val (.double x1), .second, .val (.double x2), .second, .val (.double x3), .second, .val (.double x4), .second, .val (.double x5), .second, .val (.ref b2), .val (.ref b2), .val (.int (4 : Int32)), .unset, .unset, .unset] [(.int (0 : Int32))])) _
  refine Go.by (fun tt_ kk_ => XS.istore X.here hx rfl (hb hby d1_64) rfl (l' := #[.val (.ref a1), .val (.double x1), .second, .val (.double x2), .second, .val (.double x3), .second, .val (.double x4), .second, .val (.double x5), .second, .val (.ref b2), .val (.ref b2), .val (.int (4 : Int32)), .val (.int (0 : Int32)), .unset, .unset]) rfl kk_) ?_
  show Go p.tables e below (T.setTop (mkF m 66 #[.val (.ref a1), .val (.double x1), .second, .val (.double x2), .second, .val (.double x3), .second, .val (.double x4), .second, .val (.double x5), .second, .val (.ref b2), .val (.ref b2), .val (.int (4 : Int32)), .val (.int (0 : Int32)), .unset, .unset] [])) _
  refine Go.by (fun tt_ kk_ => XS.iload X.here hx rfl (hb hby d1_66) rfl kk_) ?_
  show Go p.tables e below (T.setTop (mkF m 68 #[.val (.ref a1), .val (.double x1), .second, .val (.double x2), .second, .val (.double x3), .second, .val (.double x4), .second, .val (.double x5), .second, .val (.ref b2), .val (.ref b2), .val (.int (4 : Int32)), .val (.int (0 : Int32)), .unset, .unset] [(.int (0 : Int32))])) _
  refine Go.by (fun tt_ kk_ => XS.iload X.here hx rfl (hb hby d1_68) rfl kk_) ?_
  show Go p.tables e below (T.setTop (mkF m 70 #[.val (.ref a1), .val (.double x1), .second, .val (.double x2), .second, .val (.double x3), .second, .val (.double x4), .second, .val (.double x5), .second, .val (.ref b2), .val (.ref b2), .val (.int (4 : Int32)), .val (.int (0 : Int32)), .unset, .unset] [(.int (4 : Int32)), (.int (0 : Int32))])) _
  refine Go.by (fun tt_ kk_ => XS.icmpNo X.here hx rfl (hb hby d1_70) rfl (tlt (by decide : (0 : Int32) < (4 : Int32))).2.1 kk_) ?_
  show Go p.tables e below (T.setTop (mkF m 73 #[.val (.ref a1), .val (.double x1), .second, .val (.double x2), .second, .val (.double x3), .second, .val (.double x4), .second, .val (.double x5), .second, .val (.ref b2), .val (.ref b2), .val (.int (4 : Int32)), .val (.int (0 : Int32)), .unset, .unset] [])) _
  refine Go.by (fun tt_ kk_ => XS.aload X.here hx rfl (hb hby d1_73) rfl rfl kk_) ?_
  show Go p.tables e below (T.setTop (mkF m 75 #[.val (.ref a1), .val (.double x1), .second, .val (.double x2), .second, .val (.double x3), .second, .val (.double x4), .second, .val (.double x5), .second, .val (.ref b2), .val (.ref b2), .val (.int (4 : Int32)), .val (.int (0 : Int32)), .unset, .unset] [(.ref b2)])) _
  refine Go.by (fun tt_ kk_ => XS.iload X.here hx rfl (hb hby d1_75) rfl kk_) ?_
  show Go p.tables e below (T.setTop (mkF m 77 #[.val (.ref a1), .val (.double x1), .second, .val (.double x2), .second, .val (.double x3), .second, .val (.double x4), .second, .val (.double x5), .second, .val (.ref b2), .val (.ref b2), .val (.int (4 : Int32)), .val (.int (0 : Int32)), .unset, .unset] [(.int (0 : Int32)), (.ref b2)])) _
  have Vo_ := V_b2
  obtain ⟨cl_, Ar_, q_, S_, N_, H_, G_⟩ := Vo_
  refine Go.by (X.daload hx (j := (0 : Int32)) (v := (.double x2)) (by rw [eT]; exact Ar_.1) (State.isArrayOf_alike hZ.alike Ar_.2.1) Ar_.2.2 (inb_of S_ ⟨by decide, by decide⟩) (Has.at H_ (inb_of S_ ⟨by decide, by decide⟩) rfl) (g := (mkF m 77 #[.val (.ref a1), .val (.double x1), .second, .val (.double x2), .second, .val (.double x3), .second, .val (.double x4), .second, .val (.double x5), .second, .val (.ref b2), .val (.ref b2), .val (.int (4 : Int32)), .val (.int (0 : Int32)), .unset, .unset] [(.int (0 : Int32)), (.ref b2)])) rfl rfl (hb hby d1_77)) ?_
  show Go p.tables e below (T.setTop (mkF m 78 #[.val (.ref a1), .val (.double x1), .second, .val (.double x2), .second, .val (.double x3), .second, .val (.double x4), .second, .val (.double x5), .second, .val (.ref b2), .val (.ref b2), .val (.int (4 : Int32)), .val (.int (0 : Int32)), .unset, .unset] [(.double x2)])) _
  refine Go.by (fun tt_ kk_ => XS.dstore X.here hx rfl (hb hby d1_78) rfl (l' := #[.val (.ref a1), .val (.double x1), .second, .val (.double x2), .second, .val (.double x3), .second, .val (.double x4), .second, .val (.double x5), .second, .val (.ref b2), .val (.ref b2), .val (.int (4 : Int32)), .val (.int (0 : Int32)), .val (.double x2), .second]) rfl kk_) ?_
  show Go p.tables e below (T.setTop (mkF m 80 #[.val (.ref a1), .val (.double x1), .second, .val (.double x2), .second, .val (.double x3), .second, .val (.double x4), .second, .val (.double x5), .second, .val (.ref b2), .val (.ref b2), .val (.int (4 : Int32)), .val (.int (0 : Int32)), .val (.double x2), .second] [])) _
  refine Go.by (fun tt_ kk_ => XS.dload X.here hx rfl (hb hby d1_80) rfl kk_) ?_
  show Go p.tables e below (T.setTop (mkF m 82 #[.val (.ref a1), .val (.double x1), .second, .val (.double x2), .second, .val (.double x3), .second, .val (.double x4), .second, .val (.double x5), .second, .val (.ref b2), .val (.ref b2), .val (.int (4 : Int32)), .val (.int (0 : Int32)), .val (.double x2), .second] [(.double x2)])) _
  refine Go.by (fun tt_ kk_ => XS.dconst0 X.here hx rfl (hb hby d1_82) (v := (0 : UInt64)) rfl kk_) ?_
  show Go p.tables e below (T.setTop (mkF m 83 #[.val (.ref a1), .val (.double x1), .second, .val (.double x2), .second, .val (.double x3), .second, .val (.double x4), .second, .val (.double x5), .second, .val (.ref b2), .val (.ref b2), .val (.int (4 : Int32)), .val (.int (0 : Int32)), .val (.double x2), .second] [(.double (0 : UInt64)), (.double x2)])) _
  refine Go.by (fun tt_ kk_ => XS.dcmpS X.here hx rfl (hb hby d1_83) rfl (d2.cmpV (own_zero 0) .l) kk_) ?_
  show Go p.tables e below (T.setTop (mkF m 84 #[.val (.ref a1), .val (.double x1), .second, .val (.double x2), .second, .val (.double x3), .second, .val (.double x4), .second, .val (.double x5), .second, .val (.ref b2), .val (.ref b2), .val (.int (4 : Int32)), .val (.int (0 : Int32)), .val (.double x2), .second] [(.int (own_ci w2 0))])) _
  refine Go.by (fun tt_ kk_ => XS.ifNo X.here hx rfl (hb hby d1_84) rfl ((if0 _ _).trans (flt (fun q => absurd (own_ci_lt.mp q) (by omega))).1) kk_) ?_
  show Go p.tables e below (T.setTop (mkF m 87 #[.val (.ref a1), .val (.double x1), .second, .val (.double x2), .second, .val (.double x3), .second, .val (.double x4), .second, .val (.double x5), .second, .val (.ref b2), .val (.ref b2), .val (.int (4 : Int32)), .val (.int (0 : Int32)), .val (.double x2), .second] [])) _
  refine Go.by (fun tt_ kk_ => XS.dload X.here hx rfl (hb hby d1_87) rfl kk_) ?_
  show Go p.tables e below (T.setTop (mkF m 89 #[.val (.ref a1), .val (.double x1), .second, .val (.double x2), .second, .val (.double x3), .second, .val (.double x4), .second, .val (.double x5), .second, .val (.ref b2), .val (.ref b2), .val (.int (4 : Int32)), .val (.int (0 : Int32)), .val (.double x2), .second] [(.double x2)])) _
  refine Go.by (X.ldc2DoubleC hx hown (mvT hZ (hw _ (List.mem_of_getElem? (i := 16) rfl))) (g := (mkF m 89 #[.val (.ref a1), .val (.double x1), .second, .val (.double x2), .second, .val (.double x3), .second, .val (.double x4), .second, .val (.double x5), .second, .val (.ref b2), .val (.ref b2), .val (.int (4 : Int32)), .val (.int (0 : Int32)), .val (.double x2), .second] [(.double x2)])) rfl (hb hby d1_89)) ?_
  show Go p.tables e below (T.setTop (mkF m 92 #[.val (.ref a1), .val (.double x1), .second, .val (.double x2), .second, .val (.double x3), .second, .val (.double x4), .second, .val (.double x5), .second, .val (.ref b2), .val (.ref b2), .val (.int (4 : Int32)), .val (.int (0 : Int32)), .val (.double x2), .second] [(.double (9218868437227405312 : UInt64)), (.double x2)])) _
  refine Go.by (fun tt_ kk_ => XS.dcmpS X.here hx rfl (hb hby d1_92) rfl (dcmp_pinf d2.fin .g) kk_) ?_
  show Go p.tables e below (T.setTop (mkF m 93 #[.val (.ref a1), .val (.double x1), .second, .val (.double x2), .second, .val (.double x3), .second, .val (.double x4), .second, .val (.double x5), .second, .val (.ref b2), .val (.ref b2), .val (.int (4 : Int32)), .val (.int (0 : Int32)), .val (.double x2), .second] [(.int (-1 : Int32))])) _
  refine Go.by (fun tt_ kk_ => XS.ifYes X.here hx rfl (pc0 := 93) (pc' := 111) rfl (hb hby d1_93) rfl ((if0 _ _).trans (tlt (by decide : (-1 : Int32) < (0 : Int32))).1) (by decide) (by decide) kk_) ?_
  show Go p.tables e below (T.setTop (mkF m 111 #[.val (.ref a1), .val (.double x1), .second, .val (.double x2), .second, .val (.double x3), .second, .val (.double x4), .second, .val (.double x5), .second, .val (.ref b2), .val (.ref b2), .val (.int (4 : Int32)), .val (.int (0 : Int32)), .val (.double x2), .second] [])) _
  refine Go.by (fun tt_ kk_ => XS.iinc X.here hx rfl (hb hby d1_111) rfl (l' := #[.val (.ref a1), .val (.double x1), .second, .val (.double x2), .second, .val (.double x3), .second, .val (.double x4), .second, .val (.double x5), .second, .val (.ref b2), .val (.ref b2), .val (.int (4 : Int32)), .val (.int (1 : Int32)), .val (.double x2), .second]) rfl kk_) ?_
  show Go p.tables e below (T.setTop (mkF m 114 #[.val (.ref a1), .val (.double x1), .second, .val (.double x2), .second, .val (.double x3), .second, .val (.double x4), .second, .val (.double x5), .second, .val (.ref b2), .val (.ref b2), .val (.int (4 : Int32)), .val (.int (1 : Int32)), .val (.double x2), .second] [])) _
  refine Go.by (fun tt_ kk_ => XS.goto X.here hx rfl (pc0 := 114) (pc' := 66) rfl (hb hby d1_114) (by decide) (by decide) kk_) ?_
  show Go p.tables e below (T.setTop (mkF m 66 #[.val (.ref a1), .val (.double x1), .second, .val (.double x2), .second, .val (.double x3), .second, .val (.double x4), .second, .val (.double x5), .second, .val (.ref b2), .val (.ref b2), .val (.int (4 : Int32)), .val (.int (1 : Int32)), .val (.double x2), .second] [])) _
  refine Go.by (fun tt_ kk_ => XS.iload X.here hx rfl (hb hby d1_66) rfl kk_) ?_
  show Go p.tables e below (T.setTop (mkF m 68 #[.val (.ref a1), .val (.double x1), .second, .val (.double x2), .second, .val (.double x3), .second, .val (.double x4), .second, .val (.double x5), .second, .val (.ref b2), .val (.ref b2), .val (.int (4 : Int32)), .val (.int (1 : Int32)), .val (.double x2), .second] [(.int (1 : Int32))])) _
  refine Go.by (fun tt_ kk_ => XS.iload X.here hx rfl (hb hby d1_68) rfl kk_) ?_
  show Go p.tables e below (T.setTop (mkF m 70 #[.val (.ref a1), .val (.double x1), .second, .val (.double x2), .second, .val (.double x3), .second, .val (.double x4), .second, .val (.double x5), .second, .val (.ref b2), .val (.ref b2), .val (.int (4 : Int32)), .val (.int (1 : Int32)), .val (.double x2), .second] [(.int (4 : Int32)), (.int (1 : Int32))])) _
  refine Go.by (fun tt_ kk_ => XS.icmpNo X.here hx rfl (hb hby d1_70) rfl (tlt (by decide : (1 : Int32) < (4 : Int32))).2.1 kk_) ?_
  show Go p.tables e below (T.setTop (mkF m 73 #[.val (.ref a1), .val (.double x1), .second, .val (.double x2), .second, .val (.double x3), .second, .val (.double x4), .second, .val (.double x5), .second, .val (.ref b2), .val (.ref b2), .val (.int (4 : Int32)), .val (.int (1 : Int32)), .val (.double x2), .second] [])) _
  refine Go.by (fun tt_ kk_ => XS.aload X.here hx rfl (hb hby d1_73) rfl rfl kk_) ?_
  show Go p.tables e below (T.setTop (mkF m 75 #[.val (.ref a1), .val (.double x1), .second, .val (.double x2), .second, .val (.double x3), .second, .val (.double x4), .second, .val (.double x5), .second, .val (.ref b2), .val (.ref b2), .val (.int (4 : Int32)), .val (.int (1 : Int32)), .val (.double x2), .second] [(.ref b2)])) _
  refine Go.by (fun tt_ kk_ => XS.iload X.here hx rfl (hb hby d1_75) rfl kk_) ?_
  show Go p.tables e below (T.setTop (mkF m 77 #[.val (.ref a1), .val (.double x1), .second, .val (.double x2), .second, .val (.double x3), .second, .val (.double x4), .second, .val (.double x5), .second, .val (.ref b2), .val (.ref b2), .val (.int (4 : Int32)), .val (.int (1 : Int32)), .val (.double x2), .second] [(.int (1 : Int32)), (.ref b2)])) _
  have Vo_ := V_b2
  obtain ⟨cl_, Ar_, q_, S_, N_, H_, G_⟩ := Vo_
  refine Go.by (X.daload hx (j := (1 : Int32)) (v := (.double x3)) (by rw [eT]; exact Ar_.1) (State.isArrayOf_alike hZ.alike Ar_.2.1) Ar_.2.2 (inb_of S_ ⟨by decide, by decide⟩) (Has.at H_ (inb_of S_ ⟨by decide, by decide⟩) rfl) (g := (mkF m 77 #[.val (.ref a1), .val (.double x1), .second, .val (.double x2), .second, .val (.double x3), .second, .val (.double x4), .second, .val (.double x5), .second, .val (.ref b2), .val (.ref b2), .val (.int (4 : Int32)), .val (.int (1 : Int32)), .val (.double x2), .second] [(.int (1 : Int32)), (.ref b2)])) rfl rfl (hb hby d1_77)) ?_
  show Go p.tables e below (T.setTop (mkF m 78 #[.val (.ref a1), .val (.double x1), .second, .val (.double x2), .second, .val (.double x3), .second, .val (.double x4), .second, .val (.double x5), .second, .val (.ref b2), .val (.ref b2), .val (.int (4 : Int32)), .val (.int (1 : Int32)), .val (.double x2), .second] [(.double x3)])) _
  refine Go.by (fun tt_ kk_ => XS.dstore X.here hx rfl (hb hby d1_78) rfl (l' := #[.val (.ref a1), .val (.double x1), .second, .val (.double x2), .second, .val (.double x3), .second, .val (.double x4), .second, .val (.double x5), .second, .val (.ref b2), .val (.ref b2), .val (.int (4 : Int32)), .val (.int (1 : Int32)), .val (.double x3), .second]) rfl kk_) ?_
  show Go p.tables e below (T.setTop (mkF m 80 #[.val (.ref a1), .val (.double x1), .second, .val (.double x2), .second, .val (.double x3), .second, .val (.double x4), .second, .val (.double x5), .second, .val (.ref b2), .val (.ref b2), .val (.int (4 : Int32)), .val (.int (1 : Int32)), .val (.double x3), .second] [])) _
  refine Go.by (fun tt_ kk_ => XS.dload X.here hx rfl (hb hby d1_80) rfl kk_) ?_
  show Go p.tables e below (T.setTop (mkF m 82 #[.val (.ref a1), .val (.double x1), .second, .val (.double x2), .second, .val (.double x3), .second, .val (.double x4), .second, .val (.double x5), .second, .val (.ref b2), .val (.ref b2), .val (.int (4 : Int32)), .val (.int (1 : Int32)), .val (.double x3), .second] [(.double x3)])) _
  refine Go.by (fun tt_ kk_ => XS.dconst0 X.here hx rfl (hb hby d1_82) (v := (0 : UInt64)) rfl kk_) ?_
  show Go p.tables e below (T.setTop (mkF m 83 #[.val (.ref a1), .val (.double x1), .second, .val (.double x2), .second, .val (.double x3), .second, .val (.double x4), .second, .val (.double x5), .second, .val (.ref b2), .val (.ref b2), .val (.int (4 : Int32)), .val (.int (1 : Int32)), .val (.double x3), .second] [(.double (0 : UInt64)), (.double x3)])) _
  refine Go.by (fun tt_ kk_ => XS.dcmpS X.here hx rfl (hb hby d1_83) rfl (d3.cmpV (own_zero 0) .l) kk_) ?_
  show Go p.tables e below (T.setTop (mkF m 84 #[.val (.ref a1), .val (.double x1), .second, .val (.double x2), .second, .val (.double x3), .second, .val (.double x4), .second, .val (.double x5), .second, .val (.ref b2), .val (.ref b2), .val (.int (4 : Int32)), .val (.int (1 : Int32)), .val (.double x3), .second] [(.int (own_ci w3 0))])) _
  refine Go.by (fun tt_ kk_ => XS.ifNo X.here hx rfl (hb hby d1_84) rfl ((if0 _ _).trans (flt (fun q => absurd (own_ci_lt.mp q) (by omega))).1) kk_) ?_
  show Go p.tables e below (T.setTop (mkF m 87 #[.val (.ref a1), .val (.double x1), .second, .val (.double x2), .second, .val (.double x3), .second, .val (.double x4), .second, .val (.double x5), .second, .val (.ref b2), .val (.ref b2), .val (.int (4 : Int32)), .val (.int (1 : Int32)), .val (.double x3), .second] [])) _
  refine Go.by (fun tt_ kk_ => XS.dload X.here hx rfl (hb hby d1_87) rfl kk_) ?_
  show Go p.tables e below (T.setTop (mkF m 89 #[.val (.ref a1), .val (.double x1), .second, .val (.double x2), .second, .val (.double x3), .second, .val (.double x4), .second, .val (.double x5), .second, .val (.ref b2), .val (.ref b2), .val (.int (4 : Int32)), .val (.int (1 : Int32)), .val (.double x3), .second] [(.double x3)])) _
  refine Go.by (X.ldc2DoubleC hx hown (mvT hZ (hw _ (List.mem_of_getElem? (i := 16) rfl))) (g := (mkF m 89 #[.val (.ref a1), .val (.double x1), .second, .val (.double x2), .second, .val (.double x3), .second, .val (.double x4), .second, .val (.double x5), .second, .val (.ref b2), .val (.ref b2), .val (.int (4 : Int32)), .val (.int (1 : Int32)), .val (.double x3), .second] [(.double x3)])) rfl (hb hby d1_89)) ?_
  show Go p.tables e below (T.setTop (mkF m 92 #[.val (.ref a1), .val (.double x1), .second, .val (.double x2), .second, .val (.double x3), .second, .val (.double x4), .second, .val (.double x5), .second, .val (.ref b2), .val (.ref b2), .val (.int (4 : Int32)), .val (.int (1 : Int32)), .val (.double x3), .second] [(.double (9218868437227405312 : UInt64)), (.double x3)])) _
  refine Go.by (fun tt_ kk_ => XS.dcmpS X.here hx rfl (hb hby d1_92) rfl (dcmp_pinf d3.fin .g) kk_) ?_
  show Go p.tables e below (T.setTop (mkF m 93 #[.val (.ref a1), .val (.double x1), .second, .val (.double x2), .second, .val (.double x3), .second, .val (.double x4), .second, .val (.double x5), .second, .val (.ref b2), .val (.ref b2), .val (.int (4 : Int32)), .val (.int (1 : Int32)), .val (.double x3), .second] [(.int (-1 : Int32))])) _
  refine Go.by (fun tt_ kk_ => XS.ifYes X.here hx rfl (pc0 := 93) (pc' := 111) rfl (hb hby d1_93) rfl ((if0 _ _).trans (tlt (by decide : (-1 : Int32) < (0 : Int32))).1) (by decide) (by decide) kk_) ?_
  show Go p.tables e below (T.setTop (mkF m 111 #[.val (.ref a1), .val (.double x1), .second, .val (.double x2), .second, .val (.double x3), .second, .val (.double x4), .second, .val (.double x5), .second, .val (.ref b2), .val (.ref b2), .val (.int (4 : Int32)), .val (.int (1 : Int32)), .val (.double x3), .second] [])) _
  refine Go.by (fun tt_ kk_ => XS.iinc X.here hx rfl (hb hby d1_111) rfl (l' := #[.val (.ref a1), .val (.double x1), .second, .val (.double x2), .second, .val (.double x3), .second, .val (.double x4), .second, .val (.double x5), .second, .val (.ref b2), .val (.ref b2), .val (.int (4 : Int32)), .val (.int (2 : Int32)), .val (.double x3), .second]) rfl kk_) ?_
  show Go p.tables e below (T.setTop (mkF m 114 #[.val (.ref a1), .val (.double x1), .second, .val (.double x2), .second, .val (.double x3), .second, .val (.double x4), .second, .val (.double x5), .second, .val (.ref b2), .val (.ref b2), .val (.int (4 : Int32)), .val (.int (2 : Int32)), .val (.double x3), .second] [])) _
  refine Go.by (fun tt_ kk_ => XS.goto X.here hx rfl (pc0 := 114) (pc' := 66) rfl (hb hby d1_114) (by decide) (by decide) kk_) ?_
  show Go p.tables e below (T.setTop (mkF m 66 #[.val (.ref a1), .val (.double x1), .second, .val (.double x2), .second, .val (.double x3), .second, .val (.double x4), .second, .val (.double x5), .second, .val (.ref b2), .val (.ref b2), .val (.int (4 : Int32)), .val (.int (2 : Int32)), .val (.double x3), .second] [])) _
  refine Go.by (fun tt_ kk_ => XS.iload X.here hx rfl (hb hby d1_66) rfl kk_) ?_
  show Go p.tables e below (T.setTop (mkF m 68 #[.val (.ref a1), .val (.double x1), .second, .val (.double x2), .second, .val (.double x3), .second, .val (.double x4), .second, .val (.double x5), .second, .val (.ref b2), .val (.ref b2), .val (.int (4 : Int32)), .val (.int (2 : Int32)), .val (.double x3), .second] [(.int (2 : Int32))])) _
  refine Go.by (fun tt_ kk_ => XS.iload X.here hx rfl (hb hby d1_68) rfl kk_) ?_
  show Go p.tables e below (T.setTop (mkF m 70 #[.val (.ref a1), .val (.double x1), .second, .val (.double x2), .second, .val (.double x3), .second, .val (.double x4), .second, .val (.double x5), .second, .val (.ref b2), .val (.ref b2), .val (.int (4 : Int32)), .val (.int (2 : Int32)), .val (.double x3), .second] [(.int (4 : Int32)), (.int (2 : Int32))])) _
  refine Go.by (fun tt_ kk_ => XS.icmpNo X.here hx rfl (hb hby d1_70) rfl (tlt (by decide : (2 : Int32) < (4 : Int32))).2.1 kk_) ?_
  show Go p.tables e below (T.setTop (mkF m 73 #[.val (.ref a1), .val (.double x1), .second, .val (.double x2), .second, .val (.double x3), .second, .val (.double x4), .second, .val (.double x5), .second, .val (.ref b2), .val (.ref b2), .val (.int (4 : Int32)), .val (.int (2 : Int32)), .val (.double x3), .second] [])) _
  refine Go.by (fun tt_ kk_ => XS.aload X.here hx rfl (hb hby d1_73) rfl rfl kk_) ?_
  show Go p.tables e below (T.setTop (mkF m 75 #[.val (.ref a1), .val (.double x1), .second, .val (.double x2), .second, .val (.double x3), .second, .val (.double x4), .second, .val (.double x5), .second, .val (.ref b2), .val (.ref b2), .val (.int (4 : Int32)), .val (.int (2 : Int32)), .val (.double x3), .second] [(.ref b2)])) _
  refine Go.by (fun tt_ kk_ => XS.iload X.here hx rfl (hb hby d1_75) rfl kk_) ?_
  show Go p.tables e below (T.setTop (mkF m 77 #[.val (.ref a1), .val (.double x1), .second, .val (.double x2), .second, .val (.double x3), .second, .val (.double x4), .second, .val (.double x5), .second, .val (.ref b2), .val (.ref b2), .val (.int (4 : Int32)), .val (.int (2 : Int32)), .val (.double x3), .second] [(.int (2 : Int32)), (.ref b2)])) _
  have Vo_ := V_b2
  obtain ⟨cl_, Ar_, q_, S_, N_, H_, G_⟩ := Vo_
  refine Go.by (X.daload hx (j := (2 : Int32)) (v := (.double x4)) (by rw [eT]; exact Ar_.1) (State.isArrayOf_alike hZ.alike Ar_.2.1) Ar_.2.2 (inb_of S_ ⟨by decide, by decide⟩) (Has.at H_ (inb_of S_ ⟨by decide, by decide⟩) rfl) (g := (mkF m 77 #[.val (.ref a1), .val (.double x1), .second, .val (.double x2), .second, .val (.double x3), .second, .val (.double x4), .second, .val (.double x5), .second, .val (.ref b2), .val (.ref b2), .val (.int (4 : Int32)), .val (.int (2 : Int32)), .val (.double x3), .second] [(.int (2 : Int32)), (.ref b2)])) rfl rfl (hb hby d1_77)) ?_
  show Go p.tables e below (T.setTop (mkF m 78 #[.val (.ref a1), .val (.double x1), .second, .val (.double x2), .second, .val (.double x3), .second, .val (.double x4), .second, .val (.double x5), .second, .val (.ref b2), .val (.ref b2), .val (.int (4 : Int32)), .val (.int (2 : Int32)), .val (.double x3), .second] [(.double x4)])) _
  refine Go.by (fun tt_ kk_ => XS.dstore X.here hx rfl (hb hby d1_78) rfl (l' := #[.val (.ref a1), .val (.double x1), .second, .val (.double x2), .second, .val (.double x3), .second, .val (.double x4), .second, .val (.double x5), .second, .val (.ref b2), .val (.ref b2), .val (.int (4 : Int32)), .val (.int (2 : Int32)), .val (.double x4), .second]) rfl kk_) ?_
  show Go p.tables e below (T.setTop (mkF m 80 #[.val (.ref a1), .val (.double x1), .second, .val (.double x2), .second, .val (.double x3), .second, .val (.double x4), .second, .val (.double x5), .second, .val (.ref b2), .val (.ref b2), .val (.int (4 : Int32)), .val (.int (2 : Int32)), .val (.double x4), .second] [])) _
  refine Go.by (fun tt_ kk_ => XS.dload X.here hx rfl (hb hby d1_80) rfl kk_) ?_
  show Go p.tables e below (T.setTop (mkF m 82 #[.val (.ref a1), .val (.double x1), .second, .val (.double x2), .second, .val (.double x3), .second, .val (.double x4), .second, .val (.double x5), .second, .val (.ref b2), .val (.ref b2), .val (.int (4 : Int32)), .val (.int (2 : Int32)), .val (.double x4), .second] [(.double x4)])) _
  refine Go.by (fun tt_ kk_ => XS.dconst0 X.here hx rfl (hb hby d1_82) (v := (0 : UInt64)) rfl kk_) ?_
  show Go p.tables e below (T.setTop (mkF m 83 #[.val (.ref a1), .val (.double x1), .second, .val (.double x2), .second, .val (.double x3), .second, .val (.double x4), .second, .val (.double x5), .second, .val (.ref b2), .val (.ref b2), .val (.int (4 : Int32)), .val (.int (2 : Int32)), .val (.double x4), .second] [(.double (0 : UInt64)), (.double x4)])) _
  refine Go.by (fun tt_ kk_ => XS.dcmpS X.here hx rfl (hb hby d1_83) rfl (d4.cmpV (own_zero 0) .l) kk_) ?_
  show Go p.tables e below (T.setTop (mkF m 84 #[.val (.ref a1), .val (.double x1), .second, .val (.double x2), .second, .val (.double x3), .second, .val (.double x4), .second, .val (.double x5), .second, .val (.ref b2), .val (.ref b2), .val (.int (4 : Int32)), .val (.int (2 : Int32)), .val (.double x4), .second] [(.int (own_ci w4 0))])) _
  refine Go.by (fun tt_ kk_ => XS.ifNo X.here hx rfl (hb hby d1_84) rfl ((if0 _ _).trans (flt (fun q => absurd (own_ci_lt.mp q) (by omega))).1) kk_) ?_
  show Go p.tables e below (T.setTop (mkF m 87 #[.val (.ref a1), .val (.double x1), .second, .val (.double x2), .second, .val (.double x3), .second, .val (.double x4), .second, .val (.double x5), .second, .val (.ref b2), .val (.ref b2), .val (.int (4 : Int32)), .val (.int (2 : Int32)), .val (.double x4), .second] [])) _
  refine Go.by (fun tt_ kk_ => XS.dload X.here hx rfl (hb hby d1_87) rfl kk_) ?_
  show Go p.tables e below (T.setTop (mkF m 89 #[.val (.ref a1), .val (.double x1), .second, .val (.double x2), .second, .val (.double x3), .second, .val (.double x4), .second, .val (.double x5), .second, .val (.ref b2), .val (.ref b2), .val (.int (4 : Int32)), .val (.int (2 : Int32)), .val (.double x4), .second] [(.double x4)])) _
  refine Go.by (X.ldc2DoubleC hx hown (mvT hZ (hw _ (List.mem_of_getElem? (i := 16) rfl))) (g := (mkF m 89 #[.val (.ref a1), .val (.double x1), .second, .val (.double x2), .second, .val (.double x3), .second, .val (.double x4), .second, .val (.double x5), .second, .val (.ref b2), .val (.ref b2), .val (.int (4 : Int32)), .val (.int (2 : Int32)), .val (.double x4), .second] [(.double x4)])) rfl (hb hby d1_89)) ?_
  show Go p.tables e below (T.setTop (mkF m 92 #[.val (.ref a1), .val (.double x1), .second, .val (.double x2), .second, .val (.double x3), .second, .val (.double x4), .second, .val (.double x5), .second, .val (.ref b2), .val (.ref b2), .val (.int (4 : Int32)), .val (.int (2 : Int32)), .val (.double x4), .second] [(.double (9218868437227405312 : UInt64)), (.double x4)])) _
  refine Go.by (fun tt_ kk_ => XS.dcmpS X.here hx rfl (hb hby d1_92) rfl (dcmp_pinf d4.fin .g) kk_) ?_
  show Go p.tables e below (T.setTop (mkF m 93 #[.val (.ref a1), .val (.double x1), .second, .val (.double x2), .second, .val (.double x3), .second, .val (.double x4), .second, .val (.double x5), .second, .val (.ref b2), .val (.ref b2), .val (.int (4 : Int32)), .val (.int (2 : Int32)), .val (.double x4), .second] [(.int (-1 : Int32))])) _
  refine Go.by (fun tt_ kk_ => XS.ifYes X.here hx rfl (pc0 := 93) (pc' := 111) rfl (hb hby d1_93) rfl ((if0 _ _).trans (tlt (by decide : (-1 : Int32) < (0 : Int32))).1) (by decide) (by decide) kk_) ?_
  show Go p.tables e below (T.setTop (mkF m 111 #[.val (.ref a1), .val (.double x1), .second, .val (.double x2), .second, .val (.double x3), .second, .val (.double x4), .second, .val (.double x5), .second, .val (.ref b2), .val (.ref b2), .val (.int (4 : Int32)), .val (.int (2 : Int32)), .val (.double x4), .second] [])) _
  refine Go.by (fun tt_ kk_ => XS.iinc X.here hx rfl (hb hby d1_111) rfl (l' := #[.val (.ref a1), .val (.double x1), .second, .val (.double x2), .second, .val (.double x3), .second, .val (.double x4), .second, .val (.double x5), .second, .val (.ref b2), .val (.ref b2), .val (.int (4 : Int32)), .val (.int (3 : Int32)), .val (.double x4), .second]) rfl kk_) ?_
  show Go p.tables e below (T.setTop (mkF m 114 #[.val (.ref a1), .val (.double x1), .second, .val (.double x2), .second, .val (.double x3), .second, .val (.double x4), .second, .val (.double x5), .second, .val (.ref b2), .val (.ref b2), .val (.int (4 : Int32)), .val (.int (3 : Int32)), .val (.double x4), .second] [])) _
  refine Go.by (fun tt_ kk_ => XS.goto X.here hx rfl (pc0 := 114) (pc' := 66) rfl (hb hby d1_114) (by decide) (by decide) kk_) ?_
  show Go p.tables e below (T.setTop (mkF m 66 #[.val (.ref a1), .val (.double x1), .second, .val (.double x2), .second, .val (.double x3), .second, .val (.double x4), .second, .val (.double x5), .second, .val (.ref b2), .val (.ref b2), .val (.int (4 : Int32)), .val (.int (3 : Int32)), .val (.double x4), .second] [])) _
  refine Go.by (fun tt_ kk_ => XS.iload X.here hx rfl (hb hby d1_66) rfl kk_) ?_
  show Go p.tables e below (T.setTop (mkF m 68 #[.val (.ref a1), .val (.double x1), .second, .val (.double x2), .second, .val (.double x3), .second, .val (.double x4), .second, .val (.double x5), .second, .val (.ref b2), .val (.ref b2), .val (.int (4 : Int32)), .val (.int (3 : Int32)), .val (.double x4), .second] [(.int (3 : Int32))])) _
  refine Go.by (fun tt_ kk_ => XS.iload X.here hx rfl (hb hby d1_68) rfl kk_) ?_
  show Go p.tables e below (T.setTop (mkF m 70 #[.val (.ref a1), .val (.double x1), .second, .val (.double x2), .second, .val (.double x3), .second, .val (.double x4), .second, .val (.double x5), .second, .val (.ref b2), .val (.ref b2), .val (.int (4 : Int32)), .val (.int (3 : Int32)), .val (.double x4), .second] [(.int (4 : Int32)), (.int (3 : Int32))])) _
  refine Go.by (fun tt_ kk_ => XS.icmpNo X.here hx rfl (hb hby d1_70) rfl (tlt (by decide : (3 : Int32) < (4 : Int32))).2.1 kk_) ?_
  show Go p.tables e below (T.setTop (mkF m 73 #[.val (.ref a1), .val (.double x1), .second, .val (.double x2), .second, .val (.double x3), .second, .val (.double x4), .second, .val (.double x5), .second, .val (.ref b2), .val (.ref b2), .val (.int (4 : Int32)), .val (.int (3 : Int32)), .val (.double x4), .second] [])) _
  refine Go.by (fun tt_ kk_ => XS.aload X.here hx rfl (hb hby d1_73) rfl rfl kk_) ?_
  show Go p.tables e below (T.setTop (mkF m 75 #[.val (.ref a1), .val (.double x1), .second, .val (.double x2), .second, .val (.double x3), .second, .val (.double x4), .second, .val (.double x5), .second, .val (.ref b2), .val (.ref b2), .val (.int (4 : Int32)), .val (.int (3 : Int32)), .val (.double x4), .second] [(.ref b2)])) _
  refine Go.by (fun tt_ kk_ => XS.iload X.here hx rfl (hb hby d1_75) rfl kk_) ?_
  show Go p.tables e below (T.setTop (mkF m 77 #[.val (.ref a1), .val (.double x1), .second, .val (.double x2), .second, .val (.double x3), .second, .val (.double x4), .second, .val (.double x5), .second, .val (.ref b2), .val (.ref b2), .val (.int (4 : Int32)), .val (.int (3 : Int32)), .val (.double x4), .second] [(.int (3 : Int32)), (.ref b2)])) _
  have Vo_ := V_b2
  obtain ⟨cl_, Ar_, q_, S_, N_, H_, G_⟩ := Vo_
  refine Go.by (X.daload hx (j := (3 : Int32)) (v := (.double x5)) (by rw [eT]; exact Ar_.1) (State.isArrayOf_alike hZ.alike Ar_.2.1) Ar_.2.2 (inb_of S_ ⟨by decide, by decide⟩) (Has.at H_ (inb_of S_ ⟨by decide, by decide⟩) rfl) (g := (mkF m 77 #[.val (.ref a1), .val (.double x1), .second, .val (.double x2), .second, .val (.double x3), .second, .val (.double x4), .second, .val (.double x5), .second, .val (.ref b2), .val (.ref b2), .val (.int (4 : Int32)), .val (.int (3 : Int32)), .val (.double x4), .second] [(.int (3 : Int32)), (.ref b2)])) rfl rfl (hb hby d1_77)) ?_
  show Go p.tables e below (T.setTop (mkF m 78 #[.val (.ref a1), .val (.double x1), .second, .val (.double x2), .second, .val (.double x3), .second, .val (.double x4), .second, .val (.double x5), .second, .val (.ref b2), .val (.ref b2), .val (.int (4 : Int32)), .val (.int (3 : Int32)), .val (.double x4), .second] [(.double x5)])) _
  refine Go.by (fun tt_ kk_ => XS.dstore X.here hx rfl (hb hby d1_78) rfl (l' := #[.val (.ref a1), .val (.double x1), .second, .val (.double x2), .second, .val (.double x3), .second, .val (.double x4), .second, .val (.double x5), .second, .val (.ref b2), .val (.ref b2), .val (.int (4 : Int32)), .val (.int (3 : Int32)), .val (.double x5), .second]) rfl kk_) ?_
  show Go p.tables e below (T.setTop (mkF m 80 #[.val (.ref a1), .val (.double x1), .second, .val (.double x2), .second, .val (.double x3), .second, .val (.double x4), .second, .val (.double x5), .second, .val (.ref b2), .val (.ref b2), .val (.int (4 : Int32)), .val (.int (3 : Int32)), .val (.double x5), .second] [])) _
  refine Go.by (fun tt_ kk_ => XS.dload X.here hx rfl (hb hby d1_80) rfl kk_) ?_
  show Go p.tables e below (T.setTop (mkF m 82 #[.val (.ref a1), .val (.double x1), .second, .val (.double x2), .second, .val (.double x3), .second, .val (.double x4), .second, .val (.double x5), .second, .val (.ref b2), .val (.ref b2), .val (.int (4 : Int32)), .val (.int (3 : Int32)), .val (.double x5), .second] [(.double x5)])) _
  refine Go.by (fun tt_ kk_ => XS.dconst0 X.here hx rfl (hb hby d1_82) (v := (0 : UInt64)) rfl kk_) ?_
  show Go p.tables e below (T.setTop (mkF m 83 #[.val (.ref a1), .val (.double x1), .second, .val (.double x2), .second, .val (.double x3), .second, .val (.double x4), .second, .val (.double x5), .second, .val (.ref b2), .val (.ref b2), .val (.int (4 : Int32)), .val (.int (3 : Int32)), .val (.double x5), .second] [(.double (0 : UInt64)), (.double x5)])) _
  refine Go.by (fun tt_ kk_ => XS.dcmpS X.here hx rfl (hb hby d1_83) rfl (d5.cmpV (own_zero 0) .l) kk_) ?_
  show Go p.tables e below (T.setTop (mkF m 84 #[.val (.ref a1), .val (.double x1), .second, .val (.double x2), .second, .val (.double x3), .second, .val (.double x4), .second, .val (.double x5), .second, .val (.ref b2), .val (.ref b2), .val (.int (4 : Int32)), .val (.int (3 : Int32)), .val (.double x5), .second] [(.int (own_ci w5 0))])) _
  refine Go.by (fun tt_ kk_ => XS.ifNo X.here hx rfl (hb hby d1_84) rfl ((if0 _ _).trans (flt (fun q => absurd (own_ci_lt.mp q) (by omega))).1) kk_) ?_
  show Go p.tables e below (T.setTop (mkF m 87 #[.val (.ref a1), .val (.double x1), .second, .val (.double x2), .second, .val (.double x3), .second, .val (.double x4), .second, .val (.double x5), .second, .val (.ref b2), .val (.ref b2), .val (.int (4 : Int32)), .val (.int (3 : Int32)), .val (.double x5), .second] [])) _
  refine Go.by (fun tt_ kk_ => XS.dload X.here hx rfl (hb hby d1_87) rfl kk_) ?_
  show Go p.tables e below (T.setTop (mkF m 89 #[.val (.ref a1), .val (.double x1), .second, .val (.double x2), .second, .val (.double x3), .second, .val (.double x4), .second, .val (.double x5), .second, .val (.ref b2), .val (.ref b2), .val (.int (4 : Int32)), .val (.int (3 : Int32)), .val (.double x5), .second] [(.double x5)])) _
  refine Go.by (X.ldc2DoubleC hx hown (mvT hZ (hw _ (List.mem_of_getElem? (i := 16) rfl))) (g := (mkF m 89 #[.val (.ref a1), .val (.double x1), .second, .val (.double x2), .second, .val (.double x3), .second, .val (.double x4), .second, .val (.double x5), .second, .val (.ref b2), .val (.ref b2), .val (.int (4 : Int32)), .val (.int (3 : Int32)), .val (.double x5), .second] [(.double x5)])) rfl (hb hby d1_89)) ?_
  show Go p.tables e below (T.setTop (mkF m 92 #[.val (.ref a1), .val (.double x1), .second, .val (.double x2), .second, .val (.double x3), .second, .val (.double x4), .second, .val (.double x5), .second, .val (.ref b2), .val (.ref b2), .val (.int (4 : Int32)), .val (.int (3 : Int32)), .val (.double x5), .second] [(.double (9218868437227405312 : UInt64)), (.double x5)])) _
  refine Go.by (fun tt_ kk_ => XS.dcmpS X.here hx rfl (hb hby d1_92) rfl (dcmp_pinf d5.fin .g) kk_) ?_
  show Go p.tables e below (T.setTop (mkF m 93 #[.val (.ref a1), .val (.double x1), .second, .val (.double x2), .second, .val (.double x3), .second, .val (.double x4), .second, .val (.double x5), .second, .val (.ref b2), .val (.ref b2), .val (.int (4 : Int32)), .val (.int (3 : Int32)), .val (.double x5), .second] [(.int (-1 : Int32))])) _
  refine Go.by (fun tt_ kk_ => XS.ifYes X.here hx rfl (pc0 := 93) (pc' := 111) rfl (hb hby d1_93) rfl ((if0 _ _).trans (tlt (by decide : (-1 : Int32) < (0 : Int32))).1) (by decide) (by decide) kk_) ?_
  show Go p.tables e below (T.setTop (mkF m 111 #[.val (.ref a1), .val (.double x1), .second, .val (.double x2), .second, .val (.double x3), .second, .val (.double x4), .second, .val (.double x5), .second, .val (.ref b2), .val (.ref b2), .val (.int (4 : Int32)), .val (.int (3 : Int32)), .val (.double x5), .second] [])) _
  refine Go.by (fun tt_ kk_ => XS.iinc X.here hx rfl (hb hby d1_111) rfl (l' := #[.val (.ref a1), .val (.double x1), .second, .val (.double x2), .second, .val (.double x3), .second, .val (.double x4), .second, .val (.double x5), .second, .val (.ref b2), .val (.ref b2), .val (.int (4 : Int32)), .val (.int (4 : Int32)), .val (.double x5), .second]) rfl kk_) ?_
  show Go p.tables e below (T.setTop (mkF m 114 #[.val (.ref a1), .val (.double x1), .second, .val (.double x2), .second, .val (.double x3), .second, .val (.double x4), .second, .val (.double x5), .second, .val (.ref b2), .val (.ref b2), .val (.int (4 : Int32)), .val (.int (4 : Int32)), .val (.double x5), .second] [])) _
  refine Go.by (fun tt_ kk_ => XS.goto X.here hx rfl (pc0 := 114) (pc' := 66) rfl (hb hby d1_114) (by decide) (by decide) kk_) ?_
  show Go p.tables e below (T.setTop (mkF m 66 #[.val (.ref a1), .val (.double x1), .second, .val (.double x2), .second, .val (.double x3), .second, .val (.double x4), .second, .val (.double x5), .second, .val (.ref b2), .val (.ref b2), .val (.int (4 : Int32)), .val (.int (4 : Int32)), .val (.double x5), .second] [])) _
  refine Go.by (fun tt_ kk_ => XS.iload X.here hx rfl (hb hby d1_66) rfl kk_) ?_
  show Go p.tables e below (T.setTop (mkF m 68 #[.val (.ref a1), .val (.double x1), .second, .val (.double x2), .second, .val (.double x3), .second, .val (.double x4), .second, .val (.double x5), .second, .val (.ref b2), .val (.ref b2), .val (.int (4 : Int32)), .val (.int (4 : Int32)), .val (.double x5), .second] [(.int (4 : Int32))])) _
  refine Go.by (fun tt_ kk_ => XS.iload X.here hx rfl (hb hby d1_68) rfl kk_) ?_
  show Go p.tables e below (T.setTop (mkF m 70 #[.val (.ref a1), .val (.double x1), .second, .val (.double x2), .second, .val (.double x3), .second, .val (.double x4), .second, .val (.double x5), .second, .val (.ref b2), .val (.ref b2), .val (.int (4 : Int32)), .val (.int (4 : Int32)), .val (.double x5), .second] [(.int (4 : Int32)), (.int (4 : Int32))])) _
  refine Go.by (fun tt_ kk_ => XS.icmpYes X.here hx rfl (pc0 := 70) (pc' := 117) rfl (hb hby d1_70) rfl (flt (by decide : ¬ ((4 : Int32) < (4 : Int32)))).2.1 (by decide) (by decide) kk_) ?_
  show Go p.tables e below (T.setTop (mkF m 117 #[.val (.ref a1), .val (.double x1), .second, .val (.double x2), .second, .val (.double x3), .second, .val (.double x4), .second, .val (.double x5), .second, .val (.ref b2), .val (.ref b2), .val (.int (4 : Int32)), .val (.int (4 : Int32)), .val (.double x5), .second] [])) _
  refine Go.by (fun tt_ kk_ => XS.aloadN X.here hx rfl (hb hby d1_117) rfl rfl kk_) ?_
  show Go p.tables e below (T.setTop (mkF m 118 #[.val (.ref a1), .val (.double x1), .second, .val (.double x2), .second, .val (.double x3), .second, .val (.double x4), .second, .val (.double x5), .second, .val (.ref b2), .val (.ref b2), .val (.int (4 : Int32)), .val (.int (4 : Int32)), .val (.double x5), .second] [(.ref a1)])) _
  refine Go.by (fun tt_ kk_ => XS.dloadN X.here hx rfl (hb hby d1_118) rfl kk_) ?_
  show Go p.tables e below (T.setTop (mkF m 119 #[.val (.ref a1), .val (.double x1), .second, .val (.double x2), .second, .val (.double x3), .second, .val (.double x4), .second, .val (.double x5), .second, .val (.ref b2), .val (.ref b2), .val (.int (4 : Int32)), .val (.int (4 : Int32)), .val (.double x5), .second] [(.double x1), (.ref a1)])) _
  obtain ⟨T, h7, X, eT, Wh7, st⟩ := putF X hx hZ hown (host := "") (Or.inl (hw _ (List.mem_of_getElem? (i := 17) rfl))) Via.refl eT F_share_a1 E_a1 (Or.inr ⟨(hw _ (List.mem_of_getElem? (i := 18) rfl)), rfl, hnm⟩) (hw _ (List.mem_of_getElem? (i := 2) rfl)) (ty := .double) (by decide) rfl rfl (g := (mkF m 119 #[.val (.ref a1), .val (.double x1), .second, .val (.double x2), .second, .val (.double x3), .second, .val (.double x4), .second, .val (.double x5), .second, .val (.ref b2), .val (.ref b2), .val (.int (4 : Int32)), .val (.int (4 : Int32)), .val (.double x5), .second] [(.double x1), (.ref a1)])) rfl rfl (hb hby d1_119)
  have F_share_a1 := Fld.same Wh7 F_share_a1
  have E_a1 := Exa.wr Wh7 E_a1
  have F_travelTime_a1 := Fld.other Wh7 F_travelTime_a1 (Or.inr (slot_ne (Or.inr (hw _ (List.mem_of_getElem? (i := 20) rfl))) (Or.inr (hw _ (List.mem_of_getElem? (i := 18) rfl))) (by decide) (t := .double) (t' := .double) (by decide) (by decide)))
  have F_occupancy_a1 := Fld.other Wh7 F_occupancy_a1 (Or.inr (slot_ne (Or.inr (hw _ (List.mem_of_getElem? (i := 22) rfl))) (Or.inr (hw _ (List.mem_of_getElem? (i := 18) rfl))) (by decide) (t := .double) (t' := .double) (by decide) (by decide)))
  have F_nextArrival_a1 := Fld.other Wh7 F_nextArrival_a1 (Or.inr (slot_ne (Or.inr (hw _ (List.mem_of_getElem? (i := 24) rfl))) (Or.inr (hw _ (List.mem_of_getElem? (i := 18) rfl))) (by decide) (t := .double) (t' := .double) (by decide) (by decide)))
  have F_queue_a1 := Fld.other Wh7 F_queue_a1 (Or.inr (slot_ne (Or.inr (hw _ (List.mem_of_getElem? (i := 26) rfl))) (Or.inr (hw _ (List.mem_of_getElem? (i := 18) rfl))) (by decide) (t := .double) (t' := .double) (by decide) (by decide)))
  have V_b2 := Arv.other V_b2 Wh7 ne_b2_a1
  have N := Fr.snoc X N g_a1
  have K := K.wr Wh7 (Or.inl (List.mem_of_getElem? (i := 0) rfl))
  refine Go.by st ?_
  show Go p.tables e below (T.setTop (mkF m 122 #[.val (.ref a1), .val (.double x1), .second, .val (.double x2), .second, .val (.double x3), .second, .val (.double x4), .second, .val (.double x5), .second, .val (.ref b2), .val (.ref b2), .val (.int (4 : Int32)), .val (.int (4 : Int32)), .val (.double x5), .second] [])) _
  refine Go.by (fun tt_ kk_ => XS.aloadN X.here hx rfl (hb hby d1_122) rfl rfl kk_) ?_
  show Go p.tables e below (T.setTop (mkF m 123 #[.val (.ref a1), .val (.double x1), .second, .val (.double x2), .second, .val (.double x3), .second, .val (.double x4), .second, .val (.double x5), .second, .val (.ref b2), .val (.ref b2), .val (.int (4 : Int32)), .val (.int (4 : Int32)), .val (.double x5), .second] [(.ref a1)])) _
  refine Go.by (fun tt_ kk_ => XS.dloadN X.here hx rfl (hb hby d1_123) rfl kk_) ?_
  show Go p.tables e below (T.setTop (mkF m 124 #[.val (.ref a1), .val (.double x1), .second, .val (.double x2), .second, .val (.double x3), .second, .val (.double x4), .second, .val (.double x5), .second, .val (.ref b2), .val (.ref b2), .val (.int (4 : Int32)), .val (.int (4 : Int32)), .val (.double x5), .second] [(.double x2), (.ref a1)])) _
  obtain ⟨T, h8, X, eT, Wh8, st⟩ := putF X hx hZ hown (host := "") (Or.inl (hw _ (List.mem_of_getElem? (i := 19) rfl))) Via.refl eT F_travelTime_a1 E_a1 (Or.inr ⟨(hw _ (List.mem_of_getElem? (i := 20) rfl)), rfl, hnm⟩) (hw _ (List.mem_of_getElem? (i := 2) rfl)) (ty := .double) (by decide) rfl rfl (g := (mkF m 124 #[.val (.ref a1), .val (.double x1), .second, .val (.double x2), .second, .val (.double x3), .second, .val (.double x4), .second, .val (.double x5), .second, .val (.ref b2), .val (.ref b2), .val (.int (4 : Int32)), .val (.int (4 : Int32)), .val (.double x5), .second] [(.double x2), (.ref a1)])) rfl rfl (hb hby d1_124)
  have F_travelTime_a1 := Fld.same Wh8 F_travelTime_a1
  have E_a1 := Exa.wr Wh8 E_a1
  have F_share_a1 := Fld.other Wh8 F_share_a1 (Or.inr (slot_ne (Or.inr (hw _ (List.mem_of_getElem? (i := 18) rfl))) (Or.inr (hw _ (List.mem_of_getElem? (i := 20) rfl))) (by decide) (t := .double) (t' := .double) (by decide) (by decide)))
  have F_occupancy_a1 := Fld.other Wh8 F_occupancy_a1 (Or.inr (slot_ne (Or.inr (hw _ (List.mem_of_getElem? (i := 22) rfl))) (Or.inr (hw _ (List.mem_of_getElem? (i := 20) rfl))) (by decide) (t := .double) (t' := .double) (by decide) (by decide)))
  have F_nextArrival_a1 := Fld.other Wh8 F_nextArrival_a1 (Or.inr (slot_ne (Or.inr (hw _ (List.mem_of_getElem? (i := 24) rfl))) (Or.inr (hw _ (List.mem_of_getElem? (i := 20) rfl))) (by decide) (t := .double) (t' := .double) (by decide) (by decide)))
  have F_queue_a1 := Fld.other Wh8 F_queue_a1 (Or.inr (slot_ne (Or.inr (hw _ (List.mem_of_getElem? (i := 26) rfl))) (Or.inr (hw _ (List.mem_of_getElem? (i := 20) rfl))) (by decide) (t := .double) (t' := .double) (by decide) (by decide)))
  have V_b2 := Arv.other V_b2 Wh8 ne_b2_a1
  have N := Fr.snoc X N g_a1
  have K := K.wr Wh8 (Or.inl (List.mem_of_getElem? (i := 0) rfl))
  refine Go.by st ?_
  show Go p.tables e below (T.setTop (mkF m 127 #[.val (.ref a1), .val (.double x1), .second, .val (.double x2), .second, .val (.double x3), .second, .val (.double x4), .second, .val (.double x5), .second, .val (.ref b2), .val (.ref b2), .val (.int (4 : Int32)), .val (.int (4 : Int32)), .val (.double x5), .second] [])) _
  refine Go.by (fun tt_ kk_ => XS.aloadN X.here hx rfl (hb hby d1_127) rfl rfl kk_) ?_
  show Go p.tables e below (T.setTop (mkF m 128 #[.val (.ref a1), .val (.double x1), .second, .val (.double x2), .second, .val (.double x3), .second, .val (.double x4), .second, .val (.double x5), .second, .val (.ref b2), .val (.ref b2), .val (.int (4 : Int32)), .val (.int (4 : Int32)), .val (.double x5), .second] [(.ref a1)])) _
  refine Go.by (fun tt_ kk_ => XS.dload X.here hx rfl (hb hby d1_128) rfl kk_) ?_
  show Go p.tables e below (T.setTop (mkF m 130 #[.val (.ref a1), .val (.double x1), .second, .val (.double x2), .second, .val (.double x3), .second, .val (.double x4), .second, .val (.double x5), .second, .val (.ref b2), .val (.ref b2), .val (.int (4 : Int32)), .val (.int (4 : Int32)), .val (.double x5), .second] [(.double x3), (.ref a1)])) _
  obtain ⟨T, h9, X, eT, Wh9, st⟩ := putF X hx hZ hown (host := "") (Or.inl (hw _ (List.mem_of_getElem? (i := 21) rfl))) Via.refl eT F_occupancy_a1 E_a1 (Or.inr ⟨(hw _ (List.mem_of_getElem? (i := 22) rfl)), rfl, hnm⟩) (hw _ (List.mem_of_getElem? (i := 2) rfl)) (ty := .double) (by decide) rfl rfl (g := (mkF m 130 #[.val (.ref a1), .val (.double x1), .second, .val (.double x2), .second, .val (.double x3), .second, .val (.double x4), .second, .val (.double x5), .second, .val (.ref b2), .val (.ref b2), .val (.int (4 : Int32)), .val (.int (4 : Int32)), .val (.double x5), .second] [(.double x3), (.ref a1)])) rfl rfl (hb hby d1_130)
  have F_occupancy_a1 := Fld.same Wh9 F_occupancy_a1
  have E_a1 := Exa.wr Wh9 E_a1
  have F_share_a1 := Fld.other Wh9 F_share_a1 (Or.inr (slot_ne (Or.inr (hw _ (List.mem_of_getElem? (i := 18) rfl))) (Or.inr (hw _ (List.mem_of_getElem? (i := 22) rfl))) (by decide) (t := .double) (t' := .double) (by decide) (by decide)))
  have F_travelTime_a1 := Fld.other Wh9 F_travelTime_a1 (Or.inr (slot_ne (Or.inr (hw _ (List.mem_of_getElem? (i := 20) rfl))) (Or.inr (hw _ (List.mem_of_getElem? (i := 22) rfl))) (by decide) (t := .double) (t' := .double) (by decide) (by decide)))
  have F_nextArrival_a1 := Fld.other Wh9 F_nextArrival_a1 (Or.inr (slot_ne (Or.inr (hw _ (List.mem_of_getElem? (i := 24) rfl))) (Or.inr (hw _ (List.mem_of_getElem? (i := 22) rfl))) (by decide) (t := .double) (t' := .double) (by decide) (by decide)))
  have F_queue_a1 := Fld.other Wh9 F_queue_a1 (Or.inr (slot_ne (Or.inr (hw _ (List.mem_of_getElem? (i := 26) rfl))) (Or.inr (hw _ (List.mem_of_getElem? (i := 22) rfl))) (by decide) (t := .double) (t' := .double) (by decide) (by decide)))
  have V_b2 := Arv.other V_b2 Wh9 ne_b2_a1
  have N := Fr.snoc X N g_a1
  have K := K.wr Wh9 (Or.inl (List.mem_of_getElem? (i := 0) rfl))
  refine Go.by st ?_
  show Go p.tables e below (T.setTop (mkF m 133 #[.val (.ref a1), .val (.double x1), .second, .val (.double x2), .second, .val (.double x3), .second, .val (.double x4), .second, .val (.double x5), .second, .val (.ref b2), .val (.ref b2), .val (.int (4 : Int32)), .val (.int (4 : Int32)), .val (.double x5), .second] [])) _
  refine Go.by (fun tt_ kk_ => XS.aloadN X.here hx rfl (hb hby d1_133) rfl rfl kk_) ?_
  show Go p.tables e below (T.setTop (mkF m 134 #[.val (.ref a1), .val (.double x1), .second, .val (.double x2), .second, .val (.double x3), .second, .val (.double x4), .second, .val (.double x5), .second, .val (.ref b2), .val (.ref b2), .val (.int (4 : Int32)), .val (.int (4 : Int32)), .val (.double x5), .second] [(.ref a1)])) _
  refine Go.by (fun tt_ kk_ => XS.dload X.here hx rfl (hb hby d1_134) rfl kk_) ?_
  show Go p.tables e below (T.setTop (mkF m 136 #[.val (.ref a1), .val (.double x1), .second, .val (.double x2), .second, .val (.double x3), .second, .val (.double x4), .second, .val (.double x5), .second, .val (.ref b2), .val (.ref b2), .val (.int (4 : Int32)), .val (.int (4 : Int32)), .val (.double x5), .second] [(.double x4), (.ref a1)])) _
  obtain ⟨T, h10, X, eT, Wh10, st⟩ := putF X hx hZ hown (host := "") (Or.inl (hw _ (List.mem_of_getElem? (i := 23) rfl))) Via.refl eT F_nextArrival_a1 E_a1 (Or.inr ⟨(hw _ (List.mem_of_getElem? (i := 24) rfl)), rfl, hnm⟩) (hw _ (List.mem_of_getElem? (i := 2) rfl)) (ty := .double) (by decide) rfl rfl (g := (mkF m 136 #[.val (.ref a1), .val (.double x1), .second, .val (.double x2), .second, .val (.double x3), .second, .val (.double x4), .second, .val (.double x5), .second, .val (.ref b2), .val (.ref b2), .val (.int (4 : Int32)), .val (.int (4 : Int32)), .val (.double x5), .second] [(.double x4), (.ref a1)])) rfl rfl (hb hby d1_136)
  have F_nextArrival_a1 := Fld.same Wh10 F_nextArrival_a1
  have E_a1 := Exa.wr Wh10 E_a1
  have F_share_a1 := Fld.other Wh10 F_share_a1 (Or.inr (slot_ne (Or.inr (hw _ (List.mem_of_getElem? (i := 18) rfl))) (Or.inr (hw _ (List.mem_of_getElem? (i := 24) rfl))) (by decide) (t := .double) (t' := .double) (by decide) (by decide)))
  have F_travelTime_a1 := Fld.other Wh10 F_travelTime_a1 (Or.inr (slot_ne (Or.inr (hw _ (List.mem_of_getElem? (i := 20) rfl))) (Or.inr (hw _ (List.mem_of_getElem? (i := 24) rfl))) (by decide) (t := .double) (t' := .double) (by decide) (by decide)))
  have F_occupancy_a1 := Fld.other Wh10 F_occupancy_a1 (Or.inr (slot_ne (Or.inr (hw _ (List.mem_of_getElem? (i := 22) rfl))) (Or.inr (hw _ (List.mem_of_getElem? (i := 24) rfl))) (by decide) (t := .double) (t' := .double) (by decide) (by decide)))
  have F_queue_a1 := Fld.other Wh10 F_queue_a1 (Or.inr (slot_ne (Or.inr (hw _ (List.mem_of_getElem? (i := 26) rfl))) (Or.inr (hw _ (List.mem_of_getElem? (i := 24) rfl))) (by decide) (t := .double) (t' := .double) (by decide) (by decide)))
  have V_b2 := Arv.other V_b2 Wh10 ne_b2_a1
  have N := Fr.snoc X N g_a1
  have K := K.wr Wh10 (Or.inl (List.mem_of_getElem? (i := 0) rfl))
  refine Go.by st ?_
  show Go p.tables e below (T.setTop (mkF m 139 #[.val (.ref a1), .val (.double x1), .second, .val (.double x2), .second, .val (.double x3), .second, .val (.double x4), .second, .val (.double x5), .second, .val (.ref b2), .val (.ref b2), .val (.int (4 : Int32)), .val (.int (4 : Int32)), .val (.double x5), .second] [])) _
  refine Go.by (fun tt_ kk_ => XS.aloadN X.here hx rfl (hb hby d1_139) rfl rfl kk_) ?_
  show Go p.tables e below (T.setTop (mkF m 140 #[.val (.ref a1), .val (.double x1), .second, .val (.double x2), .second, .val (.double x3), .second, .val (.double x4), .second, .val (.double x5), .second, .val (.ref b2), .val (.ref b2), .val (.int (4 : Int32)), .val (.int (4 : Int32)), .val (.double x5), .second] [(.ref a1)])) _
  refine Go.by (fun tt_ kk_ => XS.dload X.here hx rfl (hb hby d1_140) rfl kk_) ?_
  show Go p.tables e below (T.setTop (mkF m 142 #[.val (.ref a1), .val (.double x1), .second, .val (.double x2), .second, .val (.double x3), .second, .val (.double x4), .second, .val (.double x5), .second, .val (.ref b2), .val (.ref b2), .val (.int (4 : Int32)), .val (.int (4 : Int32)), .val (.double x5), .second] [(.double x5), (.ref a1)])) _
  obtain ⟨T, h11, X, eT, Wh11, st⟩ := putF X hx hZ hown (host := "") (Or.inl (hw _ (List.mem_of_getElem? (i := 25) rfl))) Via.refl eT F_queue_a1 E_a1 (Or.inr ⟨(hw _ (List.mem_of_getElem? (i := 26) rfl)), rfl, hnm⟩) (hw _ (List.mem_of_getElem? (i := 2) rfl)) (ty := .double) (by decide) rfl rfl (g := (mkF m 142 #[.val (.ref a1), .val (.double x1), .second, .val (.double x2), .second, .val (.double x3), .second, .val (.double x4), .second, .val (.double x5), .second, .val (.ref b2), .val (.ref b2), .val (.int (4 : Int32)), .val (.int (4 : Int32)), .val (.double x5), .second] [(.double x5), (.ref a1)])) rfl rfl (hb hby d1_142)
  have F_queue_a1 := Fld.same Wh11 F_queue_a1
  have E_a1 := Exa.wr Wh11 E_a1
  have F_share_a1 := Fld.other Wh11 F_share_a1 (Or.inr (slot_ne (Or.inr (hw _ (List.mem_of_getElem? (i := 18) rfl))) (Or.inr (hw _ (List.mem_of_getElem? (i := 26) rfl))) (by decide) (t := .double) (t' := .double) (by decide) (by decide)))
  have F_travelTime_a1 := Fld.other Wh11 F_travelTime_a1 (Or.inr (slot_ne (Or.inr (hw _ (List.mem_of_getElem? (i := 20) rfl))) (Or.inr (hw _ (List.mem_of_getElem? (i := 26) rfl))) (by decide) (t := .double) (t' := .double) (by decide) (by decide)))
  have F_occupancy_a1 := Fld.other Wh11 F_occupancy_a1 (Or.inr (slot_ne (Or.inr (hw _ (List.mem_of_getElem? (i := 22) rfl))) (Or.inr (hw _ (List.mem_of_getElem? (i := 26) rfl))) (by decide) (t := .double) (t' := .double) (by decide) (by decide)))
  have F_nextArrival_a1 := Fld.other Wh11 F_nextArrival_a1 (Or.inr (slot_ne (Or.inr (hw _ (List.mem_of_getElem? (i := 24) rfl))) (Or.inr (hw _ (List.mem_of_getElem? (i := 26) rfl))) (by decide) (t := .double) (t' := .double) (by decide) (by decide)))
  have V_b2 := Arv.other V_b2 Wh11 ne_b2_a1
  have N := Fr.snoc X N g_a1
  have K := K.wr Wh11 (Or.inl (List.mem_of_getElem? (i := 0) rfl))
  refine Go.by st ?_
  show Go p.tables e below (T.setTop (mkF m 145 #[.val (.ref a1), .val (.double x1), .second, .val (.double x2), .second, .val (.double x3), .second, .val (.double x4), .second, .val (.double x5), .second, .val (.ref b2), .val (.ref b2), .val (.int (4 : Int32)), .val (.int (4 : Int32)), .val (.double x5), .second] [])) _
  exact Go.done X  (v := none) (fun _ => rfl) Bd.notSynchronized (fun fs hr => X.returnOut hx Bd.returns (hb hby d1_145) hr) (by rw [eT]; exact ⟨rfl, N, K, E_a1, F_share_a1, F_travelTime_a1, F_occupancy_a1, F_nextArrival_a1, F_queue_a1⟩) (by decide) (by decide)
theorem d4_0 : decode prog_17_method_2_code 0 = .ok (.aload_n 0, 1) := by decide +kernel
theorem d4_1 : decode prog_17_method_2_code 1 = .ok (.getfield 27, 3) := by decide +kernel
theorem d4_4 : decode prog_17_method_2_code 4 = .ok (.dload_n 1, 1) := by decide +kernel
theorem d4_5 : decode prog_17_method_2_code 5 = .ok (.dmul, 1) := by decide +kernel
theorem d4_6 : decode prog_17_method_2_code 6 = .ok (.aload_n 0, 1) := by decide +kernel
theorem d4_7 : decode prog_17_method_2_code 7 = .ok (.getfield 30, 3) := by decide +kernel
theorem d4_10 : decode prog_17_method_2_code 10 = .ok (.dload_n 3, 1) := by decide +kernel
theorem d4_11 : decode prog_17_method_2_code 11 = .ok (.dmul, 1) := by decide +kernel
theorem d4_12 : decode prog_17_method_2_code 12 = .ok (.dadd, 1) := by decide +kernel
theorem d4_13 : decode prog_17_method_2_code 13 = .ok (.aload_n 0, 1) := by decide +kernel
theorem d4_14 : decode prog_17_method_2_code 14 = .ok (.getfield 33, 3) := by decide +kernel
theorem d4_17 : decode prog_17_method_2_code 17 = .ok (.dload 5, 2) := by decide +kernel
theorem d4_19 : decode prog_17_method_2_code 19 = .ok (.dmul, 1) := by decide +kernel
theorem d4_20 : decode prog_17_method_2_code 20 = .ok (.dadd, 1) := by decide +kernel
theorem d4_21 : decode prog_17_method_2_code 21 = .ok (.aload_n 0, 1) := by decide +kernel
theorem d4_22 : decode prog_17_method_2_code 22 = .ok (.getfield 36, 3) := by decide +kernel
theorem d4_25 : decode prog_17_method_2_code 25 = .ok (.lload 7, 2) := by decide +kernel
theorem d4_27 : decode prog_17_method_2_code 27 = .ok (.l2d, 1) := by decide +kernel
theorem d4_28 : decode prog_17_method_2_code 28 = .ok (.dmul, 1) := by decide +kernel
theorem d4_29 : decode prog_17_method_2_code 29 = .ok (.dadd, 1) := by decide +kernel
theorem d4_30 : decode prog_17_method_2_code 30 = .ok (.dreturn, 1) := by decide +kernel
theorem ef_4 (m : MethodId) (x0 : Addr) (x1 : UInt64) (x2 : UInt64) (x3 : UInt64) (x4 : Int64) : entryFrame m #[(.ref x0), (.double x1), (.double x2), (.double x3), (.long x4)] 9 = mkF m 0 #[.val (.ref x0), .val (.double x1), .second, .val (.double x2), .second, .val (.double x3), .second, .val (.long x4), .second] [] := by first | (simp [entryFrame, mkF, argsToLocals, Value.category]; done) | rfl
def Q4 (Z : State) (a1 : Addr) (x2 : UInt64) (x3 : UInt64) (x4 : UInt64) (q5 : Int64) (y2 : UInt64) (w2 : Int) (v2 : Int) (y3 : UInt64) (w3 : Int) (v3 : Int) (y4 : UInt64) (w4 : Int) (v4 : Int) (y5 : UInt64) (w5 : Int) (v5 : Int) (h0 : Heap) (n0 : Nat) (v : Option Value) (h : Heap) (L : List Loc) : Prop := ∃ r, v = some (.double r) ∧ Fr n0 L ∧ Dy (w2 * v2 + w3 * v3 + w4 * v4 + w5 * v5) 0 r ∧ h = h0
set_option maxRecDepth 65536 in
set_option maxHeartbeats 40000000 in
theorem rm4 (l : Launch) (Z : State) (a0 : Array Value) (hw : ∀ d ∈ tables_1, d.before a0 Z = true) (ws : List Jvm.Cond) (a1 : Addr) (x2 : UInt64) (x3 : UInt64) (x4 : UInt64) (q5 : Int64) (y2 : UInt64) (w2 : Int) (v2 : Int) (y3 : UInt64) (w3 : Int) (v3 : Int) (y4 : UInt64) (w4 : Int) (v4 : Int) (y5 : UInt64) (w5 : Int) (v5 : Int) (h0 : Heap) (n0 : Nat) (Z0 : n0 ≤ h0.size) (F_travelTime_a1 : Fld Z h0 a1 "com/example/bogong/bogong/network/Profile" "travelTime" "D" (.double y2)) (F_occupancy_a1 : Fld Z h0 a1 "com/example/bogong/bogong/network/Profile" "occupancy" "D" (.double y3)) (F_nextArrival_a1 : Fld Z h0 a1 "com/example/bogong/bogong/network/Profile" "nextArrival" "D" (.double y4)) (F_queue_a1 : Fld Z h0 a1 "com/example/bogong/bogong/network/Profile" "queue" "D" (.double y5)) (d2 : Dy w2 0 y2) (d3 : Dy w3 0 y3) (d4 : Dy w4 0 y4) (d5 : Dy w5 0 y5) (t2 : Dy v2 0 x2) (t3 : Dy v3 0 x3) (t4 : Dy v4 0 x4) (t5 : Dy v5 0 (FP.l2d q5)) (m2 : -67108864 ≤ w2 * v2 ∧ w2 * v2 ≤ 67108864) (m3 : -67108864 ≤ w3 * v3 ∧ w3 * v3 ≤ 67108864) (m4 : -67108864 ≤ w4 * v4 ∧ w4 * v4 ≤ 67108864) (m5 : -1125899906842624 ≤ w5 * v5 ∧ w5 * v5 ≤ 1125899906842624) :
    MetFree l (⟨"com/example/bogong/bogong/network/Profile", "cost", "(DDDJ)D"⟩ : MethodName) (head1 (Jvm.Cond.code (⟨"com/example/bogong/bogong/network/Profile", "cost", "(DDDJ)D"⟩ : MethodName) prog_17_method_2_code 9 (some .double) :: ws) ({ frames := 0, cells := 0, slots := 0, locals := 0 } : Room)) (fun a U => a = #[(.ref a1), (.double x2), (.double x3), (.double x4), (.long q5)] ∧ Z.Warmed39 U.vm ∧ U.heap = h0) (fun _ _ _ _ _ => True) (fun _ U o U' => ∃ v L, o = .returned v ∧ Q4 Z a1 x2 x3 x4 q5 y2 w2 v2 y3 w3 v3 y4 w4 v4 y5 w5 v5 h0 n0 v U'.heap L ∧ FrameEnd U o U' L ({ frames := 0, cells := 0, slots := 0, locals := 0 } : Room).cells ({ frames := 0, cells := 0, slots := 0, locals := 0 } : Room).slots) := by
  refine MetFree.of_bodySF (plainFor_of_name pn_1) hisR ?_
  intro p e s m args below meth c s₁ Bd hml0 hP hK
  obtain ⟨rfl, hZ, hh⟩ := hP
  have hx := Bd.exec
  have hby := Bd.bytes
  have hml : c.maxLocals = 9 := hml0
  have hown : s.vm.findClass "com/example/bogong/bogong/network/Profile" = some m.cls := findClass_of_methodNamed Bd.named
  have hnm := (name_of_methodNamed Bd.named Bd.method).1
  have X : Stand p l e ({ frames := 0, cells := 0, slots := 0, locals := 0 } : Room) s m #[(.ref a1), (.double x2), (.double x3), (.double x4), (.long q5)] below meth c s₁ [] 0 0 := Stand.of_body Bd
  have eT : s₁.heap = h0 := by rw [← hh, Bd.state]; rfl
  have N := Fr.nil n0
  have K := Keep.refl h0 []
  refine Go.out ?_
  obtain ⟨T, eTT⟩ : ∃ z, z = s₁ := ⟨_, rfl⟩
  rw [← eTT] at X eT ⊢
  refine Go.by (fun tt_ kk_ => castTop (ef_4 m a1 x2 x3 x4 q5) kk_) ?_
  show Go p.tables e below (T.setTop (mkF m 0 #[.val (.ref a1), .val (.double x2), .second, .val (.double x3), .second, .val (.double x4), .second, .val (.long q5), .second] [])) _
  refine Go.by (fun tt_ kk_ => XS.aloadN X.here hx rfl (hb hby d4_0) rfl rfl kk_) ?_
  show Go p.tables e below (T.setTop (mkF m 1 #[.val (.ref a1), .val (.double x2), .second, .val (.double x3), .second, .val (.double x4), .second, .val (.long q5), .second] [(.ref a1)])) _
  obtain ⟨T, X, eT, st⟩ := getF X hx hZ hown (host := "") (Or.inl (hw _ (List.mem_of_getElem? (i := 19) rfl))) Via.refl eT F_travelTime_a1 (g := (mkF m 1 #[.val (.ref a1), .val (.double x2), .second, .val (.double x3), .second, .val (.double x4), .second, .val (.long q5), .second] [(.ref a1)])) rfl rfl (hb hby d4_1)
  refine Go.by st ?_
  show Go p.tables e below (T.setTop (mkF m 4 #[.val (.ref a1), .val (.double x2), .second, .val (.double x3), .second, .val (.double x4), .second, .val (.long q5), .second] [(.double y2)])) _
  refine Go.by (fun tt_ kk_ => XS.dloadN X.here hx rfl (hb hby d4_4) rfl kk_) ?_
  show Go p.tables e below (T.setTop (mkF m 5 #[.val (.ref a1), .val (.double x2), .second, .val (.double x3), .second, .val (.double x4), .second, .val (.long q5), .second] [(.double x2), (.double y2)])) _
  obtain ⟨u1, e_u1⟩ : ∃ z, z = FP.dmul y2 x2 := ⟨_, rfl⟩
  have d_u1 : Dy (w2 * v2) 0 u1 := by rw [e_u1]; exact d2.mul t2 (by omega) (by decide) (by decide)
  refine Go.by (fun tt_ kk_ => XS.dmulS X.here hx rfl (hb hby d4_5) rfl (e_u1 ▸ d_u1.noNaN) e_u1.symm kk_) ?_
  show Go p.tables e below (T.setTop (mkF m 6 #[.val (.ref a1), .val (.double x2), .second, .val (.double x3), .second, .val (.double x4), .second, .val (.long q5), .second] [(.double u1)])) _
  refine Go.by (fun tt_ kk_ => XS.aloadN X.here hx rfl (hb hby d4_6) rfl rfl kk_) ?_
  show Go p.tables e below (T.setTop (mkF m 7 #[.val (.ref a1), .val (.double x2), .second, .val (.double x3), .second, .val (.double x4), .second, .val (.long q5), .second] [(.ref a1), (.double u1)])) _
  obtain ⟨T, X, eT, st⟩ := getF X hx hZ hown (host := "") (Or.inl (hw _ (List.mem_of_getElem? (i := 21) rfl))) Via.refl eT F_occupancy_a1 (g := (mkF m 7 #[.val (.ref a1), .val (.double x2), .second, .val (.double x3), .second, .val (.double x4), .second, .val (.long q5), .second] [(.ref a1), (.double u1)])) rfl rfl (hb hby d4_7)
  refine Go.by st ?_
  show Go p.tables e below (T.setTop (mkF m 10 #[.val (.ref a1), .val (.double x2), .second, .val (.double x3), .second, .val (.double x4), .second, .val (.long q5), .second] [(.double y3), (.double u1)])) _
  refine Go.by (fun tt_ kk_ => XS.dloadN X.here hx rfl (hb hby d4_10) rfl kk_) ?_
  show Go p.tables e below (T.setTop (mkF m 11 #[.val (.ref a1), .val (.double x2), .second, .val (.double x3), .second, .val (.double x4), .second, .val (.long q5), .second] [(.double x3), (.double y3), (.double u1)])) _
  obtain ⟨u2, e_u2⟩ : ∃ z, z = FP.dmul y3 x3 := ⟨_, rfl⟩
  have d_u2 : Dy (w3 * v3) 0 u2 := by rw [e_u2]; exact d3.mul t3 (by omega) (by decide) (by decide)
  refine Go.by (fun tt_ kk_ => XS.dmulS X.here hx rfl (hb hby d4_11) rfl (e_u2 ▸ d_u2.noNaN) e_u2.symm kk_) ?_
  show Go p.tables e below (T.setTop (mkF m 12 #[.val (.ref a1), .val (.double x2), .second, .val (.double x3), .second, .val (.double x4), .second, .val (.long q5), .second] [(.double u2), (.double u1)])) _
  obtain ⟨u3, e_u3⟩ : ∃ z, z = FP.dadd u1 u2 := ⟨_, rfl⟩
  have d_u3 : Dy (w2 * v2 + w3 * v3) 0 u3 := by rw [e_u3]; exact d_u1.add d_u2 (by omega) (by decide) (by decide)
  refine Go.by (fun tt_ kk_ => XS.daddS X.here hx rfl (hb hby d4_12) rfl (e_u3 ▸ d_u3.noNaN) e_u3.symm kk_) ?_
  show Go p.tables e below (T.setTop (mkF m 13 #[.val (.ref a1), .val (.double x2), .second, .val (.double x3), .second, .val (.double x4), .second, .val (.long q5), .second] [(.double u3)])) _
  refine Go.by (fun tt_ kk_ => XS.aloadN X.here hx rfl (hb hby d4_13) rfl rfl kk_) ?_
  show Go p.tables e below (T.setTop (mkF m 14 #[.val (.ref a1), .val (.double x2), .second, .val (.double x3), .second, .val (.double x4), .second, .val (.long q5), .second] [(.ref a1), (.double u3)])) _
  obtain ⟨T, X, eT, st⟩ := getF X hx hZ hown (host := "") (Or.inl (hw _ (List.mem_of_getElem? (i := 23) rfl))) Via.refl eT F_nextArrival_a1 (g := (mkF m 14 #[.val (.ref a1), .val (.double x2), .second, .val (.double x3), .second, .val (.double x4), .second, .val (.long q5), .second] [(.ref a1), (.double u3)])) rfl rfl (hb hby d4_14)
  refine Go.by st ?_
  show Go p.tables e below (T.setTop (mkF m 17 #[.val (.ref a1), .val (.double x2), .second, .val (.double x3), .second, .val (.double x4), .second, .val (.long q5), .second] [(.double y4), (.double u3)])) _
  refine Go.by (fun tt_ kk_ => XS.dload X.here hx rfl (hb hby d4_17) rfl kk_) ?_
  show Go p.tables e below (T.setTop (mkF m 19 #[.val (.ref a1), .val (.double x2), .second, .val (.double x3), .second, .val (.double x4), .second, .val (.long q5), .second] [(.double x4), (.double y4), (.double u3)])) _
  obtain ⟨u4, e_u4⟩ : ∃ z, z = FP.dmul y4 x4 := ⟨_, rfl⟩
  have d_u4 : Dy (w4 * v4) 0 u4 := by rw [e_u4]; exact d4.mul t4 (by omega) (by decide) (by decide)
  refine Go.by (fun tt_ kk_ => XS.dmulS X.here hx rfl (hb hby d4_19) rfl (e_u4 ▸ d_u4.noNaN) e_u4.symm kk_) ?_
  show Go p.tables e below (T.setTop (mkF m 20 #[.val (.ref a1), .val (.double x2), .second, .val (.double x3), .second, .val (.double x4), .second, .val (.long q5), .second] [(.double u4), (.double u3)])) _
  obtain ⟨u5, e_u5⟩ : ∃ z, z = FP.dadd u3 u4 := ⟨_, rfl⟩
  have d_u5 : Dy (w2 * v2 + w3 * v3 + w4 * v4) 0 u5 := by rw [e_u5]; exact d_u3.add d_u4 (by omega) (by decide) (by decide)
  refine Go.by (fun tt_ kk_ => XS.daddS X.here hx rfl (hb hby d4_20) rfl (e_u5 ▸ d_u5.noNaN) e_u5.symm kk_) ?_
  show Go p.tables e below (T.setTop (mkF m 21 #[.val (.ref a1), .val (.double x2), .second, .val (.double x3), .second, .val (.double x4), .second, .val (.long q5), .second] [(.double u5)])) _
  refine Go.by (fun tt_ kk_ => XS.aloadN X.here hx rfl (hb hby d4_21) rfl rfl kk_) ?_
  show Go p.tables e below (T.setTop (mkF m 22 #[.val (.ref a1), .val (.double x2), .second, .val (.double x3), .second, .val (.double x4), .second, .val (.long q5), .second] [(.ref a1), (.double u5)])) _
  obtain ⟨T, X, eT, st⟩ := getF X hx hZ hown (host := "") (Or.inl (hw _ (List.mem_of_getElem? (i := 25) rfl))) Via.refl eT F_queue_a1 (g := (mkF m 22 #[.val (.ref a1), .val (.double x2), .second, .val (.double x3), .second, .val (.double x4), .second, .val (.long q5), .second] [(.ref a1), (.double u5)])) rfl rfl (hb hby d4_22)
  refine Go.by st ?_
  show Go p.tables e below (T.setTop (mkF m 25 #[.val (.ref a1), .val (.double x2), .second, .val (.double x3), .second, .val (.double x4), .second, .val (.long q5), .second] [(.double y5), (.double u5)])) _
  refine Go.by (fun tt_ kk_ => XS.lload X.here hx rfl (hb hby d4_25) rfl kk_) ?_
  show Go p.tables e below (T.setTop (mkF m 27 #[.val (.ref a1), .val (.double x2), .second, .val (.double x3), .second, .val (.double x4), .second, .val (.long q5), .second] [(.long q5), (.double y5), (.double u5)])) _
  refine Go.by (fun tt_ kk_ => XS.l2dS X.here hx rfl (hb hby d4_27) rfl rfl kk_) ?_
  show Go p.tables e below (T.setTop (mkF m 28 #[.val (.ref a1), .val (.double x2), .second, .val (.double x3), .second, .val (.double x4), .second, .val (.long q5), .second] [(.double (FP.l2d q5)), (.double y5), (.double u5)])) _
  obtain ⟨u6, e_u6⟩ : ∃ z, z = FP.dmul y5 (FP.l2d q5) := ⟨_, rfl⟩
  have d_u6 : Dy (w5 * v5) 0 u6 := by rw [e_u6]; exact d5.mul t5 (by omega) (by decide) (by decide)
  refine Go.by (fun tt_ kk_ => XS.dmulS X.here hx rfl (hb hby d4_28) rfl (e_u6 ▸ d_u6.noNaN) e_u6.symm kk_) ?_
  show Go p.tables e below (T.setTop (mkF m 29 #[.val (.ref a1), .val (.double x2), .second, .val (.double x3), .second, .val (.double x4), .second, .val (.long q5), .second] [(.double u6), (.double u5)])) _
  obtain ⟨u7, e_u7⟩ : ∃ z, z = FP.dadd u5 u6 := ⟨_, rfl⟩
  have d_u7 : Dy (w2 * v2 + w3 * v3 + w4 * v4 + w5 * v5) 0 u7 := by rw [e_u7]; exact d_u5.add d_u6 (by omega) (by decide) (by decide)
  refine Go.by (fun tt_ kk_ => XS.daddS X.here hx rfl (hb hby d4_29) rfl (e_u7 ▸ d_u7.noNaN) e_u7.symm kk_) ?_
  show Go p.tables e below (T.setTop (mkF m 30 #[.val (.ref a1), .val (.double x2), .second, .val (.double x3), .second, .val (.double x4), .second, .val (.long q5), .second] [(.double u7)])) _
  exact Go.done X  (v := some (.double u7)) (fun h => by rw [Bd.returns] at h; cases h) Bd.notSynchronized (fun fs hr => retOut X hx Bd.returns rfl (by simp [Value.isRef, FieldType.isReference]) (hb hby d4_30) hr) (by rw [eT]; exact ⟨u7, rfl, N, d_u7, rfl⟩) (by decide) (by decide)
theorem pn_2 : plainName "com/example/bogong/bogong/network/ProfileCostPinLaw" = true := by first | (simp [plainName, overriddenIn]; done) | decide +kernel
theorem pd_1 : parseMethodDescriptor "(DDDDD)V" = some ⟨[.double, .double, .double, .double, .double], none⟩ := by decide +kernel
theorem pd_2 : parseMethodDescriptor "(DDDJ)D" = some ⟨[.double, .double, .double, .long], some .double⟩ := by decide +kernel
theorem ef_0 (m : MethodId) (x0 : Int32) (x1 : Int32) (x2 : Int32) (x3 : Int64) (x4 : Int32) : entryFrame m #[(.int x0), (.int x1), (.int x2), (.long x3), (.int x4)] maxLocals = mkF m 0 #[.val (.int x0), .val (.int x1), .val (.int x2), .val (.long x3), .second, .val (.int x4), .unset, .unset, .unset, .unset, .unset, .unset, .unset, .unset, .unset, .unset, .unset, .unset, .unset, .unset, .unset, .unset, .unset, .unset, .unset, .unset, .unset, .unset, .unset] [] := by first | (simp [entryFrame, mkF, argsToLocals, Value.category, maxLocals]; done) | rfl
def Q0 (Z : State) (p0 : Int32) (p1 : Int32) (p2 : Int32) (q3 : Int64) (p4 : Int32)  (h0 : Heap) (n0 : Nat) (v : Option Value) (h : Heap) (L : List Loc) : Prop := v = some (.int 1) ∧ Fr n0 L
set_option maxRecDepth 65536 in
set_option maxHeartbeats 40000000 in
theorem rm0 (l : Launch) (Z : State) (a0 : Array Value) (hw : ∀ d ∈ tables_1, d.before a0 Z = true) (ws : List Jvm.Cond) (p0 : Int32) (p1 : Int32) (p2 : Int32) (q3 : Int64) (p4 : Int32)  (h0 : Heap) (n0 : Nat) (Z0 : n0 ≤ h0.size)  :
    MetFree l x (head1 (Jvm.Cond.code x code maxLocals ret :: ws) room_1) (fun a U => a = #[(.int p0), (.int p1), (.int p2), (.long q3), (.int p4)] ∧ Z.Warmed39 U.vm ∧ U.heap = h0) (fun _ _ _ _ _ => True) (fun _ U o U' => ∃ v L, o = .returned v ∧ Q0 Z p0 p1 p2 q3 p4 h0 n0 v U'.heap L ∧ FrameEnd U o U' L 16 128) := by
  refine MetFree.of_bodySF (plainFor_of_name pn_2) hisR ?_
  intro p e s m args below meth c s₁ Bd hml0 hP hK
  obtain ⟨rfl, hZ, hh⟩ := hP
  have hx := Bd.exec
  have hby := Bd.bytes
  have hml : c.maxLocals = 29 := hml0
  have hown : s.vm.findClass "com/example/bogong/bogong/network/ProfileCostPinLaw" = some m.cls := findClass_of_methodNamed Bd.named
  have hnm := (name_of_methodNamed Bd.named Bd.method).1
  have X : Stand p l e room_1 s m #[(.int p0), (.int p1), (.int p2), (.long q3), (.int p4)] below meth c s₁ [] 0 0 := Stand.of_body Bd
  have eT : s₁.heap = h0 := by rw [← hh, Bd.state]; rfl
  have N := Fr.nil n0
  have K := Keep.refl h0 []
  refine Go.out ?_
  obtain ⟨T, eTT⟩ : ∃ z, z = s₁ := ⟨_, rfl⟩
  rw [← eTT] at X eT ⊢
  refine Go.by (fun tt_ kk_ => castTop (ef_0 m p0 p1 p2 q3 p4) kk_) ?_
  show Go p.tables e below (T.setTop (mkF m 0 #[.val (.int p0), .val (.int p1), .val (.int p2), .val (.long q3), .second, .val (.int p4), .unset, .unset, .unset, .unset, .unset, .unset, .unset, .unset, .unset, .unset, .unset, .unset, .unset, .unset, .unset, .unset, .unset, .unset, .unset, .unset, .unset, .unset, .unset] [])) _
  refine Go.by (fun tt_ kk_ => XS.iloadN X.here hx rfl (hb hby at_0) rfl kk_) ?_
  show Go p.tables e below (T.setTop (mkF m 1 #[.val (.int p0), .val (.int p1), .val (.int p2), .val (.long q3), .second, .val (.int p4), .unset, .unset, .unset, .unset, .unset, .unset, .unset, .unset, .unset, .unset, .unset, .unset, .unset, .unset, .unset, .unset, .unset, .unset, .unset, .unset, .unset, .unset, .unset] [(.int p0)])) _
  refine Go.by (fun tt_ kk_ => XS.sipush X.here hx rfl (hb hby at_1) kk_) ?_
  show Go p.tables e below (T.setTop (mkF m 4 #[.val (.int p0), .val (.int p1), .val (.int p2), .val (.long q3), .second, .val (.int p4), .unset, .unset, .unset, .unset, .unset, .unset, .unset, .unset, .unset, .unset, .unset, .unset, .unset, .unset, .unset, .unset, .unset, .unset, .unset, .unset, .unset, .unset, .unset] [(.int (1023 : Int32)), (.int p0)])) _
  refine Go.by (fun tt_ kk_ => XS.iand X.here hx rfl (hb hby at_4) rfl kk_) ?_
  show Go p.tables e below (T.setTop (mkF m 5 #[.val (.int p0), .val (.int p1), .val (.int p2), .val (.long q3), .second, .val (.int p4), .unset, .unset, .unset, .unset, .unset, .unset, .unset, .unset, .unset, .unset, .unset, .unset, .unset, .unset, .unset, .unset, .unset, .unset, .unset, .unset, .unset, .unset, .unset] [(.int (p0 &&& (1023 : Int32)))])) _
  refine Go.by (fun tt_ kk_ => XS.i2l X.here hx rfl (hb hby at_5) rfl kk_) ?_
  show Go p.tables e below (T.setTop (mkF m 6 #[.val (.int p0), .val (.int p1), .val (.int p2), .val (.long q3), .second, .val (.int p4), .unset, .unset, .unset, .unset, .unset, .unset, .unset, .unset, .unset, .unset, .unset, .unset, .unset, .unset, .unset, .unset, .unset, .unset, .unset, .unset, .unset, .unset, .unset] [(.long ((p0 &&& (1023 : Int32)).toInt64))])) _
  obtain ⟨tw, e_tw⟩ : ∃ z, z = ((p0 &&& (1023 : Int32)).toInt64) := ⟨_, rfl⟩
  rw [← e_tw]
  show Go p.tables e below (T.setTop (mkF m 6 #[.val (.int p0), .val (.int p1), .val (.int p2), .val (.long q3), .second, .val (.int p4), .unset, .unset, .unset, .unset, .unset, .unset, .unset, .unset, .unset, .unset, .unset, .unset, .unset, .unset, .unset, .unset, .unset, .unset, .unset, .unset, .unset, .unset, .unset] [(.long tw)])) _
  have b_tw : 0 ≤ tw.toInt ∧ tw.toInt ≤ 1023 := by rw [e_tw, own_i2l]; exact own_and (K := 1023) (by decide) (by decide)
  refine Go.by (fun tt_ kk_ => XS.lstore X.here hx rfl (hb hby at_6) rfl (l' := #[.val (.int p0), .val (.int p1), .val (.int p2), .val (.long q3), .second, .val (.int p4), .val (.long tw), .second, .unset, .unset, .unset, .unset, .unset, .unset, .unset, .unset, .unset, .unset, .unset, .unset, .unset, .unset, .unset, .unset, .unset, .unset, .unset, .unset, .unset]) rfl kk_) ?_
  show Go p.tables e below (T.setTop (mkF m 8 #[.val (.int p0), .val (.int p1), .val (.int p2), .val (.long q3), .second, .val (.int p4), .val (.long tw), .second, .unset, .unset, .unset, .unset, .unset, .unset, .unset, .unset, .unset, .unset, .unset, .unset, .unset, .unset, .unset, .unset, .unset, .unset, .unset, .unset, .unset] [])) _
  refine Go.by (fun tt_ kk_ => XS.iloadN X.here hx rfl (hb hby at_8) rfl kk_) ?_
  show Go p.tables e below (T.setTop (mkF m 9 #[.val (.int p0), .val (.int p1), .val (.int p2), .val (.long q3), .second, .val (.int p4), .val (.long tw), .second, .unset, .unset, .unset, .unset, .unset, .unset, .unset, .unset, .unset, .unset, .unset, .unset, .unset, .unset, .unset, .unset, .unset, .unset, .unset, .unset, .unset] [(.int p0)])) _
  refine Go.by (fun tt_ kk_ => XS.bipush X.here hx rfl (hb hby at_9) kk_) ?_
  show Go p.tables e below (T.setTop (mkF m 11 #[.val (.int p0), .val (.int p1), .val (.int p2), .val (.long q3), .second, .val (.int p4), .val (.long tw), .second, .unset, .unset, .unset, .unset, .unset, .unset, .unset, .unset, .unset, .unset, .unset, .unset, .unset, .unset, .unset, .unset, .unset, .unset, .unset, .unset, .unset] [(.int (16 : Int32)), (.int p0)])) _
  refine Go.by (fun tt_ kk_ => XS.ishr X.here hx rfl (hb hby at_11) rfl kk_) ?_
  show Go p.tables e below (T.setTop (mkF m 12 #[.val (.int p0), .val (.int p1), .val (.int p2), .val (.long q3), .second, .val (.int p4), .val (.long tw), .second, .unset, .unset, .unset, .unset, .unset, .unset, .unset, .unset, .unset, .unset, .unset, .unset, .unset, .unset, .unset, .unset, .unset, .unset, .unset, .unset, .unset] [(.int (p0 >>> ((16 : Int32) &&& 31)))])) _
  refine Go.by (fun tt_ kk_ => XS.i2l X.here hx rfl (hb hby at_12) rfl kk_) ?_
  show Go p.tables e below (T.setTop (mkF m 13 #[.val (.int p0), .val (.int p1), .val (.int p2), .val (.long q3), .second, .val (.int p4), .val (.long tw), .second, .unset, .unset, .unset, .unset, .unset, .unset, .unset, .unset, .unset, .unset, .unset, .unset, .unset, .unset, .unset, .unset, .unset, .unset, .unset, .unset, .unset] [(.long ((p0 >>> ((16 : Int32) &&& 31)).toInt64))])) _
  obtain ⟨tm, e_tm⟩ : ∃ z, z = ((p0 >>> ((16 : Int32) &&& 31)).toInt64) := ⟨_, rfl⟩
  rw [← e_tm]
  show Go p.tables e below (T.setTop (mkF m 13 #[.val (.int p0), .val (.int p1), .val (.int p2), .val (.long q3), .second, .val (.int p4), .val (.long tw), .second, .unset, .unset, .unset, .unset, .unset, .unset, .unset, .unset, .unset, .unset, .unset, .unset, .unset, .unset, .unset, .unset, .unset, .unset, .unset, .unset, .unset] [(.long tm)])) _
  have b_tm : -32768 ≤ tm.toInt ∧ tm.toInt ≤ 32767 := by
    rw [e_tm, own_i2l, Jvm.Kit.i32_shr (k := 16) _ _ (by decide)]
    have := Int32.toInt_lt p0; have := Int32.le_toInt p0; omega
  refine Go.by (fun tt_ kk_ => XS.lstore X.here hx rfl (hb hby at_13) rfl (l' := #[.val (.int p0), .val (.int p1), .val (.int p2), .val (.long q3), .second, .val (.int p4), .val (.long tw), .second, .val (.long tm), .second, .unset, .unset, .unset, .unset, .unset, .unset, .unset, .unset, .unset, .unset, .unset, .unset, .unset, .unset, .unset, .unset, .unset, .unset, .unset]) rfl kk_) ?_
  show Go p.tables e below (T.setTop (mkF m 15 #[.val (.int p0), .val (.int p1), .val (.int p2), .val (.long q3), .second, .val (.int p4), .val (.long tw), .second, .val (.long tm), .second, .unset, .unset, .unset, .unset, .unset, .unset, .unset, .unset, .unset, .unset, .unset, .unset, .unset, .unset, .unset, .unset, .unset, .unset, .unset] [])) _
  refine Go.by (fun tt_ kk_ => XS.iloadN X.here hx rfl (hb hby at_15) rfl kk_) ?_
  show Go p.tables e below (T.setTop (mkF m 16 #[.val (.int p0), .val (.int p1), .val (.int p2), .val (.long q3), .second, .val (.int p4), .val (.long tw), .second, .val (.long tm), .second, .unset, .unset, .unset, .unset, .unset, .unset, .unset, .unset, .unset, .unset, .unset, .unset, .unset, .unset, .unset, .unset, .unset, .unset, .unset] [(.int p1)])) _
  refine Go.by (fun tt_ kk_ => XS.sipush X.here hx rfl (hb hby at_16) kk_) ?_
  show Go p.tables e below (T.setTop (mkF m 19 #[.val (.int p0), .val (.int p1), .val (.int p2), .val (.long q3), .second, .val (.int p4), .val (.long tw), .second, .val (.long tm), .second, .unset, .unset, .unset, .unset, .unset, .unset, .unset, .unset, .unset, .unset, .unset, .unset, .unset, .unset, .unset, .unset, .unset, .unset, .unset] [(.int (1023 : Int32)), (.int p1)])) _
  refine Go.by (fun tt_ kk_ => XS.iand X.here hx rfl (hb hby at_19) rfl kk_) ?_
  show Go p.tables e below (T.setTop (mkF m 20 #[.val (.int p0), .val (.int p1), .val (.int p2), .val (.long q3), .second, .val (.int p4), .val (.long tw), .second, .val (.long tm), .second, .unset, .unset, .unset, .unset, .unset, .unset, .unset, .unset, .unset, .unset, .unset, .unset, .unset, .unset, .unset, .unset, .unset, .unset, .unset] [(.int (p1 &&& (1023 : Int32)))])) _
  refine Go.by (fun tt_ kk_ => XS.i2l X.here hx rfl (hb hby at_20) rfl kk_) ?_
  show Go p.tables e below (T.setTop (mkF m 21 #[.val (.int p0), .val (.int p1), .val (.int p2), .val (.long q3), .second, .val (.int p4), .val (.long tw), .second, .val (.long tm), .second, .unset, .unset, .unset, .unset, .unset, .unset, .unset, .unset, .unset, .unset, .unset, .unset, .unset, .unset, .unset, .unset, .unset, .unset, .unset] [(.long ((p1 &&& (1023 : Int32)).toInt64))])) _
  obtain ⟨ow, e_ow⟩ : ∃ z, z = ((p1 &&& (1023 : Int32)).toInt64) := ⟨_, rfl⟩
  rw [← e_ow]
  show Go p.tables e below (T.setTop (mkF m 21 #[.val (.int p0), .val (.int p1), .val (.int p2), .val (.long q3), .second, .val (.int p4), .val (.long tw), .second, .val (.long tm), .second, .unset, .unset, .unset, .unset, .unset, .unset, .unset, .unset, .unset, .unset, .unset, .unset, .unset, .unset, .unset, .unset, .unset, .unset, .unset] [(.long ow)])) _
  have b_ow : 0 ≤ ow.toInt ∧ ow.toInt ≤ 1023 := by rw [e_ow, own_i2l]; exact own_and (K := 1023) (by decide) (by decide)
  refine Go.by (fun tt_ kk_ => XS.lstore X.here hx rfl (hb hby at_21) rfl (l' := #[.val (.int p0), .val (.int p1), .val (.int p2), .val (.long q3), .second, .val (.int p4), .val (.long tw), .second, .val (.long tm), .second, .val (.long ow), .second, .unset, .unset, .unset, .unset, .unset, .unset, .unset, .unset, .unset, .unset, .unset, .unset, .unset, .unset, .unset, .unset, .unset]) rfl kk_) ?_
  show Go p.tables e below (T.setTop (mkF m 23 #[.val (.int p0), .val (.int p1), .val (.int p2), .val (.long q3), .second, .val (.int p4), .val (.long tw), .second, .val (.long tm), .second, .val (.long ow), .second, .unset, .unset, .unset, .unset, .unset, .unset, .unset, .unset, .unset, .unset, .unset, .unset, .unset, .unset, .unset, .unset, .unset] [])) _
  refine Go.by (fun tt_ kk_ => XS.iloadN X.here hx rfl (hb hby at_23) rfl kk_) ?_
  show Go p.tables e below (T.setTop (mkF m 24 #[.val (.int p0), .val (.int p1), .val (.int p2), .val (.long q3), .second, .val (.int p4), .val (.long tw), .second, .val (.long tm), .second, .val (.long ow), .second, .unset, .unset, .unset, .unset, .unset, .unset, .unset, .unset, .unset, .unset, .unset, .unset, .unset, .unset, .unset, .unset, .unset] [(.int p1)])) _
  refine Go.by (fun tt_ kk_ => XS.bipush X.here hx rfl (hb hby at_24) kk_) ?_
  show Go p.tables e below (T.setTop (mkF m 26 #[.val (.int p0), .val (.int p1), .val (.int p2), .val (.long q3), .second, .val (.int p4), .val (.long tw), .second, .val (.long tm), .second, .val (.long ow), .second, .unset, .unset, .unset, .unset, .unset, .unset, .unset, .unset, .unset, .unset, .unset, .unset, .unset, .unset, .unset, .unset, .unset] [(.int (16 : Int32)), (.int p1)])) _
  refine Go.by (fun tt_ kk_ => XS.ishr X.here hx rfl (hb hby at_26) rfl kk_) ?_
  show Go p.tables e below (T.setTop (mkF m 27 #[.val (.int p0), .val (.int p1), .val (.int p2), .val (.long q3), .second, .val (.int p4), .val (.long tw), .second, .val (.long tm), .second, .val (.long ow), .second, .unset, .unset, .unset, .unset, .unset, .unset, .unset, .unset, .unset, .unset, .unset, .unset, .unset, .unset, .unset, .unset, .unset] [(.int (p1 >>> ((16 : Int32) &&& 31)))])) _
  refine Go.by (fun tt_ kk_ => XS.i2l X.here hx rfl (hb hby at_27) rfl kk_) ?_
  show Go p.tables e below (T.setTop (mkF m 28 #[.val (.int p0), .val (.int p1), .val (.int p2), .val (.long q3), .second, .val (.int p4), .val (.long tw), .second, .val (.long tm), .second, .val (.long ow), .second, .unset, .unset, .unset, .unset, .unset, .unset, .unset, .unset, .unset, .unset, .unset, .unset, .unset, .unset, .unset, .unset, .unset] [(.long ((p1 >>> ((16 : Int32) &&& 31)).toInt64))])) _
  obtain ⟨op, e_op⟩ : ∃ z, z = ((p1 >>> ((16 : Int32) &&& 31)).toInt64) := ⟨_, rfl⟩
  rw [← e_op]
  show Go p.tables e below (T.setTop (mkF m 28 #[.val (.int p0), .val (.int p1), .val (.int p2), .val (.long q3), .second, .val (.int p4), .val (.long tw), .second, .val (.long tm), .second, .val (.long ow), .second, .unset, .unset, .unset, .unset, .unset, .unset, .unset, .unset, .unset, .unset, .unset, .unset, .unset, .unset, .unset, .unset, .unset] [(.long op)])) _
  have b_op : -32768 ≤ op.toInt ∧ op.toInt ≤ 32767 := by
    rw [e_op, own_i2l, Jvm.Kit.i32_shr (k := 16) _ _ (by decide)]
    have := Int32.toInt_lt p1; have := Int32.le_toInt p1; omega
  refine Go.by (fun tt_ kk_ => XS.lstore X.here hx rfl (hb hby at_28) rfl (l' := #[.val (.int p0), .val (.int p1), .val (.int p2), .val (.long q3), .second, .val (.int p4), .val (.long tw), .second, .val (.long tm), .second, .val (.long ow), .second, .val (.long op), .second, .unset, .unset, .unset, .unset, .unset, .unset, .unset, .unset, .unset, .unset, .unset, .unset, .unset, .unset, .unset]) rfl kk_) ?_
  show Go p.tables e below (T.setTop (mkF m 30 #[.val (.int p0), .val (.int p1), .val (.int p2), .val (.long q3), .second, .val (.int p4), .val (.long tw), .second, .val (.long tm), .second, .val (.long ow), .second, .val (.long op), .second, .unset, .unset, .unset, .unset, .unset, .unset, .unset, .unset, .unset, .unset, .unset, .unset, .unset, .unset, .unset] [])) _
  refine Go.by (fun tt_ kk_ => XS.iloadN X.here hx rfl (hb hby at_30) rfl kk_) ?_
  show Go p.tables e below (T.setTop (mkF m 31 #[.val (.int p0), .val (.int p1), .val (.int p2), .val (.long q3), .second, .val (.int p4), .val (.long tw), .second, .val (.long tm), .second, .val (.long ow), .second, .val (.long op), .second, .unset, .unset, .unset, .unset, .unset, .unset, .unset, .unset, .unset, .unset, .unset, .unset, .unset, .unset, .unset] [(.int p2)])) _
  refine Go.by (fun tt_ kk_ => XS.sipush X.here hx rfl (hb hby at_31) kk_) ?_
  show Go p.tables e below (T.setTop (mkF m 34 #[.val (.int p0), .val (.int p1), .val (.int p2), .val (.long q3), .second, .val (.int p4), .val (.long tw), .second, .val (.long tm), .second, .val (.long ow), .second, .val (.long op), .second, .unset, .unset, .unset, .unset, .unset, .unset, .unset, .unset, .unset, .unset, .unset, .unset, .unset, .unset, .unset] [(.int (1023 : Int32)), (.int p2)])) _
  refine Go.by (fun tt_ kk_ => XS.iand X.here hx rfl (hb hby at_34) rfl kk_) ?_
  show Go p.tables e below (T.setTop (mkF m 35 #[.val (.int p0), .val (.int p1), .val (.int p2), .val (.long q3), .second, .val (.int p4), .val (.long tw), .second, .val (.long tm), .second, .val (.long ow), .second, .val (.long op), .second, .unset, .unset, .unset, .unset, .unset, .unset, .unset, .unset, .unset, .unset, .unset, .unset, .unset, .unset, .unset] [(.int (p2 &&& (1023 : Int32)))])) _
  refine Go.by (fun tt_ kk_ => XS.i2l X.here hx rfl (hb hby at_35) rfl kk_) ?_
  show Go p.tables e below (T.setTop (mkF m 36 #[.val (.int p0), .val (.int p1), .val (.int p2), .val (.long q3), .second, .val (.int p4), .val (.long tw), .second, .val (.long tm), .second, .val (.long ow), .second, .val (.long op), .second, .unset, .unset, .unset, .unset, .unset, .unset, .unset, .unset, .unset, .unset, .unset, .unset, .unset, .unset, .unset] [(.long ((p2 &&& (1023 : Int32)).toInt64))])) _
  obtain ⟨nw, e_nw⟩ : ∃ z, z = ((p2 &&& (1023 : Int32)).toInt64) := ⟨_, rfl⟩
  rw [← e_nw]
  show Go p.tables e below (T.setTop (mkF m 36 #[.val (.int p0), .val (.int p1), .val (.int p2), .val (.long q3), .second, .val (.int p4), .val (.long tw), .second, .val (.long tm), .second, .val (.long ow), .second, .val (.long op), .second, .unset, .unset, .unset, .unset, .unset, .unset, .unset, .unset, .unset, .unset, .unset, .unset, .unset, .unset, .unset] [(.long nw)])) _
  have b_nw : 0 ≤ nw.toInt ∧ nw.toInt ≤ 1023 := by rw [e_nw, own_i2l]; exact own_and (K := 1023) (by decide) (by decide)
  refine Go.by (fun tt_ kk_ => XS.lstore X.here hx rfl (hb hby at_36) rfl (l' := #[.val (.int p0), .val (.int p1), .val (.int p2), .val (.long q3), .second, .val (.int p4), .val (.long tw), .second, .val (.long tm), .second, .val (.long ow), .second, .val (.long op), .second, .val (.long nw), .second, .unset, .unset, .unset, .unset, .unset, .unset, .unset, .unset, .unset, .unset, .unset, .unset, .unset]) rfl kk_) ?_
  show Go p.tables e below (T.setTop (mkF m 38 #[.val (.int p0), .val (.int p1), .val (.int p2), .val (.long q3), .second, .val (.int p4), .val (.long tw), .second, .val (.long tm), .second, .val (.long ow), .second, .val (.long op), .second, .val (.long nw), .second, .unset, .unset, .unset, .unset, .unset, .unset, .unset, .unset, .unset, .unset, .unset, .unset, .unset] [])) _
  refine Go.by (fun tt_ kk_ => XS.iloadN X.here hx rfl (hb hby at_38) rfl kk_) ?_
  show Go p.tables e below (T.setTop (mkF m 39 #[.val (.int p0), .val (.int p1), .val (.int p2), .val (.long q3), .second, .val (.int p4), .val (.long tw), .second, .val (.long tm), .second, .val (.long ow), .second, .val (.long op), .second, .val (.long nw), .second, .unset, .unset, .unset, .unset, .unset, .unset, .unset, .unset, .unset, .unset, .unset, .unset, .unset] [(.int p2)])) _
  refine Go.by (fun tt_ kk_ => XS.bipush X.here hx rfl (hb hby at_39) kk_) ?_
  show Go p.tables e below (T.setTop (mkF m 41 #[.val (.int p0), .val (.int p1), .val (.int p2), .val (.long q3), .second, .val (.int p4), .val (.long tw), .second, .val (.long tm), .second, .val (.long ow), .second, .val (.long op), .second, .val (.long nw), .second, .unset, .unset, .unset, .unset, .unset, .unset, .unset, .unset, .unset, .unset, .unset, .unset, .unset] [(.int (16 : Int32)), (.int p2)])) _
  refine Go.by (fun tt_ kk_ => XS.ishr X.here hx rfl (hb hby at_41) rfl kk_) ?_
  show Go p.tables e below (T.setTop (mkF m 42 #[.val (.int p0), .val (.int p1), .val (.int p2), .val (.long q3), .second, .val (.int p4), .val (.long tw), .second, .val (.long tm), .second, .val (.long ow), .second, .val (.long op), .second, .val (.long nw), .second, .unset, .unset, .unset, .unset, .unset, .unset, .unset, .unset, .unset, .unset, .unset, .unset, .unset] [(.int (p2 >>> ((16 : Int32) &&& 31)))])) _
  refine Go.by (fun tt_ kk_ => XS.i2l X.here hx rfl (hb hby at_42) rfl kk_) ?_
  show Go p.tables e below (T.setTop (mkF m 43 #[.val (.int p0), .val (.int p1), .val (.int p2), .val (.long q3), .second, .val (.int p4), .val (.long tw), .second, .val (.long tm), .second, .val (.long ow), .second, .val (.long op), .second, .val (.long nw), .second, .unset, .unset, .unset, .unset, .unset, .unset, .unset, .unset, .unset, .unset, .unset, .unset, .unset] [(.long ((p2 >>> ((16 : Int32) &&& 31)).toInt64))])) _
  obtain ⟨na, e_na⟩ : ∃ z, z = ((p2 >>> ((16 : Int32) &&& 31)).toInt64) := ⟨_, rfl⟩
  rw [← e_na]
  show Go p.tables e below (T.setTop (mkF m 43 #[.val (.int p0), .val (.int p1), .val (.int p2), .val (.long q3), .second, .val (.int p4), .val (.long tw), .second, .val (.long tm), .second, .val (.long ow), .second, .val (.long op), .second, .val (.long nw), .second, .unset, .unset, .unset, .unset, .unset, .unset, .unset, .unset, .unset, .unset, .unset, .unset, .unset] [(.long na)])) _
  have b_na : -32768 ≤ na.toInt ∧ na.toInt ≤ 32767 := by
    rw [e_na, own_i2l, Jvm.Kit.i32_shr (k := 16) _ _ (by decide)]
    have := Int32.toInt_lt p2; have := Int32.le_toInt p2; omega
  refine Go.by (fun tt_ kk_ => XS.lstore X.here hx rfl (hb hby at_43) rfl (l' := #[.val (.int p0), .val (.int p1), .val (.int p2), .val (.long q3), .second, .val (.int p4), .val (.long tw), .second, .val (.long tm), .second, .val (.long ow), .second, .val (.long op), .second, .val (.long nw), .second, .val (.long na), .second, .unset, .unset, .unset, .unset, .unset, .unset, .unset, .unset, .unset, .unset, .unset]) rfl kk_) ?_
  show Go p.tables e below (T.setTop (mkF m 45 #[.val (.int p0), .val (.int p1), .val (.int p2), .val (.long q3), .second, .val (.int p4), .val (.long tw), .second, .val (.long tm), .second, .val (.long ow), .second, .val (.long op), .second, .val (.long nw), .second, .val (.long na), .second, .unset, .unset, .unset, .unset, .unset, .unset, .unset, .unset, .unset, .unset, .unset] [])) _
  refine Go.by (fun tt_ kk_ => XS.lloadN X.here hx rfl (hb hby at_45) rfl kk_) ?_
  show Go p.tables e below (T.setTop (mkF m 46 #[.val (.int p0), .val (.int p1), .val (.int p2), .val (.long q3), .second, .val (.int p4), .val (.long tw), .second, .val (.long tm), .second, .val (.long ow), .second, .val (.long op), .second, .val (.long nw), .second, .val (.long na), .second, .unset, .unset, .unset, .unset, .unset, .unset, .unset, .unset, .unset, .unset, .unset] [(.long q3)])) _
  refine Go.by (X.ldc2Long hx hown (mvT hZ (hw _ (List.mem_of_getElem? (i := 0) rfl))) (g := (mkF m 46 #[.val (.int p0), .val (.int p1), .val (.int p2), .val (.long q3), .second, .val (.int p4), .val (.long tw), .second, .val (.long tm), .second, .val (.long ow), .second, .val (.long op), .second, .val (.long nw), .second, .val (.long na), .second, .unset, .unset, .unset, .unset, .unset, .unset, .unset, .unset, .unset, .unset, .unset] [(.long q3)])) rfl (hb hby at_46)) ?_
  show Go p.tables e below (T.setTop (mkF m 49 #[.val (.int p0), .val (.int p1), .val (.int p2), .val (.long q3), .second, .val (.int p4), .val (.long tw), .second, .val (.long tm), .second, .val (.long ow), .second, .val (.long op), .second, .val (.long nw), .second, .val (.long na), .second, .unset, .unset, .unset, .unset, .unset, .unset, .unset, .unset, .unset, .unset, .unset] [(.long (1023 : Int64)), (.long q3)])) _
  refine Go.by (fun tt_ kk_ => XS.land X.here hx rfl (hb hby at_49) rfl kk_) ?_
  show Go p.tables e below (T.setTop (mkF m 50 #[.val (.int p0), .val (.int p1), .val (.int p2), .val (.long q3), .second, .val (.int p4), .val (.long tw), .second, .val (.long tm), .second, .val (.long ow), .second, .val (.long op), .second, .val (.long nw), .second, .val (.long na), .second, .unset, .unset, .unset, .unset, .unset, .unset, .unset, .unset, .unset, .unset, .unset] [(.long (q3 &&& (1023 : Int64)))])) _
  obtain ⟨qw, e_qw⟩ : ∃ z, z = (q3 &&& (1023 : Int64)) := ⟨_, rfl⟩
  rw [← e_qw]
  show Go p.tables e below (T.setTop (mkF m 50 #[.val (.int p0), .val (.int p1), .val (.int p2), .val (.long q3), .second, .val (.int p4), .val (.long tw), .second, .val (.long tm), .second, .val (.long ow), .second, .val (.long op), .second, .val (.long nw), .second, .val (.long na), .second, .unset, .unset, .unset, .unset, .unset, .unset, .unset, .unset, .unset, .unset, .unset] [(.long qw)])) _
  have b_qw : 0 ≤ qw.toInt ∧ qw.toInt ≤ 1023 := by rw [e_qw, Jvm.Kit.i64_mask (k := 10) _ _ (by decide) (by decide)]; omega
  refine Go.by (fun tt_ kk_ => XS.lstore X.here hx rfl (hb hby at_50) rfl (l' := #[.val (.int p0), .val (.int p1), .val (.int p2), .val (.long q3), .second, .val (.int p4), .val (.long tw), .second, .val (.long tm), .second, .val (.long ow), .second, .val (.long op), .second, .val (.long nw), .second, .val (.long na), .second, .val (.long qw), .second, .unset, .unset, .unset, .unset, .unset, .unset, .unset, .unset, .unset]) rfl kk_) ?_
  show Go p.tables e below (T.setTop (mkF m 52 #[.val (.int p0), .val (.int p1), .val (.int p2), .val (.long q3), .second, .val (.int p4), .val (.long tw), .second, .val (.long tm), .second, .val (.long ow), .second, .val (.long op), .second, .val (.long nw), .second, .val (.long na), .second, .val (.long qw), .second, .unset, .unset, .unset, .unset, .unset, .unset, .unset, .unset, .unset] [])) _
  refine Go.by (fun tt_ kk_ => XS.lloadN X.here hx rfl (hb hby at_52) rfl kk_) ?_
  show Go p.tables e below (T.setTop (mkF m 53 #[.val (.int p0), .val (.int p1), .val (.int p2), .val (.long q3), .second, .val (.int p4), .val (.long tw), .second, .val (.long tm), .second, .val (.long ow), .second, .val (.long op), .second, .val (.long nw), .second, .val (.long na), .second, .val (.long qw), .second, .unset, .unset, .unset, .unset, .unset, .unset, .unset, .unset, .unset] [(.long q3)])) _
  refine Go.by (fun tt_ kk_ => XS.bipush X.here hx rfl (hb hby at_53) kk_) ?_
  show Go p.tables e below (T.setTop (mkF m 55 #[.val (.int p0), .val (.int p1), .val (.int p2), .val (.long q3), .second, .val (.int p4), .val (.long tw), .second, .val (.long tm), .second, .val (.long ow), .second, .val (.long op), .second, .val (.long nw), .second, .val (.long na), .second, .val (.long qw), .second, .unset, .unset, .unset, .unset, .unset, .unset, .unset, .unset, .unset] [(.int (24 : Int32)), (.long q3)])) _
  refine Go.by (fun tt_ kk_ => XS.lshr X.here hx rfl (hb hby at_55) rfl kk_) ?_
  show Go p.tables e below (T.setTop (mkF m 56 #[.val (.int p0), .val (.int p1), .val (.int p2), .val (.long q3), .second, .val (.int p4), .val (.long tw), .second, .val (.long tm), .second, .val (.long ow), .second, .val (.long op), .second, .val (.long nw), .second, .val (.long na), .second, .val (.long qw), .second, .unset, .unset, .unset, .unset, .unset, .unset, .unset, .unset, .unset] [(.long (q3 >>> ((24 : Int32) &&& 0x3f).toInt64))])) _
  obtain ⟨wt, e_wt⟩ : ∃ z, z = (q3 >>> ((24 : Int32) &&& 0x3f).toInt64) := ⟨_, rfl⟩
  rw [← e_wt]
  show Go p.tables e below (T.setTop (mkF m 56 #[.val (.int p0), .val (.int p1), .val (.int p2), .val (.long q3), .second, .val (.int p4), .val (.long tw), .second, .val (.long tm), .second, .val (.long ow), .second, .val (.long op), .second, .val (.long nw), .second, .val (.long na), .second, .val (.long qw), .second, .unset, .unset, .unset, .unset, .unset, .unset, .unset, .unset, .unset] [(.long wt)])) _
  have b_wt : -549755813888 ≤ wt.toInt ∧ wt.toInt ≤ 549755813887 := by
    rw [e_wt, Jvm.Kit.i64_shr (k := 24) _ _ (by decide)]
    have := Int64.toInt_lt q3; have := Int64.le_toInt q3; omega
  refine Go.by (fun tt_ kk_ => XS.lstore X.here hx rfl (hb hby at_56) rfl (l' := #[.val (.int p0), .val (.int p1), .val (.int p2), .val (.long q3), .second, .val (.int p4), .val (.long tw), .second, .val (.long tm), .second, .val (.long ow), .second, .val (.long op), .second, .val (.long nw), .second, .val (.long na), .second, .val (.long qw), .second, .val (.long wt), .second, .unset, .unset, .unset, .unset, .unset, .unset, .unset]) rfl kk_) ?_
  show Go p.tables e below (T.setTop (mkF m 58 #[.val (.int p0), .val (.int p1), .val (.int p2), .val (.long q3), .second, .val (.int p4), .val (.long tw), .second, .val (.long tm), .second, .val (.long ow), .second, .val (.long op), .second, .val (.long nw), .second, .val (.long na), .second, .val (.long qw), .second, .val (.long wt), .second, .unset, .unset, .unset, .unset, .unset, .unset, .unset] [])) _
  refine Go.by (fun tt_ kk_ => XS.iload X.here hx rfl (hb hby at_58) rfl kk_) ?_
  show Go p.tables e below (T.setTop (mkF m 60 #[.val (.int p0), .val (.int p1), .val (.int p2), .val (.long q3), .second, .val (.int p4), .val (.long tw), .second, .val (.long tm), .second, .val (.long ow), .second, .val (.long op), .second, .val (.long nw), .second, .val (.long na), .second, .val (.long qw), .second, .val (.long wt), .second, .unset, .unset, .unset, .unset, .unset, .unset, .unset] [(.int p4)])) _
  refine Go.by (fun tt_ kk_ => XS.iconst X.here hx rfl (hb hby at_60) kk_) ?_
  show Go p.tables e below (T.setTop (mkF m 61 #[.val (.int p0), .val (.int p1), .val (.int p2), .val (.long q3), .second, .val (.int p4), .val (.long tw), .second, .val (.long tm), .second, .val (.long ow), .second, .val (.long op), .second, .val (.long nw), .second, .val (.long na), .second, .val (.long qw), .second, .val (.long wt), .second, .unset, .unset, .unset, .unset, .unset, .unset, .unset] [(.int (1 : Int32)), (.int p4)])) _
  refine Go.by (fun tt_ kk_ => XS.iand X.here hx rfl (hb hby at_61) rfl kk_) ?_
  show Go p.tables e below (T.setTop (mkF m 62 #[.val (.int p0), .val (.int p1), .val (.int p2), .val (.long q3), .second, .val (.int p4), .val (.long tw), .second, .val (.long tm), .second, .val (.long ow), .second, .val (.long op), .second, .val (.long nw), .second, .val (.long na), .second, .val (.long qw), .second, .val (.long wt), .second, .unset, .unset, .unset, .unset, .unset, .unset, .unset] [(.int (p4 &&& (1 : Int32)))])) _
  obtain ⟨sh, e_sh⟩ : ∃ z, z = (p4 &&& (1 : Int32)) := ⟨_, rfl⟩
  rw [← e_sh]
  show Go p.tables e below (T.setTop (mkF m 62 #[.val (.int p0), .val (.int p1), .val (.int p2), .val (.long q3), .second, .val (.int p4), .val (.long tw), .second, .val (.long tm), .second, .val (.long ow), .second, .val (.long op), .second, .val (.long nw), .second, .val (.long na), .second, .val (.long qw), .second, .val (.long wt), .second, .unset, .unset, .unset, .unset, .unset, .unset, .unset] [(.int sh)])) _
  have b_sh : 0 ≤ sh.toInt ∧ sh.toInt ≤ 1 := by rw [e_sh]; exact own_and (K := 1) (by decide) (by decide)
  refine Go.by (fun tt_ kk_ => XS.i2dS X.here hx rfl (hb hby at_62) rfl rfl kk_) ?_
  show Go p.tables e below (T.setTop (mkF m 63 #[.val (.int p0), .val (.int p1), .val (.int p2), .val (.long q3), .second, .val (.int p4), .val (.long tw), .second, .val (.long tm), .second, .val (.long ow), .second, .val (.long op), .second, .val (.long nw), .second, .val (.long na), .second, .val (.long qw), .second, .val (.long wt), .second, .unset, .unset, .unset, .unset, .unset, .unset, .unset] [(.double (FP.i2d sh))])) _
  refine Go.by (fun tt_ kk_ => XS.dstore X.here hx rfl (hb hby at_63) rfl (l' := #[.val (.int p0), .val (.int p1), .val (.int p2), .val (.long q3), .second, .val (.int p4), .val (.long tw), .second, .val (.long tm), .second, .val (.long ow), .second, .val (.long op), .second, .val (.long nw), .second, .val (.long na), .second, .val (.long qw), .second, .val (.long wt), .second, .val (.double (FP.i2d sh)), .second, .unset, .unset, .unset, .unset, .unset]) rfl kk_) ?_
  show Go p.tables e below (T.setTop (mkF m 65 #[.val (.int p0), .val (.int p1), .val (.int p2), .val (.long q3), .second, .val (.int p4), .val (.long tw), .second, .val (.long tm), .second, .val (.long ow), .second, .val (.long op), .second, .val (.long nw), .second, .val (.long na), .second, .val (.long qw), .second, .val (.long wt), .second, .val (.double (FP.i2d sh)), .second, .unset, .unset, .unset, .unset, .unset] [])) _
  obtain ⟨T, h1, X, eT, E_, A_, D_, -, st⟩ := newO X hx hZ hown (hw _ (List.mem_of_getElem? (i := 1) rfl)) (hw _ (List.mem_of_getElem? (i := 2) rfl)) (hw _ (List.mem_of_getElem? (i := 3) rfl)) eT (g := (mkF m 65 #[.val (.int p0), .val (.int p1), .val (.int p2), .val (.long q3), .second, .val (.int p4), .val (.long tw), .second, .val (.long tm), .second, .val (.long ow), .second, .val (.long op), .second, .val (.long nw), .second, .val (.long na), .second, .val (.long qw), .second, .val (.long wt), .second, .val (.double (FP.i2d sh)), .second, .unset, .unset, .unset, .unset, .unset] [])) rfl (hb hby at_65) (by decide) (by decide)
  obtain ⟨b1, g_b1'⟩ : ∃ z, z = h0.size := ⟨_, rfl⟩
  rw [← g_b1'] at A_ D_ st
  have g_b1 : n0 ≤ b1 := Nat.le_trans Z0 (Nat.le_trans K.1 (Nat.le_of_eq g_b1'.symm))
  have sz_b1 : h0.size ≤ b1 := Nat.le_trans K.1 (Nat.le_of_eq g_b1'.symm)
  have K := K.ext E_
  have E_b1 := A_
  have F_share_b1 : Fld Z h1 b1 "com/example/bogong/bogong/network/Profile" "share" "D" (.double (0 : UInt64)) := D_ (Or.inr (hw _ (List.mem_of_getElem? (i := 18) rfl))) (ty := .double) (by decide)
  have F_travelTime_b1 : Fld Z h1 b1 "com/example/bogong/bogong/network/Profile" "travelTime" "D" (.double (0 : UInt64)) := D_ (Or.inr (hw _ (List.mem_of_getElem? (i := 20) rfl))) (ty := .double) (by decide)
  have F_occupancy_b1 : Fld Z h1 b1 "com/example/bogong/bogong/network/Profile" "occupancy" "D" (.double (0 : UInt64)) := D_ (Or.inr (hw _ (List.mem_of_getElem? (i := 22) rfl))) (ty := .double) (by decide)
  have F_nextArrival_b1 : Fld Z h1 b1 "com/example/bogong/bogong/network/Profile" "nextArrival" "D" (.double (0 : UInt64)) := D_ (Or.inr (hw _ (List.mem_of_getElem? (i := 24) rfl))) (ty := .double) (by decide)
  have F_queue_b1 : Fld Z h1 b1 "com/example/bogong/bogong/network/Profile" "queue" "D" (.double (0 : UInt64)) := D_ (Or.inr (hw _ (List.mem_of_getElem? (i := 26) rfl))) (ty := .double) (by decide)
  refine Go.by st ?_
  show Go p.tables e below (T.setTop (mkF m 68 #[.val (.int p0), .val (.int p1), .val (.int p2), .val (.long q3), .second, .val (.int p4), .val (.long tw), .second, .val (.long tm), .second, .val (.long ow), .second, .val (.long op), .second, .val (.long nw), .second, .val (.long na), .second, .val (.long qw), .second, .val (.long wt), .second, .val (.double (FP.i2d sh)), .second, .unset, .unset, .unset, .unset, .unset] [(.ref b1)])) _
  refine Go.by (fun tt_ kk_ => XS.dup X.here hx rfl (hb hby at_68) rfl rfl kk_) ?_
  show Go p.tables e below (T.setTop (mkF m 69 #[.val (.int p0), .val (.int p1), .val (.int p2), .val (.long q3), .second, .val (.int p4), .val (.long tw), .second, .val (.long tm), .second, .val (.long ow), .second, .val (.long op), .second, .val (.long nw), .second, .val (.long na), .second, .val (.long qw), .second, .val (.long wt), .second, .val (.double (FP.i2d sh)), .second, .unset, .unset, .unset, .unset, .unset] [(.ref b1), (.ref b1)])) _
  refine Go.by (fun tt_ kk_ => XS.dload X.here hx rfl (hb hby at_69) rfl kk_) ?_
  show Go p.tables e below (T.setTop (mkF m 71 #[.val (.int p0), .val (.int p1), .val (.int p2), .val (.long q3), .second, .val (.int p4), .val (.long tw), .second, .val (.long tm), .second, .val (.long ow), .second, .val (.long op), .second, .val (.long nw), .second, .val (.long na), .second, .val (.long qw), .second, .val (.long wt), .second, .val (.double (FP.i2d sh)), .second, .unset, .unset, .unset, .unset, .unset] [(.double (FP.i2d sh)), (.ref b1), (.ref b1)])) _
  refine Go.by (fun tt_ kk_ => XS.lload X.here hx rfl (hb hby at_71) rfl kk_) ?_
  show Go p.tables e below (T.setTop (mkF m 73 #[.val (.int p0), .val (.int p1), .val (.int p2), .val (.long q3), .second, .val (.int p4), .val (.long tw), .second, .val (.long tm), .second, .val (.long ow), .second, .val (.long op), .second, .val (.long nw), .second, .val (.long na), .second, .val (.long qw), .second, .val (.long wt), .second, .val (.double (FP.i2d sh)), .second, .unset, .unset, .unset, .unset, .unset] [(.long tw), (.double (FP.i2d sh)), (.ref b1), (.ref b1)])) _
  refine Go.by (fun tt_ kk_ => XS.l2dS X.here hx rfl (hb hby at_73) rfl rfl kk_) ?_
  show Go p.tables e below (T.setTop (mkF m 74 #[.val (.int p0), .val (.int p1), .val (.int p2), .val (.long q3), .second, .val (.int p4), .val (.long tw), .second, .val (.long tm), .second, .val (.long ow), .second, .val (.long op), .second, .val (.long nw), .second, .val (.long na), .second, .val (.long qw), .second, .val (.long wt), .second, .val (.double (FP.i2d sh)), .second, .unset, .unset, .unset, .unset, .unset] [(.double (FP.l2d tw)), (.double (FP.i2d sh)), (.ref b1), (.ref b1)])) _
  refine Go.by (fun tt_ kk_ => XS.lload X.here hx rfl (hb hby at_74) rfl kk_) ?_
  show Go p.tables e below (T.setTop (mkF m 76 #[.val (.int p0), .val (.int p1), .val (.int p2), .val (.long q3), .second, .val (.int p4), .val (.long tw), .second, .val (.long tm), .second, .val (.long ow), .second, .val (.long op), .second, .val (.long nw), .second, .val (.long na), .second, .val (.long qw), .second, .val (.long wt), .second, .val (.double (FP.i2d sh)), .second, .unset, .unset, .unset, .unset, .unset] [(.long ow), (.double (FP.l2d tw)), (.double (FP.i2d sh)), (.ref b1), (.ref b1)])) _
  refine Go.by (fun tt_ kk_ => XS.l2dS X.here hx rfl (hb hby at_76) rfl rfl kk_) ?_
  show Go p.tables e below (T.setTop (mkF m 77 #[.val (.int p0), .val (.int p1), .val (.int p2), .val (.long q3), .second, .val (.int p4), .val (.long tw), .second, .val (.long tm), .second, .val (.long ow), .second, .val (.long op), .second, .val (.long nw), .second, .val (.long na), .second, .val (.long qw), .second, .val (.long wt), .second, .val (.double (FP.i2d sh)), .second, .unset, .unset, .unset, .unset, .unset] [(.double (FP.l2d ow)), (.double (FP.l2d tw)), (.double (FP.i2d sh)), (.ref b1), (.ref b1)])) _
  refine Go.by (fun tt_ kk_ => XS.lload X.here hx rfl (hb hby at_77) rfl kk_) ?_
  show Go p.tables e below (T.setTop (mkF m 79 #[.val (.int p0), .val (.int p1), .val (.int p2), .val (.long q3), .second, .val (.int p4), .val (.long tw), .second, .val (.long tm), .second, .val (.long ow), .second, .val (.long op), .second, .val (.long nw), .second, .val (.long na), .second, .val (.long qw), .second, .val (.long wt), .second, .val (.double (FP.i2d sh)), .second, .unset, .unset, .unset, .unset, .unset] [(.long nw), (.double (FP.l2d ow)), (.double (FP.l2d tw)), (.double (FP.i2d sh)), (.ref b1), (.ref b1)])) _
  refine Go.by (fun tt_ kk_ => XS.l2dS X.here hx rfl (hb hby at_79) rfl rfl kk_) ?_
  show Go p.tables e below (T.setTop (mkF m 80 #[.val (.int p0), .val (.int p1), .val (.int p2), .val (.long q3), .second, .val (.int p4), .val (.long tw), .second, .val (.long tm), .second, .val (.long ow), .second, .val (.long op), .second, .val (.long nw), .second, .val (.long na), .second, .val (.long qw), .second, .val (.long wt), .second, .val (.double (FP.i2d sh)), .second, .unset, .unset, .unset, .unset, .unset] [(.double (FP.l2d nw)), (.double (FP.l2d ow)), (.double (FP.l2d tw)), (.double (FP.i2d sh)), (.ref b1), (.ref b1)])) _
  refine Go.by (fun tt_ kk_ => XS.lload X.here hx rfl (hb hby at_80) rfl kk_) ?_
  show Go p.tables e below (T.setTop (mkF m 82 #[.val (.int p0), .val (.int p1), .val (.int p2), .val (.long q3), .second, .val (.int p4), .val (.long tw), .second, .val (.long tm), .second, .val (.long ow), .second, .val (.long op), .second, .val (.long nw), .second, .val (.long na), .second, .val (.long qw), .second, .val (.long wt), .second, .val (.double (FP.i2d sh)), .second, .unset, .unset, .unset, .unset, .unset] [(.long qw), (.double (FP.l2d nw)), (.double (FP.l2d ow)), (.double (FP.l2d tw)), (.double (FP.i2d sh)), (.ref b1), (.ref b1)])) _
  refine Go.by (fun tt_ kk_ => XS.l2dS X.here hx rfl (hb hby at_82) rfl rfl kk_) ?_
  show Go p.tables e below (T.setTop (mkF m 83 #[.val (.int p0), .val (.int p1), .val (.int p2), .val (.long q3), .second, .val (.int p4), .val (.long tw), .second, .val (.long tm), .second, .val (.long ow), .second, .val (.long op), .second, .val (.long nw), .second, .val (.long na), .second, .val (.long qw), .second, .val (.long wt), .second, .val (.double (FP.i2d sh)), .second, .unset, .unset, .unset, .unset, .unset] [(.double (FP.l2d qw)), (.double (FP.l2d nw)), (.double (FP.l2d ow)), (.double (FP.l2d tw)), (.double (FP.i2d sh)), (.ref b1), (.ref b1)])) _
  obtain ⟨_, _, ⟨T, L_, k_, n_⟩, -, X, ⟨Lc_, hQ, l_, y_, z_⟩, st⟩ := X.specialBack hx (y := (⟨"com/example/bogong/bogong/network/Profile", "<init>", "(DDDDD)V"⟩ : MethodName)) rfl hown (mvT hZ (hw _ (List.mem_of_getElem? (i := 4) rfl))) (mvT hZ (hw _ (List.mem_of_getElem? (i := 5) rfl))) (mvT hZ (hw _ (List.mem_of_getElem? (i := 6) rfl))) (by decide) (backOf (W := 1) (rm1 l Z a0 hw [] b1 (FP.i2d sh) (FP.l2d tw) (FP.l2d ow) (FP.l2d nw) (FP.l2d qw) sh.toInt tw.toInt ow.toInt nw.toInt qw.toInt h1 n0 (Nat.le_trans Z0 K.1) E_b1 g_b1 F_share_b1 F_travelTime_b1 F_occupancy_b1 F_nextArrival_b1 F_queue_b1 (Dy.i2d _) (Dy.l2d (by omega)) (Dy.l2d (by omega)) (Dy.l2d (by omega)) (Dy.l2d (by omega)) b_sh b_tw.1 b_ow.1 b_nw.1 b_qw.1) hZ (hw _ (List.mem_of_getElem? (i := 6) rfl)) (hw _ (List.mem_of_getElem? (i := 3) rfl)) (by decide) (by decide)) (g := (mkF m 83 #[.val (.int p0), .val (.int p1), .val (.int p2), .val (.long q3), .second, .val (.int p4), .val (.long tw), .second, .val (.long tm), .second, .val (.long ow), .second, .val (.long op), .second, .val (.long nw), .second, .val (.long na), .second, .val (.long qw), .second, .val (.long wt), .second, .val (.double (FP.i2d sh)), .second, .unset, .unset, .unset, .unset, .unset] [(.double (FP.l2d qw)), (.double (FP.l2d nw)), (.double (FP.l2d ow)), (.double (FP.l2d tw)), (.double (FP.i2d sh)), (.ref b1), (.ref b1)])) rfl (by rw [hml]; rfl) (Steps.refl _) (a := b1) (argsL := [(.double (FP.i2d sh)), (.double (FP.l2d tw)), (.double (FP.l2d ow)), (.double (FP.l2d nw)), (.double (FP.l2d qw))]) (rest := [(.ref b1)]) (lenOf pd_1 rfl) rfl (by show 2 * 0 + _ ≤ _; exact Nat.le_of_eq rfl) (hb hby at_83) (fun _ _ => ⟨rfl, eT, (by decide : 1 + 1 ≤ _), (by decide : 5 + 4 ≤ _)⟩)
  dsimp only [Pt.U, Pt.locs, Pt.cells, Pt.slots] at X l_ y_ z_ st hQ
  subst l_ y_ z_
  obtain ⟨h2, eT⟩ : ∃ z, T.heap = z := ⟨_, rfl⟩
  rw [eT] at hQ
  obtain ⟨rfl, Nq, Kq, Eq_, Fq_share, Fq_travelTime, Fq_occupancy, Fq_nextArrival, Fq_queue⟩ := hQ
  have N := Fr.app N Nq
  have E_b1 := Eq_
  have F_share_b1 := Fq_share
  have F_travelTime_b1 := Fq_travelTime
  have F_occupancy_b1 := Fq_occupancy
  have F_nextArrival_b1 := Fq_nextArrival
  have F_queue_b1 := Fq_queue
  have K := K.trans Kq (allS (Or.inr sz_b1) all0)
  refine Go.tr st ?_
  show Go p.tables e below (T.setTop (mkF m 86 #[.val (.int p0), .val (.int p1), .val (.int p2), .val (.long q3), .second, .val (.int p4), .val (.long tw), .second, .val (.long tm), .second, .val (.long ow), .second, .val (.long op), .second, .val (.long nw), .second, .val (.long na), .second, .val (.long qw), .second, .val (.long wt), .second, .val (.double (FP.i2d sh)), .second, .unset, .unset, .unset, .unset, .unset] [(.ref b1)])) _
  refine Go.by (fun tt_ kk_ => XS.astore X.here hx rfl (hb hby at_86) rfl rfl (l' := #[.val (.int p0), .val (.int p1), .val (.int p2), .val (.long q3), .second, .val (.int p4), .val (.long tw), .second, .val (.long tm), .second, .val (.long ow), .second, .val (.long op), .second, .val (.long nw), .second, .val (.long na), .second, .val (.long qw), .second, .val (.long wt), .second, .val (.double (FP.i2d sh)), .second, .val (.ref b1), .unset, .unset, .unset, .unset]) rfl kk_) ?_
  show Go p.tables e below (T.setTop (mkF m 88 #[.val (.int p0), .val (.int p1), .val (.int p2), .val (.long q3), .second, .val (.int p4), .val (.long tw), .second, .val (.long tm), .second, .val (.long ow), .second, .val (.long op), .second, .val (.long nw), .second, .val (.long na), .second, .val (.long qw), .second, .val (.long wt), .second, .val (.double (FP.i2d sh)), .second, .val (.ref b1), .unset, .unset, .unset, .unset] [])) _
  refine Go.by (fun tt_ kk_ => XS.aload X.here hx rfl (hb hby at_88) rfl rfl kk_) ?_
  show Go p.tables e below (T.setTop (mkF m 90 #[.val (.int p0), .val (.int p1), .val (.int p2), .val (.long q3), .second, .val (.int p4), .val (.long tw), .second, .val (.long tm), .second, .val (.long ow), .second, .val (.long op), .second, .val (.long nw), .second, .val (.long na), .second, .val (.long qw), .second, .val (.long wt), .second, .val (.double (FP.i2d sh)), .second, .val (.ref b1), .unset, .unset, .unset, .unset] [(.ref b1)])) _
  refine Go.by (fun tt_ kk_ => XS.lload X.here hx rfl (hb hby at_90) rfl kk_) ?_
  show Go p.tables e below (T.setTop (mkF m 92 #[.val (.int p0), .val (.int p1), .val (.int p2), .val (.long q3), .second, .val (.int p4), .val (.long tw), .second, .val (.long tm), .second, .val (.long ow), .second, .val (.long op), .second, .val (.long nw), .second, .val (.long na), .second, .val (.long qw), .second, .val (.long wt), .second, .val (.double (FP.i2d sh)), .second, .val (.ref b1), .unset, .unset, .unset, .unset] [(.long tm), (.ref b1)])) _
  refine Go.by (fun tt_ kk_ => XS.l2dS X.here hx rfl (hb hby at_92) rfl rfl kk_) ?_
  show Go p.tables e below (T.setTop (mkF m 93 #[.val (.int p0), .val (.int p1), .val (.int p2), .val (.long q3), .second, .val (.int p4), .val (.long tw), .second, .val (.long tm), .second, .val (.long ow), .second, .val (.long op), .second, .val (.long nw), .second, .val (.long na), .second, .val (.long qw), .second, .val (.long wt), .second, .val (.double (FP.i2d sh)), .second, .val (.ref b1), .unset, .unset, .unset, .unset] [(.double (FP.l2d tm)), (.ref b1)])) _
  refine Go.by (fun tt_ kk_ => XS.lload X.here hx rfl (hb hby at_93) rfl kk_) ?_
  show Go p.tables e below (T.setTop (mkF m 95 #[.val (.int p0), .val (.int p1), .val (.int p2), .val (.long q3), .second, .val (.int p4), .val (.long tw), .second, .val (.long tm), .second, .val (.long ow), .second, .val (.long op), .second, .val (.long nw), .second, .val (.long na), .second, .val (.long qw), .second, .val (.long wt), .second, .val (.double (FP.i2d sh)), .second, .val (.ref b1), .unset, .unset, .unset, .unset] [(.long op), (.double (FP.l2d tm)), (.ref b1)])) _
  refine Go.by (fun tt_ kk_ => XS.l2dS X.here hx rfl (hb hby at_95) rfl rfl kk_) ?_
  show Go p.tables e below (T.setTop (mkF m 96 #[.val (.int p0), .val (.int p1), .val (.int p2), .val (.long q3), .second, .val (.int p4), .val (.long tw), .second, .val (.long tm), .second, .val (.long ow), .second, .val (.long op), .second, .val (.long nw), .second, .val (.long na), .second, .val (.long qw), .second, .val (.long wt), .second, .val (.double (FP.i2d sh)), .second, .val (.ref b1), .unset, .unset, .unset, .unset] [(.double (FP.l2d op)), (.double (FP.l2d tm)), (.ref b1)])) _
  refine Go.by (fun tt_ kk_ => XS.lload X.here hx rfl (hb hby at_96) rfl kk_) ?_
  show Go p.tables e below (T.setTop (mkF m 98 #[.val (.int p0), .val (.int p1), .val (.int p2), .val (.long q3), .second, .val (.int p4), .val (.long tw), .second, .val (.long tm), .second, .val (.long ow), .second, .val (.long op), .second, .val (.long nw), .second, .val (.long na), .second, .val (.long qw), .second, .val (.long wt), .second, .val (.double (FP.i2d sh)), .second, .val (.ref b1), .unset, .unset, .unset, .unset] [(.long na), (.double (FP.l2d op)), (.double (FP.l2d tm)), (.ref b1)])) _
  refine Go.by (fun tt_ kk_ => XS.l2dS X.here hx rfl (hb hby at_98) rfl rfl kk_) ?_
  show Go p.tables e below (T.setTop (mkF m 99 #[.val (.int p0), .val (.int p1), .val (.int p2), .val (.long q3), .second, .val (.int p4), .val (.long tw), .second, .val (.long tm), .second, .val (.long ow), .second, .val (.long op), .second, .val (.long nw), .second, .val (.long na), .second, .val (.long qw), .second, .val (.long wt), .second, .val (.double (FP.i2d sh)), .second, .val (.ref b1), .unset, .unset, .unset, .unset] [(.double (FP.l2d na)), (.double (FP.l2d op)), (.double (FP.l2d tm)), (.ref b1)])) _
  refine Go.by (fun tt_ kk_ => XS.lload X.here hx rfl (hb hby at_99) rfl kk_) ?_
  show Go p.tables e below (T.setTop (mkF m 101 #[.val (.int p0), .val (.int p1), .val (.int p2), .val (.long q3), .second, .val (.int p4), .val (.long tw), .second, .val (.long tm), .second, .val (.long ow), .second, .val (.long op), .second, .val (.long nw), .second, .val (.long na), .second, .val (.long qw), .second, .val (.long wt), .second, .val (.double (FP.i2d sh)), .second, .val (.ref b1), .unset, .unset, .unset, .unset] [(.long wt), (.double (FP.l2d na)), (.double (FP.l2d op)), (.double (FP.l2d tm)), (.ref b1)])) _
  have mm1 := own_mulb (A := 1023) (B := 32768) (show -1023 ≤ tw.toInt by omega) (by omega) (show -32768 ≤ tm.toInt by omega) (by omega)
  have nn1 : (tw * tm).toInt = tw.toInt * tm.toInt := FP.Core.int64_mul (by omega) (by omega)
  have mm2 := own_mulb (A := 1023) (B := 32768) (show -1023 ≤ ow.toInt by omega) (by omega) (show -32768 ≤ op.toInt by omega) (by omega)
  have nn2 : (ow * op).toInt = ow.toInt * op.toInt := FP.Core.int64_mul (by omega) (by omega)
  have mm3 := own_mulb (A := 1023) (B := 32768) (show -1023 ≤ nw.toInt by omega) (by omega) (show -32768 ≤ na.toInt by omega) (by omega)
  have nn3 : (nw * na).toInt = nw.toInt * na.toInt := FP.Core.int64_mul (by omega) (by omega)
  have mm4 := own_mulb (A := 1023) (B := 549755813888) (show -1023 ≤ qw.toInt by omega) (by omega) (show -549755813888 ≤ wt.toInt by omega) (by omega)
  have nn4 : (qw * wt).toInt = qw.toInt * wt.toInt := FP.Core.int64_mul (by omega) (by omega)
  obtain ⟨cq_, kq_, qa_, qb_, qc_⟩ := isOf hZ eT E_b1
  obtain ⟨_, _, ⟨T, L_, k_, n_⟩, -, X, ⟨Lc_, hQ, l_, y_, z_⟩, st⟩ := X.virtualBack hx (y := (⟨"com/example/bogong/bogong/network/Profile", "cost", "(DDDJ)D"⟩ : MethodName)) (z := (⟨"com/example/bogong/bogong/network/Profile", "cost", "(DDDJ)D"⟩ : MethodName)) hown (mvT hZ (hw _ (List.mem_of_getElem? (i := 27) rfl))) (mvT hZ (hw _ (List.mem_of_getElem? (i := 28) rfl))) (notFace_of_selects (args := #[]) (mvT hZ (hw _ (List.mem_of_getElem? (i := 30) rfl)))) (mvT hZ (hw _ (List.mem_of_getElem? (i := 30) rfl))) (mvT hZ (hw _ (List.mem_of_getElem? (i := 29) rfl))) (by decide) (backOf (W := 0) (rm4 l Z a0 hw [] b1 (FP.l2d tm) (FP.l2d op) (FP.l2d na) wt (FP.l2d tw) tw.toInt tm.toInt (FP.l2d ow) ow.toInt op.toInt (FP.l2d nw) nw.toInt na.toInt (FP.l2d qw) qw.toInt wt.toInt h2 n0 (Nat.le_trans Z0 K.1) F_travelTime_b1 F_occupancy_b1 F_nextArrival_b1 F_queue_b1 (Dy.l2d (by omega)) (Dy.l2d (by omega)) (Dy.l2d (by omega)) (Dy.l2d (by omega)) (Dy.l2d (by omega)) (Dy.l2d (by omega)) (Dy.l2d (by omega)) (Dy.l2d (by omega)) (by omega) (by omega) (by omega) (by omega)) hZ (hw _ (List.mem_of_getElem? (i := 31) rfl)) (hw _ (List.mem_of_getElem? (i := 3) rfl)) (by decide) (by decide)) qa_ qc_ (g := (mkF m 101 #[.val (.int p0), .val (.int p1), .val (.int p2), .val (.long q3), .second, .val (.int p4), .val (.long tw), .second, .val (.long tm), .second, .val (.long ow), .second, .val (.long op), .second, .val (.long nw), .second, .val (.long na), .second, .val (.long qw), .second, .val (.long wt), .second, .val (.double (FP.i2d sh)), .second, .val (.ref b1), .unset, .unset, .unset, .unset] [(.long wt), (.double (FP.l2d na)), (.double (FP.l2d op)), (.double (FP.l2d tm)), (.ref b1)])) rfl (by rw [hml]; rfl) (Steps.refl _) (argsL := [(.double (FP.l2d tm)), (.double (FP.l2d op)), (.double (FP.l2d na)), (.long wt)]) (rest := []) (lenOf pd_2 rfl) rfl (by show 2 * 0 + _ ≤ _; exact Nat.le_of_eq rfl) (hb hby at_101) (fun _ _ => ⟨rfl, eT, (by decide : 2 + 0 ≤ _), (by decide : 9 + 0 ≤ _)⟩)
  dsimp only [Pt.U, Pt.locs, Pt.cells, Pt.slots] at X l_ y_ z_ st hQ
  subst l_ y_ z_
  obtain ⟨r, rfl, Nq, d_r, eh⟩ := hQ
  have N := Fr.app N Nq
  have eT := eh
  refine Go.tr st ?_
  show Go p.tables e below (T.setTop (mkF m 104 #[.val (.int p0), .val (.int p1), .val (.int p2), .val (.long q3), .second, .val (.int p4), .val (.long tw), .second, .val (.long tm), .second, .val (.long ow), .second, .val (.long op), .second, .val (.long nw), .second, .val (.long na), .second, .val (.long qw), .second, .val (.long wt), .second, .val (.double (FP.i2d sh)), .second, .val (.ref b1), .unset, .unset, .unset, .unset] [(.double r)])) _
  refine Go.by (fun tt_ kk_ => XS.dstore X.here hx rfl (hb hby at_104) rfl (l' := #[.val (.int p0), .val (.int p1), .val (.int p2), .val (.long q3), .second, .val (.int p4), .val (.long tw), .second, .val (.long tm), .second, .val (.long ow), .second, .val (.long op), .second, .val (.long nw), .second, .val (.long na), .second, .val (.long qw), .second, .val (.long wt), .second, .val (.double (FP.i2d sh)), .second, .val (.ref b1), .val (.double r), .second, .unset, .unset]) rfl kk_) ?_
  show Go p.tables e below (T.setTop (mkF m 106 #[.val (.int p0), .val (.int p1), .val (.int p2), .val (.long q3), .second, .val (.int p4), .val (.long tw), .second, .val (.long tm), .second, .val (.long ow), .second, .val (.long op), .second, .val (.long nw), .second, .val (.long na), .second, .val (.long qw), .second, .val (.long wt), .second, .val (.double (FP.i2d sh)), .second, .val (.ref b1), .val (.double r), .second, .unset, .unset] [])) _
  refine Go.by (fun tt_ kk_ => XS.lload X.here hx rfl (hb hby at_106) rfl kk_) ?_
  show Go p.tables e below (T.setTop (mkF m 108 #[.val (.int p0), .val (.int p1), .val (.int p2), .val (.long q3), .second, .val (.int p4), .val (.long tw), .second, .val (.long tm), .second, .val (.long ow), .second, .val (.long op), .second, .val (.long nw), .second, .val (.long na), .second, .val (.long qw), .second, .val (.long wt), .second, .val (.double (FP.i2d sh)), .second, .val (.ref b1), .val (.double r), .second, .unset, .unset] [(.long tw)])) _
  refine Go.by (fun tt_ kk_ => XS.lload X.here hx rfl (hb hby at_108) rfl kk_) ?_
  show Go p.tables e below (T.setTop (mkF m 110 #[.val (.int p0), .val (.int p1), .val (.int p2), .val (.long q3), .second, .val (.int p4), .val (.long tw), .second, .val (.long tm), .second, .val (.long ow), .second, .val (.long op), .second, .val (.long nw), .second, .val (.long na), .second, .val (.long qw), .second, .val (.long wt), .second, .val (.double (FP.i2d sh)), .second, .val (.ref b1), .val (.double r), .second, .unset, .unset] [(.long tm), (.long tw)])) _
  refine Go.by (fun tt_ kk_ => XS.lmul X.here hx rfl (hb hby at_110) rfl kk_) ?_
  show Go p.tables e below (T.setTop (mkF m 111 #[.val (.int p0), .val (.int p1), .val (.int p2), .val (.long q3), .second, .val (.int p4), .val (.long tw), .second, .val (.long tm), .second, .val (.long ow), .second, .val (.long op), .second, .val (.long nw), .second, .val (.long na), .second, .val (.long qw), .second, .val (.long wt), .second, .val (.double (FP.i2d sh)), .second, .val (.ref b1), .val (.double r), .second, .unset, .unset] [(.long (tw * tm))])) _
  refine Go.by (fun tt_ kk_ => XS.lload X.here hx rfl (hb hby at_111) rfl kk_) ?_
  show Go p.tables e below (T.setTop (mkF m 113 #[.val (.int p0), .val (.int p1), .val (.int p2), .val (.long q3), .second, .val (.int p4), .val (.long tw), .second, .val (.long tm), .second, .val (.long ow), .second, .val (.long op), .second, .val (.long nw), .second, .val (.long na), .second, .val (.long qw), .second, .val (.long wt), .second, .val (.double (FP.i2d sh)), .second, .val (.ref b1), .val (.double r), .second, .unset, .unset] [(.long ow), (.long (tw * tm))])) _
  refine Go.by (fun tt_ kk_ => XS.lload X.here hx rfl (hb hby at_113) rfl kk_) ?_
  show Go p.tables e below (T.setTop (mkF m 115 #[.val (.int p0), .val (.int p1), .val (.int p2), .val (.long q3), .second, .val (.int p4), .val (.long tw), .second, .val (.long tm), .second, .val (.long ow), .second, .val (.long op), .second, .val (.long nw), .second, .val (.long na), .second, .val (.long qw), .second, .val (.long wt), .second, .val (.double (FP.i2d sh)), .second, .val (.ref b1), .val (.double r), .second, .unset, .unset] [(.long op), (.long ow), (.long (tw * tm))])) _
  refine Go.by (fun tt_ kk_ => XS.lmul X.here hx rfl (hb hby at_115) rfl kk_) ?_
  show Go p.tables e below (T.setTop (mkF m 116 #[.val (.int p0), .val (.int p1), .val (.int p2), .val (.long q3), .second, .val (.int p4), .val (.long tw), .second, .val (.long tm), .second, .val (.long ow), .second, .val (.long op), .second, .val (.long nw), .second, .val (.long na), .second, .val (.long qw), .second, .val (.long wt), .second, .val (.double (FP.i2d sh)), .second, .val (.ref b1), .val (.double r), .second, .unset, .unset] [(.long (ow * op)), (.long (tw * tm))])) _
  refine Go.by (fun tt_ kk_ => XS.ladd X.here hx rfl (hb hby at_116) rfl kk_) ?_
  show Go p.tables e below (T.setTop (mkF m 117 #[.val (.int p0), .val (.int p1), .val (.int p2), .val (.long q3), .second, .val (.int p4), .val (.long tw), .second, .val (.long tm), .second, .val (.long ow), .second, .val (.long op), .second, .val (.long nw), .second, .val (.long na), .second, .val (.long qw), .second, .val (.long wt), .second, .val (.double (FP.i2d sh)), .second, .val (.ref b1), .val (.double r), .second, .unset, .unset] [(.long ((tw * tm) + (ow * op)))])) _
  refine Go.by (fun tt_ kk_ => XS.lload X.here hx rfl (hb hby at_117) rfl kk_) ?_
  show Go p.tables e below (T.setTop (mkF m 119 #[.val (.int p0), .val (.int p1), .val (.int p2), .val (.long q3), .second, .val (.int p4), .val (.long tw), .second, .val (.long tm), .second, .val (.long ow), .second, .val (.long op), .second, .val (.long nw), .second, .val (.long na), .second, .val (.long qw), .second, .val (.long wt), .second, .val (.double (FP.i2d sh)), .second, .val (.ref b1), .val (.double r), .second, .unset, .unset] [(.long nw), (.long ((tw * tm) + (ow * op)))])) _
  refine Go.by (fun tt_ kk_ => XS.lload X.here hx rfl (hb hby at_119) rfl kk_) ?_
  show Go p.tables e below (T.setTop (mkF m 121 #[.val (.int p0), .val (.int p1), .val (.int p2), .val (.long q3), .second, .val (.int p4), .val (.long tw), .second, .val (.long tm), .second, .val (.long ow), .second, .val (.long op), .second, .val (.long nw), .second, .val (.long na), .second, .val (.long qw), .second, .val (.long wt), .second, .val (.double (FP.i2d sh)), .second, .val (.ref b1), .val (.double r), .second, .unset, .unset] [(.long na), (.long nw), (.long ((tw * tm) + (ow * op)))])) _
  refine Go.by (fun tt_ kk_ => XS.lmul X.here hx rfl (hb hby at_121) rfl kk_) ?_
  show Go p.tables e below (T.setTop (mkF m 122 #[.val (.int p0), .val (.int p1), .val (.int p2), .val (.long q3), .second, .val (.int p4), .val (.long tw), .second, .val (.long tm), .second, .val (.long ow), .second, .val (.long op), .second, .val (.long nw), .second, .val (.long na), .second, .val (.long qw), .second, .val (.long wt), .second, .val (.double (FP.i2d sh)), .second, .val (.ref b1), .val (.double r), .second, .unset, .unset] [(.long (nw * na)), (.long ((tw * tm) + (ow * op)))])) _
  refine Go.by (fun tt_ kk_ => XS.ladd X.here hx rfl (hb hby at_122) rfl kk_) ?_
  show Go p.tables e below (T.setTop (mkF m 123 #[.val (.int p0), .val (.int p1), .val (.int p2), .val (.long q3), .second, .val (.int p4), .val (.long tw), .second, .val (.long tm), .second, .val (.long ow), .second, .val (.long op), .second, .val (.long nw), .second, .val (.long na), .second, .val (.long qw), .second, .val (.long wt), .second, .val (.double (FP.i2d sh)), .second, .val (.ref b1), .val (.double r), .second, .unset, .unset] [(.long (((tw * tm) + (ow * op)) + (nw * na)))])) _
  refine Go.by (fun tt_ kk_ => XS.lload X.here hx rfl (hb hby at_123) rfl kk_) ?_
  show Go p.tables e below (T.setTop (mkF m 125 #[.val (.int p0), .val (.int p1), .val (.int p2), .val (.long q3), .second, .val (.int p4), .val (.long tw), .second, .val (.long tm), .second, .val (.long ow), .second, .val (.long op), .second, .val (.long nw), .second, .val (.long na), .second, .val (.long qw), .second, .val (.long wt), .second, .val (.double (FP.i2d sh)), .second, .val (.ref b1), .val (.double r), .second, .unset, .unset] [(.long qw), (.long (((tw * tm) + (ow * op)) + (nw * na)))])) _
  refine Go.by (fun tt_ kk_ => XS.lload X.here hx rfl (hb hby at_125) rfl kk_) ?_
  show Go p.tables e below (T.setTop (mkF m 127 #[.val (.int p0), .val (.int p1), .val (.int p2), .val (.long q3), .second, .val (.int p4), .val (.long tw), .second, .val (.long tm), .second, .val (.long ow), .second, .val (.long op), .second, .val (.long nw), .second, .val (.long na), .second, .val (.long qw), .second, .val (.long wt), .second, .val (.double (FP.i2d sh)), .second, .val (.ref b1), .val (.double r), .second, .unset, .unset] [(.long wt), (.long qw), (.long (((tw * tm) + (ow * op)) + (nw * na)))])) _
  refine Go.by (fun tt_ kk_ => XS.lmul X.here hx rfl (hb hby at_127) rfl kk_) ?_
  show Go p.tables e below (T.setTop (mkF m 128 #[.val (.int p0), .val (.int p1), .val (.int p2), .val (.long q3), .second, .val (.int p4), .val (.long tw), .second, .val (.long tm), .second, .val (.long ow), .second, .val (.long op), .second, .val (.long nw), .second, .val (.long na), .second, .val (.long qw), .second, .val (.long wt), .second, .val (.double (FP.i2d sh)), .second, .val (.ref b1), .val (.double r), .second, .unset, .unset] [(.long (qw * wt)), (.long (((tw * tm) + (ow * op)) + (nw * na)))])) _
  refine Go.by (fun tt_ kk_ => XS.ladd X.here hx rfl (hb hby at_128) rfl kk_) ?_
  show Go p.tables e below (T.setTop (mkF m 129 #[.val (.int p0), .val (.int p1), .val (.int p2), .val (.long q3), .second, .val (.int p4), .val (.long tw), .second, .val (.long tm), .second, .val (.long ow), .second, .val (.long op), .second, .val (.long nw), .second, .val (.long na), .second, .val (.long qw), .second, .val (.long wt), .second, .val (.double (FP.i2d sh)), .second, .val (.ref b1), .val (.double r), .second, .unset, .unset] [(.long ((((tw * tm) + (ow * op)) + (nw * na)) + (qw * wt)))])) _
  obtain ⟨rf, e_rf⟩ : ∃ z, z = ((((tw * tm) + (ow * op)) + (nw * na)) + (qw * wt)) := ⟨_, rfl⟩
  rw [← e_rf]
  show Go p.tables e below (T.setTop (mkF m 129 #[.val (.int p0), .val (.int p1), .val (.int p2), .val (.long q3), .second, .val (.int p4), .val (.long tw), .second, .val (.long tm), .second, .val (.long ow), .second, .val (.long op), .second, .val (.long nw), .second, .val (.long na), .second, .val (.long qw), .second, .val (.long wt), .second, .val (.double (FP.i2d sh)), .second, .val (.ref b1), .val (.double r), .second, .unset, .unset] [(.long rf)])) _
  have o1 : (tw * tm + ow * op).toInt = tw.toInt * tm.toInt + ow.toInt * op.toInt := by rw [FP.Core.int64_add (by rw [nn1, nn2]; omega) (by rw [nn1, nn2]; omega), nn1, nn2]
  have o2 : (tw * tm + ow * op + nw * na).toInt = tw.toInt * tm.toInt + ow.toInt * op.toInt + nw.toInt * na.toInt := by rw [FP.Core.int64_add (by rw [o1, nn3]; omega) (by rw [o1, nn3]; omega), o1, nn3]
  have o3 : rf.toInt = tw.toInt * tm.toInt + ow.toInt * op.toInt + nw.toInt * na.toInt + qw.toInt * wt.toInt := by rw [e_rf, FP.Core.int64_add (by rw [o2, nn4]; omega) (by rw [o2, nn4]; omega), o2, nn4]
  refine Go.by (fun tt_ kk_ => XS.lstore X.here hx rfl (hb hby at_129) rfl (l' := #[.val (.int p0), .val (.int p1), .val (.int p2), .val (.long q3), .second, .val (.int p4), .val (.long tw), .second, .val (.long tm), .second, .val (.long ow), .second, .val (.long op), .second, .val (.long nw), .second, .val (.long na), .second, .val (.long qw), .second, .val (.long wt), .second, .val (.double (FP.i2d sh)), .second, .val (.ref b1), .val (.double r), .second, .val (.long rf), .second]) rfl kk_) ?_
  show Go p.tables e below (T.setTop (mkF m 131 #[.val (.int p0), .val (.int p1), .val (.int p2), .val (.long q3), .second, .val (.int p4), .val (.long tw), .second, .val (.long tm), .second, .val (.long ow), .second, .val (.long op), .second, .val (.long nw), .second, .val (.long na), .second, .val (.long qw), .second, .val (.long wt), .second, .val (.double (FP.i2d sh)), .second, .val (.ref b1), .val (.double r), .second, .val (.long rf), .second] [])) _
  refine Go.by (fun tt_ kk_ => XS.dload X.here hx rfl (hb hby at_131) rfl kk_) ?_
  show Go p.tables e below (T.setTop (mkF m 133 #[.val (.int p0), .val (.int p1), .val (.int p2), .val (.long q3), .second, .val (.int p4), .val (.long tw), .second, .val (.long tm), .second, .val (.long ow), .second, .val (.long op), .second, .val (.long nw), .second, .val (.long na), .second, .val (.long qw), .second, .val (.long wt), .second, .val (.double (FP.i2d sh)), .second, .val (.ref b1), .val (.double r), .second, .val (.long rf), .second] [(.double r)])) _
  refine Go.by (fun tt_ kk_ => XS.lload X.here hx rfl (hb hby at_133) rfl kk_) ?_
  show Go p.tables e below (T.setTop (mkF m 135 #[.val (.int p0), .val (.int p1), .val (.int p2), .val (.long q3), .second, .val (.int p4), .val (.long tw), .second, .val (.long tm), .second, .val (.long ow), .second, .val (.long op), .second, .val (.long nw), .second, .val (.long na), .second, .val (.long qw), .second, .val (.long wt), .second, .val (.double (FP.i2d sh)), .second, .val (.ref b1), .val (.double r), .second, .val (.long rf), .second] [(.long rf), (.double r)])) _
  refine Go.by (fun tt_ kk_ => XS.l2dS X.here hx rfl (hb hby at_135) rfl rfl kk_) ?_
  show Go p.tables e below (T.setTop (mkF m 136 #[.val (.int p0), .val (.int p1), .val (.int p2), .val (.long q3), .second, .val (.int p4), .val (.long tw), .second, .val (.long tm), .second, .val (.long ow), .second, .val (.long op), .second, .val (.long nw), .second, .val (.long na), .second, .val (.long qw), .second, .val (.long wt), .second, .val (.double (FP.i2d sh)), .second, .val (.ref b1), .val (.double r), .second, .val (.long rf), .second] [(.double (FP.l2d rf)), (.double r)])) _
  refine Go.by (fun tt_ kk_ => XS.dcmpS X.here hx rfl (hb hby at_136) rfl ((d_r.cmpV (Dy.l2d (by omega)) .l).trans (own_ci_eq.mpr o3.symm)) kk_) ?_
  show Go p.tables e below (T.setTop (mkF m 137 #[.val (.int p0), .val (.int p1), .val (.int p2), .val (.long q3), .second, .val (.int p4), .val (.long tw), .second, .val (.long tm), .second, .val (.long ow), .second, .val (.long op), .second, .val (.long nw), .second, .val (.long na), .second, .val (.long qw), .second, .val (.long wt), .second, .val (.double (FP.i2d sh)), .second, .val (.ref b1), .val (.double r), .second, .val (.long rf), .second] [(.int (0 : Int32))])) _
  refine Go.by (fun tt_ kk_ => XS.ifNo X.here hx rfl (hb hby at_137) rfl ((if0 _ _).trans (teq (rfl : (0 : Int32) = (0 : Int32))).2) kk_) ?_
  show Go p.tables e below (T.setTop (mkF m 140 #[.val (.int p0), .val (.int p1), .val (.int p2), .val (.long q3), .second, .val (.int p4), .val (.long tw), .second, .val (.long tm), .second, .val (.long ow), .second, .val (.long op), .second, .val (.long nw), .second, .val (.long na), .second, .val (.long qw), .second, .val (.long wt), .second, .val (.double (FP.i2d sh)), .second, .val (.ref b1), .val (.double r), .second, .val (.long rf), .second] [])) _
  refine Go.by (fun tt_ kk_ => XS.iconst X.here hx rfl (hb hby at_140) kk_) ?_
  show Go p.tables e below (T.setTop (mkF m 141 #[.val (.int p0), .val (.int p1), .val (.int p2), .val (.long q3), .second, .val (.int p4), .val (.long tw), .second, .val (.long tm), .second, .val (.long ow), .second, .val (.long op), .second, .val (.long nw), .second, .val (.long na), .second, .val (.long qw), .second, .val (.long wt), .second, .val (.double (FP.i2d sh)), .second, .val (.ref b1), .val (.double r), .second, .val (.long rf), .second] [(.int (1 : Int32))])) _
  refine Go.by (fun tt_ kk_ => XS.goto X.here hx rfl (pc0 := 141) (pc' := 145) rfl (hb hby at_141) (by decide) (by decide) kk_) ?_
  show Go p.tables e below (T.setTop (mkF m 145 #[.val (.int p0), .val (.int p1), .val (.int p2), .val (.long q3), .second, .val (.int p4), .val (.long tw), .second, .val (.long tm), .second, .val (.long ow), .second, .val (.long op), .second, .val (.long nw), .second, .val (.long na), .second, .val (.long qw), .second, .val (.long wt), .second, .val (.double (FP.i2d sh)), .second, .val (.ref b1), .val (.double r), .second, .val (.long rf), .second] [(.int (1 : Int32))])) _
  exact Go.done X  (v := some (.int (1 : Int32))) (fun h => by rw [Bd.returns] at h; cases h) Bd.notSynchronized (fun fs hr => retN X hx (z := (1 : Int32)) (t := .boolean) Bd.returns (by simp) (hb hby at_145) hr) (by rw [eT]; exact ⟨rfl, N⟩) (by decide) (by decide)
set_option maxRecDepth 65536 in
set_option maxHeartbeats 40000000 in
theorem comes_1 {Post : Tables → Env → Array Value → State → Outcome → State → Prop} (hpost : ∀ tb e args s v u, (limb_1_1.after args s (.returned v) u = true ∧ limb_1_2.after args s (.returned v) u = true ∧ True) → FrameEnd s (.returned v) u (Jvm.fieldLocs frame_1_writes args s ++ Jvm.arrayLocs frame_1_arrays args s ++ Jvm.staticLocs frame_1_statics s) 16 128 → Post tb e args s (.returned v) u) :
    ArmFor flags0 classFile x code maxLocals ret World_1 tables_1 room_1 Calls_1 rest_1 Pre_1 Post := by
  intro l hfl _ _ p e ha hc hk s m args below hf hA hF happ hP
  obtain ⟨hcalls, hrest, hpre⟩ := hP
  obtain ⟨-, -, -, hnamed, -, -, -, hat⟩ := (Spec.applies_iff hf).mp happ
  obtain ⟨hg, hn⟩ := and_e (Cond.before_iff.mp (show (Jvm.Cond.and given_1 narrow_1).before args s = true from hpre))
  obtain ⟨hcount, hg⟩ := and_e hg
  obtain ⟨hv0, hg⟩ := and_e hg
  obtain ⟨hv1, hg⟩ := and_e hg
  obtain ⟨hv2, hg⟩ := and_e hg
  obtain ⟨hv3, hg⟩ := and_e hg
  have hv4 := hg
  obtain ⟨w0, w1, w2, w3, w4, rfl⟩ : ∃ w0 w1 w2 w3 w4 : Value, args = #[w0, w1, w2, w3, w4] := by
    have hs : args.size = 5 := by simpa [Cond.value, given_1] using hcount
    obtain ⟨L⟩ := args
    match L, hs with
    | [w0, w1, w2, w3, w4], _ => exact ⟨w0, w1, w2, w3, w4, rfl⟩
  have hw := fun d (hd : d ∈ tables_1) => atoms_spec (ws := Jvm.Cond.code x code maxLocals ret :: tables_1) hat d (List.mem_cons_of_mem _ hd)
  have hfit : Fit s := fun {y c} hc i hi => by
    obtain ⟨ha, rfl⟩ := Array.getElem?_eq_some_iff.mp hc
    have q := List.all_eq_true.mp ((Array.all_eq_true_iff_forall_mem.mp hF) _ (Array.getElem_mem ha)) i (List.mem_range.mpr hi)
    simpa [Array.getElem?_eq_getElem hi] using q
  obtain ⟨i0, ei0⟩ := is_v hv0
  obtain rfl : w0 = (.int i0) := Option.some.inj ei0
  obtain ⟨i1, ei1⟩ := is_v hv1
  obtain rfl : w1 = (.int i1) := Option.some.inj ei1
  obtain ⟨i2, ei2⟩ := is_v hv2
  obtain rfl : w2 = (.int i2) := Option.some.inj ei2
  obtain ⟨i3, ei3⟩ := isL_v hv3
  obtain rfl : w3 = (.long i3) := Option.some.inj ei3
  obtain ⟨i4, ei4⟩ := is_v hv4
  obtain rfl : w4 = (.int i4) := Option.some.inj ei4
  obtain ⟨n, o, h1, h2, h3, _, L, rfl, ⟨rfl, N⟩, hq⟩ := rm0 l s _ hw tables_1 i0 i1 i2 i3 i4  s.heap s.heap.size (Nat.le_refl _)  p e ha hc hk s m _ below hf ((Spec.applies_iff_loose hf).mp happ).1 ⟨rfl, State.Warmed39.refl s, rfl⟩ trivial
  refine ⟨n, _, h1, h2, h3, hpost _ _ _ _ _ _ ⟨Cond.after_iff.mpr rfl, Cond.after_iff.mpr (eq_i res_at (Term.int_eval (1)) rfl), trivial⟩ ⟨hq.1, hq.2.1, (hq.2.2.sift fun y hy => Or.inr (N y hy)).mono (by decide) (by decide)⟩⟩
theorem main_1_1 : Claimed_1_1 := comes_1 fun _ _ _ _ _ _ h hF => ⟨h.1, hF⟩
theorem main_1_2 : Claimed_1_2 := comes_1 fun _ _ _ _ _ _ h hF => ⟨h.2.1, hF⟩
end Jvm.Pilot.@@N@@
namespace Jvm.Pilot.@@N@@
open Jvm Jvm.ClassFile Sem Op Lib Jvm.Free Jvm.Stand Jvm.Pilot.@@N@@.Jvm.D
/-! MADE BY PROGRAM (witnessworld.py) out of the Statement's table words and the real class files: 12 classes; the members and pool entries that the words name. The judged class is class 1, her method 1. -/
namespace start1
open Jvm.ClassFile
def u (s : String) : CpInfo := .utf8 (stringToUtf16 s)
/-- a pool by its gaps: so many unusable entries, then the entry; so many at the end -/
def gap : Nat → List CpInfo → List CpInfo
  | 0, r => r
  | n + 1, r => .unusable :: gap n r
def poolList (es : List (Nat × CpInfo)) (last : Nat) : List CpInfo := es.foldr (fun e r => gap e.1 (e.2 :: r)) (gap last [])
def pool (es : List (Nat × CpInfo)) (last : Nat) : Array CpInfo := ⟨poolList es last⟩
def fileOf (pool : Array CpInfo) (this : Nat) (attrs : Array Attribute := #[]) (ms : Array MethodInfo := #[]) (fl : Nat := 33) (sup : Nat := 0) (ifs : Array Nat := #[]) (fds : Array FieldInfo := #[]) : ClassFile where
  minorVersion := 0
  majorVersion := 65
  constantPool := pool
  accessFlags := fl
  thisClass := this
  superClass := sup
  interfaces := ifs
  fields := fds
  methods := ms
  attributes := attrs
def plain (name : String) (sup : Option ClassId) : Class where
  name := name
  kind := .ordinary
  loader := none
  accessFlags := 33
  super := sup
  interfaces := #[]
  cf := none
  fields := #[]
  methods := #[]
  instanceTypes := #[]
  staticTypes := #[]
  resolved := #[]
  callSites := []
  init := .initialized
  statics := none
  mirror := none

def pool0 : Array CpInfo := pool [(5, u "<init>"), (0, u "()V"), (1, .class_ 10), (1, u "java/lang/Object")] 113

def k0c0 : Code := { maxStack := 0, maxLocals := 1, code := object_method_1_code, exceptionTable := #[], attributes := #[] }
def k0m0 : Method := { name := "<init>", desc := "()V", sig := { parameters := [], returnType := none }, accessFlags := 1, code := some k0c0 }
/-- java/lang/Object -/
def k0 : Class := { plain "java/lang/Object" none with
  accessFlags := 33
  interfaces := #[]
  cf := some (fileOf pool0 8 #[] #[{ accessFlags := 1, nameIndex := 5, descriptorIndex := 6, attributes := #[] }] 33 0 #[] #[])
  fields := #[]
  methods := #[k0m0]
  instanceTypes := #[]
  staticTypes := #[]
  resolved := Array.replicate 124 none
  statics := none }

def pool1 : Array CpInfo := pool [(2, .class_ 4), (1, u "java/lang/Object"), (0, u "<init>"), (0, u "()V"), (0, .long 1023), (1, .class_ 10), (0, u "com/example/bogong/bogong/network/Profile"), (0, .methodref 9 12), (0, .nameAndType 5 13), (0, u "(DDDDD)V"), (0, .methodref 9 15), (0, .nameAndType 16 17), (0, u "cost"), (0, u "(DDDJ)D"), (0, .class_ 19), (0, u "com/example/bogong/bogong/network/ProfileCostPinLaw"), (2, u "law"), (0, u "(IIIJI)Z")] 3

def k1m0 : Method := { name := "<init>", desc := "()V", sig := { parameters := [], returnType := none }, accessFlags := 1, code := none }
def k1c1 : Code := { maxStack := 12, maxLocals := 29, code := code, exceptionTable := #[], attributes := #[] }
def k1m1 : Method := { name := "law", desc := "(IIIJI)Z", sig := { parameters := [.int, .int, .int, .long, .int], returnType := some .boolean }, accessFlags := 9, code := some k1c1 }
/-- com/example/bogong/bogong/network/ProfileCostPinLaw -/
def k1 : Class := { plain "com/example/bogong/bogong/network/ProfileCostPinLaw" (some 0) with
  accessFlags := 49
  interfaces := #[]
  cf := some (fileOf pool1 18 #[] #[{ accessFlags := 1, nameIndex := 5, descriptorIndex := 6, attributes := #[] }, { accessFlags := 9, nameIndex := 22, descriptorIndex := 23, attributes := #[] }] 49 2 #[] #[])
  fields := #[]
  methods := #[k1m0, k1m1]
  instanceTypes := #[]
  staticTypes := #[]
  resolved := Array.replicate 27 none
  statics := none }

def pool2 : Array CpInfo := pool [(1, .methodref 2 3), (0, .class_ 4), (0, .nameAndType 5 6), (0, u "java/lang/Object"), (0, u "<init>"), (0, u "()V"), (0, .class_ 8), (0, u "java/lang/Record")] 13

def k2c0 : Code := { maxStack := 1, maxLocals := 1, code := jdk_30_method_1_code, exceptionTable := #[], attributes := #[] }
def k2m0 : Method := { name := "<init>", desc := "()V", sig := { parameters := [], returnType := none }, accessFlags := 4, code := some k2c0 }
/-- java/lang/Record -/
def k2 : Class := { plain "java/lang/Record" (some 0) with
  accessFlags := 1057
  interfaces := #[]
  cf := some (fileOf pool2 7 #[] #[{ accessFlags := 4, nameIndex := 5, descriptorIndex := 6, attributes := #[] }] 1057 2 #[] #[])
  fields := #[]
  methods := #[k2m0]
  instanceTypes := #[]
  staticTypes := #[]
  resolved := Array.replicate 22 none
  statics := none }

def pool3 : Array CpInfo := pool [(1, .methodref 2 3), (0, .class_ 4), (0, .nameAndType 5 6), (0, u "java/lang/Record"), (0, u "<init>"), (0, u "()V"), (11, .double 9218868437227405312), (2, .fieldref 22 23), (0, .class_ 24), (0, .nameAndType 25 26), (0, u "com/example/bogong/bogong/network/Profile"), (0, u "share"), (0, u "D"), (0, .fieldref 22 28), (0, .nameAndType 29 26), (0, u "travelTime"), (0, .fieldref 22 31), (0, .nameAndType 32 26), (0, u "occupancy"), (0, .fieldref 22 34), (0, .nameAndType 35 26), (0, u "nextArrival"), (0, .fieldref 22 37), (0, .nameAndType 38 26), (0, u "queue"), (12, u "(DDDDD)V"), (6, u "cost"), (0, u "(DDDJ)D")] 38

def k3c0 : Code := { maxStack := 5, maxLocals := 17, code := prog_17_method_1_code, exceptionTable := #[], attributes := #[] }
def k3m0 : Method := { name := "<init>", desc := "(DDDDD)V", sig := { parameters := [.double, .double, .double, .double, .double], returnType := none }, accessFlags := 1, code := some k3c0 }
def k3c1 : Code := { maxStack := 6, maxLocals := 9, code := prog_17_method_2_code, exceptionTable := #[], attributes := #[] }
def k3m1 : Method := { name := "cost", desc := "(DDDJ)D", sig := { parameters := [.double, .double, .double, .long], returnType := some .double }, accessFlags := 1, code := some k3c1 }
/-- com/example/bogong/bogong/network/Profile -/
def k3 : Class := { plain "com/example/bogong/bogong/network/Profile" (some 2) with
  accessFlags := 49
  interfaces := #[]
  cf := some (fileOf pool3 22 #[] #[{ accessFlags := 1, nameIndex := 5, descriptorIndex := 51, attributes := #[] }, { accessFlags := 1, nameIndex := 58, descriptorIndex := 59, attributes := #[] }] 49 2 #[] #[{ accessFlags := 18, nameIndex := 25, descriptorIndex := 26, attributes := #[] }, { accessFlags := 18, nameIndex := 29, descriptorIndex := 26, attributes := #[] }, { accessFlags := 18, nameIndex := 32, descriptorIndex := 26, attributes := #[] }, { accessFlags := 18, nameIndex := 35, descriptorIndex := 26, attributes := #[] }, { accessFlags := 18, nameIndex := 38, descriptorIndex := 26, attributes := #[] }])
  fields := #[{ name := "share", type := .double, accessFlags := 18, slot := 0, constantValue := 0 }, { name := "travelTime", type := .double, accessFlags := 18, slot := 1, constantValue := 0 }, { name := "occupancy", type := .double, accessFlags := 18, slot := 2, constantValue := 0 }, { name := "nextArrival", type := .double, accessFlags := 18, slot := 3, constantValue := 0 }, { name := "queue", type := .double, accessFlags := 18, slot := 4, constantValue := 0 }]
  methods := #[k3m0, k3m1]
  instanceTypes := #[.double, .double, .double, .double, .double]
  staticTypes := #[]
  resolved := Array.replicate 98 none
  statics := none }

def pool4 : Array CpInfo := pool [(1, u "java/lang/Cloneable"), (0, .class_ 1), (0, u "java/lang/Object"), (0, .class_ 3)] 3

/-- java/lang/Cloneable -/
def k4 : Class := { plain "java/lang/Cloneable" (some 0) with
  accessFlags := 1537
  interfaces := #[]
  cf := some (fileOf pool4 2 #[] #[] 1537 4 #[] #[])
  fields := #[]
  methods := #[]
  instanceTypes := #[]
  staticTypes := #[]
  resolved := Array.replicate 8 none
  statics := none }

def pool5 : Array CpInfo := pool [(1, u "java/io/Serializable"), (0, .class_ 1), (0, u "java/lang/Object"), (0, .class_ 3)] 3

/-- java/io/Serializable -/
def k5 : Class := { plain "java/io/Serializable" (some 0) with
  accessFlags := 1537
  interfaces := #[]
  cf := some (fileOf pool5 2 #[] #[] 1537 4 #[] #[])
  fields := #[]
  methods := #[]
  instanceTypes := #[]
  staticTypes := #[]
  resolved := Array.replicate 8 none
  statics := none }

/-- the primitive byte -/
def k6 : Class := { plain "byte" none with kind := .primitive 'B', accessFlags := 0x411 }
/-- [B -/
def k7 : Class := { plain "[B" (some 0) with kind := .array 6 .byte, interfaces := #[4, 5], accessFlags := 1041 }

/-- the primitive double -/
def k8 : Class := { plain "double" none with kind := .primitive 'D', accessFlags := 0x411 }
/-- [D -/
def k9 : Class := { plain "[D" (some 0) with kind := .array 8 .double, interfaces := #[4, 5], accessFlags := 1041 }

/-- the primitive int -/
def k10 : Class := { plain "int" none with kind := .primitive 'I', accessFlags := 0x411 }
/-- [I -/
def k11 : Class := { plain "[I" (some 0) with kind := .array 10 .int, interfaces := #[4, 5], accessFlags := 1041 }

def heap : Heap := #[]
def classes : Array Class := #[k0, k1, k2, k3, k4, k5, k6, k7, k8, k9, k10, k11]
def interned : List (Array UInt16 × Addr) := []
def slotsUsed : Nat := 0
def theMethod : MethodId := ⟨1, 1⟩
def args0 : Array Value := #[.int 1, .int 2, .int 3, .long 4, .int 5]
def aboutOver (below : List Frame) : State where
  vm := { classes := classes, interned := interned.toArray }
  heap := heap
  slotsUsed := slotsUsed
  threads := #[{ frames := .invoking theMethod args0 :: below }]
def below0 : List Frame := [.native { method := ⟨0, 0⟩, args := #[] }]
def about1 : State := aboutOver below0
def p0 : Program := .bare "" "" ""
def e0 : Env := launch0.env 0 0 0
theorem w_frames : about1.frames = Frame.invoking theMethod args0 :: below0 := rfl
set_option maxRecDepth 65536 in
theorem w_args : argsFit about1.vm theMethod args0 = true := by decide +kernel
set_option maxRecDepth 65536 in
theorem w_heap : heapFits about1 = true := by decide +kernel
set_option maxRecDepth 65536 in
theorem w_runnable : about1.curStatus? = some .runnable := by decide +kernel
set_option maxRecDepth 65536 in
theorem w_alone : about1.alone = true := by decide +kernel
set_option maxRecDepth 65536 in
theorem w_named : about1.methodNamed? x = some theMethod := by decide +kernel
set_option maxRecDepth 65536 in
theorem w_hears : about1.hears theMethod below0 = true := by decide +kernel
set_option maxRecDepth 65536 in
theorem w_ripe : about1.ripe theMethod args0 below0 = true := by decide +kernel
theorem w_running : about1.status = .running := rfl
set_option maxRecDepth 65536 in
theorem w_room : about1.hasRoom e0.platform room_1 = true :=
  launch0.hasRoom_least _ room_1 (by decide +kernel) (by decide +kernel) (by decide +kernel) (by decide +kernel) (by decide +kernel) (by decide +kernel)
theorem allAtoms_all (ts : List Jvm.Cond) (a : Array Jvm.Value) (st : Jvm.State) : (allAtoms ts).before a st = ts.all (fun c => c.before a st) := by
  induction ts with
  | nil => rfl
  | cons c t ih =>
    show (Jvm.Cond.and c (allAtoms t)).before a st = _
    rw [Jvm.Cond.before_and, ih, List.all_cons]
def words1 : List Jvm.Cond := Jvm.Cond.code x code maxLocals ret :: tables_1
/-- a 'code' word, met by the world's own term for the bytes: nothing is compared byte by byte -/
theorem code_word {y : MethodName} {bytes : ByteArray} {mx : Nat} {rt : Option FieldType} {a : Array Value} {s : State} {m : MethodId} {meth : Method} {c : Code} (h1 : s.methodNamed? y = some m) (h2 : s.vm.method? m = some meth) (h3 : meth.code = some c) (h4 : c.code = bytes)
    (h5 : (c.maxLocals == mx && c.exceptionTable.isEmpty && decide (c.maxStack ≤ mostOperands) && decide (meth.sig.returnType = rt) && !meth.locks && decide (parseMethodDescriptor y.desc = some meth.sig)) = true) : (Jvm.Cond.code y bytes mx rt).before a s = true := by
  simp only [Bool.and_eq_true, beq_iff_eq, Bool.not_eq_true', decide_eq_true_eq] at h5
  obtain ⟨⟨⟨⟨⟨g1, g2⟩, g3⟩, g4⟩, g5⟩, g6⟩ := h5
  simp [Cond.before, Cond.holds, Cond.value, h1, h2, h3, h4, g1, g2, g3, g4, g5, g6]
def isCode : Jvm.Cond → Bool
  | .code _ _ _ _ => true
  | _ => false
theorem all_split {L : List Jvm.Cond} {P : Jvm.Cond → Bool} (h1 : L.all (fun c => isCode c || P c) = true) (h2 : ∀ c ∈ L.filter isCode, P c = true) : L.all P = true := by
  refine List.all_eq_true.mpr fun c hc => ?_
  have h := List.all_eq_true.mp h1 c hc
  rcases Bool.eq_false_or_eq_true (isCode c) with hi | hi
  · exact h2 c (List.mem_filter.mpr ⟨hc, hi⟩)
  · simpa [hi] using h
set_option maxRecDepth 65536 in
theorem w_c0 : (Jvm.Cond.code x code maxLocals ret).before args0 about1 = true := code_word (m := ⟨1, 1⟩) (meth := k1m1) (c := k1c1) (by decide +kernel) rfl rfl rfl (by decide +kernel)
set_option maxRecDepth 65536 in
theorem w_c1 : (Jvm.Cond.code ({ cls := "com/example/bogong/bogong/network/Profile", name := "<init>", desc := "(DDDDD)V" } : Jvm.MethodName) prog_17_method_1_code (17 : Nat) (Option.none : Option Jvm.ClassFile.FieldType)).before args0 about1 = true := code_word (m := ⟨3, 0⟩) (meth := k3m0) (c := k3c0) (by decide +kernel) rfl rfl rfl (by decide +kernel)
set_option maxRecDepth 65536 in
theorem w_c2 : (Jvm.Cond.code ({ cls := "java/lang/Record", name := "<init>", desc := "()V" } : Jvm.MethodName) jdk_30_method_1_code (1 : Nat) (Option.none : Option Jvm.ClassFile.FieldType)).before args0 about1 = true := code_word (m := ⟨2, 0⟩) (meth := k2m0) (c := k2c0) (by decide +kernel) rfl rfl rfl (by decide +kernel)
set_option maxRecDepth 65536 in
theorem w_c3 : (Jvm.Cond.code ({ cls := "java/lang/Object", name := "<init>", desc := "()V" } : Jvm.MethodName) object_method_1_code (1 : Nat) (Option.none : Option Jvm.ClassFile.FieldType)).before args0 about1 = true := code_word (m := ⟨0, 0⟩) (meth := k0m0) (c := k0c0) (by decide +kernel) rfl rfl rfl (by decide +kernel)
set_option maxRecDepth 65536 in
theorem w_c4 : (Jvm.Cond.code ({ cls := "com/example/bogong/bogong/network/Profile", name := "cost", desc := "(DDDJ)D" } : Jvm.MethodName) prog_17_method_2_code (9 : Nat) (Option.some Jvm.ClassFile.FieldType.double)).before args0 about1 = true := code_word (m := ⟨3, 1⟩) (meth := k3m1) (c := k3c1) (by decide +kernel) rfl rfl rfl (by decide +kernel)
def codes1 : List Jvm.Cond := [Jvm.Cond.code x code maxLocals ret, Jvm.Cond.code ({ cls := "com/example/bogong/bogong/network/Profile", name := "<init>", desc := "(DDDDD)V" } : Jvm.MethodName) prog_17_method_1_code (17 : Nat) (Option.none : Option Jvm.ClassFile.FieldType), Jvm.Cond.code ({ cls := "java/lang/Record", name := "<init>", desc := "()V" } : Jvm.MethodName) jdk_30_method_1_code (1 : Nat) (Option.none : Option Jvm.ClassFile.FieldType), Jvm.Cond.code ({ cls := "java/lang/Object", name := "<init>", desc := "()V" } : Jvm.MethodName) object_method_1_code (1 : Nat) (Option.none : Option Jvm.ClassFile.FieldType), Jvm.Cond.code ({ cls := "com/example/bogong/bogong/network/Profile", name := "cost", desc := "(DDDJ)D" } : Jvm.MethodName) prog_17_method_2_code (9 : Nat) (Option.some Jvm.ClassFile.FieldType.double)]
set_option maxRecDepth 65536 in
theorem codes_eq : words1.filter isCode = codes1 := rfl
theorem w_codes : ∀ c ∈ words1.filter isCode, c.before args0 about1 = true := by
  rw [codes_eq]
  intro c hc
  simp only [codes1, List.mem_cons, List.not_mem_nil, or_false] at hc
  rcases hc with rfl | rfl | rfl | rfl | rfl
  · exact w_c0
  · exact w_c1
  · exact w_c2
  · exact w_c3
  · exact w_c4
set_option maxRecDepth 65536 in
theorem w_t1 : (words1.take 24).all (fun c => isCode c || c.before args0 about1) = true := by decide +kernel
set_option maxRecDepth 65536 in
theorem w_t2 : (words1.drop 24).all (fun c => isCode c || c.before args0 about1) = true := by decide +kernel
theorem w_tables : (allAtoms (Jvm.Cond.code x code maxLocals ret :: tables_1)).before args0 about1 = true := by
  rw [allAtoms_all]
  show words1.all (fun c => c.before args0 about1) = true
  refine all_split ?_ w_codes
  rw [← List.take_append_drop 24 words1, List.all_append, w_t1, w_t2]
  rfl
set_option maxRecDepth 65536 in
theorem w_case : (Jvm.Cond.and given_1 narrow_1).before args0 about1 = true := by decide +kernel
theorem w_applies : (headSpec (Jvm.Cond.code x code maxLocals ret :: tables_1) room_1).applies x e0.platform about1 = true :=
  (Spec.applies_iff w_frames).mpr ⟨w_running, w_runnable, w_alone, w_named, w_hears, w_ripe, w_room, w_tables⟩
theorem atStart : AtStart classFile x code maxLocals ret World_1 tables_1 room_1 Calls_1 rest_1 Pre_1 launch0 p0 e0 about1 theMethod args0 below0 :=
  ⟨lists_1, trivial, launch0.admits_env _ _ _, launch0.least_env, fairChoices_fair.cas, fairChoices_fair.clock, w_frames, w_args, w_heap, w_applies, trivial, trivial, w_case⟩
end start1
theorem witness_1 : WitnessClaimed_1 := ⟨start1.p0, start1.e0, start1.about1, start1.theMethod, start1.args0, start1.below0, start1.atStart⟩
end Jvm.Pilot.@@N@@
