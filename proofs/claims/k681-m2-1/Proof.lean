import JvmDerived
import JvmDerived.Pilot.@@N@@Statement
import JvmDerived.Pilot.@@N@@Code
set_option linter.unusedVariables false
set_option linter.unusedSimpArgs false
@@BLOCK:NumsL.lean.txt@@
namespace Jvm.OwnGo
open Jvm Sem ClassFile Op Lib Jvm.Stand Jvm.Free Jvm.LawKit Jvm.RoadKit
/-- from A the run comes to a state of which K is said -/
def Go (tb : Tables) (e : Env) (below : List Frame) (A : State) (K : State → Prop) : Prop := ∃ u, Steps tb e below A u ∧ K u
theorem Go.by {tb : Tables} {e : Env} {below : List Frame} {A B : State} {K : State → Prop} (h : ∀ t, Steps tb e below B t → Steps tb e below A t) (g : Go tb e below B K) : Go tb e below A K := by
  obtain ⟨u, s, k⟩ := g
  exact ⟨u, h u s, k⟩
theorem Go.tr {tb : Tables} {e : Env} {below : List Frame} {A B : State} {K : State → Prop} (h : Steps tb e below A B) (g : Go tb e below B K) : Go tb e below A K := by
  obtain ⟨u, s, k⟩ := g
  exact ⟨u, h.trans s, k⟩
theorem Go.out {tb : Tables} {e : Env} {below : List Frame} {A : State} {P : State → Outcome → Prop} (g : Go tb e below A (fun u => ∃ o, P u o)) : ∃ u o, Steps tb e below A u ∧ P u o := by
  obtain ⟨u, s, o, k⟩ := g
  exact ⟨u, o, s, k⟩
theorem Go.done {p : Program} {l : Launch} {e : Env} {R : Room} {s : State} {m : MethodId} {args : Array Value} {below : List Frame} {meth : Method} {c : Code} {T : State} {locs : List Loc} {cells slots C D : Nat}
    (X : Stand p l e R s m args below meth c T locs cells slots) {v : Option Value} (hv : meth.sig.returnType = none → v = none) (hlocks : meth.locks = false) {A : State}
    (hst : ∀ fs, (∀ (f : JFrame) (acts : List Action), f.method = m → f.locked = none → f.entered = [] → (doReturn e (T.setTop f) acts v).1 = T.setFrames fs) → Steps p.tables e below A (T.setFrames fs))
    {Q : Option Value → Heap → List Loc → Prop} (hq : Q v T.heap locs) (hc : cells ≤ C) (hs : slots ≤ D) :
    Go p.tables e below A (fun u => ∃ o, u.status = .running ∧ Ended u below o ∧ ∃ v L, o = .returned v ∧ Q v u.heap L ∧ FrameEnd s o u L C D) := by
  obtain ⟨fs, hr, hrun, hended, hW, hsame⟩ := X.leave hv hlocks
  exact ⟨_, hst fs hr, _, hrun, hended, _, _, rfl, hq, ⟨_, rfl⟩, hW, hsame.mono hc hs⟩
theorem Go.doneW {p : Program} {l : Launch} {e : Env} {R : Room} {s : State} {m : MethodId} {args : Array Value} {below : List Frame} {meth : Method} {c : Code} {T : State} {locs : List Loc} {cells slots C D : Nat} {vm1 : Vm}
    (X : Stand p l e R (s.setVm vm1) m args below meth c T locs cells slots) {n : Nat} (hS : s.Since vm1 n) (hn : n ≤ T.heap.size) {v : Option Value} (hv : meth.sig.returnType = none → v = none) (hlocks : meth.locks = false) {A : State}
    (hst : ∀ fs, (∀ (f : JFrame) (acts : List Action), f.method = m → f.locked = none → f.entered = [] → (doReturn e (T.setTop f) acts v).1 = T.setFrames fs) → Steps p.tables e below A (T.setFrames fs))
    {Q : Option Value → Heap → List Loc → Prop} (hq : Q v T.heap locs) (hc : cells ≤ C) (hs : slots ≤ D) :
    Go p.tables e below A (fun u => ∃ o, u.status = .running ∧ Ended u below o ∧ ∃ v L, o = .returned v ∧ Q v u.heap L ∧ ReturnedEndW s o u L C D) := by
  obtain ⟨fs, hr, hrun, hended, h1, h2, h3, h4⟩ := X.leaveW hS hn hv hlocks
  exact ⟨_, hst fs hr, _, hrun, hended, _, _, rfl, hq, h1, h2, h3, h4.mono hc hs⟩
end Jvm.OwnGo
namespace Jvm.OwnFp
open Jvm.FP Jvm.FP.Core Jvm.Free.Fl
/-- the double a is i * 2^e -/
def Dy (i e : Int) (a : UInt64) : Prop := ∃ s c q, val64 a = .fin s c q ∧ Whole i (.fin s c (q - e))
theorem own_const {i e : Int} {a : UInt64} (s : Bool) (c : Nat) (q : Int) (h1 : val64 a = .fin s c q) (h2 : signed s (c * 2 ^ (q - e).toNat) = i * ((2 ^ (-(q - e)).toNat : Nat) : Int)) : Dy i e a := ⟨s, c, q, h1, h2⟩
theorem Dy.noNaN {i e : Int} {a : UInt64} (h : Dy i e a) : NoNaN64 a := by
  obtain ⟨s, c, q, h1, -⟩ := h
  exact val64_no.mpr (by rw [h1]; exact fun q => nomatch q)
theorem Dy.fin {i e : Int} {a : UInt64} (h : Dy i e a) : Fin64 a := by
  obtain ⟨s, c, q, h1, -⟩ := h
  exact fin64_core.mpr ⟨s, c, q, h1⟩
theorem own_fit (s : Bool) {n : Nat} (hn : n ≤ 9007199254740992) {e : Int} (h1 : -1074 ≤ e) (h2 : e ≤ 900) :
    ∃ c q, Core.fits b64 (.fin s c q) ∧ n * 2 ^ (e - q).toNat = c * 1 * 2 ^ (q - e).toNat := by
  have e1 : b64.qmin = -1074 := qmin_b64
  have e2 : b64.qmax = 971 := by decide
  have e3 : b64.tails = 2 ^ 52 := tails_b64
  have e4 : b64.p = 53 := rfl
  have k53 : (9007199254740992 : Nat) = 2 ^ 53 := by decide
  by_cases h0 : n = 0
  · subst h0
    exact ⟨0, b64.qmin, zero_fits good_b64 s, by simp⟩
  by_cases hp : n = 9007199254740992
  · refine ⟨2 ^ 52, e + 1, ⟨by rw [e4]; decide, by rw [e1]; omega, by rw [e2]; omega, Or.inr (by rw [e3]; exact Nat.le_refl _)⟩, ?_⟩
    rw [show (e - (e + 1)).toNat = 0 by omega, show (e + 1 - e).toNat = 1 by omega, hp]
  · have l1 : 2 ^ n.log2 ≤ n := Nat.log2_self_le h0
    have l2 : n < 2 ^ (n.log2 + 1) := Nat.lt_log2_self
    have l3 : n.log2 < 53 := (Nat.pow_lt_pow_iff_right (by decide : 1 < 2)).mp (Nat.lt_of_le_of_lt l1 (by omega))
    generalize n.log2 = L at l1 l2 l3
    by_cases hq : -1074 ≤ e - (52 - (L : Int))
    · refine ⟨n * 2 ^ (52 - L), e - (52 - (L : Int)), ⟨?_, by rw [e1]; omega, by rw [e2]; omega, Or.inr ?_⟩, ?_⟩
      · rw [e4]
        calc n * 2 ^ (52 - L) < 2 ^ (L + 1) * 2 ^ (52 - L) := Nat.mul_lt_mul_of_pos_right l2 (Nat.two_pow_pos _)
          _ = 2 ^ 53 := by rw [← Nat.pow_add]; congr 1; omega
      · rw [e3]
        calc 2 ^ 52 = 2 ^ L * 2 ^ (52 - L) := by rw [← Nat.pow_add]; congr 1; omega
          _ ≤ n * 2 ^ (52 - L) := Nat.mul_le_mul_right _ l1
      · rw [show (e - (e - (52 - (L : Int)))).toNat = 52 - L by omega, show (e - (52 - (L : Int)) - e).toNat = 0 by omega]
        simp
    · refine ⟨n * 2 ^ (e + 1074).toNat, -1074, ⟨?_, by rw [e1]; omega, by rw [e2]; omega, Or.inl e1.symm⟩, ?_⟩
      · rw [e4]
        calc n * 2 ^ (e + 1074).toNat < 2 ^ (L + 1) * 2 ^ (e + 1074).toNat := Nat.mul_lt_mul_of_pos_right l2 (Nat.two_pow_pos _)
          _ = 2 ^ (L + 1 + (e + 1074).toNat) := by rw [← Nat.pow_add]
          _ ≤ 2 ^ 53 := Nat.pow_le_pow_right (by decide) (by omega)
      · rw [show (e - -1074).toNat = (e + 1074).toNat by omega, show (-1074 - e).toNat = 0 by omega]
        simp
theorem own_sg {i : Int} {s : Bool} {c : Nat} {q : Int} (h : Whole i (.fin s c q)) : signed s i.natAbs = i := by
  by_cases hi : i = 0
  · rw [hi]; exact signed_zero s
  · rw [whole_sign h hi]
    unfold signed
    by_cases z : i < 0
    · simp only [z, decide_true, if_true]; omega
    · simp only [z, decide_false]; simp; omega
theorem own_whole {i e : Int} {s : Bool} {c : Nat} {q : Int} (hs : signed s i.natAbs = i) (h : i.natAbs * 2 ^ (e - q).toNat = c * 1 * 2 ^ (q - e).toNat) : Whole i (.fin s c (q - e)) := by
  show signed s (c * 2 ^ (q - e).toNat) = i * ((2 ^ (-(q - e)).toNat : Nat) : Int)
  rw [Nat.mul_one] at h
  rw [← h, signed_mul, hs, show -(q - e) = e - q by omega]
/-- a ratio that is i * 2^e -/
theorem own_ratio {i e : Int} {s : Bool} (hs : signed s i.natAbs = i) (hi : i.natAbs ≤ 9007199254740992) (h1 : -1074 ≤ e) (h2 : e ≤ 900) :
    ∃ c q, roundRatio b64 s i.natAbs 1 e = .fin s c q ∧ Whole i (.fin s c (q - e)) := by
  obtain ⟨c, q, hf, h⟩ := own_fit s hi h1 h2
  exact ⟨c, q, roundRatio_exact good_b64 Nat.one_pos hf h, own_whole hs h⟩
theorem own_round {i e : Int} {s : Bool} {c : Nat} {q : Int} (h : Whole i (.fin s c (q - e))) (hi : i.natAbs ≤ 9007199254740992) (h1 : -1074 ≤ e) (h2 : e ≤ 900) :
    ∃ s' c' q', Core.round b64 (.fin s c q) = .fin s' c' q' ∧ Whole i (.fin s' c' (q' - e)) := by
  obtain ⟨c', q', r1, r2⟩ := own_ratio (own_sg h) hi h1 h2
  refine ⟨s, c', q', ?_, r2⟩
  have w := whole_natAbs h
  show roundRatio b64 s c 1 q = _
  rw [← r1]
  refine roundRatio_congr Nat.one_pos Nat.one_pos ?_
  rw [Nat.mul_one, Nat.mul_one, w, show -(q - e) = e - q by omega]
theorem Dy.add {i j e : Int} {a b : UInt64} (ha : Dy i e a) (hb : Dy j e b) (hi : (i + j).natAbs ≤ 9007199254740992) (h1 : -1074 ≤ e) (h2 : e ≤ 900) : Dy (i + j) e (FP.dadd a b) := by
  obtain ⟨s, c, q, a1, a2⟩ := ha
  obtain ⟨t, d, r, b1, b2⟩ := hb
  have w := whole_sum a2 b2
  have hm : min (q - e) (r - e) = min q r - e := by omega
  have hV : sumUnits s c (q - e) t d (r - e) (min q r - e) = sumUnits s c q t d r (min q r) := by
    unfold sumUnits inUnits
    rw [show q - e - (min q r - e) = q - min q r by omega, show r - e - (min q r - e) = r - min q r by omega]
  simp only [exactSum] at w
  rw [hm, hV] at w
  obtain ⟨s', c', q', r1, r2⟩ := own_round w hi h1 h2
  exact ⟨s', c', q', by rw [val64_dadd, a1, b1]; exact r1, r2⟩
theorem Dy.sub {i j e : Int} {a b : UInt64} (ha : Dy i e a) (hb : Dy j e b) (hi : (i - j).natAbs ≤ 9007199254740992) (h1 : -1074 ≤ e) (h2 : e ≤ 900) : Dy (i - j) e (FP.dsub a b) := by
  obtain ⟨s, c, q, a1, a2⟩ := ha
  obtain ⟨t, d, r, b1, b2⟩ := hb
  have w := whole_sum a2 (whole_negate b2)
  have hm : min (q - e) (r - e) = min q r - e := by omega
  have hV : sumUnits s c (q - e) (!t) d (r - e) (min q r - e) = sumUnits s c q (!t) d r (min q r) := by
    unfold sumUnits inUnits
    rw [show q - e - (min q r - e) = q - min q r by omega, show r - e - (min q r - e) = r - min q r by omega]
  simp only [negate, exactSum] at w
  rw [hm, hV] at w
  obtain ⟨s', c', q', r1, r2⟩ := own_round w hi h1 h2
  exact ⟨s', c', q', by rw [val64_dsub, a1, b1]; exact r1, r2⟩
theorem Dy.mul {i j e g : Int} {a b : UInt64} (ha : Dy i e a) (hb : Dy j g b) (hi : (i * j).natAbs ≤ 9007199254740992) (h1 : -1074 ≤ e + g) (h2 : e + g ≤ 900) : Dy (i * j) (e + g) (FP.dmul a b) := by
  obtain ⟨s, c, q, a1, a2⟩ := ha
  obtain ⟨t, d, r, b1, b2⟩ := hb
  have w := whole_product a2 b2
  simp only [exactProduct] at w
  rw [show q - e + (r - g) = q + r - (e + g) by omega] at w
  obtain ⟨s', c', q', r1, r2⟩ := own_round w hi h1 h2
  exact ⟨s', c', q', by rw [val64_dmul, a1, b1]; exact r1, r2⟩
/-- an exact quotient -/
theorem Dy.div {k j e g : Int} {a b : UInt64} (ha : Dy (k * j) e a) (hb : Dy j g b) (hj : j ≠ 0) (hi : k.natAbs ≤ 9007199254740992) (h1 : -1074 ≤ e - g) (h2 : e - g ≤ 900) : Dy k (e - g) (FP.ddiv a b) := by
  obtain ⟨s, c, q, a1, a2⟩ := ha
  obtain ⟨t, d, r, b1, b2⟩ := hb
  have wa := whole_natAbs a2
  have wb := whole_natAbs b2
  have hd : d ≠ 0 := fun z => hj ((whole_zero b2).mp z)
  have hs : signed (s != t) k.natAbs = k := by
    by_cases hk : k = 0
    · rw [hk]; exact signed_zero _
    · have s1 := whole_sign a2 (Int.mul_ne_zero hk hj)
      have s2 := whole_sign b2 hj
      rw [s1, s2]
      unfold signed
      rcases Int.lt_or_gt_of_ne hk with z | z <;> rcases Int.lt_or_gt_of_ne hj with y | y
      · have := Int.mul_pos_of_neg_of_neg z y
        simp [show ¬ k * j < 0 by omega, y]; omega
      · have := Int.mul_neg_of_neg_of_pos z y
        simp [this, show ¬ j < 0 by omega]; omega
      · have := Int.mul_neg_of_pos_of_neg z y
        simp [this, y]; omega
      · have := Int.mul_pos z y
        simp [show ¬ k * j < 0 by omega, show ¬ j < 0 by omega]; omega
  obtain ⟨c', q', r1, r2⟩ := own_ratio hs hi h1 h2
  refine ⟨_, c', q', ?_, r2⟩
  rw [val64_ddiv, a1, b1]
  show (if d = 0 then _ else roundRatio b64 (s != t) c d (q - r)) = _
  rw [if_neg hd, ← r1]
  refine roundRatio_congr (Nat.pos_of_ne_zero hd) Nat.one_pos ?_
  rw [Nat.mul_one]
  rw [Int.natAbs_mul] at wa
  -- c * 2^(q-e)+ = |k| |j| 2^(q-e)- , d * 2^(r-g)+ = |j| 2^(r-g)-
  have hj' : 0 < j.natAbs := by omega
  apply Nat.eq_of_mul_eq_mul_right (Nat.mul_pos hj' (Nat.mul_pos (Nat.two_pow_pos (q - e).toNat) (Nat.two_pow_pos (-(r - g)).toNat)))
  calc c * 2 ^ (q - r - (e - g)).toNat * (j.natAbs * (2 ^ (q - e).toNat * 2 ^ (-(r - g)).toNat))
      = (c * 2 ^ (q - e).toNat) * (j.natAbs * 2 ^ (-(r - g)).toNat) * 2 ^ (q - r - (e - g)).toNat := by ac_rfl
    _ = (k.natAbs * j.natAbs * 2 ^ (-(q - e)).toNat) * (d * 2 ^ (r - g).toNat) * 2 ^ (q - r - (e - g)).toNat := by rw [wa, wb]
    _ = k.natAbs * d * j.natAbs * 2 ^ ((-(q - e)).toNat + (r - g).toNat + (q - r - (e - g)).toNat) := by rw [Nat.pow_add, Nat.pow_add]; ac_rfl
    _ = k.natAbs * d * j.natAbs * 2 ^ ((e - g - (q - r)).toNat + (q - e).toNat + (-(r - g)).toNat) := by congr 2; omega
    _ = k.natAbs * d * 2 ^ (e - g - (q - r)).toNat * (j.natAbs * (2 ^ (q - e).toNat * 2 ^ (-(r - g)).toNat)) := by rw [Nat.pow_add, Nat.pow_add]; ac_rfl
theorem Dy.scale {i e : Int} {a : UInt64} (h : Dy i e a) (k : Nat) : Dy (i * 2 ^ k) (e - k) a := by
  obtain ⟨s, c, q, a1, a2⟩ := h
  refine ⟨s, c, q, a1, ?_⟩
  have w : signed s (c * 2 ^ (q - e).toNat) = i * ((2 ^ (-(q - e)).toNat : Nat) : Int) := a2
  show signed s (c * 2 ^ (q - (e - k)).toNat) = i * 2 ^ k * ((2 ^ (-(q - (e - k))).toNat : Nat) : Int)
  have p2 : ((2 ^ ((-(q - e)).toNat) : Nat) : Int) ≠ 0 := by
    have := Nat.two_pow_pos ((-(q - e)).toNat); omega
  refine Int.eq_of_mul_eq_mul_right p2 ?_
  have hx : (q - (e - k)).toNat + (-(q - e)).toNat = (q - e).toNat + (k + (-(q - (e - k))).toNat) := by omega
  calc signed s (c * 2 ^ (q - (e - k)).toNat) * ((2 ^ ((-(q - e)).toNat) : Nat) : Int)
      = signed s (c * 2 ^ ((q - (e - k)).toNat + (-(q - e)).toNat)) := by rw [← signed_mul, Nat.pow_add, Nat.mul_assoc]
    _ = signed s (c * 2 ^ (q - e).toNat * 2 ^ (k + (-(q - (e - k))).toNat)) := by rw [hx, Nat.pow_add, Nat.mul_assoc]
    _ = i * ((2 ^ (-(q - e)).toNat : Nat) : Int) * ((2 ^ (k + (-(q - (e - k))).toNat) : Nat) : Int) := by rw [signed_mul, w]
    _ = i * 2 ^ k * ((2 ^ (-(q - (e - k))).toNat : Nat) : Int) * ((2 ^ ((-(q - e)).toNat) : Nat) : Int) := by
        rw [Nat.pow_add, Int.natCast_mul, Int.natCast_pow 2 k]
        show i * _ * ((2 : Int) ^ k * _) = _
        ac_rfl
theorem Dy.unscale {i e : Int} {a : UInt64} (k : Nat) (h : Dy (i * 2 ^ k) e a) : Dy i (e + k) a := by
  obtain ⟨s, c, q, a1, a2⟩ := h
  refine ⟨s, c, q, a1, ?_⟩
  have w : signed s (c * 2 ^ (q - e).toNat) = i * 2 ^ k * ((2 ^ (-(q - e)).toNat : Nat) : Int) := a2
  show signed s (c * 2 ^ (q - (e + k)).toNat) = i * ((2 ^ (-(q - (e + k))).toNat : Nat) : Int)
  have p2 : ((2 ^ (k + (-(q - e)).toNat) : Nat) : Int) ≠ 0 := by
    have := Nat.two_pow_pos (k + (-(q - e)).toNat); omega
  refine Int.eq_of_mul_eq_mul_right p2 ?_
  have hx : (q - (e + k)).toNat + (k + (-(q - e)).toNat) = (q - e).toNat + (-(q - (e + k))).toNat := by omega
  calc signed s (c * 2 ^ (q - (e + k)).toNat) * ((2 ^ (k + (-(q - e)).toNat) : Nat) : Int)
      = signed s (c * 2 ^ ((q - (e + k)).toNat + (k + (-(q - e)).toNat))) := by rw [← signed_mul, Nat.pow_add 2 (q - (e + k)).toNat, Nat.mul_assoc]
    _ = signed s (c * 2 ^ (q - e).toNat * 2 ^ ((-(q - (e + k))).toNat)) := by rw [hx, Nat.pow_add, Nat.mul_assoc]
    _ = i * 2 ^ k * ((2 ^ (-(q - e)).toNat : Nat) : Int) * ((2 ^ ((-(q - (e + k))).toNat) : Nat) : Int) := by rw [signed_mul, w]
    _ = i * ((2 ^ (-(q - (e + k))).toNat : Nat) : Int) * ((2 ^ (k + (-(q - e)).toNat) : Nat) : Int) := by
        rw [Nat.pow_add, Int.natCast_mul, Int.natCast_pow 2 k]
        show i * (2 : Int) ^ k * _ * _ = _ * ((2 : Int) ^ k * _)
        ac_rfl
theorem Dy.cmp {i j e : Int} {a b : UInt64} (ha : Dy i e a) (hb : Dy j e b) : FP.dcmp a b = some (compare i j) := by
  obtain ⟨s, c, q, a1, a2⟩ := ha
  obtain ⟨t, d, r, b1, b2⟩ := hb
  have w := order_whole a2 b2
  have hm : min (q - e) (r - e) = min q r - e := by omega
  simp only [order] at w
  rw [hm] at w
  unfold inUnits at w
  rw [show q - e - (min q r - e) = q - min q r by omega, show r - e - (min q r - e) = r - min q r by omega] at w
  show order (val64 a) (val64 b) = _
  rw [a1, b1]
  exact w
theorem Dy.of_int {i : Int} {a : UInt64} (h : DInt i a) : Dy i 0 a := by
  unfold DInt at h
  cases hv : val64 a with
  | nan => rw [hv] at h; exact h.elim
  | inf => rw [hv] at h; exact h.elim
  | fin s c q => rw [hv] at h; exact ⟨s, c, q, hv, by rw [Int.sub_zero]; exact h⟩
theorem Dy.i2d (x : Int32) : Dy x.toInt 0 (FP.i2d x) := Dy.of_int (i2d_int x)
theorem Dy.l2d {x : Int64} (h : x.toInt.natAbs ≤ 9007199254740992) : Dy x.toInt 0 (FP.l2d x) := Dy.of_int (l2d_int (Nat.le_trans h (by decide)))
/-- the int that a comparison pushes -/
def own_ci (i j : Int) : Int32 := if i < j then -1 else if i = j then 0 else 1
theorem Dy.cmpV {i j e : Int} {a b : UInt64} (ha : Dy i e a) (hb : Dy j e b) (o : Jvm.ClassFile.CmpOp) : Jvm.Op.cmpValue (FP.dcmp a b) o = own_ci i j := by
  rw [ha.cmp hb, compare_ite]
  unfold own_ci
  by_cases h1 : i < j
  · simp only [if_pos h1]; cases o <;> rfl
  · by_cases h2 : i = j
    · simp only [if_neg h1, if_pos h2]; cases o <;> rfl
    · simp only [if_neg h1, if_neg h2]; cases o <;> rfl
theorem own_ci_lt {i j : Int} : own_ci i j < 0 ↔ i < j := by
  unfold own_ci
  by_cases h1 : i < j
  · simp [h1]
  · by_cases h2 : i = j <;> simp [h1, h2]
theorem own_ci_gt {i j : Int} : 0 < own_ci i j ↔ j < i := by
  unfold own_ci
  by_cases h1 : i < j
  · simp [h1]; omega
  · by_cases h2 : i = j
    · simp [h2]
    · simp [h1, h2]; omega
theorem own_ci_eq {i j : Int} : own_ci i j = 0 ↔ i = j := by
  unfold own_ci
  by_cases h1 : i < j
  · simp [h1]; omega
  · by_cases h2 : i = j <;> simp [h1, h2]
theorem Dy.cast {i j e f : Int} {a : UInt64} (h : Dy i e a) (hi : i = j) (he : e = f) : Dy j f a := by subst hi he; exact h
theorem own_zero (e : Int) : Dy 0 e (0 : UInt64) := ⟨false, 0, -1074, by decide +kernel, by
  show signed false (0 * _) = 0 * _
  rw [Nat.zero_mul, Int.zero_mul]; rfl⟩
end Jvm.OwnFp
namespace Jvm.OwnNum
theorem own_mulb {a b A B : Int} (a1 : -A ≤ a) (a2 : a ≤ A) (b1 : -B ≤ b) (b2 : b ≤ B) : -(A * B) ≤ a * b ∧ a * b ≤ A * B := by
  have hm : (a * b).natAbs ≤ A.toNat * B.toNat := by rw [Int.natAbs_mul]; exact Nat.mul_le_mul (by omega) (by omega)
  have hm2 : ((A.toNat * B.toNat : Nat) : Int) = A * B := by rw [Int.natCast_mul, Int.toNat_of_nonneg (by omega), Int.toNat_of_nonneg (by omega)]
  omega
theorem own_i2l (x : Int32) : x.toInt64.toInt = x.toInt := by simp
/-- a remainder by a positive literal -/
theorem own_rem {x k : Int32} {K : Int} (hk : k.toInt = K) (h : 0 < K) : -K < (x % k).toInt ∧ (x % k).toInt < K := by
  rw [Int32.toInt_mod, hk]
  have h1 := Int.tmod_lt_of_pos x.toInt h
  have h2 := Int.lt_tmod_of_pos x.toInt h
  omega
theorem own_and {x k : Int32} {K : Nat} (hk : k.toInt = K) (h0 : K < 2 ^ 31) : 0 ≤ (x &&& k).toInt ∧ (x &&& k).toInt ≤ K := by
  have e : k.toBitVec.toNat = K := by
    have := k.toBitVec.isLt
    have q : k.toInt = k.toBitVec.toInt := rfl
    rw [q, BitVec.toInt_eq_toNat_cond] at hk
    split at hk <;> omega
  have b : (x &&& k).toBitVec.toNat ≤ K := by
    show (x.toBitVec &&& k.toBitVec).toNat ≤ K
    rw [BitVec.toNat_and, e]; exact Nat.and_le_right
  have q : (x &&& k).toInt = (x &&& k).toBitVec.toInt := rfl
  rw [q, BitVec.toInt_eq_toNat_cond]
  split <;> omega
theorem own_add32 {a b : Int32} (h1 : -2147483648 ≤ a.toInt + b.toInt) (h2 : a.toInt + b.toInt < 2147483648) : (a + b).toInt = a.toInt + b.toInt := by
  rw [Int32.toInt_add]; exact Int.bmod_eq_of_le (by omega) (by omega)
theorem own_sub32 {a b : Int32} (h1 : -2147483648 ≤ a.toInt - b.toInt) (h2 : a.toInt - b.toInt < 2147483648) : (a - b).toInt = a.toInt - b.toInt := by
  rw [Int32.toInt_sub]; exact Int.bmod_eq_of_le (by omega) (by omega)
theorem own_mul32 {a b : Int32} (h1 : -2147483648 ≤ a.toInt * b.toInt) (h2 : a.toInt * b.toInt < 2147483648) : (a * b).toInt = a.toInt * b.toInt := by
  rw [Int32.toInt_mul]; exact Int.bmod_eq_of_le (by omega) (by omega)
theorem own_min (a b : Int32) : (if b < a then b else a).toInt = min a.toInt b.toInt := by
  split
  · rename_i h; rw [Int32.lt_iff_toInt_lt] at h; omega
  · rename_i h; rw [Int32.lt_iff_toInt_lt] at h; omega
theorem own_max (a b : Int32) : (if a < b then b else a).toInt = max a.toInt b.toInt := by
  split
  · rename_i h; rw [Int32.lt_iff_toInt_lt] at h; omega
  · rename_i h; rw [Int32.lt_iff_toInt_lt] at h; omega
theorem own_shl {e : Int32} (h0 : 0 ≤ e.toInt) (h1 : e.toInt < 11) : ∃ k : Nat, k ≤ 10 ∧ ((1 : Int32) <<< (e &&& 31)).toInt = 2 ^ k := by
  have hk : e.toInt = 0 ∨ e.toInt = 1 ∨ e.toInt = 2 ∨ e.toInt = 3 ∨ e.toInt = 4 ∨ e.toInt = 5 ∨ e.toInt = 6 ∨ e.toInt = 7 ∨ e.toInt = 8 ∨ e.toInt = 9 ∨ e.toInt = 10 := by omega
  rcases hk with h | h | h | h | h | h | h | h | h | h | h
  · exact ⟨0, by decide, by rw [Int32.toInt_inj.mp (h.trans (by decide : (0 : Int) = (0 : Int32).toInt))]; decide⟩
  · exact ⟨1, by decide, by rw [Int32.toInt_inj.mp (h.trans (by decide : (1 : Int) = (1 : Int32).toInt))]; decide⟩
  · exact ⟨2, by decide, by rw [Int32.toInt_inj.mp (h.trans (by decide : (2 : Int) = (2 : Int32).toInt))]; decide⟩
  · exact ⟨3, by decide, by rw [Int32.toInt_inj.mp (h.trans (by decide : (3 : Int) = (3 : Int32).toInt))]; decide⟩
  · exact ⟨4, by decide, by rw [Int32.toInt_inj.mp (h.trans (by decide : (4 : Int) = (4 : Int32).toInt))]; decide⟩
  · exact ⟨5, by decide, by rw [Int32.toInt_inj.mp (h.trans (by decide : (5 : Int) = (5 : Int32).toInt))]; decide⟩
  · exact ⟨6, by decide, by rw [Int32.toInt_inj.mp (h.trans (by decide : (6 : Int) = (6 : Int32).toInt))]; decide⟩
  · exact ⟨7, by decide, by rw [Int32.toInt_inj.mp (h.trans (by decide : (7 : Int) = (7 : Int32).toInt))]; decide⟩
  · exact ⟨8, by decide, by rw [Int32.toInt_inj.mp (h.trans (by decide : (8 : Int) = (8 : Int32).toInt))]; decide⟩
  · exact ⟨9, by decide, by rw [Int32.toInt_inj.mp (h.trans (by decide : (9 : Int) = (9 : Int32).toInt))]; decide⟩
  · exact ⟨10, by decide, by rw [Int32.toInt_inj.mp (h.trans (by decide : (10 : Int) = (10 : Int32).toInt))]; decide⟩
theorem own_and3 (x : Int32) : (x &&& (3 : Int32)) = (0 : Int32) ∨ (x &&& (3 : Int32)) = (1 : Int32) ∨ (x &&& (3 : Int32)) = (2 : Int32) ∨ (x &&& (3 : Int32)) = (3 : Int32) := by
  have h := own_and (x := x) (k := 3) (K := 3) (by decide) (by decide)
  have q : (x &&& (3 : Int32)).toInt = 0 ∨ (x &&& (3 : Int32)).toInt = 1 ∨ (x &&& (3 : Int32)).toInt = 2 ∨ (x &&& (3 : Int32)).toInt = 3 := by omega
  rcases q with q | q | q | q
  · exact Or.inl (Int32.toInt_inj.mp (q.trans (by decide : (0 : Int) = (0 : Int32).toInt)))
  · exact Or.inr (Or.inl (Int32.toInt_inj.mp (q.trans (by decide : (1 : Int) = (1 : Int32).toInt))))
  · exact Or.inr (Or.inr (Or.inl (Int32.toInt_inj.mp (q.trans (by decide : (2 : Int) = (2 : Int32).toInt)))))
  · exact Or.inr (Or.inr (Or.inr (Int32.toInt_inj.mp (q.trans (by decide : (3 : Int) = (3 : Int32).toInt)))))
theorem own_pow10 {e : Nat} (h : e ≤ 10) : (2 : Int) ^ e ≤ 1024 ∧ 1 ≤ (2 : Int) ^ e := by
  have : ∀ e, e ≤ 10 → (2 : Int) ^ e ≤ 1024 ∧ 1 ≤ (2 : Int) ^ e := by decide
  exact this e h
end Jvm.OwnNum
namespace Jvm.Pilot.@@N@@
open Jvm Jvm.ClassFile Sem Op Lib Jvm.Free Jvm.Stand Jvm.LawKit Jvm.RoadKit Bundle Jvm.OwnGo Jvm.OwnFp Jvm.Pilot.@@N@@.Jvm.D
open Jvm.OwnNum Jvm.FP Jvm.Free.Fl
/-- the value at the place k -/
def own_w (k : Nat) : UInt64 := if k = 0 then 0 else FP.dmul (FP.i2d (if k % 2 = 1 then -(Int32.ofNat ((k + 1) / 2)) else Int32.ofNat (k / 2))) 4598175219545276416
def own_ws : List Value := (List.range 33).map fun k => .double (own_w k)
/-- what the law expects at the place k, odd or even and above 0 -/
theorem own_odd : ∀ k, k < 33 → k % 2 = 1 → FP.dcmp (own_w k) (FP.dneg (FP.ddiv (FP.i2d (Int32.ofNat ((k + 1) / 2))) 4616189618054758400)) = some .eq := by decide +kernel
theorem own_even : ∀ k, k < 33 → k % 2 = 0 → 0 < k → FP.dcmp (own_w k) (FP.ddiv (FP.i2d (Int32.ofNat ((k + 1) / 2))) 4616189618054758400) = some .eq := by decide +kernel
theorem own_nn : ∀ k, k < 33 → NoNaN64 (FP.ddiv (FP.i2d (Int32.ofNat ((k + 1) / 2))) 4616189618054758400) := by unfold NoNaN64; decide +kernel
theorem d1_0 : decode prog_1_method_4_code 0 = .ok (.bipush 16, 2) := by decide +kernel
theorem d1_2 : decode prog_1_method_4_code 2 = .ok (.istore_n 0, 1) := by decide +kernel
theorem d1_3 : decode prog_1_method_4_code 3 = .ok (.iconst 1, 1) := by decide +kernel
theorem d1_4 : decode prog_1_method_4_code 4 = .ok (.iconst 2, 1) := by decide +kernel
theorem d1_5 : decode prog_1_method_4_code 5 = .ok (.iload_n 0, 1) := by decide +kernel
theorem d1_6 : decode prog_1_method_4_code 6 = .ok (.imul, 1) := by decide +kernel
theorem d1_7 : decode prog_1_method_4_code 7 = .ok (.iadd, 1) := by decide +kernel
theorem d1_8 : decode prog_1_method_4_code 8 = .ok (.newarray .double, 2) := by decide +kernel
theorem d1_10 : decode prog_1_method_4_code 10 = .ok (.astore_n 1, 1) := by decide +kernel
theorem d1_11 : decode prog_1_method_4_code 11 = .ok (.iconst 1, 1) := by decide +kernel
theorem d1_12 : decode prog_1_method_4_code 12 = .ok (.istore_n 2, 1) := by decide +kernel
theorem d1_13 : decode prog_1_method_4_code 13 = .ok (.iload_n 2, 1) := by decide +kernel
theorem d1_14 : decode prog_1_method_4_code 14 = .ok (.iload_n 0, 1) := by decide +kernel
theorem d1_15 : decode prog_1_method_4_code 15 = .ok (.if_icmp .gt 34, 3) := by decide +kernel
theorem d1_18 : decode prog_1_method_4_code 18 = .ok (.aload_n 1, 1) := by decide +kernel
theorem d1_19 : decode prog_1_method_4_code 19 = .ok (.iconst 2, 1) := by decide +kernel
theorem d1_20 : decode prog_1_method_4_code 20 = .ok (.iload_n 2, 1) := by decide +kernel
theorem d1_21 : decode prog_1_method_4_code 21 = .ok (.imul, 1) := by decide +kernel
theorem d1_22 : decode prog_1_method_4_code 22 = .ok (.iconst 1, 1) := by decide +kernel
theorem d1_23 : decode prog_1_method_4_code 23 = .ok (.isub, 1) := by decide +kernel
theorem d1_24 : decode prog_1_method_4_code 24 = .ok (.iload_n 2, 1) := by decide +kernel
theorem d1_25 : decode prog_1_method_4_code 25 = .ok (.ineg, 1) := by decide +kernel
theorem d1_26 : decode prog_1_method_4_code 26 = .ok (.i2d, 1) := by decide +kernel
theorem d1_27 : decode prog_1_method_4_code 27 = .ok (.ldc2_w 162, 3) := by decide +kernel
theorem d1_30 : decode prog_1_method_4_code 30 = .ok (.dmul, 1) := by decide +kernel
theorem d1_31 : decode prog_1_method_4_code 31 = .ok (.dastore, 1) := by decide +kernel
theorem d1_32 : decode prog_1_method_4_code 32 = .ok (.aload_n 1, 1) := by decide +kernel
theorem d1_33 : decode prog_1_method_4_code 33 = .ok (.iconst 2, 1) := by decide +kernel
theorem d1_34 : decode prog_1_method_4_code 34 = .ok (.iload_n 2, 1) := by decide +kernel
theorem d1_35 : decode prog_1_method_4_code 35 = .ok (.imul, 1) := by decide +kernel
theorem d1_36 : decode prog_1_method_4_code 36 = .ok (.iload_n 2, 1) := by decide +kernel
theorem d1_37 : decode prog_1_method_4_code 37 = .ok (.i2d, 1) := by decide +kernel
theorem d1_38 : decode prog_1_method_4_code 38 = .ok (.ldc2_w 162, 3) := by decide +kernel
theorem d1_41 : decode prog_1_method_4_code 41 = .ok (.dmul, 1) := by decide +kernel
theorem d1_42 : decode prog_1_method_4_code 42 = .ok (.dastore, 1) := by decide +kernel
theorem d1_43 : decode prog_1_method_4_code 43 = .ok (.iinc 2 1, 3) := by decide +kernel
theorem d1_46 : decode prog_1_method_4_code 46 = .ok (.goto (-33), 3) := by decide +kernel
theorem d1_49 : decode prog_1_method_4_code 49 = .ok (.aload_n 1, 1) := by decide +kernel
theorem d1_50 : decode prog_1_method_4_code 50 = .ok (.areturn, 1) := by decide +kernel
theorem pn_0 : plainName "com/example/solder/solder/BestFeedback" = true := by first | (simp [plainName, overriddenIn]; done) | decide +kernel
theorem ef_1 (m : MethodId)  : entryFrame m #[] 3 = mkF m 0 #[.unset, .unset, .unset] [] := by first | (simp [entryFrame, mkF, argsToLocals, Value.category]; done) | rfl
def Q1 (Z : State)   (h0 : Heap) (n0 : Nat) (v : Option Value) (h : Heap) (L : List Loc) : Prop := ∃ (b : Addr) (k : ClassId), v = some (.ref b) ∧ Fr n0 L ∧ Keep h0 h [] ∧ Arv Z h b k .double 33 own_ws (.double (0 : UInt64))
set_option maxRecDepth 65536 in
set_option maxHeartbeats 40000000 in
theorem rm1 (l : Launch) (Z : State) (a0 : Array Value) (hw : ∀ d ∈ tables_1, d.before a0 Z = true) (ws : List Jvm.Cond)   (h0 : Heap) (n0 : Nat) (Z0 : n0 ≤ h0.size)  :
    MetFree l (⟨"com/example/solder/solder/BestFeedback", "leadWeights", "()[D"⟩ : MethodName) (head1 (Jvm.Cond.code (⟨"com/example/solder/solder/BestFeedback", "leadWeights", "()[D"⟩ : MethodName) prog_1_method_4_code 3 (some (.array .double)) :: ws) ({ frames := 0, cells := 1, slots := 33, locals := 0 } : Room)) (fun a U => a = #[] ∧ Z.Warmed39 U.vm ∧ U.heap = h0) (fun _ _ _ _ _ => True) (fun _ U o U' => ∃ v L, o = .returned v ∧ Q1 Z  h0 n0 v U'.heap L ∧ FrameEnd U o U' L ({ frames := 0, cells := 1, slots := 33, locals := 0 } : Room).cells ({ frames := 0, cells := 1, slots := 33, locals := 0 } : Room).slots) := by
  refine MetFree.of_bodySF (plainFor_of_name pn_0) hisR ?_
  intro p e s m args below meth c s₁ Bd hml0 hP hK
  obtain ⟨rfl, hZ, hh⟩ := hP
  have hx := Bd.exec
  have hby := Bd.bytes
  have hml : c.maxLocals = 3 := hml0
  have hown : s.vm.findClass "com/example/solder/solder/BestFeedback" = some m.cls := findClass_of_methodNamed Bd.named
  have hnm := (name_of_methodNamed Bd.named Bd.method).1
  have X : Stand p l e ({ frames := 0, cells := 1, slots := 33, locals := 0 } : Room) s m #[] below meth c s₁ [] 0 0 := Stand.of_body Bd
  have eT : s₁.heap = h0 := by rw [← hh, Bd.state]; rfl
  have N := Fr.nil n0
  have K := Keep.refl h0 []
  refine Go.out ?_
  obtain ⟨T, eTT⟩ : ∃ z, z = s₁ := ⟨_, rfl⟩
  rw [← eTT] at X eT ⊢
  refine Go.by (fun tt_ kk_ => castTop (ef_1 m ) kk_) ?_
  show Go p.tables e below (T.setTop (mkF m 0 #[.unset, .unset, .unset] [])) _
  refine Go.by (fun tt_ kk_ => XS.bipush X.here hx rfl (hb hby d1_0) kk_) ?_
  show Go p.tables e below (T.setTop (mkF m 2 #[.unset, .unset, .unset] [(.int (16 : Int32))])) _
  refine Go.by (fun tt_ kk_ => XS.istoreN X.here hx rfl (hb hby d1_2) rfl (l' := #[.val (.int (16 : Int32)), .unset, .unset]) rfl kk_) ?_
  show Go p.tables e below (T.setTop (mkF m 3 #[.val (.int (16 : Int32)), .unset, .unset] [])) _
  refine Go.by (fun tt_ kk_ => XS.iconst X.here hx rfl (hb hby d1_3) kk_) ?_
  show Go p.tables e below (T.setTop (mkF m 4 #[.val (.int (16 : Int32)), .unset, .unset] [(.int (1 : Int32))])) _
  refine Go.by (fun tt_ kk_ => XS.iconst X.here hx rfl (hb hby d1_4) kk_) ?_
  show Go p.tables e below (T.setTop (mkF m 5 #[.val (.int (16 : Int32)), .unset, .unset] [(.int (2 : Int32)), (.int (1 : Int32))])) _
  refine Go.by (fun tt_ kk_ => XS.iloadN X.here hx rfl (hb hby d1_5) rfl kk_) ?_
  show Go p.tables e below (T.setTop (mkF m 6 #[.val (.int (16 : Int32)), .unset, .unset] [(.int (16 : Int32)), (.int (2 : Int32)), (.int (1 : Int32))])) _
  refine Go.by (fun tt_ kk_ => XS.imul X.here hx rfl (hb hby d1_6) rfl kk_) ?_
  show Go p.tables e below (T.setTop (mkF m 7 #[.val (.int (16 : Int32)), .unset, .unset] [(.int (32 : Int32)), (.int (1 : Int32))])) _
  refine Go.by (fun tt_ kk_ => XS.iadd X.here hx rfl (hb hby d1_7) rfl kk_) ?_
  show Go p.tables e below (T.setTop (mkF m 8 #[.val (.int (16 : Int32)), .unset, .unset] [(.int (33 : Int32))])) _
  obtain ⟨T, h1, k_b1, X, eT, E_, A_, st⟩ := newP X hx hZ (hw _ (List.mem_of_getElem? (i := 4) rfl)) eT (g := (mkF m 8 #[.val (.int (16 : Int32)), .unset, .unset] [(.int (33 : Int32))])) rfl (hb hby d1_8) rfl (by decide) (cap := 33) (by decide) (by decide) (by decide) (by decide)
  obtain ⟨b1, g_b1'⟩ : ∃ z, z = h0.size := ⟨_, rfl⟩
  rw [← g_b1'] at A_ st
  have g_b1 : n0 ≤ b1 := Nat.le_trans Z0 (Nat.le_trans K.1 (Nat.le_of_eq g_b1'.symm))
  have sz_b1 : h0.size ≤ b1 := Nat.le_trans K.1 (Nat.le_of_eq g_b1'.symm)
  have K := K.ext E_
  have V_b1 := Arv.new A_ (by decide)
  refine Go.by st ?_
  show Go p.tables e below (T.setTop (mkF m 10 #[.val (.int (16 : Int32)), .unset, .unset] [(.ref b1)])) _
  have V_b1 : Arv Z h1 b1 k_b1 .double (33 : Int32) [(.double (0 : UInt64)), (.double (0 : UInt64)), (.double (0 : UInt64)), (.double (0 : UInt64)), (.double (0 : UInt64)), (.double (0 : UInt64)), (.double (0 : UInt64)), (.double (0 : UInt64)), (.double (0 : UInt64)), (.double (0 : UInt64)), (.double (0 : UInt64)), (.double (0 : UInt64)), (.double (0 : UInt64)), (.double (0 : UInt64)), (.double (0 : UInt64)), (.double (0 : UInt64)), (.double (0 : UInt64)), (.double (0 : UInt64)), (.double (0 : UInt64)), (.double (0 : UInt64)), (.double (0 : UInt64)), (.double (0 : UInt64)), (.double (0 : UInt64)), (.double (0 : UInt64)), (.double (0 : UInt64)), (.double (0 : UInt64)), (.double (0 : UInt64)), (.double (0 : UInt64)), (.double (0 : UInt64)), (.double (0 : UInt64)), (.double (0 : UInt64)), (.double (0 : UInt64)), (.double (0 : UInt64))] (.double (0 : UInt64)) := V_b1.pad (pad_rep [] (.double (0 : UInt64)) 33)
  refine Go.by (fun tt_ kk_ => XS.astoreN X.here hx rfl (hb hby d1_10) rfl rfl (l' := #[.val (.int (16 : Int32)), .val (.ref b1), .unset]) rfl kk_) ?_
  show Go p.tables e below (T.setTop (mkF m 11 #[.val (.int (16 : Int32)), .val (.ref b1), .unset] [])) _
  refine Go.by (fun tt_ kk_ => XS.iconst X.here hx rfl (hb hby d1_11) kk_) ?_
  show Go p.tables e below (T.setTop (mkF m 12 #[.val (.int (16 : Int32)), .val (.ref b1), .unset] [(.int (1 : Int32))])) _
  refine Go.by (fun tt_ kk_ => XS.istoreN X.here hx rfl (hb hby d1_12) rfl (l' := #[.val (.int (16 : Int32)), .val (.ref b1), .val (.int (1 : Int32))]) rfl kk_) ?_
  show Go p.tables e below (T.setTop (mkF m 13 #[.val (.int (16 : Int32)), .val (.ref b1), .val (.int (1 : Int32))] [])) _
  refine Go.by (fun tt_ kk_ => XS.iloadN X.here hx rfl (hb hby d1_13) rfl kk_) ?_
  show Go p.tables e below (T.setTop (mkF m 14 #[.val (.int (16 : Int32)), .val (.ref b1), .val (.int (1 : Int32))] [(.int (1 : Int32))])) _
  refine Go.by (fun tt_ kk_ => XS.iloadN X.here hx rfl (hb hby d1_14) rfl kk_) ?_
  show Go p.tables e below (T.setTop (mkF m 15 #[.val (.int (16 : Int32)), .val (.ref b1), .val (.int (1 : Int32))] [(.int (16 : Int32)), (.int (1 : Int32))])) _
  refine Go.by (fun tt_ kk_ => XS.icmpNo X.here hx rfl (hb hby d1_15) rfl (flt (by decide : ¬ ((16 : Int32) < (1 : Int32)))).2.2.1 kk_) ?_
  show Go p.tables e below (T.setTop (mkF m 18 #[.val (.int (16 : Int32)), .val (.ref b1), .val (.int (1 : Int32))] [])) _
  refine Go.by (fun tt_ kk_ => XS.aloadN X.here hx rfl (hb hby d1_18) rfl rfl kk_) ?_
  show Go p.tables e below (T.setTop (mkF m 19 #[.val (.int (16 : Int32)), .val (.ref b1), .val (.int (1 : Int32))] [(.ref b1)])) _
  refine Go.by (fun tt_ kk_ => XS.iconst X.here hx rfl (hb hby d1_19) kk_) ?_
  show Go p.tables e below (T.setTop (mkF m 20 #[.val (.int (16 : Int32)), .val (.ref b1), .val (.int (1 : Int32))] [(.int (2 : Int32)), (.ref b1)])) _
  refine Go.by (fun tt_ kk_ => XS.iloadN X.here hx rfl (hb hby d1_20) rfl kk_) ?_
  show Go p.tables e below (T.setTop (mkF m 21 #[.val (.int (16 : Int32)), .val (.ref b1), .val (.int (1 : Int32))] [(.int (1 : Int32)), (.int (2 : Int32)), (.ref b1)])) _
  refine Go.by (fun tt_ kk_ => XS.imul X.here hx rfl (hb hby d1_21) rfl kk_) ?_
  show Go p.tables e below (T.setTop (mkF m 22 #[.val (.int (16 : Int32)), .val (.ref b1), .val (.int (1 : Int32))] [(.int (2 : Int32)), (.ref b1)])) _
  refine Go.by (fun tt_ kk_ => XS.iconst X.here hx rfl (hb hby d1_22) kk_) ?_
  show Go p.tables e below (T.setTop (mkF m 23 #[.val (.int (16 : Int32)), .val (.ref b1), .val (.int (1 : Int32))] [(.int (1 : Int32)), (.int (2 : Int32)), (.ref b1)])) _
  refine Go.by (fun tt_ kk_ => XS.isub X.here hx rfl (hb hby d1_23) rfl kk_) ?_
  show Go p.tables e below (T.setTop (mkF m 24 #[.val (.int (16 : Int32)), .val (.ref b1), .val (.int (1 : Int32))] [(.int (1 : Int32)), (.ref b1)])) _
  refine Go.by (fun tt_ kk_ => XS.iloadN X.here hx rfl (hb hby d1_24) rfl kk_) ?_
  show Go p.tables e below (T.setTop (mkF m 25 #[.val (.int (16 : Int32)), .val (.ref b1), .val (.int (1 : Int32))] [(.int (1 : Int32)), (.int (1 : Int32)), (.ref b1)])) _
  refine Go.by (fun tt_ kk_ => XS.ineg X.here hx rfl (hb hby d1_25) rfl kk_) ?_
  show Go p.tables e below (T.setTop (mkF m 26 #[.val (.int (16 : Int32)), .val (.ref b1), .val (.int (1 : Int32))] [(.int (-1 : Int32)), (.int (1 : Int32)), (.ref b1)])) _
  refine Go.by (fun tt_ kk_ => XS.i2dS X.here hx rfl (hb hby d1_26) rfl rfl kk_) ?_
  show Go p.tables e below (T.setTop (mkF m 27 #[.val (.int (16 : Int32)), .val (.ref b1), .val (.int (1 : Int32))] [(.double (FP.i2d (-1 : Int32))), (.int (1 : Int32)), (.ref b1)])) _
  refine Go.by (X.ldc2DoubleC hx hown (mvT hZ (hw _ (List.mem_of_getElem? (i := 5) rfl))) (g := (mkF m 27 #[.val (.int (16 : Int32)), .val (.ref b1), .val (.int (1 : Int32))] [(.double (FP.i2d (-1 : Int32))), (.int (1 : Int32)), (.ref b1)])) rfl (hb hby d1_27)) ?_
  show Go p.tables e below (T.setTop (mkF m 30 #[.val (.int (16 : Int32)), .val (.ref b1), .val (.int (1 : Int32))] [(.double (4598175219545276416 : UInt64)), (.double (FP.i2d (-1 : Int32))), (.int (1 : Int32)), (.ref b1)])) _
  refine Go.by (fun tt_ kk_ => XS.dmulS X.here hx rfl (hb hby d1_30) rfl (by unfold NoNaN64; decide +kernel) rfl kk_) ?_
  show Go p.tables e below (T.setTop (mkF m 31 #[.val (.int (16 : Int32)), .val (.ref b1), .val (.int (1 : Int32))] [(.double (FP.dmul (FP.i2d (-1 : Int32)) (4598175219545276416 : UInt64))), (.int (1 : Int32)), (.ref b1)])) _
  have Vo_ := V_b1
  obtain ⟨cl_, Ar_, q_, S_, N_, H_, G_⟩ := Vo_
  obtain ⟨T, h2, X, eT, Wh2, st⟩ := stD X hx hZ eT Ar_ (j := (1 : Int32)) (inb_of S_ ⟨by decide, by decide⟩) (g := (mkF m 31 #[.val (.int (16 : Int32)), .val (.ref b1), .val (.int (1 : Int32))] [(.double (FP.dmul (FP.i2d (-1 : Int32)) (4598175219545276416 : UInt64))), (.int (1 : Int32)), (.ref b1)])) rfl rfl (hb hby d1_31)
  have V_b1 := Arv.set Ar_ q_ S_ N_ H_ G_ rfl Wh2 1 rfl (Nat.le_of_ble_eq_true rfl)
  have N := Fr.snoc X N g_b1
  have K := K.wr Wh2 (Or.inr sz_b1)
  refine Go.by st ?_
  show Go p.tables e below (T.setTop (mkF m 32 #[.val (.int (16 : Int32)), .val (.ref b1), .val (.int (1 : Int32))] [])) _
  refine Go.by (fun tt_ kk_ => XS.aloadN X.here hx rfl (hb hby d1_32) rfl rfl kk_) ?_
  show Go p.tables e below (T.setTop (mkF m 33 #[.val (.int (16 : Int32)), .val (.ref b1), .val (.int (1 : Int32))] [(.ref b1)])) _
  refine Go.by (fun tt_ kk_ => XS.iconst X.here hx rfl (hb hby d1_33) kk_) ?_
  show Go p.tables e below (T.setTop (mkF m 34 #[.val (.int (16 : Int32)), .val (.ref b1), .val (.int (1 : Int32))] [(.int (2 : Int32)), (.ref b1)])) _
  refine Go.by (fun tt_ kk_ => XS.iloadN X.here hx rfl (hb hby d1_34) rfl kk_) ?_
  show Go p.tables e below (T.setTop (mkF m 35 #[.val (.int (16 : Int32)), .val (.ref b1), .val (.int (1 : Int32))] [(.int (1 : Int32)), (.int (2 : Int32)), (.ref b1)])) _
  refine Go.by (fun tt_ kk_ => XS.imul X.here hx rfl (hb hby d1_35) rfl kk_) ?_
  show Go p.tables e below (T.setTop (mkF m 36 #[.val (.int (16 : Int32)), .val (.ref b1), .val (.int (1 : Int32))] [(.int (2 : Int32)), (.ref b1)])) _
  refine Go.by (fun tt_ kk_ => XS.iloadN X.here hx rfl (hb hby d1_36) rfl kk_) ?_
  show Go p.tables e below (T.setTop (mkF m 37 #[.val (.int (16 : Int32)), .val (.ref b1), .val (.int (1 : Int32))] [(.int (1 : Int32)), (.int (2 : Int32)), (.ref b1)])) _
  refine Go.by (fun tt_ kk_ => XS.i2dS X.here hx rfl (hb hby d1_37) rfl rfl kk_) ?_
  show Go p.tables e below (T.setTop (mkF m 38 #[.val (.int (16 : Int32)), .val (.ref b1), .val (.int (1 : Int32))] [(.double (FP.i2d (1 : Int32))), (.int (2 : Int32)), (.ref b1)])) _
  refine Go.by (X.ldc2DoubleC hx hown (mvT hZ (hw _ (List.mem_of_getElem? (i := 5) rfl))) (g := (mkF m 38 #[.val (.int (16 : Int32)), .val (.ref b1), .val (.int (1 : Int32))] [(.double (FP.i2d (1 : Int32))), (.int (2 : Int32)), (.ref b1)])) rfl (hb hby d1_38)) ?_
  show Go p.tables e below (T.setTop (mkF m 41 #[.val (.int (16 : Int32)), .val (.ref b1), .val (.int (1 : Int32))] [(.double (4598175219545276416 : UInt64)), (.double (FP.i2d (1 : Int32))), (.int (2 : Int32)), (.ref b1)])) _
  refine Go.by (fun tt_ kk_ => XS.dmulS X.here hx rfl (hb hby d1_41) rfl (by unfold NoNaN64; decide +kernel) rfl kk_) ?_
  show Go p.tables e below (T.setTop (mkF m 42 #[.val (.int (16 : Int32)), .val (.ref b1), .val (.int (1 : Int32))] [(.double (FP.dmul (FP.i2d (1 : Int32)) (4598175219545276416 : UInt64))), (.int (2 : Int32)), (.ref b1)])) _
  have Vo_ := V_b1
  obtain ⟨cl_, Ar_, q_, S_, N_, H_, G_⟩ := Vo_
  obtain ⟨T, h3, X, eT, Wh3, st⟩ := stD X hx hZ eT Ar_ (j := (2 : Int32)) (inb_of S_ ⟨by decide, by decide⟩) (g := (mkF m 42 #[.val (.int (16 : Int32)), .val (.ref b1), .val (.int (1 : Int32))] [(.double (FP.dmul (FP.i2d (1 : Int32)) (4598175219545276416 : UInt64))), (.int (2 : Int32)), (.ref b1)])) rfl rfl (hb hby d1_42)
  have V_b1 := Arv.set Ar_ q_ S_ N_ H_ G_ rfl Wh3 2 rfl (Nat.le_of_ble_eq_true rfl)
  have N := Fr.snoc X N g_b1
  have K := K.wr Wh3 (Or.inr sz_b1)
  refine Go.by st ?_
  show Go p.tables e below (T.setTop (mkF m 43 #[.val (.int (16 : Int32)), .val (.ref b1), .val (.int (1 : Int32))] [])) _
  refine Go.by (fun tt_ kk_ => XS.iinc X.here hx rfl (hb hby d1_43) rfl (l' := #[.val (.int (16 : Int32)), .val (.ref b1), .val (.int (2 : Int32))]) rfl kk_) ?_
  show Go p.tables e below (T.setTop (mkF m 46 #[.val (.int (16 : Int32)), .val (.ref b1), .val (.int (2 : Int32))] [])) _
  refine Go.by (fun tt_ kk_ => XS.goto X.here hx rfl (pc0 := 46) (pc' := 13) rfl (hb hby d1_46) (by decide) (by decide) kk_) ?_
  show Go p.tables e below (T.setTop (mkF m 13 #[.val (.int (16 : Int32)), .val (.ref b1), .val (.int (2 : Int32))] [])) _
  refine Go.by (fun tt_ kk_ => XS.iloadN X.here hx rfl (hb hby d1_13) rfl kk_) ?_
  show Go p.tables e below (T.setTop (mkF m 14 #[.val (.int (16 : Int32)), .val (.ref b1), .val (.int (2 : Int32))] [(.int (2 : Int32))])) _
  refine Go.by (fun tt_ kk_ => XS.iloadN X.here hx rfl (hb hby d1_14) rfl kk_) ?_
  show Go p.tables e below (T.setTop (mkF m 15 #[.val (.int (16 : Int32)), .val (.ref b1), .val (.int (2 : Int32))] [(.int (16 : Int32)), (.int (2 : Int32))])) _
  refine Go.by (fun tt_ kk_ => XS.icmpNo X.here hx rfl (hb hby d1_15) rfl (flt (by decide : ¬ ((16 : Int32) < (2 : Int32)))).2.2.1 kk_) ?_
  show Go p.tables e below (T.setTop (mkF m 18 #[.val (.int (16 : Int32)), .val (.ref b1), .val (.int (2 : Int32))] [])) _
  refine Go.by (fun tt_ kk_ => XS.aloadN X.here hx rfl (hb hby d1_18) rfl rfl kk_) ?_
  show Go p.tables e below (T.setTop (mkF m 19 #[.val (.int (16 : Int32)), .val (.ref b1), .val (.int (2 : Int32))] [(.ref b1)])) _
  refine Go.by (fun tt_ kk_ => XS.iconst X.here hx rfl (hb hby d1_19) kk_) ?_
  show Go p.tables e below (T.setTop (mkF m 20 #[.val (.int (16 : Int32)), .val (.ref b1), .val (.int (2 : Int32))] [(.int (2 : Int32)), (.ref b1)])) _
  refine Go.by (fun tt_ kk_ => XS.iloadN X.here hx rfl (hb hby d1_20) rfl kk_) ?_
  show Go p.tables e below (T.setTop (mkF m 21 #[.val (.int (16 : Int32)), .val (.ref b1), .val (.int (2 : Int32))] [(.int (2 : Int32)), (.int (2 : Int32)), (.ref b1)])) _
  refine Go.by (fun tt_ kk_ => XS.imul X.here hx rfl (hb hby d1_21) rfl kk_) ?_
  show Go p.tables e below (T.setTop (mkF m 22 #[.val (.int (16 : Int32)), .val (.ref b1), .val (.int (2 : Int32))] [(.int (4 : Int32)), (.ref b1)])) _
  refine Go.by (fun tt_ kk_ => XS.iconst X.here hx rfl (hb hby d1_22) kk_) ?_
  show Go p.tables e below (T.setTop (mkF m 23 #[.val (.int (16 : Int32)), .val (.ref b1), .val (.int (2 : Int32))] [(.int (1 : Int32)), (.int (4 : Int32)), (.ref b1)])) _
  refine Go.by (fun tt_ kk_ => XS.isub X.here hx rfl (hb hby d1_23) rfl kk_) ?_
  show Go p.tables e below (T.setTop (mkF m 24 #[.val (.int (16 : Int32)), .val (.ref b1), .val (.int (2 : Int32))] [(.int (3 : Int32)), (.ref b1)])) _
  refine Go.by (fun tt_ kk_ => XS.iloadN X.here hx rfl (hb hby d1_24) rfl kk_) ?_
  show Go p.tables e below (T.setTop (mkF m 25 #[.val (.int (16 : Int32)), .val (.ref b1), .val (.int (2 : Int32))] [(.int (2 : Int32)), (.int (3 : Int32)), (.ref b1)])) _
  refine Go.by (fun tt_ kk_ => XS.ineg X.here hx rfl (hb hby d1_25) rfl kk_) ?_
  show Go p.tables e below (T.setTop (mkF m 26 #[.val (.int (16 : Int32)), .val (.ref b1), .val (.int (2 : Int32))] [(.int (-2 : Int32)), (.int (3 : Int32)), (.ref b1)])) _
  refine Go.by (fun tt_ kk_ => XS.i2dS X.here hx rfl (hb hby d1_26) rfl rfl kk_) ?_
  show Go p.tables e below (T.setTop (mkF m 27 #[.val (.int (16 : Int32)), .val (.ref b1), .val (.int (2 : Int32))] [(.double (FP.i2d (-2 : Int32))), (.int (3 : Int32)), (.ref b1)])) _
  refine Go.by (X.ldc2DoubleC hx hown (mvT hZ (hw _ (List.mem_of_getElem? (i := 5) rfl))) (g := (mkF m 27 #[.val (.int (16 : Int32)), .val (.ref b1), .val (.int (2 : Int32))] [(.double (FP.i2d (-2 : Int32))), (.int (3 : Int32)), (.ref b1)])) rfl (hb hby d1_27)) ?_
  show Go p.tables e below (T.setTop (mkF m 30 #[.val (.int (16 : Int32)), .val (.ref b1), .val (.int (2 : Int32))] [(.double (4598175219545276416 : UInt64)), (.double (FP.i2d (-2 : Int32))), (.int (3 : Int32)), (.ref b1)])) _
  refine Go.by (fun tt_ kk_ => XS.dmulS X.here hx rfl (hb hby d1_30) rfl (by unfold NoNaN64; decide +kernel) rfl kk_) ?_
  show Go p.tables e below (T.setTop (mkF m 31 #[.val (.int (16 : Int32)), .val (.ref b1), .val (.int (2 : Int32))] [(.double (FP.dmul (FP.i2d (-2 : Int32)) (4598175219545276416 : UInt64))), (.int (3 : Int32)), (.ref b1)])) _
  have Vo_ := V_b1
  obtain ⟨cl_, Ar_, q_, S_, N_, H_, G_⟩ := Vo_
  obtain ⟨T, h4, X, eT, Wh4, st⟩ := stD X hx hZ eT Ar_ (j := (3 : Int32)) (inb_of S_ ⟨by decide, by decide⟩) (g := (mkF m 31 #[.val (.int (16 : Int32)), .val (.ref b1), .val (.int (2 : Int32))] [(.double (FP.dmul (FP.i2d (-2 : Int32)) (4598175219545276416 : UInt64))), (.int (3 : Int32)), (.ref b1)])) rfl rfl (hb hby d1_31)
  have V_b1 := Arv.set Ar_ q_ S_ N_ H_ G_ rfl Wh4 3 rfl (Nat.le_of_ble_eq_true rfl)
  have N := Fr.snoc X N g_b1
  have K := K.wr Wh4 (Or.inr sz_b1)
  refine Go.by st ?_
  show Go p.tables e below (T.setTop (mkF m 32 #[.val (.int (16 : Int32)), .val (.ref b1), .val (.int (2 : Int32))] [])) _
  refine Go.by (fun tt_ kk_ => XS.aloadN X.here hx rfl (hb hby d1_32) rfl rfl kk_) ?_
  show Go p.tables e below (T.setTop (mkF m 33 #[.val (.int (16 : Int32)), .val (.ref b1), .val (.int (2 : Int32))] [(.ref b1)])) _
  refine Go.by (fun tt_ kk_ => XS.iconst X.here hx rfl (hb hby d1_33) kk_) ?_
  show Go p.tables e below (T.setTop (mkF m 34 #[.val (.int (16 : Int32)), .val (.ref b1), .val (.int (2 : Int32))] [(.int (2 : Int32)), (.ref b1)])) _
  refine Go.by (fun tt_ kk_ => XS.iloadN X.here hx rfl (hb hby d1_34) rfl kk_) ?_
  show Go p.tables e below (T.setTop (mkF m 35 #[.val (.int (16 : Int32)), .val (.ref b1), .val (.int (2 : Int32))] [(.int (2 : Int32)), (.int (2 : Int32)), (.ref b1)])) _
  refine Go.by (fun tt_ kk_ => XS.imul X.here hx rfl (hb hby d1_35) rfl kk_) ?_
  show Go p.tables e below (T.setTop (mkF m 36 #[.val (.int (16 : Int32)), .val (.ref b1), .val (.int (2 : Int32))] [(.int (4 : Int32)), (.ref b1)])) _
  refine Go.by (fun tt_ kk_ => XS.iloadN X.here hx rfl (hb hby d1_36) rfl kk_) ?_
  show Go p.tables e below (T.setTop (mkF m 37 #[.val (.int (16 : Int32)), .val (.ref b1), .val (.int (2 : Int32))] [(.int (2 : Int32)), (.int (4 : Int32)), (.ref b1)])) _
  refine Go.by (fun tt_ kk_ => XS.i2dS X.here hx rfl (hb hby d1_37) rfl rfl kk_) ?_
  show Go p.tables e below (T.setTop (mkF m 38 #[.val (.int (16 : Int32)), .val (.ref b1), .val (.int (2 : Int32))] [(.double (FP.i2d (2 : Int32))), (.int (4 : Int32)), (.ref b1)])) _
  refine Go.by (X.ldc2DoubleC hx hown (mvT hZ (hw _ (List.mem_of_getElem? (i := 5) rfl))) (g := (mkF m 38 #[.val (.int (16 : Int32)), .val (.ref b1), .val (.int (2 : Int32))] [(.double (FP.i2d (2 : Int32))), (.int (4 : Int32)), (.ref b1)])) rfl (hb hby d1_38)) ?_
  show Go p.tables e below (T.setTop (mkF m 41 #[.val (.int (16 : Int32)), .val (.ref b1), .val (.int (2 : Int32))] [(.double (4598175219545276416 : UInt64)), (.double (FP.i2d (2 : Int32))), (.int (4 : Int32)), (.ref b1)])) _
  refine Go.by (fun tt_ kk_ => XS.dmulS X.here hx rfl (hb hby d1_41) rfl (by unfold NoNaN64; decide +kernel) rfl kk_) ?_
  show Go p.tables e below (T.setTop (mkF m 42 #[.val (.int (16 : Int32)), .val (.ref b1), .val (.int (2 : Int32))] [(.double (FP.dmul (FP.i2d (2 : Int32)) (4598175219545276416 : UInt64))), (.int (4 : Int32)), (.ref b1)])) _
  have Vo_ := V_b1
  obtain ⟨cl_, Ar_, q_, S_, N_, H_, G_⟩ := Vo_
  obtain ⟨T, h5, X, eT, Wh5, st⟩ := stD X hx hZ eT Ar_ (j := (4 : Int32)) (inb_of S_ ⟨by decide, by decide⟩) (g := (mkF m 42 #[.val (.int (16 : Int32)), .val (.ref b1), .val (.int (2 : Int32))] [(.double (FP.dmul (FP.i2d (2 : Int32)) (4598175219545276416 : UInt64))), (.int (4 : Int32)), (.ref b1)])) rfl rfl (hb hby d1_42)
  have V_b1 := Arv.set Ar_ q_ S_ N_ H_ G_ rfl Wh5 4 rfl (Nat.le_of_ble_eq_true rfl)
  have N := Fr.snoc X N g_b1
  have K := K.wr Wh5 (Or.inr sz_b1)
  refine Go.by st ?_
  show Go p.tables e below (T.setTop (mkF m 43 #[.val (.int (16 : Int32)), .val (.ref b1), .val (.int (2 : Int32))] [])) _
  refine Go.by (fun tt_ kk_ => XS.iinc X.here hx rfl (hb hby d1_43) rfl (l' := #[.val (.int (16 : Int32)), .val (.ref b1), .val (.int (3 : Int32))]) rfl kk_) ?_
  show Go p.tables e below (T.setTop (mkF m 46 #[.val (.int (16 : Int32)), .val (.ref b1), .val (.int (3 : Int32))] [])) _
  refine Go.by (fun tt_ kk_ => XS.goto X.here hx rfl (pc0 := 46) (pc' := 13) rfl (hb hby d1_46) (by decide) (by decide) kk_) ?_
  show Go p.tables e below (T.setTop (mkF m 13 #[.val (.int (16 : Int32)), .val (.ref b1), .val (.int (3 : Int32))] [])) _
  refine Go.by (fun tt_ kk_ => XS.iloadN X.here hx rfl (hb hby d1_13) rfl kk_) ?_
  show Go p.tables e below (T.setTop (mkF m 14 #[.val (.int (16 : Int32)), .val (.ref b1), .val (.int (3 : Int32))] [(.int (3 : Int32))])) _
  refine Go.by (fun tt_ kk_ => XS.iloadN X.here hx rfl (hb hby d1_14) rfl kk_) ?_
  show Go p.tables e below (T.setTop (mkF m 15 #[.val (.int (16 : Int32)), .val (.ref b1), .val (.int (3 : Int32))] [(.int (16 : Int32)), (.int (3 : Int32))])) _
  refine Go.by (fun tt_ kk_ => XS.icmpNo X.here hx rfl (hb hby d1_15) rfl (flt (by decide : ¬ ((16 : Int32) < (3 : Int32)))).2.2.1 kk_) ?_
  show Go p.tables e below (T.setTop (mkF m 18 #[.val (.int (16 : Int32)), .val (.ref b1), .val (.int (3 : Int32))] [])) _
  refine Go.by (fun tt_ kk_ => XS.aloadN X.here hx rfl (hb hby d1_18) rfl rfl kk_) ?_
  show Go p.tables e below (T.setTop (mkF m 19 #[.val (.int (16 : Int32)), .val (.ref b1), .val (.int (3 : Int32))] [(.ref b1)])) _
  refine Go.by (fun tt_ kk_ => XS.iconst X.here hx rfl (hb hby d1_19) kk_) ?_
  show Go p.tables e below (T.setTop (mkF m 20 #[.val (.int (16 : Int32)), .val (.ref b1), .val (.int (3 : Int32))] [(.int (2 : Int32)), (.ref b1)])) _
  refine Go.by (fun tt_ kk_ => XS.iloadN X.here hx rfl (hb hby d1_20) rfl kk_) ?_
  show Go p.tables e below (T.setTop (mkF m 21 #[.val (.int (16 : Int32)), .val (.ref b1), .val (.int (3 : Int32))] [(.int (3 : Int32)), (.int (2 : Int32)), (.ref b1)])) _
  refine Go.by (fun tt_ kk_ => XS.imul X.here hx rfl (hb hby d1_21) rfl kk_) ?_
  show Go p.tables e below (T.setTop (mkF m 22 #[.val (.int (16 : Int32)), .val (.ref b1), .val (.int (3 : Int32))] [(.int (6 : Int32)), (.ref b1)])) _
  refine Go.by (fun tt_ kk_ => XS.iconst X.here hx rfl (hb hby d1_22) kk_) ?_
  show Go p.tables e below (T.setTop (mkF m 23 #[.val (.int (16 : Int32)), .val (.ref b1), .val (.int (3 : Int32))] [(.int (1 : Int32)), (.int (6 : Int32)), (.ref b1)])) _
  refine Go.by (fun tt_ kk_ => XS.isub X.here hx rfl (hb hby d1_23) rfl kk_) ?_
  show Go p.tables e below (T.setTop (mkF m 24 #[.val (.int (16 : Int32)), .val (.ref b1), .val (.int (3 : Int32))] [(.int (5 : Int32)), (.ref b1)])) _
  refine Go.by (fun tt_ kk_ => XS.iloadN X.here hx rfl (hb hby d1_24) rfl kk_) ?_
  show Go p.tables e below (T.setTop (mkF m 25 #[.val (.int (16 : Int32)), .val (.ref b1), .val (.int (3 : Int32))] [(.int (3 : Int32)), (.int (5 : Int32)), (.ref b1)])) _
  refine Go.by (fun tt_ kk_ => XS.ineg X.here hx rfl (hb hby d1_25) rfl kk_) ?_
  show Go p.tables e below (T.setTop (mkF m 26 #[.val (.int (16 : Int32)), .val (.ref b1), .val (.int (3 : Int32))] [(.int (-3 : Int32)), (.int (5 : Int32)), (.ref b1)])) _
  refine Go.by (fun tt_ kk_ => XS.i2dS X.here hx rfl (hb hby d1_26) rfl rfl kk_) ?_
  show Go p.tables e below (T.setTop (mkF m 27 #[.val (.int (16 : Int32)), .val (.ref b1), .val (.int (3 : Int32))] [(.double (FP.i2d (-3 : Int32))), (.int (5 : Int32)), (.ref b1)])) _
  refine Go.by (X.ldc2DoubleC hx hown (mvT hZ (hw _ (List.mem_of_getElem? (i := 5) rfl))) (g := (mkF m 27 #[.val (.int (16 : Int32)), .val (.ref b1), .val (.int (3 : Int32))] [(.double (FP.i2d (-3 : Int32))), (.int (5 : Int32)), (.ref b1)])) rfl (hb hby d1_27)) ?_
  show Go p.tables e below (T.setTop (mkF m 30 #[.val (.int (16 : Int32)), .val (.ref b1), .val (.int (3 : Int32))] [(.double (4598175219545276416 : UInt64)), (.double (FP.i2d (-3 : Int32))), (.int (5 : Int32)), (.ref b1)])) _
  refine Go.by (fun tt_ kk_ => XS.dmulS X.here hx rfl (hb hby d1_30) rfl (by unfold NoNaN64; decide +kernel) rfl kk_) ?_
  show Go p.tables e below (T.setTop (mkF m 31 #[.val (.int (16 : Int32)), .val (.ref b1), .val (.int (3 : Int32))] [(.double (FP.dmul (FP.i2d (-3 : Int32)) (4598175219545276416 : UInt64))), (.int (5 : Int32)), (.ref b1)])) _
  have Vo_ := V_b1
  obtain ⟨cl_, Ar_, q_, S_, N_, H_, G_⟩ := Vo_
  obtain ⟨T, h6, X, eT, Wh6, st⟩ := stD X hx hZ eT Ar_ (j := (5 : Int32)) (inb_of S_ ⟨by decide, by decide⟩) (g := (mkF m 31 #[.val (.int (16 : Int32)), .val (.ref b1), .val (.int (3 : Int32))] [(.double (FP.dmul (FP.i2d (-3 : Int32)) (4598175219545276416 : UInt64))), (.int (5 : Int32)), (.ref b1)])) rfl rfl (hb hby d1_31)
  have V_b1 := Arv.set Ar_ q_ S_ N_ H_ G_ rfl Wh6 5 rfl (Nat.le_of_ble_eq_true rfl)
  have N := Fr.snoc X N g_b1
  have K := K.wr Wh6 (Or.inr sz_b1)
  refine Go.by st ?_
  show Go p.tables e below (T.setTop (mkF m 32 #[.val (.int (16 : Int32)), .val (.ref b1), .val (.int (3 : Int32))] [])) _
  refine Go.by (fun tt_ kk_ => XS.aloadN X.here hx rfl (hb hby d1_32) rfl rfl kk_) ?_
  show Go p.tables e below (T.setTop (mkF m 33 #[.val (.int (16 : Int32)), .val (.ref b1), .val (.int (3 : Int32))] [(.ref b1)])) _
  refine Go.by (fun tt_ kk_ => XS.iconst X.here hx rfl (hb hby d1_33) kk_) ?_
  show Go p.tables e below (T.setTop (mkF m 34 #[.val (.int (16 : Int32)), .val (.ref b1), .val (.int (3 : Int32))] [(.int (2 : Int32)), (.ref b1)])) _
  refine Go.by (fun tt_ kk_ => XS.iloadN X.here hx rfl (hb hby d1_34) rfl kk_) ?_
  show Go p.tables e below (T.setTop (mkF m 35 #[.val (.int (16 : Int32)), .val (.ref b1), .val (.int (3 : Int32))] [(.int (3 : Int32)), (.int (2 : Int32)), (.ref b1)])) _
  refine Go.by (fun tt_ kk_ => XS.imul X.here hx rfl (hb hby d1_35) rfl kk_) ?_
  show Go p.tables e below (T.setTop (mkF m 36 #[.val (.int (16 : Int32)), .val (.ref b1), .val (.int (3 : Int32))] [(.int (6 : Int32)), (.ref b1)])) _
  refine Go.by (fun tt_ kk_ => XS.iloadN X.here hx rfl (hb hby d1_36) rfl kk_) ?_
  show Go p.tables e below (T.setTop (mkF m 37 #[.val (.int (16 : Int32)), .val (.ref b1), .val (.int (3 : Int32))] [(.int (3 : Int32)), (.int (6 : Int32)), (.ref b1)])) _
  refine Go.by (fun tt_ kk_ => XS.i2dS X.here hx rfl (hb hby d1_37) rfl rfl kk_) ?_
  show Go p.tables e below (T.setTop (mkF m 38 #[.val (.int (16 : Int32)), .val (.ref b1), .val (.int (3 : Int32))] [(.double (FP.i2d (3 : Int32))), (.int (6 : Int32)), (.ref b1)])) _
  refine Go.by (X.ldc2DoubleC hx hown (mvT hZ (hw _ (List.mem_of_getElem? (i := 5) rfl))) (g := (mkF m 38 #[.val (.int (16 : Int32)), .val (.ref b1), .val (.int (3 : Int32))] [(.double (FP.i2d (3 : Int32))), (.int (6 : Int32)), (.ref b1)])) rfl (hb hby d1_38)) ?_
  show Go p.tables e below (T.setTop (mkF m 41 #[.val (.int (16 : Int32)), .val (.ref b1), .val (.int (3 : Int32))] [(.double (4598175219545276416 : UInt64)), (.double (FP.i2d (3 : Int32))), (.int (6 : Int32)), (.ref b1)])) _
  refine Go.by (fun tt_ kk_ => XS.dmulS X.here hx rfl (hb hby d1_41) rfl (by unfold NoNaN64; decide +kernel) rfl kk_) ?_
  show Go p.tables e below (T.setTop (mkF m 42 #[.val (.int (16 : Int32)), .val (.ref b1), .val (.int (3 : Int32))] [(.double (FP.dmul (FP.i2d (3 : Int32)) (4598175219545276416 : UInt64))), (.int (6 : Int32)), (.ref b1)])) _
  have Vo_ := V_b1
  obtain ⟨cl_, Ar_, q_, S_, N_, H_, G_⟩ := Vo_
  obtain ⟨T, h7, X, eT, Wh7, st⟩ := stD X hx hZ eT Ar_ (j := (6 : Int32)) (inb_of S_ ⟨by decide, by decide⟩) (g := (mkF m 42 #[.val (.int (16 : Int32)), .val (.ref b1), .val (.int (3 : Int32))] [(.double (FP.dmul (FP.i2d (3 : Int32)) (4598175219545276416 : UInt64))), (.int (6 : Int32)), (.ref b1)])) rfl rfl (hb hby d1_42)
  have V_b1 := Arv.set Ar_ q_ S_ N_ H_ G_ rfl Wh7 6 rfl (Nat.le_of_ble_eq_true rfl)
  have N := Fr.snoc X N g_b1
  have K := K.wr Wh7 (Or.inr sz_b1)
  refine Go.by st ?_
  show Go p.tables e below (T.setTop (mkF m 43 #[.val (.int (16 : Int32)), .val (.ref b1), .val (.int (3 : Int32))] [])) _
  refine Go.by (fun tt_ kk_ => XS.iinc X.here hx rfl (hb hby d1_43) rfl (l' := #[.val (.int (16 : Int32)), .val (.ref b1), .val (.int (4 : Int32))]) rfl kk_) ?_
  show Go p.tables e below (T.setTop (mkF m 46 #[.val (.int (16 : Int32)), .val (.ref b1), .val (.int (4 : Int32))] [])) _
  refine Go.by (fun tt_ kk_ => XS.goto X.here hx rfl (pc0 := 46) (pc' := 13) rfl (hb hby d1_46) (by decide) (by decide) kk_) ?_
  show Go p.tables e below (T.setTop (mkF m 13 #[.val (.int (16 : Int32)), .val (.ref b1), .val (.int (4 : Int32))] [])) _
  refine Go.by (fun tt_ kk_ => XS.iloadN X.here hx rfl (hb hby d1_13) rfl kk_) ?_
  show Go p.tables e below (T.setTop (mkF m 14 #[.val (.int (16 : Int32)), .val (.ref b1), .val (.int (4 : Int32))] [(.int (4 : Int32))])) _
  refine Go.by (fun tt_ kk_ => XS.iloadN X.here hx rfl (hb hby d1_14) rfl kk_) ?_
  show Go p.tables e below (T.setTop (mkF m 15 #[.val (.int (16 : Int32)), .val (.ref b1), .val (.int (4 : Int32))] [(.int (16 : Int32)), (.int (4 : Int32))])) _
  refine Go.by (fun tt_ kk_ => XS.icmpNo X.here hx rfl (hb hby d1_15) rfl (flt (by decide : ¬ ((16 : Int32) < (4 : Int32)))).2.2.1 kk_) ?_
  show Go p.tables e below (T.setTop (mkF m 18 #[.val (.int (16 : Int32)), .val (.ref b1), .val (.int (4 : Int32))] [])) _
  refine Go.by (fun tt_ kk_ => XS.aloadN X.here hx rfl (hb hby d1_18) rfl rfl kk_) ?_
  show Go p.tables e below (T.setTop (mkF m 19 #[.val (.int (16 : Int32)), .val (.ref b1), .val (.int (4 : Int32))] [(.ref b1)])) _
  refine Go.by (fun tt_ kk_ => XS.iconst X.here hx rfl (hb hby d1_19) kk_) ?_
  show Go p.tables e below (T.setTop (mkF m 20 #[.val (.int (16 : Int32)), .val (.ref b1), .val (.int (4 : Int32))] [(.int (2 : Int32)), (.ref b1)])) _
  refine Go.by (fun tt_ kk_ => XS.iloadN X.here hx rfl (hb hby d1_20) rfl kk_) ?_
  show Go p.tables e below (T.setTop (mkF m 21 #[.val (.int (16 : Int32)), .val (.ref b1), .val (.int (4 : Int32))] [(.int (4 : Int32)), (.int (2 : Int32)), (.ref b1)])) _
  refine Go.by (fun tt_ kk_ => XS.imul X.here hx rfl (hb hby d1_21) rfl kk_) ?_
  show Go p.tables e below (T.setTop (mkF m 22 #[.val (.int (16 : Int32)), .val (.ref b1), .val (.int (4 : Int32))] [(.int (8 : Int32)), (.ref b1)])) _
  refine Go.by (fun tt_ kk_ => XS.iconst X.here hx rfl (hb hby d1_22) kk_) ?_
  show Go p.tables e below (T.setTop (mkF m 23 #[.val (.int (16 : Int32)), .val (.ref b1), .val (.int (4 : Int32))] [(.int (1 : Int32)), (.int (8 : Int32)), (.ref b1)])) _
  refine Go.by (fun tt_ kk_ => XS.isub X.here hx rfl (hb hby d1_23) rfl kk_) ?_
  show Go p.tables e below (T.setTop (mkF m 24 #[.val (.int (16 : Int32)), .val (.ref b1), .val (.int (4 : Int32))] [(.int (7 : Int32)), (.ref b1)])) _
  refine Go.by (fun tt_ kk_ => XS.iloadN X.here hx rfl (hb hby d1_24) rfl kk_) ?_
  show Go p.tables e below (T.setTop (mkF m 25 #[.val (.int (16 : Int32)), .val (.ref b1), .val (.int (4 : Int32))] [(.int (4 : Int32)), (.int (7 : Int32)), (.ref b1)])) _
  refine Go.by (fun tt_ kk_ => XS.ineg X.here hx rfl (hb hby d1_25) rfl kk_) ?_
  show Go p.tables e below (T.setTop (mkF m 26 #[.val (.int (16 : Int32)), .val (.ref b1), .val (.int (4 : Int32))] [(.int (-4 : Int32)), (.int (7 : Int32)), (.ref b1)])) _
  refine Go.by (fun tt_ kk_ => XS.i2dS X.here hx rfl (hb hby d1_26) rfl rfl kk_) ?_
  show Go p.tables e below (T.setTop (mkF m 27 #[.val (.int (16 : Int32)), .val (.ref b1), .val (.int (4 : Int32))] [(.double (FP.i2d (-4 : Int32))), (.int (7 : Int32)), (.ref b1)])) _
  refine Go.by (X.ldc2DoubleC hx hown (mvT hZ (hw _ (List.mem_of_getElem? (i := 5) rfl))) (g := (mkF m 27 #[.val (.int (16 : Int32)), .val (.ref b1), .val (.int (4 : Int32))] [(.double (FP.i2d (-4 : Int32))), (.int (7 : Int32)), (.ref b1)])) rfl (hb hby d1_27)) ?_
  show Go p.tables e below (T.setTop (mkF m 30 #[.val (.int (16 : Int32)), .val (.ref b1), .val (.int (4 : Int32))] [(.double (4598175219545276416 : UInt64)), (.double (FP.i2d (-4 : Int32))), (.int (7 : Int32)), (.ref b1)])) _
  refine Go.by (fun tt_ kk_ => XS.dmulS X.here hx rfl (hb hby d1_30) rfl (by unfold NoNaN64; decide +kernel) rfl kk_) ?_
  show Go p.tables e below (T.setTop (mkF m 31 #[.val (.int (16 : Int32)), .val (.ref b1), .val (.int (4 : Int32))] [(.double (FP.dmul (FP.i2d (-4 : Int32)) (4598175219545276416 : UInt64))), (.int (7 : Int32)), (.ref b1)])) _
  have Vo_ := V_b1
  obtain ⟨cl_, Ar_, q_, S_, N_, H_, G_⟩ := Vo_
  obtain ⟨T, h8, X, eT, Wh8, st⟩ := stD X hx hZ eT Ar_ (j := (7 : Int32)) (inb_of S_ ⟨by decide, by decide⟩) (g := (mkF m 31 #[.val (.int (16 : Int32)), .val (.ref b1), .val (.int (4 : Int32))] [(.double (FP.dmul (FP.i2d (-4 : Int32)) (4598175219545276416 : UInt64))), (.int (7 : Int32)), (.ref b1)])) rfl rfl (hb hby d1_31)
  have V_b1 := Arv.set Ar_ q_ S_ N_ H_ G_ rfl Wh8 7 rfl (Nat.le_of_ble_eq_true rfl)
  have N := Fr.snoc X N g_b1
  have K := K.wr Wh8 (Or.inr sz_b1)
  refine Go.by st ?_
  show Go p.tables e below (T.setTop (mkF m 32 #[.val (.int (16 : Int32)), .val (.ref b1), .val (.int (4 : Int32))] [])) _
  refine Go.by (fun tt_ kk_ => XS.aloadN X.here hx rfl (hb hby d1_32) rfl rfl kk_) ?_
  show Go p.tables e below (T.setTop (mkF m 33 #[.val (.int (16 : Int32)), .val (.ref b1), .val (.int (4 : Int32))] [(.ref b1)])) _
  refine Go.by (fun tt_ kk_ => XS.iconst X.here hx rfl (hb hby d1_33) kk_) ?_
  show Go p.tables e below (T.setTop (mkF m 34 #[.val (.int (16 : Int32)), .val (.ref b1), .val (.int (4 : Int32))] [(.int (2 : Int32)), (.ref b1)])) _
  refine Go.by (fun tt_ kk_ => XS.iloadN X.here hx rfl (hb hby d1_34) rfl kk_) ?_
  show Go p.tables e below (T.setTop (mkF m 35 #[.val (.int (16 : Int32)), .val (.ref b1), .val (.int (4 : Int32))] [(.int (4 : Int32)), (.int (2 : Int32)), (.ref b1)])) _
  refine Go.by (fun tt_ kk_ => XS.imul X.here hx rfl (hb hby d1_35) rfl kk_) ?_
  show Go p.tables e below (T.setTop (mkF m 36 #[.val (.int (16 : Int32)), .val (.ref b1), .val (.int (4 : Int32))] [(.int (8 : Int32)), (.ref b1)])) _
  refine Go.by (fun tt_ kk_ => XS.iloadN X.here hx rfl (hb hby d1_36) rfl kk_) ?_
  show Go p.tables e below (T.setTop (mkF m 37 #[.val (.int (16 : Int32)), .val (.ref b1), .val (.int (4 : Int32))] [(.int (4 : Int32)), (.int (8 : Int32)), (.ref b1)])) _
  refine Go.by (fun tt_ kk_ => XS.i2dS X.here hx rfl (hb hby d1_37) rfl rfl kk_) ?_
  show Go p.tables e below (T.setTop (mkF m 38 #[.val (.int (16 : Int32)), .val (.ref b1), .val (.int (4 : Int32))] [(.double (FP.i2d (4 : Int32))), (.int (8 : Int32)), (.ref b1)])) _
  refine Go.by (X.ldc2DoubleC hx hown (mvT hZ (hw _ (List.mem_of_getElem? (i := 5) rfl))) (g := (mkF m 38 #[.val (.int (16 : Int32)), .val (.ref b1), .val (.int (4 : Int32))] [(.double (FP.i2d (4 : Int32))), (.int (8 : Int32)), (.ref b1)])) rfl (hb hby d1_38)) ?_
  show Go p.tables e below (T.setTop (mkF m 41 #[.val (.int (16 : Int32)), .val (.ref b1), .val (.int (4 : Int32))] [(.double (4598175219545276416 : UInt64)), (.double (FP.i2d (4 : Int32))), (.int (8 : Int32)), (.ref b1)])) _
  refine Go.by (fun tt_ kk_ => XS.dmulS X.here hx rfl (hb hby d1_41) rfl (by unfold NoNaN64; decide +kernel) rfl kk_) ?_
  show Go p.tables e below (T.setTop (mkF m 42 #[.val (.int (16 : Int32)), .val (.ref b1), .val (.int (4 : Int32))] [(.double (FP.dmul (FP.i2d (4 : Int32)) (4598175219545276416 : UInt64))), (.int (8 : Int32)), (.ref b1)])) _
  have Vo_ := V_b1
  obtain ⟨cl_, Ar_, q_, S_, N_, H_, G_⟩ := Vo_
  obtain ⟨T, h9, X, eT, Wh9, st⟩ := stD X hx hZ eT Ar_ (j := (8 : Int32)) (inb_of S_ ⟨by decide, by decide⟩) (g := (mkF m 42 #[.val (.int (16 : Int32)), .val (.ref b1), .val (.int (4 : Int32))] [(.double (FP.dmul (FP.i2d (4 : Int32)) (4598175219545276416 : UInt64))), (.int (8 : Int32)), (.ref b1)])) rfl rfl (hb hby d1_42)
  have V_b1 := Arv.set Ar_ q_ S_ N_ H_ G_ rfl Wh9 8 rfl (Nat.le_of_ble_eq_true rfl)
  have N := Fr.snoc X N g_b1
  have K := K.wr Wh9 (Or.inr sz_b1)
  refine Go.by st ?_
  show Go p.tables e below (T.setTop (mkF m 43 #[.val (.int (16 : Int32)), .val (.ref b1), .val (.int (4 : Int32))] [])) _
  refine Go.by (fun tt_ kk_ => XS.iinc X.here hx rfl (hb hby d1_43) rfl (l' := #[.val (.int (16 : Int32)), .val (.ref b1), .val (.int (5 : Int32))]) rfl kk_) ?_
  show Go p.tables e below (T.setTop (mkF m 46 #[.val (.int (16 : Int32)), .val (.ref b1), .val (.int (5 : Int32))] [])) _
  refine Go.by (fun tt_ kk_ => XS.goto X.here hx rfl (pc0 := 46) (pc' := 13) rfl (hb hby d1_46) (by decide) (by decide) kk_) ?_
  show Go p.tables e below (T.setTop (mkF m 13 #[.val (.int (16 : Int32)), .val (.ref b1), .val (.int (5 : Int32))] [])) _
  refine Go.by (fun tt_ kk_ => XS.iloadN X.here hx rfl (hb hby d1_13) rfl kk_) ?_
  show Go p.tables e below (T.setTop (mkF m 14 #[.val (.int (16 : Int32)), .val (.ref b1), .val (.int (5 : Int32))] [(.int (5 : Int32))])) _
  refine Go.by (fun tt_ kk_ => XS.iloadN X.here hx rfl (hb hby d1_14) rfl kk_) ?_
  show Go p.tables e below (T.setTop (mkF m 15 #[.val (.int (16 : Int32)), .val (.ref b1), .val (.int (5 : Int32))] [(.int (16 : Int32)), (.int (5 : Int32))])) _
  refine Go.by (fun tt_ kk_ => XS.icmpNo X.here hx rfl (hb hby d1_15) rfl (flt (by decide : ¬ ((16 : Int32) < (5 : Int32)))).2.2.1 kk_) ?_
  show Go p.tables e below (T.setTop (mkF m 18 #[.val (.int (16 : Int32)), .val (.ref b1), .val (.int (5 : Int32))] [])) _
  refine Go.by (fun tt_ kk_ => XS.aloadN X.here hx rfl (hb hby d1_18) rfl rfl kk_) ?_
  show Go p.tables e below (T.setTop (mkF m 19 #[.val (.int (16 : Int32)), .val (.ref b1), .val (.int (5 : Int32))] [(.ref b1)])) _
  refine Go.by (fun tt_ kk_ => XS.iconst X.here hx rfl (hb hby d1_19) kk_) ?_
  show Go p.tables e below (T.setTop (mkF m 20 #[.val (.int (16 : Int32)), .val (.ref b1), .val (.int (5 : Int32))] [(.int (2 : Int32)), (.ref b1)])) _
  refine Go.by (fun tt_ kk_ => XS.iloadN X.here hx rfl (hb hby d1_20) rfl kk_) ?_
  show Go p.tables e below (T.setTop (mkF m 21 #[.val (.int (16 : Int32)), .val (.ref b1), .val (.int (5 : Int32))] [(.int (5 : Int32)), (.int (2 : Int32)), (.ref b1)])) _
  refine Go.by (fun tt_ kk_ => XS.imul X.here hx rfl (hb hby d1_21) rfl kk_) ?_
  show Go p.tables e below (T.setTop (mkF m 22 #[.val (.int (16 : Int32)), .val (.ref b1), .val (.int (5 : Int32))] [(.int (10 : Int32)), (.ref b1)])) _
  refine Go.by (fun tt_ kk_ => XS.iconst X.here hx rfl (hb hby d1_22) kk_) ?_
  show Go p.tables e below (T.setTop (mkF m 23 #[.val (.int (16 : Int32)), .val (.ref b1), .val (.int (5 : Int32))] [(.int (1 : Int32)), (.int (10 : Int32)), (.ref b1)])) _
  refine Go.by (fun tt_ kk_ => XS.isub X.here hx rfl (hb hby d1_23) rfl kk_) ?_
  show Go p.tables e below (T.setTop (mkF m 24 #[.val (.int (16 : Int32)), .val (.ref b1), .val (.int (5 : Int32))] [(.int (9 : Int32)), (.ref b1)])) _
  refine Go.by (fun tt_ kk_ => XS.iloadN X.here hx rfl (hb hby d1_24) rfl kk_) ?_
  show Go p.tables e below (T.setTop (mkF m 25 #[.val (.int (16 : Int32)), .val (.ref b1), .val (.int (5 : Int32))] [(.int (5 : Int32)), (.int (9 : Int32)), (.ref b1)])) _
  refine Go.by (fun tt_ kk_ => XS.ineg X.here hx rfl (hb hby d1_25) rfl kk_) ?_
  show Go p.tables e below (T.setTop (mkF m 26 #[.val (.int (16 : Int32)), .val (.ref b1), .val (.int (5 : Int32))] [(.int (-5 : Int32)), (.int (9 : Int32)), (.ref b1)])) _
  refine Go.by (fun tt_ kk_ => XS.i2dS X.here hx rfl (hb hby d1_26) rfl rfl kk_) ?_
  show Go p.tables e below (T.setTop (mkF m 27 #[.val (.int (16 : Int32)), .val (.ref b1), .val (.int (5 : Int32))] [(.double (FP.i2d (-5 : Int32))), (.int (9 : Int32)), (.ref b1)])) _
  refine Go.by (X.ldc2DoubleC hx hown (mvT hZ (hw _ (List.mem_of_getElem? (i := 5) rfl))) (g := (mkF m 27 #[.val (.int (16 : Int32)), .val (.ref b1), .val (.int (5 : Int32))] [(.double (FP.i2d (-5 : Int32))), (.int (9 : Int32)), (.ref b1)])) rfl (hb hby d1_27)) ?_
  show Go p.tables e below (T.setTop (mkF m 30 #[.val (.int (16 : Int32)), .val (.ref b1), .val (.int (5 : Int32))] [(.double (4598175219545276416 : UInt64)), (.double (FP.i2d (-5 : Int32))), (.int (9 : Int32)), (.ref b1)])) _
  refine Go.by (fun tt_ kk_ => XS.dmulS X.here hx rfl (hb hby d1_30) rfl (by unfold NoNaN64; decide +kernel) rfl kk_) ?_
  show Go p.tables e below (T.setTop (mkF m 31 #[.val (.int (16 : Int32)), .val (.ref b1), .val (.int (5 : Int32))] [(.double (FP.dmul (FP.i2d (-5 : Int32)) (4598175219545276416 : UInt64))), (.int (9 : Int32)), (.ref b1)])) _
  have Vo_ := V_b1
  obtain ⟨cl_, Ar_, q_, S_, N_, H_, G_⟩ := Vo_
  obtain ⟨T, h10, X, eT, Wh10, st⟩ := stD X hx hZ eT Ar_ (j := (9 : Int32)) (inb_of S_ ⟨by decide, by decide⟩) (g := (mkF m 31 #[.val (.int (16 : Int32)), .val (.ref b1), .val (.int (5 : Int32))] [(.double (FP.dmul (FP.i2d (-5 : Int32)) (4598175219545276416 : UInt64))), (.int (9 : Int32)), (.ref b1)])) rfl rfl (hb hby d1_31)
  have V_b1 := Arv.set Ar_ q_ S_ N_ H_ G_ rfl Wh10 9 rfl (Nat.le_of_ble_eq_true rfl)
  have N := Fr.snoc X N g_b1
  have K := K.wr Wh10 (Or.inr sz_b1)
  refine Go.by st ?_
  show Go p.tables e below (T.setTop (mkF m 32 #[.val (.int (16 : Int32)), .val (.ref b1), .val (.int (5 : Int32))] [])) _
  refine Go.by (fun tt_ kk_ => XS.aloadN X.here hx rfl (hb hby d1_32) rfl rfl kk_) ?_
  show Go p.tables e below (T.setTop (mkF m 33 #[.val (.int (16 : Int32)), .val (.ref b1), .val (.int (5 : Int32))] [(.ref b1)])) _
  refine Go.by (fun tt_ kk_ => XS.iconst X.here hx rfl (hb hby d1_33) kk_) ?_
  show Go p.tables e below (T.setTop (mkF m 34 #[.val (.int (16 : Int32)), .val (.ref b1), .val (.int (5 : Int32))] [(.int (2 : Int32)), (.ref b1)])) _
  refine Go.by (fun tt_ kk_ => XS.iloadN X.here hx rfl (hb hby d1_34) rfl kk_) ?_
  show Go p.tables e below (T.setTop (mkF m 35 #[.val (.int (16 : Int32)), .val (.ref b1), .val (.int (5 : Int32))] [(.int (5 : Int32)), (.int (2 : Int32)), (.ref b1)])) _
  refine Go.by (fun tt_ kk_ => XS.imul X.here hx rfl (hb hby d1_35) rfl kk_) ?_
  show Go p.tables e below (T.setTop (mkF m 36 #[.val (.int (16 : Int32)), .val (.ref b1), .val (.int (5 : Int32))] [(.int (10 : Int32)), (.ref b1)])) _
  refine Go.by (fun tt_ kk_ => XS.iloadN X.here hx rfl (hb hby d1_36) rfl kk_) ?_
  show Go p.tables e below (T.setTop (mkF m 37 #[.val (.int (16 : Int32)), .val (.ref b1), .val (.int (5 : Int32))] [(.int (5 : Int32)), (.int (10 : Int32)), (.ref b1)])) _
  refine Go.by (fun tt_ kk_ => XS.i2dS X.here hx rfl (hb hby d1_37) rfl rfl kk_) ?_
  show Go p.tables e below (T.setTop (mkF m 38 #[.val (.int (16 : Int32)), .val (.ref b1), .val (.int (5 : Int32))] [(.double (FP.i2d (5 : Int32))), (.int (10 : Int32)), (.ref b1)])) _
  refine Go.by (X.ldc2DoubleC hx hown (mvT hZ (hw _ (List.mem_of_getElem? (i := 5) rfl))) (g := (mkF m 38 #[.val (.int (16 : Int32)), .val (.ref b1), .val (.int (5 : Int32))] [(.double (FP.i2d (5 : Int32))), (.int (10 : Int32)), (.ref b1)])) rfl (hb hby d1_38)) ?_
  show Go p.tables e below (T.setTop (mkF m 41 #[.val (.int (16 : Int32)), .val (.ref b1), .val (.int (5 : Int32))] [(.double (4598175219545276416 : UInt64)), (.double (FP.i2d (5 : Int32))), (.int (10 : Int32)), (.ref b1)])) _
  refine Go.by (fun tt_ kk_ => XS.dmulS X.here hx rfl (hb hby d1_41) rfl (by unfold NoNaN64; decide +kernel) rfl kk_) ?_
  show Go p.tables e below (T.setTop (mkF m 42 #[.val (.int (16 : Int32)), .val (.ref b1), .val (.int (5 : Int32))] [(.double (FP.dmul (FP.i2d (5 : Int32)) (4598175219545276416 : UInt64))), (.int (10 : Int32)), (.ref b1)])) _
  have Vo_ := V_b1
  obtain ⟨cl_, Ar_, q_, S_, N_, H_, G_⟩ := Vo_
  obtain ⟨T, h11, X, eT, Wh11, st⟩ := stD X hx hZ eT Ar_ (j := (10 : Int32)) (inb_of S_ ⟨by decide, by decide⟩) (g := (mkF m 42 #[.val (.int (16 : Int32)), .val (.ref b1), .val (.int (5 : Int32))] [(.double (FP.dmul (FP.i2d (5 : Int32)) (4598175219545276416 : UInt64))), (.int (10 : Int32)), (.ref b1)])) rfl rfl (hb hby d1_42)
  have V_b1 := Arv.set Ar_ q_ S_ N_ H_ G_ rfl Wh11 10 rfl (Nat.le_of_ble_eq_true rfl)
  have N := Fr.snoc X N g_b1
  have K := K.wr Wh11 (Or.inr sz_b1)
  refine Go.by st ?_
  show Go p.tables e below (T.setTop (mkF m 43 #[.val (.int (16 : Int32)), .val (.ref b1), .val (.int (5 : Int32))] [])) _
  refine Go.by (fun tt_ kk_ => XS.iinc X.here hx rfl (hb hby d1_43) rfl (l' := #[.val (.int (16 : Int32)), .val (.ref b1), .val (.int (6 : Int32))]) rfl kk_) ?_
  show Go p.tables e below (T.setTop (mkF m 46 #[.val (.int (16 : Int32)), .val (.ref b1), .val (.int (6 : Int32))] [])) _
  refine Go.by (fun tt_ kk_ => XS.goto X.here hx rfl (pc0 := 46) (pc' := 13) rfl (hb hby d1_46) (by decide) (by decide) kk_) ?_
  show Go p.tables e below (T.setTop (mkF m 13 #[.val (.int (16 : Int32)), .val (.ref b1), .val (.int (6 : Int32))] [])) _
  refine Go.by (fun tt_ kk_ => XS.iloadN X.here hx rfl (hb hby d1_13) rfl kk_) ?_
  show Go p.tables e below (T.setTop (mkF m 14 #[.val (.int (16 : Int32)), .val (.ref b1), .val (.int (6 : Int32))] [(.int (6 : Int32))])) _
  refine Go.by (fun tt_ kk_ => XS.iloadN X.here hx rfl (hb hby d1_14) rfl kk_) ?_
  show Go p.tables e below (T.setTop (mkF m 15 #[.val (.int (16 : Int32)), .val (.ref b1), .val (.int (6 : Int32))] [(.int (16 : Int32)), (.int (6 : Int32))])) _
  refine Go.by (fun tt_ kk_ => XS.icmpNo X.here hx rfl (hb hby d1_15) rfl (flt (by decide : ¬ ((16 : Int32) < (6 : Int32)))).2.2.1 kk_) ?_
  show Go p.tables e below (T.setTop (mkF m 18 #[.val (.int (16 : Int32)), .val (.ref b1), .val (.int (6 : Int32))] [])) _
  refine Go.by (fun tt_ kk_ => XS.aloadN X.here hx rfl (hb hby d1_18) rfl rfl kk_) ?_
  show Go p.tables e below (T.setTop (mkF m 19 #[.val (.int (16 : Int32)), .val (.ref b1), .val (.int (6 : Int32))] [(.ref b1)])) _
  refine Go.by (fun tt_ kk_ => XS.iconst X.here hx rfl (hb hby d1_19) kk_) ?_
  show Go p.tables e below (T.setTop (mkF m 20 #[.val (.int (16 : Int32)), .val (.ref b1), .val (.int (6 : Int32))] [(.int (2 : Int32)), (.ref b1)])) _
  refine Go.by (fun tt_ kk_ => XS.iloadN X.here hx rfl (hb hby d1_20) rfl kk_) ?_
  show Go p.tables e below (T.setTop (mkF m 21 #[.val (.int (16 : Int32)), .val (.ref b1), .val (.int (6 : Int32))] [(.int (6 : Int32)), (.int (2 : Int32)), (.ref b1)])) _
  refine Go.by (fun tt_ kk_ => XS.imul X.here hx rfl (hb hby d1_21) rfl kk_) ?_
  show Go p.tables e below (T.setTop (mkF m 22 #[.val (.int (16 : Int32)), .val (.ref b1), .val (.int (6 : Int32))] [(.int (12 : Int32)), (.ref b1)])) _
  refine Go.by (fun tt_ kk_ => XS.iconst X.here hx rfl (hb hby d1_22) kk_) ?_
  show Go p.tables e below (T.setTop (mkF m 23 #[.val (.int (16 : Int32)), .val (.ref b1), .val (.int (6 : Int32))] [(.int (1 : Int32)), (.int (12 : Int32)), (.ref b1)])) _
  refine Go.by (fun tt_ kk_ => XS.isub X.here hx rfl (hb hby d1_23) rfl kk_) ?_
  show Go p.tables e below (T.setTop (mkF m 24 #[.val (.int (16 : Int32)), .val (.ref b1), .val (.int (6 : Int32))] [(.int (11 : Int32)), (.ref b1)])) _
  refine Go.by (fun tt_ kk_ => XS.iloadN X.here hx rfl (hb hby d1_24) rfl kk_) ?_
  show Go p.tables e below (T.setTop (mkF m 25 #[.val (.int (16 : Int32)), .val (.ref b1), .val (.int (6 : Int32))] [(.int (6 : Int32)), (.int (11 : Int32)), (.ref b1)])) _
  refine Go.by (fun tt_ kk_ => XS.ineg X.here hx rfl (hb hby d1_25) rfl kk_) ?_
  show Go p.tables e below (T.setTop (mkF m 26 #[.val (.int (16 : Int32)), .val (.ref b1), .val (.int (6 : Int32))] [(.int (-6 : Int32)), (.int (11 : Int32)), (.ref b1)])) _
  refine Go.by (fun tt_ kk_ => XS.i2dS X.here hx rfl (hb hby d1_26) rfl rfl kk_) ?_
  show Go p.tables e below (T.setTop (mkF m 27 #[.val (.int (16 : Int32)), .val (.ref b1), .val (.int (6 : Int32))] [(.double (FP.i2d (-6 : Int32))), (.int (11 : Int32)), (.ref b1)])) _
  refine Go.by (X.ldc2DoubleC hx hown (mvT hZ (hw _ (List.mem_of_getElem? (i := 5) rfl))) (g := (mkF m 27 #[.val (.int (16 : Int32)), .val (.ref b1), .val (.int (6 : Int32))] [(.double (FP.i2d (-6 : Int32))), (.int (11 : Int32)), (.ref b1)])) rfl (hb hby d1_27)) ?_
  show Go p.tables e below (T.setTop (mkF m 30 #[.val (.int (16 : Int32)), .val (.ref b1), .val (.int (6 : Int32))] [(.double (4598175219545276416 : UInt64)), (.double (FP.i2d (-6 : Int32))), (.int (11 : Int32)), (.ref b1)])) _
  refine Go.by (fun tt_ kk_ => XS.dmulS X.here hx rfl (hb hby d1_30) rfl (by unfold NoNaN64; decide +kernel) rfl kk_) ?_
  show Go p.tables e below (T.setTop (mkF m 31 #[.val (.int (16 : Int32)), .val (.ref b1), .val (.int (6 : Int32))] [(.double (FP.dmul (FP.i2d (-6 : Int32)) (4598175219545276416 : UInt64))), (.int (11 : Int32)), (.ref b1)])) _
  have Vo_ := V_b1
  obtain ⟨cl_, Ar_, q_, S_, N_, H_, G_⟩ := Vo_
  obtain ⟨T, h12, X, eT, Wh12, st⟩ := stD X hx hZ eT Ar_ (j := (11 : Int32)) (inb_of S_ ⟨by decide, by decide⟩) (g := (mkF m 31 #[.val (.int (16 : Int32)), .val (.ref b1), .val (.int (6 : Int32))] [(.double (FP.dmul (FP.i2d (-6 : Int32)) (4598175219545276416 : UInt64))), (.int (11 : Int32)), (.ref b1)])) rfl rfl (hb hby d1_31)
  have V_b1 := Arv.set Ar_ q_ S_ N_ H_ G_ rfl Wh12 11 rfl (Nat.le_of_ble_eq_true rfl)
  have N := Fr.snoc X N g_b1
  have K := K.wr Wh12 (Or.inr sz_b1)
  refine Go.by st ?_
  show Go p.tables e below (T.setTop (mkF m 32 #[.val (.int (16 : Int32)), .val (.ref b1), .val (.int (6 : Int32))] [])) _
  refine Go.by (fun tt_ kk_ => XS.aloadN X.here hx rfl (hb hby d1_32) rfl rfl kk_) ?_
  show Go p.tables e below (T.setTop (mkF m 33 #[.val (.int (16 : Int32)), .val (.ref b1), .val (.int (6 : Int32))] [(.ref b1)])) _
  refine Go.by (fun tt_ kk_ => XS.iconst X.here hx rfl (hb hby d1_33) kk_) ?_
  show Go p.tables e below (T.setTop (mkF m 34 #[.val (.int (16 : Int32)), .val (.ref b1), .val (.int (6 : Int32))] [(.int (2 : Int32)), (.ref b1)])) _
  refine Go.by (fun tt_ kk_ => XS.iloadN X.here hx rfl (hb hby d1_34) rfl kk_) ?_
  show Go p.tables e below (T.setTop (mkF m 35 #[.val (.int (16 : Int32)), .val (.ref b1), .val (.int (6 : Int32))] [(.int (6 : Int32)), (.int (2 : Int32)), (.ref b1)])) _
  refine Go.by (fun tt_ kk_ => XS.imul X.here hx rfl (hb hby d1_35) rfl kk_) ?_
  show Go p.tables e below (T.setTop (mkF m 36 #[.val (.int (16 : Int32)), .val (.ref b1), .val (.int (6 : Int32))] [(.int (12 : Int32)), (.ref b1)])) _
  refine Go.by (fun tt_ kk_ => XS.iloadN X.here hx rfl (hb hby d1_36) rfl kk_) ?_
  show Go p.tables e below (T.setTop (mkF m 37 #[.val (.int (16 : Int32)), .val (.ref b1), .val (.int (6 : Int32))] [(.int (6 : Int32)), (.int (12 : Int32)), (.ref b1)])) _
  refine Go.by (fun tt_ kk_ => XS.i2dS X.here hx rfl (hb hby d1_37) rfl rfl kk_) ?_
  show Go p.tables e below (T.setTop (mkF m 38 #[.val (.int (16 : Int32)), .val (.ref b1), .val (.int (6 : Int32))] [(.double (FP.i2d (6 : Int32))), (.int (12 : Int32)), (.ref b1)])) _
  refine Go.by (X.ldc2DoubleC hx hown (mvT hZ (hw _ (List.mem_of_getElem? (i := 5) rfl))) (g := (mkF m 38 #[.val (.int (16 : Int32)), .val (.ref b1), .val (.int (6 : Int32))] [(.double (FP.i2d (6 : Int32))), (.int (12 : Int32)), (.ref b1)])) rfl (hb hby d1_38)) ?_
  show Go p.tables e below (T.setTop (mkF m 41 #[.val (.int (16 : Int32)), .val (.ref b1), .val (.int (6 : Int32))] [(.double (4598175219545276416 : UInt64)), (.double (FP.i2d (6 : Int32))), (.int (12 : Int32)), (.ref b1)])) _
  refine Go.by (fun tt_ kk_ => XS.dmulS X.here hx rfl (hb hby d1_41) rfl (by unfold NoNaN64; decide +kernel) rfl kk_) ?_
  show Go p.tables e below (T.setTop (mkF m 42 #[.val (.int (16 : Int32)), .val (.ref b1), .val (.int (6 : Int32))] [(.double (FP.dmul (FP.i2d (6 : Int32)) (4598175219545276416 : UInt64))), (.int (12 : Int32)), (.ref b1)])) _
  have Vo_ := V_b1
  obtain ⟨cl_, Ar_, q_, S_, N_, H_, G_⟩ := Vo_
  obtain ⟨T, h13, X, eT, Wh13, st⟩ := stD X hx hZ eT Ar_ (j := (12 : Int32)) (inb_of S_ ⟨by decide, by decide⟩) (g := (mkF m 42 #[.val (.int (16 : Int32)), .val (.ref b1), .val (.int (6 : Int32))] [(.double (FP.dmul (FP.i2d (6 : Int32)) (4598175219545276416 : UInt64))), (.int (12 : Int32)), (.ref b1)])) rfl rfl (hb hby d1_42)
  have V_b1 := Arv.set Ar_ q_ S_ N_ H_ G_ rfl Wh13 12 rfl (Nat.le_of_ble_eq_true rfl)
  have N := Fr.snoc X N g_b1
  have K := K.wr Wh13 (Or.inr sz_b1)
  refine Go.by st ?_
  show Go p.tables e below (T.setTop (mkF m 43 #[.val (.int (16 : Int32)), .val (.ref b1), .val (.int (6 : Int32))] [])) _
  refine Go.by (fun tt_ kk_ => XS.iinc X.here hx rfl (hb hby d1_43) rfl (l' := #[.val (.int (16 : Int32)), .val (.ref b1), .val (.int (7 : Int32))]) rfl kk_) ?_
  show Go p.tables e below (T.setTop (mkF m 46 #[.val (.int (16 : Int32)), .val (.ref b1), .val (.int (7 : Int32))] [])) _
  refine Go.by (fun tt_ kk_ => XS.goto X.here hx rfl (pc0 := 46) (pc' := 13) rfl (hb hby d1_46) (by decide) (by decide) kk_) ?_
  show Go p.tables e below (T.setTop (mkF m 13 #[.val (.int (16 : Int32)), .val (.ref b1), .val (.int (7 : Int32))] [])) _
  refine Go.by (fun tt_ kk_ => XS.iloadN X.here hx rfl (hb hby d1_13) rfl kk_) ?_
  show Go p.tables e below (T.setTop (mkF m 14 #[.val (.int (16 : Int32)), .val (.ref b1), .val (.int (7 : Int32))] [(.int (7 : Int32))])) _
  refine Go.by (fun tt_ kk_ => XS.iloadN X.here hx rfl (hb hby d1_14) rfl kk_) ?_
  show Go p.tables e below (T.setTop (mkF m 15 #[.val (.int (16 : Int32)), .val (.ref b1), .val (.int (7 : Int32))] [(.int (16 : Int32)), (.int (7 : Int32))])) _
  refine Go.by (fun tt_ kk_ => XS.icmpNo X.here hx rfl (hb hby d1_15) rfl (flt (by decide : ¬ ((16 : Int32) < (7 : Int32)))).2.2.1 kk_) ?_
  show Go p.tables e below (T.setTop (mkF m 18 #[.val (.int (16 : Int32)), .val (.ref b1), .val (.int (7 : Int32))] [])) _
  refine Go.by (fun tt_ kk_ => XS.aloadN X.here hx rfl (hb hby d1_18) rfl rfl kk_) ?_
  show Go p.tables e below (T.setTop (mkF m 19 #[.val (.int (16 : Int32)), .val (.ref b1), .val (.int (7 : Int32))] [(.ref b1)])) _
  refine Go.by (fun tt_ kk_ => XS.iconst X.here hx rfl (hb hby d1_19) kk_) ?_
  show Go p.tables e below (T.setTop (mkF m 20 #[.val (.int (16 : Int32)), .val (.ref b1), .val (.int (7 : Int32))] [(.int (2 : Int32)), (.ref b1)])) _
  refine Go.by (fun tt_ kk_ => XS.iloadN X.here hx rfl (hb hby d1_20) rfl kk_) ?_
  show Go p.tables e below (T.setTop (mkF m 21 #[.val (.int (16 : Int32)), .val (.ref b1), .val (.int (7 : Int32))] [(.int (7 : Int32)), (.int (2 : Int32)), (.ref b1)])) _
  refine Go.by (fun tt_ kk_ => XS.imul X.here hx rfl (hb hby d1_21) rfl kk_) ?_
  show Go p.tables e below (T.setTop (mkF m 22 #[.val (.int (16 : Int32)), .val (.ref b1), .val (.int (7 : Int32))] [(.int (14 : Int32)), (.ref b1)])) _
  refine Go.by (fun tt_ kk_ => XS.iconst X.here hx rfl (hb hby d1_22) kk_) ?_
  show Go p.tables e below (T.setTop (mkF m 23 #[.val (.int (16 : Int32)), .val (.ref b1), .val (.int (7 : Int32))] [(.int (1 : Int32)), (.int (14 : Int32)), (.ref b1)])) _
  refine Go.by (fun tt_ kk_ => XS.isub X.here hx rfl (hb hby d1_23) rfl kk_) ?_
  show Go p.tables e below (T.setTop (mkF m 24 #[.val (.int (16 : Int32)), .val (.ref b1), .val (.int (7 : Int32))] [(.int (13 : Int32)), (.ref b1)])) _
  refine Go.by (fun tt_ kk_ => XS.iloadN X.here hx rfl (hb hby d1_24) rfl kk_) ?_
  show Go p.tables e below (T.setTop (mkF m 25 #[.val (.int (16 : Int32)), .val (.ref b1), .val (.int (7 : Int32))] [(.int (7 : Int32)), (.int (13 : Int32)), (.ref b1)])) _
  refine Go.by (fun tt_ kk_ => XS.ineg X.here hx rfl (hb hby d1_25) rfl kk_) ?_
  show Go p.tables e below (T.setTop (mkF m 26 #[.val (.int (16 : Int32)), .val (.ref b1), .val (.int (7 : Int32))] [(.int (-7 : Int32)), (.int (13 : Int32)), (.ref b1)])) _
  refine Go.by (fun tt_ kk_ => XS.i2dS X.here hx rfl (hb hby d1_26) rfl rfl kk_) ?_
  show Go p.tables e below (T.setTop (mkF m 27 #[.val (.int (16 : Int32)), .val (.ref b1), .val (.int (7 : Int32))] [(.double (FP.i2d (-7 : Int32))), (.int (13 : Int32)), (.ref b1)])) _
  refine Go.by (X.ldc2DoubleC hx hown (mvT hZ (hw _ (List.mem_of_getElem? (i := 5) rfl))) (g := (mkF m 27 #[.val (.int (16 : Int32)), .val (.ref b1), .val (.int (7 : Int32))] [(.double (FP.i2d (-7 : Int32))), (.int (13 : Int32)), (.ref b1)])) rfl (hb hby d1_27)) ?_
  show Go p.tables e below (T.setTop (mkF m 30 #[.val (.int (16 : Int32)), .val (.ref b1), .val (.int (7 : Int32))] [(.double (4598175219545276416 : UInt64)), (.double (FP.i2d (-7 : Int32))), (.int (13 : Int32)), (.ref b1)])) _
  refine Go.by (fun tt_ kk_ => XS.dmulS X.here hx rfl (hb hby d1_30) rfl (by unfold NoNaN64; decide +kernel) rfl kk_) ?_
  show Go p.tables e below (T.setTop (mkF m 31 #[.val (.int (16 : Int32)), .val (.ref b1), .val (.int (7 : Int32))] [(.double (FP.dmul (FP.i2d (-7 : Int32)) (4598175219545276416 : UInt64))), (.int (13 : Int32)), (.ref b1)])) _
  have Vo_ := V_b1
  obtain ⟨cl_, Ar_, q_, S_, N_, H_, G_⟩ := Vo_
  obtain ⟨T, h14, X, eT, Wh14, st⟩ := stD X hx hZ eT Ar_ (j := (13 : Int32)) (inb_of S_ ⟨by decide, by decide⟩) (g := (mkF m 31 #[.val (.int (16 : Int32)), .val (.ref b1), .val (.int (7 : Int32))] [(.double (FP.dmul (FP.i2d (-7 : Int32)) (4598175219545276416 : UInt64))), (.int (13 : Int32)), (.ref b1)])) rfl rfl (hb hby d1_31)
  have V_b1 := Arv.set Ar_ q_ S_ N_ H_ G_ rfl Wh14 13 rfl (Nat.le_of_ble_eq_true rfl)
  have N := Fr.snoc X N g_b1
  have K := K.wr Wh14 (Or.inr sz_b1)
  refine Go.by st ?_
  show Go p.tables e below (T.setTop (mkF m 32 #[.val (.int (16 : Int32)), .val (.ref b1), .val (.int (7 : Int32))] [])) _
  refine Go.by (fun tt_ kk_ => XS.aloadN X.here hx rfl (hb hby d1_32) rfl rfl kk_) ?_
  show Go p.tables e below (T.setTop (mkF m 33 #[.val (.int (16 : Int32)), .val (.ref b1), .val (.int (7 : Int32))] [(.ref b1)])) _
  refine Go.by (fun tt_ kk_ => XS.iconst X.here hx rfl (hb hby d1_33) kk_) ?_
  show Go p.tables e below (T.setTop (mkF m 34 #[.val (.int (16 : Int32)), .val (.ref b1), .val (.int (7 : Int32))] [(.int (2 : Int32)), (.ref b1)])) _
  refine Go.by (fun tt_ kk_ => XS.iloadN X.here hx rfl (hb hby d1_34) rfl kk_) ?_
  show Go p.tables e below (T.setTop (mkF m 35 #[.val (.int (16 : Int32)), .val (.ref b1), .val (.int (7 : Int32))] [(.int (7 : Int32)), (.int (2 : Int32)), (.ref b1)])) _
  refine Go.by (fun tt_ kk_ => XS.imul X.here hx rfl (hb hby d1_35) rfl kk_) ?_
  show Go p.tables e below (T.setTop (mkF m 36 #[.val (.int (16 : Int32)), .val (.ref b1), .val (.int (7 : Int32))] [(.int (14 : Int32)), (.ref b1)])) _
  refine Go.by (fun tt_ kk_ => XS.iloadN X.here hx rfl (hb hby d1_36) rfl kk_) ?_
  show Go p.tables e below (T.setTop (mkF m 37 #[.val (.int (16 : Int32)), .val (.ref b1), .val (.int (7 : Int32))] [(.int (7 : Int32)), (.int (14 : Int32)), (.ref b1)])) _
  refine Go.by (fun tt_ kk_ => XS.i2dS X.here hx rfl (hb hby d1_37) rfl rfl kk_) ?_
  show Go p.tables e below (T.setTop (mkF m 38 #[.val (.int (16 : Int32)), .val (.ref b1), .val (.int (7 : Int32))] [(.double (FP.i2d (7 : Int32))), (.int (14 : Int32)), (.ref b1)])) _
  refine Go.by (X.ldc2DoubleC hx hown (mvT hZ (hw _ (List.mem_of_getElem? (i := 5) rfl))) (g := (mkF m 38 #[.val (.int (16 : Int32)), .val (.ref b1), .val (.int (7 : Int32))] [(.double (FP.i2d (7 : Int32))), (.int (14 : Int32)), (.ref b1)])) rfl (hb hby d1_38)) ?_
  show Go p.tables e below (T.setTop (mkF m 41 #[.val (.int (16 : Int32)), .val (.ref b1), .val (.int (7 : Int32))] [(.double (4598175219545276416 : UInt64)), (.double (FP.i2d (7 : Int32))), (.int (14 : Int32)), (.ref b1)])) _
  refine Go.by (fun tt_ kk_ => XS.dmulS X.here hx rfl (hb hby d1_41) rfl (by unfold NoNaN64; decide +kernel) rfl kk_) ?_
  show Go p.tables e below (T.setTop (mkF m 42 #[.val (.int (16 : Int32)), .val (.ref b1), .val (.int (7 : Int32))] [(.double (FP.dmul (FP.i2d (7 : Int32)) (4598175219545276416 : UInt64))), (.int (14 : Int32)), (.ref b1)])) _
  have Vo_ := V_b1
  obtain ⟨cl_, Ar_, q_, S_, N_, H_, G_⟩ := Vo_
  obtain ⟨T, h15, X, eT, Wh15, st⟩ := stD X hx hZ eT Ar_ (j := (14 : Int32)) (inb_of S_ ⟨by decide, by decide⟩) (g := (mkF m 42 #[.val (.int (16 : Int32)), .val (.ref b1), .val (.int (7 : Int32))] [(.double (FP.dmul (FP.i2d (7 : Int32)) (4598175219545276416 : UInt64))), (.int (14 : Int32)), (.ref b1)])) rfl rfl (hb hby d1_42)
  have V_b1 := Arv.set Ar_ q_ S_ N_ H_ G_ rfl Wh15 14 rfl (Nat.le_of_ble_eq_true rfl)
  have N := Fr.snoc X N g_b1
  have K := K.wr Wh15 (Or.inr sz_b1)
  refine Go.by st ?_
  show Go p.tables e below (T.setTop (mkF m 43 #[.val (.int (16 : Int32)), .val (.ref b1), .val (.int (7 : Int32))] [])) _
  refine Go.by (fun tt_ kk_ => XS.iinc X.here hx rfl (hb hby d1_43) rfl (l' := #[.val (.int (16 : Int32)), .val (.ref b1), .val (.int (8 : Int32))]) rfl kk_) ?_
  show Go p.tables e below (T.setTop (mkF m 46 #[.val (.int (16 : Int32)), .val (.ref b1), .val (.int (8 : Int32))] [])) _
  refine Go.by (fun tt_ kk_ => XS.goto X.here hx rfl (pc0 := 46) (pc' := 13) rfl (hb hby d1_46) (by decide) (by decide) kk_) ?_
  show Go p.tables e below (T.setTop (mkF m 13 #[.val (.int (16 : Int32)), .val (.ref b1), .val (.int (8 : Int32))] [])) _
  refine Go.by (fun tt_ kk_ => XS.iloadN X.here hx rfl (hb hby d1_13) rfl kk_) ?_
  show Go p.tables e below (T.setTop (mkF m 14 #[.val (.int (16 : Int32)), .val (.ref b1), .val (.int (8 : Int32))] [(.int (8 : Int32))])) _
  refine Go.by (fun tt_ kk_ => XS.iloadN X.here hx rfl (hb hby d1_14) rfl kk_) ?_
  show Go p.tables e below (T.setTop (mkF m 15 #[.val (.int (16 : Int32)), .val (.ref b1), .val (.int (8 : Int32))] [(.int (16 : Int32)), (.int (8 : Int32))])) _
  refine Go.by (fun tt_ kk_ => XS.icmpNo X.here hx rfl (hb hby d1_15) rfl (flt (by decide : ¬ ((16 : Int32) < (8 : Int32)))).2.2.1 kk_) ?_
  show Go p.tables e below (T.setTop (mkF m 18 #[.val (.int (16 : Int32)), .val (.ref b1), .val (.int (8 : Int32))] [])) _
  refine Go.by (fun tt_ kk_ => XS.aloadN X.here hx rfl (hb hby d1_18) rfl rfl kk_) ?_
  show Go p.tables e below (T.setTop (mkF m 19 #[.val (.int (16 : Int32)), .val (.ref b1), .val (.int (8 : Int32))] [(.ref b1)])) _
  refine Go.by (fun tt_ kk_ => XS.iconst X.here hx rfl (hb hby d1_19) kk_) ?_
  show Go p.tables e below (T.setTop (mkF m 20 #[.val (.int (16 : Int32)), .val (.ref b1), .val (.int (8 : Int32))] [(.int (2 : Int32)), (.ref b1)])) _
  refine Go.by (fun tt_ kk_ => XS.iloadN X.here hx rfl (hb hby d1_20) rfl kk_) ?_
  show Go p.tables e below (T.setTop (mkF m 21 #[.val (.int (16 : Int32)), .val (.ref b1), .val (.int (8 : Int32))] [(.int (8 : Int32)), (.int (2 : Int32)), (.ref b1)])) _
  refine Go.by (fun tt_ kk_ => XS.imul X.here hx rfl (hb hby d1_21) rfl kk_) ?_
  show Go p.tables e below (T.setTop (mkF m 22 #[.val (.int (16 : Int32)), .val (.ref b1), .val (.int (8 : Int32))] [(.int (16 : Int32)), (.ref b1)])) _
  refine Go.by (fun tt_ kk_ => XS.iconst X.here hx rfl (hb hby d1_22) kk_) ?_
  show Go p.tables e below (T.setTop (mkF m 23 #[.val (.int (16 : Int32)), .val (.ref b1), .val (.int (8 : Int32))] [(.int (1 : Int32)), (.int (16 : Int32)), (.ref b1)])) _
  refine Go.by (fun tt_ kk_ => XS.isub X.here hx rfl (hb hby d1_23) rfl kk_) ?_
  show Go p.tables e below (T.setTop (mkF m 24 #[.val (.int (16 : Int32)), .val (.ref b1), .val (.int (8 : Int32))] [(.int (15 : Int32)), (.ref b1)])) _
  refine Go.by (fun tt_ kk_ => XS.iloadN X.here hx rfl (hb hby d1_24) rfl kk_) ?_
  show Go p.tables e below (T.setTop (mkF m 25 #[.val (.int (16 : Int32)), .val (.ref b1), .val (.int (8 : Int32))] [(.int (8 : Int32)), (.int (15 : Int32)), (.ref b1)])) _
  refine Go.by (fun tt_ kk_ => XS.ineg X.here hx rfl (hb hby d1_25) rfl kk_) ?_
  show Go p.tables e below (T.setTop (mkF m 26 #[.val (.int (16 : Int32)), .val (.ref b1), .val (.int (8 : Int32))] [(.int (-8 : Int32)), (.int (15 : Int32)), (.ref b1)])) _
  refine Go.by (fun tt_ kk_ => XS.i2dS X.here hx rfl (hb hby d1_26) rfl rfl kk_) ?_
  show Go p.tables e below (T.setTop (mkF m 27 #[.val (.int (16 : Int32)), .val (.ref b1), .val (.int (8 : Int32))] [(.double (FP.i2d (-8 : Int32))), (.int (15 : Int32)), (.ref b1)])) _
  refine Go.by (X.ldc2DoubleC hx hown (mvT hZ (hw _ (List.mem_of_getElem? (i := 5) rfl))) (g := (mkF m 27 #[.val (.int (16 : Int32)), .val (.ref b1), .val (.int (8 : Int32))] [(.double (FP.i2d (-8 : Int32))), (.int (15 : Int32)), (.ref b1)])) rfl (hb hby d1_27)) ?_
  show Go p.tables e below (T.setTop (mkF m 30 #[.val (.int (16 : Int32)), .val (.ref b1), .val (.int (8 : Int32))] [(.double (4598175219545276416 : UInt64)), (.double (FP.i2d (-8 : Int32))), (.int (15 : Int32)), (.ref b1)])) _
  refine Go.by (fun tt_ kk_ => XS.dmulS X.here hx rfl (hb hby d1_30) rfl (by unfold NoNaN64; decide +kernel) rfl kk_) ?_
  show Go p.tables e below (T.setTop (mkF m 31 #[.val (.int (16 : Int32)), .val (.ref b1), .val (.int (8 : Int32))] [(.double (FP.dmul (FP.i2d (-8 : Int32)) (4598175219545276416 : UInt64))), (.int (15 : Int32)), (.ref b1)])) _
  have Vo_ := V_b1
  obtain ⟨cl_, Ar_, q_, S_, N_, H_, G_⟩ := Vo_
  obtain ⟨T, h16, X, eT, Wh16, st⟩ := stD X hx hZ eT Ar_ (j := (15 : Int32)) (inb_of S_ ⟨by decide, by decide⟩) (g := (mkF m 31 #[.val (.int (16 : Int32)), .val (.ref b1), .val (.int (8 : Int32))] [(.double (FP.dmul (FP.i2d (-8 : Int32)) (4598175219545276416 : UInt64))), (.int (15 : Int32)), (.ref b1)])) rfl rfl (hb hby d1_31)
  have V_b1 := Arv.set Ar_ q_ S_ N_ H_ G_ rfl Wh16 15 rfl (Nat.le_of_ble_eq_true rfl)
  have N := Fr.snoc X N g_b1
  have K := K.wr Wh16 (Or.inr sz_b1)
  refine Go.by st ?_
  show Go p.tables e below (T.setTop (mkF m 32 #[.val (.int (16 : Int32)), .val (.ref b1), .val (.int (8 : Int32))] [])) _
  refine Go.by (fun tt_ kk_ => XS.aloadN X.here hx rfl (hb hby d1_32) rfl rfl kk_) ?_
  show Go p.tables e below (T.setTop (mkF m 33 #[.val (.int (16 : Int32)), .val (.ref b1), .val (.int (8 : Int32))] [(.ref b1)])) _
  refine Go.by (fun tt_ kk_ => XS.iconst X.here hx rfl (hb hby d1_33) kk_) ?_
  show Go p.tables e below (T.setTop (mkF m 34 #[.val (.int (16 : Int32)), .val (.ref b1), .val (.int (8 : Int32))] [(.int (2 : Int32)), (.ref b1)])) _
  refine Go.by (fun tt_ kk_ => XS.iloadN X.here hx rfl (hb hby d1_34) rfl kk_) ?_
  show Go p.tables e below (T.setTop (mkF m 35 #[.val (.int (16 : Int32)), .val (.ref b1), .val (.int (8 : Int32))] [(.int (8 : Int32)), (.int (2 : Int32)), (.ref b1)])) _
  refine Go.by (fun tt_ kk_ => XS.imul X.here hx rfl (hb hby d1_35) rfl kk_) ?_
  show Go p.tables e below (T.setTop (mkF m 36 #[.val (.int (16 : Int32)), .val (.ref b1), .val (.int (8 : Int32))] [(.int (16 : Int32)), (.ref b1)])) _
  refine Go.by (fun tt_ kk_ => XS.iloadN X.here hx rfl (hb hby d1_36) rfl kk_) ?_
  show Go p.tables e below (T.setTop (mkF m 37 #[.val (.int (16 : Int32)), .val (.ref b1), .val (.int (8 : Int32))] [(.int (8 : Int32)), (.int (16 : Int32)), (.ref b1)])) _
  refine Go.by (fun tt_ kk_ => XS.i2dS X.here hx rfl (hb hby d1_37) rfl rfl kk_) ?_
  show Go p.tables e below (T.setTop (mkF m 38 #[.val (.int (16 : Int32)), .val (.ref b1), .val (.int (8 : Int32))] [(.double (FP.i2d (8 : Int32))), (.int (16 : Int32)), (.ref b1)])) _
  refine Go.by (X.ldc2DoubleC hx hown (mvT hZ (hw _ (List.mem_of_getElem? (i := 5) rfl))) (g := (mkF m 38 #[.val (.int (16 : Int32)), .val (.ref b1), .val (.int (8 : Int32))] [(.double (FP.i2d (8 : Int32))), (.int (16 : Int32)), (.ref b1)])) rfl (hb hby d1_38)) ?_
  show Go p.tables e below (T.setTop (mkF m 41 #[.val (.int (16 : Int32)), .val (.ref b1), .val (.int (8 : Int32))] [(.double (4598175219545276416 : UInt64)), (.double (FP.i2d (8 : Int32))), (.int (16 : Int32)), (.ref b1)])) _
  refine Go.by (fun tt_ kk_ => XS.dmulS X.here hx rfl (hb hby d1_41) rfl (by unfold NoNaN64; decide +kernel) rfl kk_) ?_
  show Go p.tables e below (T.setTop (mkF m 42 #[.val (.int (16 : Int32)), .val (.ref b1), .val (.int (8 : Int32))] [(.double (FP.dmul (FP.i2d (8 : Int32)) (4598175219545276416 : UInt64))), (.int (16 : Int32)), (.ref b1)])) _
  have Vo_ := V_b1
  obtain ⟨cl_, Ar_, q_, S_, N_, H_, G_⟩ := Vo_
  obtain ⟨T, h17, X, eT, Wh17, st⟩ := stD X hx hZ eT Ar_ (j := (16 : Int32)) (inb_of S_ ⟨by decide, by decide⟩) (g := (mkF m 42 #[.val (.int (16 : Int32)), .val (.ref b1), .val (.int (8 : Int32))] [(.double (FP.dmul (FP.i2d (8 : Int32)) (4598175219545276416 : UInt64))), (.int (16 : Int32)), (.ref b1)])) rfl rfl (hb hby d1_42)
  have V_b1 := Arv.set Ar_ q_ S_ N_ H_ G_ rfl Wh17 16 rfl (Nat.le_of_ble_eq_true rfl)
  have N := Fr.snoc X N g_b1
  have K := K.wr Wh17 (Or.inr sz_b1)
  refine Go.by st ?_
  show Go p.tables e below (T.setTop (mkF m 43 #[.val (.int (16 : Int32)), .val (.ref b1), .val (.int (8 : Int32))] [])) _
  refine Go.by (fun tt_ kk_ => XS.iinc X.here hx rfl (hb hby d1_43) rfl (l' := #[.val (.int (16 : Int32)), .val (.ref b1), .val (.int (9 : Int32))]) rfl kk_) ?_
  show Go p.tables e below (T.setTop (mkF m 46 #[.val (.int (16 : Int32)), .val (.ref b1), .val (.int (9 : Int32))] [])) _
  refine Go.by (fun tt_ kk_ => XS.goto X.here hx rfl (pc0 := 46) (pc' := 13) rfl (hb hby d1_46) (by decide) (by decide) kk_) ?_
  show Go p.tables e below (T.setTop (mkF m 13 #[.val (.int (16 : Int32)), .val (.ref b1), .val (.int (9 : Int32))] [])) _
  refine Go.by (fun tt_ kk_ => XS.iloadN X.here hx rfl (hb hby d1_13) rfl kk_) ?_
  show Go p.tables e below (T.setTop (mkF m 14 #[.val (.int (16 : Int32)), .val (.ref b1), .val (.int (9 : Int32))] [(.int (9 : Int32))])) _
  refine Go.by (fun tt_ kk_ => XS.iloadN X.here hx rfl (hb hby d1_14) rfl kk_) ?_
  show Go p.tables e below (T.setTop (mkF m 15 #[.val (.int (16 : Int32)), .val (.ref b1), .val (.int (9 : Int32))] [(.int (16 : Int32)), (.int (9 : Int32))])) _
  refine Go.by (fun tt_ kk_ => XS.icmpNo X.here hx rfl (hb hby d1_15) rfl (flt (by decide : ¬ ((16 : Int32) < (9 : Int32)))).2.2.1 kk_) ?_
  show Go p.tables e below (T.setTop (mkF m 18 #[.val (.int (16 : Int32)), .val (.ref b1), .val (.int (9 : Int32))] [])) _
  refine Go.by (fun tt_ kk_ => XS.aloadN X.here hx rfl (hb hby d1_18) rfl rfl kk_) ?_
  show Go p.tables e below (T.setTop (mkF m 19 #[.val (.int (16 : Int32)), .val (.ref b1), .val (.int (9 : Int32))] [(.ref b1)])) _
  refine Go.by (fun tt_ kk_ => XS.iconst X.here hx rfl (hb hby d1_19) kk_) ?_
  show Go p.tables e below (T.setTop (mkF m 20 #[.val (.int (16 : Int32)), .val (.ref b1), .val (.int (9 : Int32))] [(.int (2 : Int32)), (.ref b1)])) _
  refine Go.by (fun tt_ kk_ => XS.iloadN X.here hx rfl (hb hby d1_20) rfl kk_) ?_
  show Go p.tables e below (T.setTop (mkF m 21 #[.val (.int (16 : Int32)), .val (.ref b1), .val (.int (9 : Int32))] [(.int (9 : Int32)), (.int (2 : Int32)), (.ref b1)])) _
  refine Go.by (fun tt_ kk_ => XS.imul X.here hx rfl (hb hby d1_21) rfl kk_) ?_
  show Go p.tables e below (T.setTop (mkF m 22 #[.val (.int (16 : Int32)), .val (.ref b1), .val (.int (9 : Int32))] [(.int (18 : Int32)), (.ref b1)])) _
  refine Go.by (fun tt_ kk_ => XS.iconst X.here hx rfl (hb hby d1_22) kk_) ?_
  show Go p.tables e below (T.setTop (mkF m 23 #[.val (.int (16 : Int32)), .val (.ref b1), .val (.int (9 : Int32))] [(.int (1 : Int32)), (.int (18 : Int32)), (.ref b1)])) _
  refine Go.by (fun tt_ kk_ => XS.isub X.here hx rfl (hb hby d1_23) rfl kk_) ?_
  show Go p.tables e below (T.setTop (mkF m 24 #[.val (.int (16 : Int32)), .val (.ref b1), .val (.int (9 : Int32))] [(.int (17 : Int32)), (.ref b1)])) _
  refine Go.by (fun tt_ kk_ => XS.iloadN X.here hx rfl (hb hby d1_24) rfl kk_) ?_
  show Go p.tables e below (T.setTop (mkF m 25 #[.val (.int (16 : Int32)), .val (.ref b1), .val (.int (9 : Int32))] [(.int (9 : Int32)), (.int (17 : Int32)), (.ref b1)])) _
  refine Go.by (fun tt_ kk_ => XS.ineg X.here hx rfl (hb hby d1_25) rfl kk_) ?_
  show Go p.tables e below (T.setTop (mkF m 26 #[.val (.int (16 : Int32)), .val (.ref b1), .val (.int (9 : Int32))] [(.int (-9 : Int32)), (.int (17 : Int32)), (.ref b1)])) _
  refine Go.by (fun tt_ kk_ => XS.i2dS X.here hx rfl (hb hby d1_26) rfl rfl kk_) ?_
  show Go p.tables e below (T.setTop (mkF m 27 #[.val (.int (16 : Int32)), .val (.ref b1), .val (.int (9 : Int32))] [(.double (FP.i2d (-9 : Int32))), (.int (17 : Int32)), (.ref b1)])) _
  refine Go.by (X.ldc2DoubleC hx hown (mvT hZ (hw _ (List.mem_of_getElem? (i := 5) rfl))) (g := (mkF m 27 #[.val (.int (16 : Int32)), .val (.ref b1), .val (.int (9 : Int32))] [(.double (FP.i2d (-9 : Int32))), (.int (17 : Int32)), (.ref b1)])) rfl (hb hby d1_27)) ?_
  show Go p.tables e below (T.setTop (mkF m 30 #[.val (.int (16 : Int32)), .val (.ref b1), .val (.int (9 : Int32))] [(.double (4598175219545276416 : UInt64)), (.double (FP.i2d (-9 : Int32))), (.int (17 : Int32)), (.ref b1)])) _
  refine Go.by (fun tt_ kk_ => XS.dmulS X.here hx rfl (hb hby d1_30) rfl (by unfold NoNaN64; decide +kernel) rfl kk_) ?_
  show Go p.tables e below (T.setTop (mkF m 31 #[.val (.int (16 : Int32)), .val (.ref b1), .val (.int (9 : Int32))] [(.double (FP.dmul (FP.i2d (-9 : Int32)) (4598175219545276416 : UInt64))), (.int (17 : Int32)), (.ref b1)])) _
  have Vo_ := V_b1
  obtain ⟨cl_, Ar_, q_, S_, N_, H_, G_⟩ := Vo_
  obtain ⟨T, h18, X, eT, Wh18, st⟩ := stD X hx hZ eT Ar_ (j := (17 : Int32)) (inb_of S_ ⟨by decide, by decide⟩) (g := (mkF m 31 #[.val (.int (16 : Int32)), .val (.ref b1), .val (.int (9 : Int32))] [(.double (FP.dmul (FP.i2d (-9 : Int32)) (4598175219545276416 : UInt64))), (.int (17 : Int32)), (.ref b1)])) rfl rfl (hb hby d1_31)
  have V_b1 := Arv.set Ar_ q_ S_ N_ H_ G_ rfl Wh18 17 rfl (Nat.le_of_ble_eq_true rfl)
  have N := Fr.snoc X N g_b1
  have K := K.wr Wh18 (Or.inr sz_b1)
  refine Go.by st ?_
  show Go p.tables e below (T.setTop (mkF m 32 #[.val (.int (16 : Int32)), .val (.ref b1), .val (.int (9 : Int32))] [])) _
  refine Go.by (fun tt_ kk_ => XS.aloadN X.here hx rfl (hb hby d1_32) rfl rfl kk_) ?_
  show Go p.tables e below (T.setTop (mkF m 33 #[.val (.int (16 : Int32)), .val (.ref b1), .val (.int (9 : Int32))] [(.ref b1)])) _
  refine Go.by (fun tt_ kk_ => XS.iconst X.here hx rfl (hb hby d1_33) kk_) ?_
  show Go p.tables e below (T.setTop (mkF m 34 #[.val (.int (16 : Int32)), .val (.ref b1), .val (.int (9 : Int32))] [(.int (2 : Int32)), (.ref b1)])) _
  refine Go.by (fun tt_ kk_ => XS.iloadN X.here hx rfl (hb hby d1_34) rfl kk_) ?_
  show Go p.tables e below (T.setTop (mkF m 35 #[.val (.int (16 : Int32)), .val (.ref b1), .val (.int (9 : Int32))] [(.int (9 : Int32)), (.int (2 : Int32)), (.ref b1)])) _
  refine Go.by (fun tt_ kk_ => XS.imul X.here hx rfl (hb hby d1_35) rfl kk_) ?_
  show Go p.tables e below (T.setTop (mkF m 36 #[.val (.int (16 : Int32)), .val (.ref b1), .val (.int (9 : Int32))] [(.int (18 : Int32)), (.ref b1)])) _
  refine Go.by (fun tt_ kk_ => XS.iloadN X.here hx rfl (hb hby d1_36) rfl kk_) ?_
  show Go p.tables e below (T.setTop (mkF m 37 #[.val (.int (16 : Int32)), .val (.ref b1), .val (.int (9 : Int32))] [(.int (9 : Int32)), (.int (18 : Int32)), (.ref b1)])) _
  refine Go.by (fun tt_ kk_ => XS.i2dS X.here hx rfl (hb hby d1_37) rfl rfl kk_) ?_
  show Go p.tables e below (T.setTop (mkF m 38 #[.val (.int (16 : Int32)), .val (.ref b1), .val (.int (9 : Int32))] [(.double (FP.i2d (9 : Int32))), (.int (18 : Int32)), (.ref b1)])) _
  refine Go.by (X.ldc2DoubleC hx hown (mvT hZ (hw _ (List.mem_of_getElem? (i := 5) rfl))) (g := (mkF m 38 #[.val (.int (16 : Int32)), .val (.ref b1), .val (.int (9 : Int32))] [(.double (FP.i2d (9 : Int32))), (.int (18 : Int32)), (.ref b1)])) rfl (hb hby d1_38)) ?_
  show Go p.tables e below (T.setTop (mkF m 41 #[.val (.int (16 : Int32)), .val (.ref b1), .val (.int (9 : Int32))] [(.double (4598175219545276416 : UInt64)), (.double (FP.i2d (9 : Int32))), (.int (18 : Int32)), (.ref b1)])) _
  refine Go.by (fun tt_ kk_ => XS.dmulS X.here hx rfl (hb hby d1_41) rfl (by unfold NoNaN64; decide +kernel) rfl kk_) ?_
  show Go p.tables e below (T.setTop (mkF m 42 #[.val (.int (16 : Int32)), .val (.ref b1), .val (.int (9 : Int32))] [(.double (FP.dmul (FP.i2d (9 : Int32)) (4598175219545276416 : UInt64))), (.int (18 : Int32)), (.ref b1)])) _
  have Vo_ := V_b1
  obtain ⟨cl_, Ar_, q_, S_, N_, H_, G_⟩ := Vo_
  obtain ⟨T, h19, X, eT, Wh19, st⟩ := stD X hx hZ eT Ar_ (j := (18 : Int32)) (inb_of S_ ⟨by decide, by decide⟩) (g := (mkF m 42 #[.val (.int (16 : Int32)), .val (.ref b1), .val (.int (9 : Int32))] [(.double (FP.dmul (FP.i2d (9 : Int32)) (4598175219545276416 : UInt64))), (.int (18 : Int32)), (.ref b1)])) rfl rfl (hb hby d1_42)
  have V_b1 := Arv.set Ar_ q_ S_ N_ H_ G_ rfl Wh19 18 rfl (Nat.le_of_ble_eq_true rfl)
  have N := Fr.snoc X N g_b1
  have K := K.wr Wh19 (Or.inr sz_b1)
  refine Go.by st ?_
  show Go p.tables e below (T.setTop (mkF m 43 #[.val (.int (16 : Int32)), .val (.ref b1), .val (.int (9 : Int32))] [])) _
  refine Go.by (fun tt_ kk_ => XS.iinc X.here hx rfl (hb hby d1_43) rfl (l' := #[.val (.int (16 : Int32)), .val (.ref b1), .val (.int (10 : Int32))]) rfl kk_) ?_
  show Go p.tables e below (T.setTop (mkF m 46 #[.val (.int (16 : Int32)), .val (.ref b1), .val (.int (10 : Int32))] [])) _
  refine Go.by (fun tt_ kk_ => XS.goto X.here hx rfl (pc0 := 46) (pc' := 13) rfl (hb hby d1_46) (by decide) (by decide) kk_) ?_
  show Go p.tables e below (T.setTop (mkF m 13 #[.val (.int (16 : Int32)), .val (.ref b1), .val (.int (10 : Int32))] [])) _
  refine Go.by (fun tt_ kk_ => XS.iloadN X.here hx rfl (hb hby d1_13) rfl kk_) ?_
  show Go p.tables e below (T.setTop (mkF m 14 #[.val (.int (16 : Int32)), .val (.ref b1), .val (.int (10 : Int32))] [(.int (10 : Int32))])) _
  refine Go.by (fun tt_ kk_ => XS.iloadN X.here hx rfl (hb hby d1_14) rfl kk_) ?_
  show Go p.tables e below (T.setTop (mkF m 15 #[.val (.int (16 : Int32)), .val (.ref b1), .val (.int (10 : Int32))] [(.int (16 : Int32)), (.int (10 : Int32))])) _
  refine Go.by (fun tt_ kk_ => XS.icmpNo X.here hx rfl (hb hby d1_15) rfl (flt (by decide : ¬ ((16 : Int32) < (10 : Int32)))).2.2.1 kk_) ?_
  show Go p.tables e below (T.setTop (mkF m 18 #[.val (.int (16 : Int32)), .val (.ref b1), .val (.int (10 : Int32))] [])) _
  refine Go.by (fun tt_ kk_ => XS.aloadN X.here hx rfl (hb hby d1_18) rfl rfl kk_) ?_
  show Go p.tables e below (T.setTop (mkF m 19 #[.val (.int (16 : Int32)), .val (.ref b1), .val (.int (10 : Int32))] [(.ref b1)])) _
  refine Go.by (fun tt_ kk_ => XS.iconst X.here hx rfl (hb hby d1_19) kk_) ?_
  show Go p.tables e below (T.setTop (mkF m 20 #[.val (.int (16 : Int32)), .val (.ref b1), .val (.int (10 : Int32))] [(.int (2 : Int32)), (.ref b1)])) _
  refine Go.by (fun tt_ kk_ => XS.iloadN X.here hx rfl (hb hby d1_20) rfl kk_) ?_
  show Go p.tables e below (T.setTop (mkF m 21 #[.val (.int (16 : Int32)), .val (.ref b1), .val (.int (10 : Int32))] [(.int (10 : Int32)), (.int (2 : Int32)), (.ref b1)])) _
  refine Go.by (fun tt_ kk_ => XS.imul X.here hx rfl (hb hby d1_21) rfl kk_) ?_
  show Go p.tables e below (T.setTop (mkF m 22 #[.val (.int (16 : Int32)), .val (.ref b1), .val (.int (10 : Int32))] [(.int (20 : Int32)), (.ref b1)])) _
  refine Go.by (fun tt_ kk_ => XS.iconst X.here hx rfl (hb hby d1_22) kk_) ?_
  show Go p.tables e below (T.setTop (mkF m 23 #[.val (.int (16 : Int32)), .val (.ref b1), .val (.int (10 : Int32))] [(.int (1 : Int32)), (.int (20 : Int32)), (.ref b1)])) _
  refine Go.by (fun tt_ kk_ => XS.isub X.here hx rfl (hb hby d1_23) rfl kk_) ?_
  show Go p.tables e below (T.setTop (mkF m 24 #[.val (.int (16 : Int32)), .val (.ref b1), .val (.int (10 : Int32))] [(.int (19 : Int32)), (.ref b1)])) _
  refine Go.by (fun tt_ kk_ => XS.iloadN X.here hx rfl (hb hby d1_24) rfl kk_) ?_
  show Go p.tables e below (T.setTop (mkF m 25 #[.val (.int (16 : Int32)), .val (.ref b1), .val (.int (10 : Int32))] [(.int (10 : Int32)), (.int (19 : Int32)), (.ref b1)])) _
  refine Go.by (fun tt_ kk_ => XS.ineg X.here hx rfl (hb hby d1_25) rfl kk_) ?_
  show Go p.tables e below (T.setTop (mkF m 26 #[.val (.int (16 : Int32)), .val (.ref b1), .val (.int (10 : Int32))] [(.int (-10 : Int32)), (.int (19 : Int32)), (.ref b1)])) _
  refine Go.by (fun tt_ kk_ => XS.i2dS X.here hx rfl (hb hby d1_26) rfl rfl kk_) ?_
  show Go p.tables e below (T.setTop (mkF m 27 #[.val (.int (16 : Int32)), .val (.ref b1), .val (.int (10 : Int32))] [(.double (FP.i2d (-10 : Int32))), (.int (19 : Int32)), (.ref b1)])) _
  refine Go.by (X.ldc2DoubleC hx hown (mvT hZ (hw _ (List.mem_of_getElem? (i := 5) rfl))) (g := (mkF m 27 #[.val (.int (16 : Int32)), .val (.ref b1), .val (.int (10 : Int32))] [(.double (FP.i2d (-10 : Int32))), (.int (19 : Int32)), (.ref b1)])) rfl (hb hby d1_27)) ?_
  show Go p.tables e below (T.setTop (mkF m 30 #[.val (.int (16 : Int32)), .val (.ref b1), .val (.int (10 : Int32))] [(.double (4598175219545276416 : UInt64)), (.double (FP.i2d (-10 : Int32))), (.int (19 : Int32)), (.ref b1)])) _
  refine Go.by (fun tt_ kk_ => XS.dmulS X.here hx rfl (hb hby d1_30) rfl (by unfold NoNaN64; decide +kernel) rfl kk_) ?_
  show Go p.tables e below (T.setTop (mkF m 31 #[.val (.int (16 : Int32)), .val (.ref b1), .val (.int (10 : Int32))] [(.double (FP.dmul (FP.i2d (-10 : Int32)) (4598175219545276416 : UInt64))), (.int (19 : Int32)), (.ref b1)])) _
  have Vo_ := V_b1
  obtain ⟨cl_, Ar_, q_, S_, N_, H_, G_⟩ := Vo_
  obtain ⟨T, h20, X, eT, Wh20, st⟩ := stD X hx hZ eT Ar_ (j := (19 : Int32)) (inb_of S_ ⟨by decide, by decide⟩) (g := (mkF m 31 #[.val (.int (16 : Int32)), .val (.ref b1), .val (.int (10 : Int32))] [(.double (FP.dmul (FP.i2d (-10 : Int32)) (4598175219545276416 : UInt64))), (.int (19 : Int32)), (.ref b1)])) rfl rfl (hb hby d1_31)
  have V_b1 := Arv.set Ar_ q_ S_ N_ H_ G_ rfl Wh20 19 rfl (Nat.le_of_ble_eq_true rfl)
  have N := Fr.snoc X N g_b1
  have K := K.wr Wh20 (Or.inr sz_b1)
  refine Go.by st ?_
  show Go p.tables e below (T.setTop (mkF m 32 #[.val (.int (16 : Int32)), .val (.ref b1), .val (.int (10 : Int32))] [])) _
  refine Go.by (fun tt_ kk_ => XS.aloadN X.here hx rfl (hb hby d1_32) rfl rfl kk_) ?_
  show Go p.tables e below (T.setTop (mkF m 33 #[.val (.int (16 : Int32)), .val (.ref b1), .val (.int (10 : Int32))] [(.ref b1)])) _
  refine Go.by (fun tt_ kk_ => XS.iconst X.here hx rfl (hb hby d1_33) kk_) ?_
  show Go p.tables e below (T.setTop (mkF m 34 #[.val (.int (16 : Int32)), .val (.ref b1), .val (.int (10 : Int32))] [(.int (2 : Int32)), (.ref b1)])) _
  refine Go.by (fun tt_ kk_ => XS.iloadN X.here hx rfl (hb hby d1_34) rfl kk_) ?_
  show Go p.tables e below (T.setTop (mkF m 35 #[.val (.int (16 : Int32)), .val (.ref b1), .val (.int (10 : Int32))] [(.int (10 : Int32)), (.int (2 : Int32)), (.ref b1)])) _
  refine Go.by (fun tt_ kk_ => XS.imul X.here hx rfl (hb hby d1_35) rfl kk_) ?_
  show Go p.tables e below (T.setTop (mkF m 36 #[.val (.int (16 : Int32)), .val (.ref b1), .val (.int (10 : Int32))] [(.int (20 : Int32)), (.ref b1)])) _
  refine Go.by (fun tt_ kk_ => XS.iloadN X.here hx rfl (hb hby d1_36) rfl kk_) ?_
  show Go p.tables e below (T.setTop (mkF m 37 #[.val (.int (16 : Int32)), .val (.ref b1), .val (.int (10 : Int32))] [(.int (10 : Int32)), (.int (20 : Int32)), (.ref b1)])) _
  refine Go.by (fun tt_ kk_ => XS.i2dS X.here hx rfl (hb hby d1_37) rfl rfl kk_) ?_
  show Go p.tables e below (T.setTop (mkF m 38 #[.val (.int (16 : Int32)), .val (.ref b1), .val (.int (10 : Int32))] [(.double (FP.i2d (10 : Int32))), (.int (20 : Int32)), (.ref b1)])) _
  refine Go.by (X.ldc2DoubleC hx hown (mvT hZ (hw _ (List.mem_of_getElem? (i := 5) rfl))) (g := (mkF m 38 #[.val (.int (16 : Int32)), .val (.ref b1), .val (.int (10 : Int32))] [(.double (FP.i2d (10 : Int32))), (.int (20 : Int32)), (.ref b1)])) rfl (hb hby d1_38)) ?_
  show Go p.tables e below (T.setTop (mkF m 41 #[.val (.int (16 : Int32)), .val (.ref b1), .val (.int (10 : Int32))] [(.double (4598175219545276416 : UInt64)), (.double (FP.i2d (10 : Int32))), (.int (20 : Int32)), (.ref b1)])) _
  refine Go.by (fun tt_ kk_ => XS.dmulS X.here hx rfl (hb hby d1_41) rfl (by unfold NoNaN64; decide +kernel) rfl kk_) ?_
  show Go p.tables e below (T.setTop (mkF m 42 #[.val (.int (16 : Int32)), .val (.ref b1), .val (.int (10 : Int32))] [(.double (FP.dmul (FP.i2d (10 : Int32)) (4598175219545276416 : UInt64))), (.int (20 : Int32)), (.ref b1)])) _
  have Vo_ := V_b1
  obtain ⟨cl_, Ar_, q_, S_, N_, H_, G_⟩ := Vo_
  obtain ⟨T, h21, X, eT, Wh21, st⟩ := stD X hx hZ eT Ar_ (j := (20 : Int32)) (inb_of S_ ⟨by decide, by decide⟩) (g := (mkF m 42 #[.val (.int (16 : Int32)), .val (.ref b1), .val (.int (10 : Int32))] [(.double (FP.dmul (FP.i2d (10 : Int32)) (4598175219545276416 : UInt64))), (.int (20 : Int32)), (.ref b1)])) rfl rfl (hb hby d1_42)
  have V_b1 := Arv.set Ar_ q_ S_ N_ H_ G_ rfl Wh21 20 rfl (Nat.le_of_ble_eq_true rfl)
  have N := Fr.snoc X N g_b1
  have K := K.wr Wh21 (Or.inr sz_b1)
  refine Go.by st ?_
  show Go p.tables e below (T.setTop (mkF m 43 #[.val (.int (16 : Int32)), .val (.ref b1), .val (.int (10 : Int32))] [])) _
  refine Go.by (fun tt_ kk_ => XS.iinc X.here hx rfl (hb hby d1_43) rfl (l' := #[.val (.int (16 : Int32)), .val (.ref b1), .val (.int (11 : Int32))]) rfl kk_) ?_
  show Go p.tables e below (T.setTop (mkF m 46 #[.val (.int (16 : Int32)), .val (.ref b1), .val (.int (11 : Int32))] [])) _
  refine Go.by (fun tt_ kk_ => XS.goto X.here hx rfl (pc0 := 46) (pc' := 13) rfl (hb hby d1_46) (by decide) (by decide) kk_) ?_
  show Go p.tables e below (T.setTop (mkF m 13 #[.val (.int (16 : Int32)), .val (.ref b1), .val (.int (11 : Int32))] [])) _
  refine Go.by (fun tt_ kk_ => XS.iloadN X.here hx rfl (hb hby d1_13) rfl kk_) ?_
  show Go p.tables e below (T.setTop (mkF m 14 #[.val (.int (16 : Int32)), .val (.ref b1), .val (.int (11 : Int32))] [(.int (11 : Int32))])) _
  refine Go.by (fun tt_ kk_ => XS.iloadN X.here hx rfl (hb hby d1_14) rfl kk_) ?_
  show Go p.tables e below (T.setTop (mkF m 15 #[.val (.int (16 : Int32)), .val (.ref b1), .val (.int (11 : Int32))] [(.int (16 : Int32)), (.int (11 : Int32))])) _
  refine Go.by (fun tt_ kk_ => XS.icmpNo X.here hx rfl (hb hby d1_15) rfl (flt (by decide : ¬ ((16 : Int32) < (11 : Int32)))).2.2.1 kk_) ?_
  show Go p.tables e below (T.setTop (mkF m 18 #[.val (.int (16 : Int32)), .val (.ref b1), .val (.int (11 : Int32))] [])) _
  refine Go.by (fun tt_ kk_ => XS.aloadN X.here hx rfl (hb hby d1_18) rfl rfl kk_) ?_
  show Go p.tables e below (T.setTop (mkF m 19 #[.val (.int (16 : Int32)), .val (.ref b1), .val (.int (11 : Int32))] [(.ref b1)])) _
  refine Go.by (fun tt_ kk_ => XS.iconst X.here hx rfl (hb hby d1_19) kk_) ?_
  show Go p.tables e below (T.setTop (mkF m 20 #[.val (.int (16 : Int32)), .val (.ref b1), .val (.int (11 : Int32))] [(.int (2 : Int32)), (.ref b1)])) _
  refine Go.by (fun tt_ kk_ => XS.iloadN X.here hx rfl (hb hby d1_20) rfl kk_) ?_
  show Go p.tables e below (T.setTop (mkF m 21 #[.val (.int (16 : Int32)), .val (.ref b1), .val (.int (11 : Int32))] [(.int (11 : Int32)), (.int (2 : Int32)), (.ref b1)])) _
  refine Go.by (fun tt_ kk_ => XS.imul X.here hx rfl (hb hby d1_21) rfl kk_) ?_
  show Go p.tables e below (T.setTop (mkF m 22 #[.val (.int (16 : Int32)), .val (.ref b1), .val (.int (11 : Int32))] [(.int (22 : Int32)), (.ref b1)])) _
  refine Go.by (fun tt_ kk_ => XS.iconst X.here hx rfl (hb hby d1_22) kk_) ?_
  show Go p.tables e below (T.setTop (mkF m 23 #[.val (.int (16 : Int32)), .val (.ref b1), .val (.int (11 : Int32))] [(.int (1 : Int32)), (.int (22 : Int32)), (.ref b1)])) _
  refine Go.by (fun tt_ kk_ => XS.isub X.here hx rfl (hb hby d1_23) rfl kk_) ?_
  show Go p.tables e below (T.setTop (mkF m 24 #[.val (.int (16 : Int32)), .val (.ref b1), .val (.int (11 : Int32))] [(.int (21 : Int32)), (.ref b1)])) _
  refine Go.by (fun tt_ kk_ => XS.iloadN X.here hx rfl (hb hby d1_24) rfl kk_) ?_
  show Go p.tables e below (T.setTop (mkF m 25 #[.val (.int (16 : Int32)), .val (.ref b1), .val (.int (11 : Int32))] [(.int (11 : Int32)), (.int (21 : Int32)), (.ref b1)])) _
  refine Go.by (fun tt_ kk_ => XS.ineg X.here hx rfl (hb hby d1_25) rfl kk_) ?_
  show Go p.tables e below (T.setTop (mkF m 26 #[.val (.int (16 : Int32)), .val (.ref b1), .val (.int (11 : Int32))] [(.int (-11 : Int32)), (.int (21 : Int32)), (.ref b1)])) _
  refine Go.by (fun tt_ kk_ => XS.i2dS X.here hx rfl (hb hby d1_26) rfl rfl kk_) ?_
  show Go p.tables e below (T.setTop (mkF m 27 #[.val (.int (16 : Int32)), .val (.ref b1), .val (.int (11 : Int32))] [(.double (FP.i2d (-11 : Int32))), (.int (21 : Int32)), (.ref b1)])) _
  refine Go.by (X.ldc2DoubleC hx hown (mvT hZ (hw _ (List.mem_of_getElem? (i := 5) rfl))) (g := (mkF m 27 #[.val (.int (16 : Int32)), .val (.ref b1), .val (.int (11 : Int32))] [(.double (FP.i2d (-11 : Int32))), (.int (21 : Int32)), (.ref b1)])) rfl (hb hby d1_27)) ?_
  show Go p.tables e below (T.setTop (mkF m 30 #[.val (.int (16 : Int32)), .val (.ref b1), .val (.int (11 : Int32))] [(.double (4598175219545276416 : UInt64)), (.double (FP.i2d (-11 : Int32))), (.int (21 : Int32)), (.ref b1)])) _
  refine Go.by (fun tt_ kk_ => XS.dmulS X.here hx rfl (hb hby d1_30) rfl (by unfold NoNaN64; decide +kernel) rfl kk_) ?_
  show Go p.tables e below (T.setTop (mkF m 31 #[.val (.int (16 : Int32)), .val (.ref b1), .val (.int (11 : Int32))] [(.double (FP.dmul (FP.i2d (-11 : Int32)) (4598175219545276416 : UInt64))), (.int (21 : Int32)), (.ref b1)])) _
  have Vo_ := V_b1
  obtain ⟨cl_, Ar_, q_, S_, N_, H_, G_⟩ := Vo_
  obtain ⟨T, h22, X, eT, Wh22, st⟩ := stD X hx hZ eT Ar_ (j := (21 : Int32)) (inb_of S_ ⟨by decide, by decide⟩) (g := (mkF m 31 #[.val (.int (16 : Int32)), .val (.ref b1), .val (.int (11 : Int32))] [(.double (FP.dmul (FP.i2d (-11 : Int32)) (4598175219545276416 : UInt64))), (.int (21 : Int32)), (.ref b1)])) rfl rfl (hb hby d1_31)
  have V_b1 := Arv.set Ar_ q_ S_ N_ H_ G_ rfl Wh22 21 rfl (Nat.le_of_ble_eq_true rfl)
  have N := Fr.snoc X N g_b1
  have K := K.wr Wh22 (Or.inr sz_b1)
  refine Go.by st ?_
  show Go p.tables e below (T.setTop (mkF m 32 #[.val (.int (16 : Int32)), .val (.ref b1), .val (.int (11 : Int32))] [])) _
  refine Go.by (fun tt_ kk_ => XS.aloadN X.here hx rfl (hb hby d1_32) rfl rfl kk_) ?_
  show Go p.tables e below (T.setTop (mkF m 33 #[.val (.int (16 : Int32)), .val (.ref b1), .val (.int (11 : Int32))] [(.ref b1)])) _
  refine Go.by (fun tt_ kk_ => XS.iconst X.here hx rfl (hb hby d1_33) kk_) ?_
  show Go p.tables e below (T.setTop (mkF m 34 #[.val (.int (16 : Int32)), .val (.ref b1), .val (.int (11 : Int32))] [(.int (2 : Int32)), (.ref b1)])) _
  refine Go.by (fun tt_ kk_ => XS.iloadN X.here hx rfl (hb hby d1_34) rfl kk_) ?_
  show Go p.tables e below (T.setTop (mkF m 35 #[.val (.int (16 : Int32)), .val (.ref b1), .val (.int (11 : Int32))] [(.int (11 : Int32)), (.int (2 : Int32)), (.ref b1)])) _
  refine Go.by (fun tt_ kk_ => XS.imul X.here hx rfl (hb hby d1_35) rfl kk_) ?_
  show Go p.tables e below (T.setTop (mkF m 36 #[.val (.int (16 : Int32)), .val (.ref b1), .val (.int (11 : Int32))] [(.int (22 : Int32)), (.ref b1)])) _
  refine Go.by (fun tt_ kk_ => XS.iloadN X.here hx rfl (hb hby d1_36) rfl kk_) ?_
  show Go p.tables e below (T.setTop (mkF m 37 #[.val (.int (16 : Int32)), .val (.ref b1), .val (.int (11 : Int32))] [(.int (11 : Int32)), (.int (22 : Int32)), (.ref b1)])) _
  refine Go.by (fun tt_ kk_ => XS.i2dS X.here hx rfl (hb hby d1_37) rfl rfl kk_) ?_
  show Go p.tables e below (T.setTop (mkF m 38 #[.val (.int (16 : Int32)), .val (.ref b1), .val (.int (11 : Int32))] [(.double (FP.i2d (11 : Int32))), (.int (22 : Int32)), (.ref b1)])) _
  refine Go.by (X.ldc2DoubleC hx hown (mvT hZ (hw _ (List.mem_of_getElem? (i := 5) rfl))) (g := (mkF m 38 #[.val (.int (16 : Int32)), .val (.ref b1), .val (.int (11 : Int32))] [(.double (FP.i2d (11 : Int32))), (.int (22 : Int32)), (.ref b1)])) rfl (hb hby d1_38)) ?_
  show Go p.tables e below (T.setTop (mkF m 41 #[.val (.int (16 : Int32)), .val (.ref b1), .val (.int (11 : Int32))] [(.double (4598175219545276416 : UInt64)), (.double (FP.i2d (11 : Int32))), (.int (22 : Int32)), (.ref b1)])) _
  refine Go.by (fun tt_ kk_ => XS.dmulS X.here hx rfl (hb hby d1_41) rfl (by unfold NoNaN64; decide +kernel) rfl kk_) ?_
  show Go p.tables e below (T.setTop (mkF m 42 #[.val (.int (16 : Int32)), .val (.ref b1), .val (.int (11 : Int32))] [(.double (FP.dmul (FP.i2d (11 : Int32)) (4598175219545276416 : UInt64))), (.int (22 : Int32)), (.ref b1)])) _
  have Vo_ := V_b1
  obtain ⟨cl_, Ar_, q_, S_, N_, H_, G_⟩ := Vo_
  obtain ⟨T, h23, X, eT, Wh23, st⟩ := stD X hx hZ eT Ar_ (j := (22 : Int32)) (inb_of S_ ⟨by decide, by decide⟩) (g := (mkF m 42 #[.val (.int (16 : Int32)), .val (.ref b1), .val (.int (11 : Int32))] [(.double (FP.dmul (FP.i2d (11 : Int32)) (4598175219545276416 : UInt64))), (.int (22 : Int32)), (.ref b1)])) rfl rfl (hb hby d1_42)
  have V_b1 := Arv.set Ar_ q_ S_ N_ H_ G_ rfl Wh23 22 rfl (Nat.le_of_ble_eq_true rfl)
  have N := Fr.snoc X N g_b1
  have K := K.wr Wh23 (Or.inr sz_b1)
  refine Go.by st ?_
  show Go p.tables e below (T.setTop (mkF m 43 #[.val (.int (16 : Int32)), .val (.ref b1), .val (.int (11 : Int32))] [])) _
  refine Go.by (fun tt_ kk_ => XS.iinc X.here hx rfl (hb hby d1_43) rfl (l' := #[.val (.int (16 : Int32)), .val (.ref b1), .val (.int (12 : Int32))]) rfl kk_) ?_
  show Go p.tables e below (T.setTop (mkF m 46 #[.val (.int (16 : Int32)), .val (.ref b1), .val (.int (12 : Int32))] [])) _
  refine Go.by (fun tt_ kk_ => XS.goto X.here hx rfl (pc0 := 46) (pc' := 13) rfl (hb hby d1_46) (by decide) (by decide) kk_) ?_
  show Go p.tables e below (T.setTop (mkF m 13 #[.val (.int (16 : Int32)), .val (.ref b1), .val (.int (12 : Int32))] [])) _
  refine Go.by (fun tt_ kk_ => XS.iloadN X.here hx rfl (hb hby d1_13) rfl kk_) ?_
  show Go p.tables e below (T.setTop (mkF m 14 #[.val (.int (16 : Int32)), .val (.ref b1), .val (.int (12 : Int32))] [(.int (12 : Int32))])) _
  refine Go.by (fun tt_ kk_ => XS.iloadN X.here hx rfl (hb hby d1_14) rfl kk_) ?_
  show Go p.tables e below (T.setTop (mkF m 15 #[.val (.int (16 : Int32)), .val (.ref b1), .val (.int (12 : Int32))] [(.int (16 : Int32)), (.int (12 : Int32))])) _
  refine Go.by (fun tt_ kk_ => XS.icmpNo X.here hx rfl (hb hby d1_15) rfl (flt (by decide : ¬ ((16 : Int32) < (12 : Int32)))).2.2.1 kk_) ?_
  show Go p.tables e below (T.setTop (mkF m 18 #[.val (.int (16 : Int32)), .val (.ref b1), .val (.int (12 : Int32))] [])) _
  refine Go.by (fun tt_ kk_ => XS.aloadN X.here hx rfl (hb hby d1_18) rfl rfl kk_) ?_
  show Go p.tables e below (T.setTop (mkF m 19 #[.val (.int (16 : Int32)), .val (.ref b1), .val (.int (12 : Int32))] [(.ref b1)])) _
  refine Go.by (fun tt_ kk_ => XS.iconst X.here hx rfl (hb hby d1_19) kk_) ?_
  show Go p.tables e below (T.setTop (mkF m 20 #[.val (.int (16 : Int32)), .val (.ref b1), .val (.int (12 : Int32))] [(.int (2 : Int32)), (.ref b1)])) _
  refine Go.by (fun tt_ kk_ => XS.iloadN X.here hx rfl (hb hby d1_20) rfl kk_) ?_
  show Go p.tables e below (T.setTop (mkF m 21 #[.val (.int (16 : Int32)), .val (.ref b1), .val (.int (12 : Int32))] [(.int (12 : Int32)), (.int (2 : Int32)), (.ref b1)])) _
  refine Go.by (fun tt_ kk_ => XS.imul X.here hx rfl (hb hby d1_21) rfl kk_) ?_
  show Go p.tables e below (T.setTop (mkF m 22 #[.val (.int (16 : Int32)), .val (.ref b1), .val (.int (12 : Int32))] [(.int (24 : Int32)), (.ref b1)])) _
  refine Go.by (fun tt_ kk_ => XS.iconst X.here hx rfl (hb hby d1_22) kk_) ?_
  show Go p.tables e below (T.setTop (mkF m 23 #[.val (.int (16 : Int32)), .val (.ref b1), .val (.int (12 : Int32))] [(.int (1 : Int32)), (.int (24 : Int32)), (.ref b1)])) _
  refine Go.by (fun tt_ kk_ => XS.isub X.here hx rfl (hb hby d1_23) rfl kk_) ?_
  show Go p.tables e below (T.setTop (mkF m 24 #[.val (.int (16 : Int32)), .val (.ref b1), .val (.int (12 : Int32))] [(.int (23 : Int32)), (.ref b1)])) _
  refine Go.by (fun tt_ kk_ => XS.iloadN X.here hx rfl (hb hby d1_24) rfl kk_) ?_
  show Go p.tables e below (T.setTop (mkF m 25 #[.val (.int (16 : Int32)), .val (.ref b1), .val (.int (12 : Int32))] [(.int (12 : Int32)), (.int (23 : Int32)), (.ref b1)])) _
  refine Go.by (fun tt_ kk_ => XS.ineg X.here hx rfl (hb hby d1_25) rfl kk_) ?_
  show Go p.tables e below (T.setTop (mkF m 26 #[.val (.int (16 : Int32)), .val (.ref b1), .val (.int (12 : Int32))] [(.int (-12 : Int32)), (.int (23 : Int32)), (.ref b1)])) _
  refine Go.by (fun tt_ kk_ => XS.i2dS X.here hx rfl (hb hby d1_26) rfl rfl kk_) ?_
  show Go p.tables e below (T.setTop (mkF m 27 #[.val (.int (16 : Int32)), .val (.ref b1), .val (.int (12 : Int32))] [(.double (FP.i2d (-12 : Int32))), (.int (23 : Int32)), (.ref b1)])) _
  refine Go.by (X.ldc2DoubleC hx hown (mvT hZ (hw _ (List.mem_of_getElem? (i := 5) rfl))) (g := (mkF m 27 #[.val (.int (16 : Int32)), .val (.ref b1), .val (.int (12 : Int32))] [(.double (FP.i2d (-12 : Int32))), (.int (23 : Int32)), (.ref b1)])) rfl (hb hby d1_27)) ?_
  show Go p.tables e below (T.setTop (mkF m 30 #[.val (.int (16 : Int32)), .val (.ref b1), .val (.int (12 : Int32))] [(.double (4598175219545276416 : UInt64)), (.double (FP.i2d (-12 : Int32))), (.int (23 : Int32)), (.ref b1)])) _
  refine Go.by (fun tt_ kk_ => XS.dmulS X.here hx rfl (hb hby d1_30) rfl (by unfold NoNaN64; decide +kernel) rfl kk_) ?_
  show Go p.tables e below (T.setTop (mkF m 31 #[.val (.int (16 : Int32)), .val (.ref b1), .val (.int (12 : Int32))] [(.double (FP.dmul (FP.i2d (-12 : Int32)) (4598175219545276416 : UInt64))), (.int (23 : Int32)), (.ref b1)])) _
  have Vo_ := V_b1
  obtain ⟨cl_, Ar_, q_, S_, N_, H_, G_⟩ := Vo_
  obtain ⟨T, h24, X, eT, Wh24, st⟩ := stD X hx hZ eT Ar_ (j := (23 : Int32)) (inb_of S_ ⟨by decide, by decide⟩) (g := (mkF m 31 #[.val (.int (16 : Int32)), .val (.ref b1), .val (.int (12 : Int32))] [(.double (FP.dmul (FP.i2d (-12 : Int32)) (4598175219545276416 : UInt64))), (.int (23 : Int32)), (.ref b1)])) rfl rfl (hb hby d1_31)
  have V_b1 := Arv.set Ar_ q_ S_ N_ H_ G_ rfl Wh24 23 rfl (Nat.le_of_ble_eq_true rfl)
  have N := Fr.snoc X N g_b1
  have K := K.wr Wh24 (Or.inr sz_b1)
  refine Go.by st ?_
  show Go p.tables e below (T.setTop (mkF m 32 #[.val (.int (16 : Int32)), .val (.ref b1), .val (.int (12 : Int32))] [])) _
  refine Go.by (fun tt_ kk_ => XS.aloadN X.here hx rfl (hb hby d1_32) rfl rfl kk_) ?_
  show Go p.tables e below (T.setTop (mkF m 33 #[.val (.int (16 : Int32)), .val (.ref b1), .val (.int (12 : Int32))] [(.ref b1)])) _
  refine Go.by (fun tt_ kk_ => XS.iconst X.here hx rfl (hb hby d1_33) kk_) ?_
  show Go p.tables e below (T.setTop (mkF m 34 #[.val (.int (16 : Int32)), .val (.ref b1), .val (.int (12 : Int32))] [(.int (2 : Int32)), (.ref b1)])) _
  refine Go.by (fun tt_ kk_ => XS.iloadN X.here hx rfl (hb hby d1_34) rfl kk_) ?_
  show Go p.tables e below (T.setTop (mkF m 35 #[.val (.int (16 : Int32)), .val (.ref b1), .val (.int (12 : Int32))] [(.int (12 : Int32)), (.int (2 : Int32)), (.ref b1)])) _
  refine Go.by (fun tt_ kk_ => XS.imul X.here hx rfl (hb hby d1_35) rfl kk_) ?_
  show Go p.tables e below (T.setTop (mkF m 36 #[.val (.int (16 : Int32)), .val (.ref b1), .val (.int (12 : Int32))] [(.int (24 : Int32)), (.ref b1)])) _
  refine Go.by (fun tt_ kk_ => XS.iloadN X.here hx rfl (hb hby d1_36) rfl kk_) ?_
  show Go p.tables e below (T.setTop (mkF m 37 #[.val (.int (16 : Int32)), .val (.ref b1), .val (.int (12 : Int32))] [(.int (12 : Int32)), (.int (24 : Int32)), (.ref b1)])) _
  refine Go.by (fun tt_ kk_ => XS.i2dS X.here hx rfl (hb hby d1_37) rfl rfl kk_) ?_
  show Go p.tables e below (T.setTop (mkF m 38 #[.val (.int (16 : Int32)), .val (.ref b1), .val (.int (12 : Int32))] [(.double (FP.i2d (12 : Int32))), (.int (24 : Int32)), (.ref b1)])) _
  refine Go.by (X.ldc2DoubleC hx hown (mvT hZ (hw _ (List.mem_of_getElem? (i := 5) rfl))) (g := (mkF m 38 #[.val (.int (16 : Int32)), .val (.ref b1), .val (.int (12 : Int32))] [(.double (FP.i2d (12 : Int32))), (.int (24 : Int32)), (.ref b1)])) rfl (hb hby d1_38)) ?_
  show Go p.tables e below (T.setTop (mkF m 41 #[.val (.int (16 : Int32)), .val (.ref b1), .val (.int (12 : Int32))] [(.double (4598175219545276416 : UInt64)), (.double (FP.i2d (12 : Int32))), (.int (24 : Int32)), (.ref b1)])) _
  refine Go.by (fun tt_ kk_ => XS.dmulS X.here hx rfl (hb hby d1_41) rfl (by unfold NoNaN64; decide +kernel) rfl kk_) ?_
  show Go p.tables e below (T.setTop (mkF m 42 #[.val (.int (16 : Int32)), .val (.ref b1), .val (.int (12 : Int32))] [(.double (FP.dmul (FP.i2d (12 : Int32)) (4598175219545276416 : UInt64))), (.int (24 : Int32)), (.ref b1)])) _
  have Vo_ := V_b1
  obtain ⟨cl_, Ar_, q_, S_, N_, H_, G_⟩ := Vo_
  obtain ⟨T, h25, X, eT, Wh25, st⟩ := stD X hx hZ eT Ar_ (j := (24 : Int32)) (inb_of S_ ⟨by decide, by decide⟩) (g := (mkF m 42 #[.val (.int (16 : Int32)), .val (.ref b1), .val (.int (12 : Int32))] [(.double (FP.dmul (FP.i2d (12 : Int32)) (4598175219545276416 : UInt64))), (.int (24 : Int32)), (.ref b1)])) rfl rfl (hb hby d1_42)
  have V_b1 := Arv.set Ar_ q_ S_ N_ H_ G_ rfl Wh25 24 rfl (Nat.le_of_ble_eq_true rfl)
  have N := Fr.snoc X N g_b1
  have K := K.wr Wh25 (Or.inr sz_b1)
  refine Go.by st ?_
  show Go p.tables e below (T.setTop (mkF m 43 #[.val (.int (16 : Int32)), .val (.ref b1), .val (.int (12 : Int32))] [])) _
  refine Go.by (fun tt_ kk_ => XS.iinc X.here hx rfl (hb hby d1_43) rfl (l' := #[.val (.int (16 : Int32)), .val (.ref b1), .val (.int (13 : Int32))]) rfl kk_) ?_
  show Go p.tables e below (T.setTop (mkF m 46 #[.val (.int (16 : Int32)), .val (.ref b1), .val (.int (13 : Int32))] [])) _
  refine Go.by (fun tt_ kk_ => XS.goto X.here hx rfl (pc0 := 46) (pc' := 13) rfl (hb hby d1_46) (by decide) (by decide) kk_) ?_
  show Go p.tables e below (T.setTop (mkF m 13 #[.val (.int (16 : Int32)), .val (.ref b1), .val (.int (13 : Int32))] [])) _
  refine Go.by (fun tt_ kk_ => XS.iloadN X.here hx rfl (hb hby d1_13) rfl kk_) ?_
  show Go p.tables e below (T.setTop (mkF m 14 #[.val (.int (16 : Int32)), .val (.ref b1), .val (.int (13 : Int32))] [(.int (13 : Int32))])) _
  refine Go.by (fun tt_ kk_ => XS.iloadN X.here hx rfl (hb hby d1_14) rfl kk_) ?_
  show Go p.tables e below (T.setTop (mkF m 15 #[.val (.int (16 : Int32)), .val (.ref b1), .val (.int (13 : Int32))] [(.int (16 : Int32)), (.int (13 : Int32))])) _
  refine Go.by (fun tt_ kk_ => XS.icmpNo X.here hx rfl (hb hby d1_15) rfl (flt (by decide : ¬ ((16 : Int32) < (13 : Int32)))).2.2.1 kk_) ?_
  show Go p.tables e below (T.setTop (mkF m 18 #[.val (.int (16 : Int32)), .val (.ref b1), .val (.int (13 : Int32))] [])) _
  refine Go.by (fun tt_ kk_ => XS.aloadN X.here hx rfl (hb hby d1_18) rfl rfl kk_) ?_
  show Go p.tables e below (T.setTop (mkF m 19 #[.val (.int (16 : Int32)), .val (.ref b1), .val (.int (13 : Int32))] [(.ref b1)])) _
  refine Go.by (fun tt_ kk_ => XS.iconst X.here hx rfl (hb hby d1_19) kk_) ?_
  show Go p.tables e below (T.setTop (mkF m 20 #[.val (.int (16 : Int32)), .val (.ref b1), .val (.int (13 : Int32))] [(.int (2 : Int32)), (.ref b1)])) _
  refine Go.by (fun tt_ kk_ => XS.iloadN X.here hx rfl (hb hby d1_20) rfl kk_) ?_
  show Go p.tables e below (T.setTop (mkF m 21 #[.val (.int (16 : Int32)), .val (.ref b1), .val (.int (13 : Int32))] [(.int (13 : Int32)), (.int (2 : Int32)), (.ref b1)])) _
  refine Go.by (fun tt_ kk_ => XS.imul X.here hx rfl (hb hby d1_21) rfl kk_) ?_
  show Go p.tables e below (T.setTop (mkF m 22 #[.val (.int (16 : Int32)), .val (.ref b1), .val (.int (13 : Int32))] [(.int (26 : Int32)), (.ref b1)])) _
  refine Go.by (fun tt_ kk_ => XS.iconst X.here hx rfl (hb hby d1_22) kk_) ?_
  show Go p.tables e below (T.setTop (mkF m 23 #[.val (.int (16 : Int32)), .val (.ref b1), .val (.int (13 : Int32))] [(.int (1 : Int32)), (.int (26 : Int32)), (.ref b1)])) _
  refine Go.by (fun tt_ kk_ => XS.isub X.here hx rfl (hb hby d1_23) rfl kk_) ?_
  show Go p.tables e below (T.setTop (mkF m 24 #[.val (.int (16 : Int32)), .val (.ref b1), .val (.int (13 : Int32))] [(.int (25 : Int32)), (.ref b1)])) _
  refine Go.by (fun tt_ kk_ => XS.iloadN X.here hx rfl (hb hby d1_24) rfl kk_) ?_
  show Go p.tables e below (T.setTop (mkF m 25 #[.val (.int (16 : Int32)), .val (.ref b1), .val (.int (13 : Int32))] [(.int (13 : Int32)), (.int (25 : Int32)), (.ref b1)])) _
  refine Go.by (fun tt_ kk_ => XS.ineg X.here hx rfl (hb hby d1_25) rfl kk_) ?_
  show Go p.tables e below (T.setTop (mkF m 26 #[.val (.int (16 : Int32)), .val (.ref b1), .val (.int (13 : Int32))] [(.int (-13 : Int32)), (.int (25 : Int32)), (.ref b1)])) _
  refine Go.by (fun tt_ kk_ => XS.i2dS X.here hx rfl (hb hby d1_26) rfl rfl kk_) ?_
  show Go p.tables e below (T.setTop (mkF m 27 #[.val (.int (16 : Int32)), .val (.ref b1), .val (.int (13 : Int32))] [(.double (FP.i2d (-13 : Int32))), (.int (25 : Int32)), (.ref b1)])) _
  refine Go.by (X.ldc2DoubleC hx hown (mvT hZ (hw _ (List.mem_of_getElem? (i := 5) rfl))) (g := (mkF m 27 #[.val (.int (16 : Int32)), .val (.ref b1), .val (.int (13 : Int32))] [(.double (FP.i2d (-13 : Int32))), (.int (25 : Int32)), (.ref b1)])) rfl (hb hby d1_27)) ?_
  show Go p.tables e below (T.setTop (mkF m 30 #[.val (.int (16 : Int32)), .val (.ref b1), .val (.int (13 : Int32))] [(.double (4598175219545276416 : UInt64)), (.double (FP.i2d (-13 : Int32))), (.int (25 : Int32)), (.ref b1)])) _
  refine Go.by (fun tt_ kk_ => XS.dmulS X.here hx rfl (hb hby d1_30) rfl (by unfold NoNaN64; decide +kernel) rfl kk_) ?_
  show Go p.tables e below (T.setTop (mkF m 31 #[.val (.int (16 : Int32)), .val (.ref b1), .val (.int (13 : Int32))] [(.double (FP.dmul (FP.i2d (-13 : Int32)) (4598175219545276416 : UInt64))), (.int (25 : Int32)), (.ref b1)])) _
  have Vo_ := V_b1
  obtain ⟨cl_, Ar_, q_, S_, N_, H_, G_⟩ := Vo_
  obtain ⟨T, h26, X, eT, Wh26, st⟩ := stD X hx hZ eT Ar_ (j := (25 : Int32)) (inb_of S_ ⟨by decide, by decide⟩) (g := (mkF m 31 #[.val (.int (16 : Int32)), .val (.ref b1), .val (.int (13 : Int32))] [(.double (FP.dmul (FP.i2d (-13 : Int32)) (4598175219545276416 : UInt64))), (.int (25 : Int32)), (.ref b1)])) rfl rfl (hb hby d1_31)
  have V_b1 := Arv.set Ar_ q_ S_ N_ H_ G_ rfl Wh26 25 rfl (Nat.le_of_ble_eq_true rfl)
  have N := Fr.snoc X N g_b1
  have K := K.wr Wh26 (Or.inr sz_b1)
  refine Go.by st ?_
  show Go p.tables e below (T.setTop (mkF m 32 #[.val (.int (16 : Int32)), .val (.ref b1), .val (.int (13 : Int32))] [])) _
  refine Go.by (fun tt_ kk_ => XS.aloadN X.here hx rfl (hb hby d1_32) rfl rfl kk_) ?_
  show Go p.tables e below (T.setTop (mkF m 33 #[.val (.int (16 : Int32)), .val (.ref b1), .val (.int (13 : Int32))] [(.ref b1)])) _
  refine Go.by (fun tt_ kk_ => XS.iconst X.here hx rfl (hb hby d1_33) kk_) ?_
  show Go p.tables e below (T.setTop (mkF m 34 #[.val (.int (16 : Int32)), .val (.ref b1), .val (.int (13 : Int32))] [(.int (2 : Int32)), (.ref b1)])) _
  refine Go.by (fun tt_ kk_ => XS.iloadN X.here hx rfl (hb hby d1_34) rfl kk_) ?_
  show Go p.tables e below (T.setTop (mkF m 35 #[.val (.int (16 : Int32)), .val (.ref b1), .val (.int (13 : Int32))] [(.int (13 : Int32)), (.int (2 : Int32)), (.ref b1)])) _
  refine Go.by (fun tt_ kk_ => XS.imul X.here hx rfl (hb hby d1_35) rfl kk_) ?_
  show Go p.tables e below (T.setTop (mkF m 36 #[.val (.int (16 : Int32)), .val (.ref b1), .val (.int (13 : Int32))] [(.int (26 : Int32)), (.ref b1)])) _
  refine Go.by (fun tt_ kk_ => XS.iloadN X.here hx rfl (hb hby d1_36) rfl kk_) ?_
  show Go p.tables e below (T.setTop (mkF m 37 #[.val (.int (16 : Int32)), .val (.ref b1), .val (.int (13 : Int32))] [(.int (13 : Int32)), (.int (26 : Int32)), (.ref b1)])) _
  refine Go.by (fun tt_ kk_ => XS.i2dS X.here hx rfl (hb hby d1_37) rfl rfl kk_) ?_
  show Go p.tables e below (T.setTop (mkF m 38 #[.val (.int (16 : Int32)), .val (.ref b1), .val (.int (13 : Int32))] [(.double (FP.i2d (13 : Int32))), (.int (26 : Int32)), (.ref b1)])) _
  refine Go.by (X.ldc2DoubleC hx hown (mvT hZ (hw _ (List.mem_of_getElem? (i := 5) rfl))) (g := (mkF m 38 #[.val (.int (16 : Int32)), .val (.ref b1), .val (.int (13 : Int32))] [(.double (FP.i2d (13 : Int32))), (.int (26 : Int32)), (.ref b1)])) rfl (hb hby d1_38)) ?_
  show Go p.tables e below (T.setTop (mkF m 41 #[.val (.int (16 : Int32)), .val (.ref b1), .val (.int (13 : Int32))] [(.double (4598175219545276416 : UInt64)), (.double (FP.i2d (13 : Int32))), (.int (26 : Int32)), (.ref b1)])) _
  refine Go.by (fun tt_ kk_ => XS.dmulS X.here hx rfl (hb hby d1_41) rfl (by unfold NoNaN64; decide +kernel) rfl kk_) ?_
  show Go p.tables e below (T.setTop (mkF m 42 #[.val (.int (16 : Int32)), .val (.ref b1), .val (.int (13 : Int32))] [(.double (FP.dmul (FP.i2d (13 : Int32)) (4598175219545276416 : UInt64))), (.int (26 : Int32)), (.ref b1)])) _
  have Vo_ := V_b1
  obtain ⟨cl_, Ar_, q_, S_, N_, H_, G_⟩ := Vo_
  obtain ⟨T, h27, X, eT, Wh27, st⟩ := stD X hx hZ eT Ar_ (j := (26 : Int32)) (inb_of S_ ⟨by decide, by decide⟩) (g := (mkF m 42 #[.val (.int (16 : Int32)), .val (.ref b1), .val (.int (13 : Int32))] [(.double (FP.dmul (FP.i2d (13 : Int32)) (4598175219545276416 : UInt64))), (.int (26 : Int32)), (.ref b1)])) rfl rfl (hb hby d1_42)
  have V_b1 := Arv.set Ar_ q_ S_ N_ H_ G_ rfl Wh27 26 rfl (Nat.le_of_ble_eq_true rfl)
  have N := Fr.snoc X N g_b1
  have K := K.wr Wh27 (Or.inr sz_b1)
  refine Go.by st ?_
  show Go p.tables e below (T.setTop (mkF m 43 #[.val (.int (16 : Int32)), .val (.ref b1), .val (.int (13 : Int32))] [])) _
  refine Go.by (fun tt_ kk_ => XS.iinc X.here hx rfl (hb hby d1_43) rfl (l' := #[.val (.int (16 : Int32)), .val (.ref b1), .val (.int (14 : Int32))]) rfl kk_) ?_
  show Go p.tables e below (T.setTop (mkF m 46 #[.val (.int (16 : Int32)), .val (.ref b1), .val (.int (14 : Int32))] [])) _
  refine Go.by (fun tt_ kk_ => XS.goto X.here hx rfl (pc0 := 46) (pc' := 13) rfl (hb hby d1_46) (by decide) (by decide) kk_) ?_
  show Go p.tables e below (T.setTop (mkF m 13 #[.val (.int (16 : Int32)), .val (.ref b1), .val (.int (14 : Int32))] [])) _
  refine Go.by (fun tt_ kk_ => XS.iloadN X.here hx rfl (hb hby d1_13) rfl kk_) ?_
  show Go p.tables e below (T.setTop (mkF m 14 #[.val (.int (16 : Int32)), .val (.ref b1), .val (.int (14 : Int32))] [(.int (14 : Int32))])) _
  refine Go.by (fun tt_ kk_ => XS.iloadN X.here hx rfl (hb hby d1_14) rfl kk_) ?_
  show Go p.tables e below (T.setTop (mkF m 15 #[.val (.int (16 : Int32)), .val (.ref b1), .val (.int (14 : Int32))] [(.int (16 : Int32)), (.int (14 : Int32))])) _
  refine Go.by (fun tt_ kk_ => XS.icmpNo X.here hx rfl (hb hby d1_15) rfl (flt (by decide : ¬ ((16 : Int32) < (14 : Int32)))).2.2.1 kk_) ?_
  show Go p.tables e below (T.setTop (mkF m 18 #[.val (.int (16 : Int32)), .val (.ref b1), .val (.int (14 : Int32))] [])) _
  refine Go.by (fun tt_ kk_ => XS.aloadN X.here hx rfl (hb hby d1_18) rfl rfl kk_) ?_
  show Go p.tables e below (T.setTop (mkF m 19 #[.val (.int (16 : Int32)), .val (.ref b1), .val (.int (14 : Int32))] [(.ref b1)])) _
  refine Go.by (fun tt_ kk_ => XS.iconst X.here hx rfl (hb hby d1_19) kk_) ?_
  show Go p.tables e below (T.setTop (mkF m 20 #[.val (.int (16 : Int32)), .val (.ref b1), .val (.int (14 : Int32))] [(.int (2 : Int32)), (.ref b1)])) _
  refine Go.by (fun tt_ kk_ => XS.iloadN X.here hx rfl (hb hby d1_20) rfl kk_) ?_
  show Go p.tables e below (T.setTop (mkF m 21 #[.val (.int (16 : Int32)), .val (.ref b1), .val (.int (14 : Int32))] [(.int (14 : Int32)), (.int (2 : Int32)), (.ref b1)])) _
  refine Go.by (fun tt_ kk_ => XS.imul X.here hx rfl (hb hby d1_21) rfl kk_) ?_
  show Go p.tables e below (T.setTop (mkF m 22 #[.val (.int (16 : Int32)), .val (.ref b1), .val (.int (14 : Int32))] [(.int (28 : Int32)), (.ref b1)])) _
  refine Go.by (fun tt_ kk_ => XS.iconst X.here hx rfl (hb hby d1_22) kk_) ?_
  show Go p.tables e below (T.setTop (mkF m 23 #[.val (.int (16 : Int32)), .val (.ref b1), .val (.int (14 : Int32))] [(.int (1 : Int32)), (.int (28 : Int32)), (.ref b1)])) _
  refine Go.by (fun tt_ kk_ => XS.isub X.here hx rfl (hb hby d1_23) rfl kk_) ?_
  show Go p.tables e below (T.setTop (mkF m 24 #[.val (.int (16 : Int32)), .val (.ref b1), .val (.int (14 : Int32))] [(.int (27 : Int32)), (.ref b1)])) _
  refine Go.by (fun tt_ kk_ => XS.iloadN X.here hx rfl (hb hby d1_24) rfl kk_) ?_
  show Go p.tables e below (T.setTop (mkF m 25 #[.val (.int (16 : Int32)), .val (.ref b1), .val (.int (14 : Int32))] [(.int (14 : Int32)), (.int (27 : Int32)), (.ref b1)])) _
  refine Go.by (fun tt_ kk_ => XS.ineg X.here hx rfl (hb hby d1_25) rfl kk_) ?_
  show Go p.tables e below (T.setTop (mkF m 26 #[.val (.int (16 : Int32)), .val (.ref b1), .val (.int (14 : Int32))] [(.int (-14 : Int32)), (.int (27 : Int32)), (.ref b1)])) _
  refine Go.by (fun tt_ kk_ => XS.i2dS X.here hx rfl (hb hby d1_26) rfl rfl kk_) ?_
  show Go p.tables e below (T.setTop (mkF m 27 #[.val (.int (16 : Int32)), .val (.ref b1), .val (.int (14 : Int32))] [(.double (FP.i2d (-14 : Int32))), (.int (27 : Int32)), (.ref b1)])) _
  refine Go.by (X.ldc2DoubleC hx hown (mvT hZ (hw _ (List.mem_of_getElem? (i := 5) rfl))) (g := (mkF m 27 #[.val (.int (16 : Int32)), .val (.ref b1), .val (.int (14 : Int32))] [(.double (FP.i2d (-14 : Int32))), (.int (27 : Int32)), (.ref b1)])) rfl (hb hby d1_27)) ?_
  show Go p.tables e below (T.setTop (mkF m 30 #[.val (.int (16 : Int32)), .val (.ref b1), .val (.int (14 : Int32))] [(.double (4598175219545276416 : UInt64)), (.double (FP.i2d (-14 : Int32))), (.int (27 : Int32)), (.ref b1)])) _
  refine Go.by (fun tt_ kk_ => XS.dmulS X.here hx rfl (hb hby d1_30) rfl (by unfold NoNaN64; decide +kernel) rfl kk_) ?_
  show Go p.tables e below (T.setTop (mkF m 31 #[.val (.int (16 : Int32)), .val (.ref b1), .val (.int (14 : Int32))] [(.double (FP.dmul (FP.i2d (-14 : Int32)) (4598175219545276416 : UInt64))), (.int (27 : Int32)), (.ref b1)])) _
  have Vo_ := V_b1
  obtain ⟨cl_, Ar_, q_, S_, N_, H_, G_⟩ := Vo_
  obtain ⟨T, h28, X, eT, Wh28, st⟩ := stD X hx hZ eT Ar_ (j := (27 : Int32)) (inb_of S_ ⟨by decide, by decide⟩) (g := (mkF m 31 #[.val (.int (16 : Int32)), .val (.ref b1), .val (.int (14 : Int32))] [(.double (FP.dmul (FP.i2d (-14 : Int32)) (4598175219545276416 : UInt64))), (.int (27 : Int32)), (.ref b1)])) rfl rfl (hb hby d1_31)
  have V_b1 := Arv.set Ar_ q_ S_ N_ H_ G_ rfl Wh28 27 rfl (Nat.le_of_ble_eq_true rfl)
  have N := Fr.snoc X N g_b1
  have K := K.wr Wh28 (Or.inr sz_b1)
  refine Go.by st ?_
  show Go p.tables e below (T.setTop (mkF m 32 #[.val (.int (16 : Int32)), .val (.ref b1), .val (.int (14 : Int32))] [])) _
  refine Go.by (fun tt_ kk_ => XS.aloadN X.here hx rfl (hb hby d1_32) rfl rfl kk_) ?_
  show Go p.tables e below (T.setTop (mkF m 33 #[.val (.int (16 : Int32)), .val (.ref b1), .val (.int (14 : Int32))] [(.ref b1)])) _
  refine Go.by (fun tt_ kk_ => XS.iconst X.here hx rfl (hb hby d1_33) kk_) ?_
  show Go p.tables e below (T.setTop (mkF m 34 #[.val (.int (16 : Int32)), .val (.ref b1), .val (.int (14 : Int32))] [(.int (2 : Int32)), (.ref b1)])) _
  refine Go.by (fun tt_ kk_ => XS.iloadN X.here hx rfl (hb hby d1_34) rfl kk_) ?_
  show Go p.tables e below (T.setTop (mkF m 35 #[.val (.int (16 : Int32)), .val (.ref b1), .val (.int (14 : Int32))] [(.int (14 : Int32)), (.int (2 : Int32)), (.ref b1)])) _
  refine Go.by (fun tt_ kk_ => XS.imul X.here hx rfl (hb hby d1_35) rfl kk_) ?_
  show Go p.tables e below (T.setTop (mkF m 36 #[.val (.int (16 : Int32)), .val (.ref b1), .val (.int (14 : Int32))] [(.int (28 : Int32)), (.ref b1)])) _
  refine Go.by (fun tt_ kk_ => XS.iloadN X.here hx rfl (hb hby d1_36) rfl kk_) ?_
  show Go p.tables e below (T.setTop (mkF m 37 #[.val (.int (16 : Int32)), .val (.ref b1), .val (.int (14 : Int32))] [(.int (14 : Int32)), (.int (28 : Int32)), (.ref b1)])) _
  refine Go.by (fun tt_ kk_ => XS.i2dS X.here hx rfl (hb hby d1_37) rfl rfl kk_) ?_
  show Go p.tables e below (T.setTop (mkF m 38 #[.val (.int (16 : Int32)), .val (.ref b1), .val (.int (14 : Int32))] [(.double (FP.i2d (14 : Int32))), (.int (28 : Int32)), (.ref b1)])) _
  refine Go.by (X.ldc2DoubleC hx hown (mvT hZ (hw _ (List.mem_of_getElem? (i := 5) rfl))) (g := (mkF m 38 #[.val (.int (16 : Int32)), .val (.ref b1), .val (.int (14 : Int32))] [(.double (FP.i2d (14 : Int32))), (.int (28 : Int32)), (.ref b1)])) rfl (hb hby d1_38)) ?_
  show Go p.tables e below (T.setTop (mkF m 41 #[.val (.int (16 : Int32)), .val (.ref b1), .val (.int (14 : Int32))] [(.double (4598175219545276416 : UInt64)), (.double (FP.i2d (14 : Int32))), (.int (28 : Int32)), (.ref b1)])) _
  refine Go.by (fun tt_ kk_ => XS.dmulS X.here hx rfl (hb hby d1_41) rfl (by unfold NoNaN64; decide +kernel) rfl kk_) ?_
  show Go p.tables e below (T.setTop (mkF m 42 #[.val (.int (16 : Int32)), .val (.ref b1), .val (.int (14 : Int32))] [(.double (FP.dmul (FP.i2d (14 : Int32)) (4598175219545276416 : UInt64))), (.int (28 : Int32)), (.ref b1)])) _
  have Vo_ := V_b1
  obtain ⟨cl_, Ar_, q_, S_, N_, H_, G_⟩ := Vo_
  obtain ⟨T, h29, X, eT, Wh29, st⟩ := stD X hx hZ eT Ar_ (j := (28 : Int32)) (inb_of S_ ⟨by decide, by decide⟩) (g := (mkF m 42 #[.val (.int (16 : Int32)), .val (.ref b1), .val (.int (14 : Int32))] [(.double (FP.dmul (FP.i2d (14 : Int32)) (4598175219545276416 : UInt64))), (.int (28 : Int32)), (.ref b1)])) rfl rfl (hb hby d1_42)
  have V_b1 := Arv.set Ar_ q_ S_ N_ H_ G_ rfl Wh29 28 rfl (Nat.le_of_ble_eq_true rfl)
  have N := Fr.snoc X N g_b1
  have K := K.wr Wh29 (Or.inr sz_b1)
  refine Go.by st ?_
  show Go p.tables e below (T.setTop (mkF m 43 #[.val (.int (16 : Int32)), .val (.ref b1), .val (.int (14 : Int32))] [])) _
  refine Go.by (fun tt_ kk_ => XS.iinc X.here hx rfl (hb hby d1_43) rfl (l' := #[.val (.int (16 : Int32)), .val (.ref b1), .val (.int (15 : Int32))]) rfl kk_) ?_
  show Go p.tables e below (T.setTop (mkF m 46 #[.val (.int (16 : Int32)), .val (.ref b1), .val (.int (15 : Int32))] [])) _
  refine Go.by (fun tt_ kk_ => XS.goto X.here hx rfl (pc0 := 46) (pc' := 13) rfl (hb hby d1_46) (by decide) (by decide) kk_) ?_
  show Go p.tables e below (T.setTop (mkF m 13 #[.val (.int (16 : Int32)), .val (.ref b1), .val (.int (15 : Int32))] [])) _
  refine Go.by (fun tt_ kk_ => XS.iloadN X.here hx rfl (hb hby d1_13) rfl kk_) ?_
  show Go p.tables e below (T.setTop (mkF m 14 #[.val (.int (16 : Int32)), .val (.ref b1), .val (.int (15 : Int32))] [(.int (15 : Int32))])) _
  refine Go.by (fun tt_ kk_ => XS.iloadN X.here hx rfl (hb hby d1_14) rfl kk_) ?_
  show Go p.tables e below (T.setTop (mkF m 15 #[.val (.int (16 : Int32)), .val (.ref b1), .val (.int (15 : Int32))] [(.int (16 : Int32)), (.int (15 : Int32))])) _
  refine Go.by (fun tt_ kk_ => XS.icmpNo X.here hx rfl (hb hby d1_15) rfl (flt (by decide : ¬ ((16 : Int32) < (15 : Int32)))).2.2.1 kk_) ?_
  show Go p.tables e below (T.setTop (mkF m 18 #[.val (.int (16 : Int32)), .val (.ref b1), .val (.int (15 : Int32))] [])) _
  refine Go.by (fun tt_ kk_ => XS.aloadN X.here hx rfl (hb hby d1_18) rfl rfl kk_) ?_
  show Go p.tables e below (T.setTop (mkF m 19 #[.val (.int (16 : Int32)), .val (.ref b1), .val (.int (15 : Int32))] [(.ref b1)])) _
  refine Go.by (fun tt_ kk_ => XS.iconst X.here hx rfl (hb hby d1_19) kk_) ?_
  show Go p.tables e below (T.setTop (mkF m 20 #[.val (.int (16 : Int32)), .val (.ref b1), .val (.int (15 : Int32))] [(.int (2 : Int32)), (.ref b1)])) _
  refine Go.by (fun tt_ kk_ => XS.iloadN X.here hx rfl (hb hby d1_20) rfl kk_) ?_
  show Go p.tables e below (T.setTop (mkF m 21 #[.val (.int (16 : Int32)), .val (.ref b1), .val (.int (15 : Int32))] [(.int (15 : Int32)), (.int (2 : Int32)), (.ref b1)])) _
  refine Go.by (fun tt_ kk_ => XS.imul X.here hx rfl (hb hby d1_21) rfl kk_) ?_
  show Go p.tables e below (T.setTop (mkF m 22 #[.val (.int (16 : Int32)), .val (.ref b1), .val (.int (15 : Int32))] [(.int (30 : Int32)), (.ref b1)])) _
  refine Go.by (fun tt_ kk_ => XS.iconst X.here hx rfl (hb hby d1_22) kk_) ?_
  show Go p.tables e below (T.setTop (mkF m 23 #[.val (.int (16 : Int32)), .val (.ref b1), .val (.int (15 : Int32))] [(.int (1 : Int32)), (.int (30 : Int32)), (.ref b1)])) _
  refine Go.by (fun tt_ kk_ => XS.isub X.here hx rfl (hb hby d1_23) rfl kk_) ?_
  show Go p.tables e below (T.setTop (mkF m 24 #[.val (.int (16 : Int32)), .val (.ref b1), .val (.int (15 : Int32))] [(.int (29 : Int32)), (.ref b1)])) _
  refine Go.by (fun tt_ kk_ => XS.iloadN X.here hx rfl (hb hby d1_24) rfl kk_) ?_
  show Go p.tables e below (T.setTop (mkF m 25 #[.val (.int (16 : Int32)), .val (.ref b1), .val (.int (15 : Int32))] [(.int (15 : Int32)), (.int (29 : Int32)), (.ref b1)])) _
  refine Go.by (fun tt_ kk_ => XS.ineg X.here hx rfl (hb hby d1_25) rfl kk_) ?_
  show Go p.tables e below (T.setTop (mkF m 26 #[.val (.int (16 : Int32)), .val (.ref b1), .val (.int (15 : Int32))] [(.int (-15 : Int32)), (.int (29 : Int32)), (.ref b1)])) _
  refine Go.by (fun tt_ kk_ => XS.i2dS X.here hx rfl (hb hby d1_26) rfl rfl kk_) ?_
  show Go p.tables e below (T.setTop (mkF m 27 #[.val (.int (16 : Int32)), .val (.ref b1), .val (.int (15 : Int32))] [(.double (FP.i2d (-15 : Int32))), (.int (29 : Int32)), (.ref b1)])) _
  refine Go.by (X.ldc2DoubleC hx hown (mvT hZ (hw _ (List.mem_of_getElem? (i := 5) rfl))) (g := (mkF m 27 #[.val (.int (16 : Int32)), .val (.ref b1), .val (.int (15 : Int32))] [(.double (FP.i2d (-15 : Int32))), (.int (29 : Int32)), (.ref b1)])) rfl (hb hby d1_27)) ?_
  show Go p.tables e below (T.setTop (mkF m 30 #[.val (.int (16 : Int32)), .val (.ref b1), .val (.int (15 : Int32))] [(.double (4598175219545276416 : UInt64)), (.double (FP.i2d (-15 : Int32))), (.int (29 : Int32)), (.ref b1)])) _
  refine Go.by (fun tt_ kk_ => XS.dmulS X.here hx rfl (hb hby d1_30) rfl (by unfold NoNaN64; decide +kernel) rfl kk_) ?_
  show Go p.tables e below (T.setTop (mkF m 31 #[.val (.int (16 : Int32)), .val (.ref b1), .val (.int (15 : Int32))] [(.double (FP.dmul (FP.i2d (-15 : Int32)) (4598175219545276416 : UInt64))), (.int (29 : Int32)), (.ref b1)])) _
  have Vo_ := V_b1
  obtain ⟨cl_, Ar_, q_, S_, N_, H_, G_⟩ := Vo_
  obtain ⟨T, h30, X, eT, Wh30, st⟩ := stD X hx hZ eT Ar_ (j := (29 : Int32)) (inb_of S_ ⟨by decide, by decide⟩) (g := (mkF m 31 #[.val (.int (16 : Int32)), .val (.ref b1), .val (.int (15 : Int32))] [(.double (FP.dmul (FP.i2d (-15 : Int32)) (4598175219545276416 : UInt64))), (.int (29 : Int32)), (.ref b1)])) rfl rfl (hb hby d1_31)
  have V_b1 := Arv.set Ar_ q_ S_ N_ H_ G_ rfl Wh30 29 rfl (Nat.le_of_ble_eq_true rfl)
  have N := Fr.snoc X N g_b1
  have K := K.wr Wh30 (Or.inr sz_b1)
  refine Go.by st ?_
  show Go p.tables e below (T.setTop (mkF m 32 #[.val (.int (16 : Int32)), .val (.ref b1), .val (.int (15 : Int32))] [])) _
  refine Go.by (fun tt_ kk_ => XS.aloadN X.here hx rfl (hb hby d1_32) rfl rfl kk_) ?_
  show Go p.tables e below (T.setTop (mkF m 33 #[.val (.int (16 : Int32)), .val (.ref b1), .val (.int (15 : Int32))] [(.ref b1)])) _
  refine Go.by (fun tt_ kk_ => XS.iconst X.here hx rfl (hb hby d1_33) kk_) ?_
  show Go p.tables e below (T.setTop (mkF m 34 #[.val (.int (16 : Int32)), .val (.ref b1), .val (.int (15 : Int32))] [(.int (2 : Int32)), (.ref b1)])) _
  refine Go.by (fun tt_ kk_ => XS.iloadN X.here hx rfl (hb hby d1_34) rfl kk_) ?_
  show Go p.tables e below (T.setTop (mkF m 35 #[.val (.int (16 : Int32)), .val (.ref b1), .val (.int (15 : Int32))] [(.int (15 : Int32)), (.int (2 : Int32)), (.ref b1)])) _
  refine Go.by (fun tt_ kk_ => XS.imul X.here hx rfl (hb hby d1_35) rfl kk_) ?_
  show Go p.tables e below (T.setTop (mkF m 36 #[.val (.int (16 : Int32)), .val (.ref b1), .val (.int (15 : Int32))] [(.int (30 : Int32)), (.ref b1)])) _
  refine Go.by (fun tt_ kk_ => XS.iloadN X.here hx rfl (hb hby d1_36) rfl kk_) ?_
  show Go p.tables e below (T.setTop (mkF m 37 #[.val (.int (16 : Int32)), .val (.ref b1), .val (.int (15 : Int32))] [(.int (15 : Int32)), (.int (30 : Int32)), (.ref b1)])) _
  refine Go.by (fun tt_ kk_ => XS.i2dS X.here hx rfl (hb hby d1_37) rfl rfl kk_) ?_
  show Go p.tables e below (T.setTop (mkF m 38 #[.val (.int (16 : Int32)), .val (.ref b1), .val (.int (15 : Int32))] [(.double (FP.i2d (15 : Int32))), (.int (30 : Int32)), (.ref b1)])) _
  refine Go.by (X.ldc2DoubleC hx hown (mvT hZ (hw _ (List.mem_of_getElem? (i := 5) rfl))) (g := (mkF m 38 #[.val (.int (16 : Int32)), .val (.ref b1), .val (.int (15 : Int32))] [(.double (FP.i2d (15 : Int32))), (.int (30 : Int32)), (.ref b1)])) rfl (hb hby d1_38)) ?_
  show Go p.tables e below (T.setTop (mkF m 41 #[.val (.int (16 : Int32)), .val (.ref b1), .val (.int (15 : Int32))] [(.double (4598175219545276416 : UInt64)), (.double (FP.i2d (15 : Int32))), (.int (30 : Int32)), (.ref b1)])) _
  refine Go.by (fun tt_ kk_ => XS.dmulS X.here hx rfl (hb hby d1_41) rfl (by unfold NoNaN64; decide +kernel) rfl kk_) ?_
  show Go p.tables e below (T.setTop (mkF m 42 #[.val (.int (16 : Int32)), .val (.ref b1), .val (.int (15 : Int32))] [(.double (FP.dmul (FP.i2d (15 : Int32)) (4598175219545276416 : UInt64))), (.int (30 : Int32)), (.ref b1)])) _
  have Vo_ := V_b1
  obtain ⟨cl_, Ar_, q_, S_, N_, H_, G_⟩ := Vo_
  obtain ⟨T, h31, X, eT, Wh31, st⟩ := stD X hx hZ eT Ar_ (j := (30 : Int32)) (inb_of S_ ⟨by decide, by decide⟩) (g := (mkF m 42 #[.val (.int (16 : Int32)), .val (.ref b1), .val (.int (15 : Int32))] [(.double (FP.dmul (FP.i2d (15 : Int32)) (4598175219545276416 : UInt64))), (.int (30 : Int32)), (.ref b1)])) rfl rfl (hb hby d1_42)
  have V_b1 := Arv.set Ar_ q_ S_ N_ H_ G_ rfl Wh31 30 rfl (Nat.le_of_ble_eq_true rfl)
  have N := Fr.snoc X N g_b1
  have K := K.wr Wh31 (Or.inr sz_b1)
  refine Go.by st ?_
  show Go p.tables e below (T.setTop (mkF m 43 #[.val (.int (16 : Int32)), .val (.ref b1), .val (.int (15 : Int32))] [])) _
  refine Go.by (fun tt_ kk_ => XS.iinc X.here hx rfl (hb hby d1_43) rfl (l' := #[.val (.int (16 : Int32)), .val (.ref b1), .val (.int (16 : Int32))]) rfl kk_) ?_
  show Go p.tables e below (T.setTop (mkF m 46 #[.val (.int (16 : Int32)), .val (.ref b1), .val (.int (16 : Int32))] [])) _
  refine Go.by (fun tt_ kk_ => XS.goto X.here hx rfl (pc0 := 46) (pc' := 13) rfl (hb hby d1_46) (by decide) (by decide) kk_) ?_
  show Go p.tables e below (T.setTop (mkF m 13 #[.val (.int (16 : Int32)), .val (.ref b1), .val (.int (16 : Int32))] [])) _
  refine Go.by (fun tt_ kk_ => XS.iloadN X.here hx rfl (hb hby d1_13) rfl kk_) ?_
  show Go p.tables e below (T.setTop (mkF m 14 #[.val (.int (16 : Int32)), .val (.ref b1), .val (.int (16 : Int32))] [(.int (16 : Int32))])) _
  refine Go.by (fun tt_ kk_ => XS.iloadN X.here hx rfl (hb hby d1_14) rfl kk_) ?_
  show Go p.tables e below (T.setTop (mkF m 15 #[.val (.int (16 : Int32)), .val (.ref b1), .val (.int (16 : Int32))] [(.int (16 : Int32)), (.int (16 : Int32))])) _
  refine Go.by (fun tt_ kk_ => XS.icmpNo X.here hx rfl (hb hby d1_15) rfl (flt (by decide : ¬ ((16 : Int32) < (16 : Int32)))).2.2.1 kk_) ?_
  show Go p.tables e below (T.setTop (mkF m 18 #[.val (.int (16 : Int32)), .val (.ref b1), .val (.int (16 : Int32))] [])) _
  refine Go.by (fun tt_ kk_ => XS.aloadN X.here hx rfl (hb hby d1_18) rfl rfl kk_) ?_
  show Go p.tables e below (T.setTop (mkF m 19 #[.val (.int (16 : Int32)), .val (.ref b1), .val (.int (16 : Int32))] [(.ref b1)])) _
  refine Go.by (fun tt_ kk_ => XS.iconst X.here hx rfl (hb hby d1_19) kk_) ?_
  show Go p.tables e below (T.setTop (mkF m 20 #[.val (.int (16 : Int32)), .val (.ref b1), .val (.int (16 : Int32))] [(.int (2 : Int32)), (.ref b1)])) _
  refine Go.by (fun tt_ kk_ => XS.iloadN X.here hx rfl (hb hby d1_20) rfl kk_) ?_
  show Go p.tables e below (T.setTop (mkF m 21 #[.val (.int (16 : Int32)), .val (.ref b1), .val (.int (16 : Int32))] [(.int (16 : Int32)), (.int (2 : Int32)), (.ref b1)])) _
  refine Go.by (fun tt_ kk_ => XS.imul X.here hx rfl (hb hby d1_21) rfl kk_) ?_
  show Go p.tables e below (T.setTop (mkF m 22 #[.val (.int (16 : Int32)), .val (.ref b1), .val (.int (16 : Int32))] [(.int (32 : Int32)), (.ref b1)])) _
  refine Go.by (fun tt_ kk_ => XS.iconst X.here hx rfl (hb hby d1_22) kk_) ?_
  show Go p.tables e below (T.setTop (mkF m 23 #[.val (.int (16 : Int32)), .val (.ref b1), .val (.int (16 : Int32))] [(.int (1 : Int32)), (.int (32 : Int32)), (.ref b1)])) _
  refine Go.by (fun tt_ kk_ => XS.isub X.here hx rfl (hb hby d1_23) rfl kk_) ?_
  show Go p.tables e below (T.setTop (mkF m 24 #[.val (.int (16 : Int32)), .val (.ref b1), .val (.int (16 : Int32))] [(.int (31 : Int32)), (.ref b1)])) _
  refine Go.by (fun tt_ kk_ => XS.iloadN X.here hx rfl (hb hby d1_24) rfl kk_) ?_
  show Go p.tables e below (T.setTop (mkF m 25 #[.val (.int (16 : Int32)), .val (.ref b1), .val (.int (16 : Int32))] [(.int (16 : Int32)), (.int (31 : Int32)), (.ref b1)])) _
  refine Go.by (fun tt_ kk_ => XS.ineg X.here hx rfl (hb hby d1_25) rfl kk_) ?_
  show Go p.tables e below (T.setTop (mkF m 26 #[.val (.int (16 : Int32)), .val (.ref b1), .val (.int (16 : Int32))] [(.int (-16 : Int32)), (.int (31 : Int32)), (.ref b1)])) _
  refine Go.by (fun tt_ kk_ => XS.i2dS X.here hx rfl (hb hby d1_26) rfl rfl kk_) ?_
  show Go p.tables e below (T.setTop (mkF m 27 #[.val (.int (16 : Int32)), .val (.ref b1), .val (.int (16 : Int32))] [(.double (FP.i2d (-16 : Int32))), (.int (31 : Int32)), (.ref b1)])) _
  refine Go.by (X.ldc2DoubleC hx hown (mvT hZ (hw _ (List.mem_of_getElem? (i := 5) rfl))) (g := (mkF m 27 #[.val (.int (16 : Int32)), .val (.ref b1), .val (.int (16 : Int32))] [(.double (FP.i2d (-16 : Int32))), (.int (31 : Int32)), (.ref b1)])) rfl (hb hby d1_27)) ?_
  show Go p.tables e below (T.setTop (mkF m 30 #[.val (.int (16 : Int32)), .val (.ref b1), .val (.int (16 : Int32))] [(.double (4598175219545276416 : UInt64)), (.double (FP.i2d (-16 : Int32))), (.int (31 : Int32)), (.ref b1)])) _
  refine Go.by (fun tt_ kk_ => XS.dmulS X.here hx rfl (hb hby d1_30) rfl (by unfold NoNaN64; decide +kernel) rfl kk_) ?_
  show Go p.tables e below (T.setTop (mkF m 31 #[.val (.int (16 : Int32)), .val (.ref b1), .val (.int (16 : Int32))] [(.double (FP.dmul (FP.i2d (-16 : Int32)) (4598175219545276416 : UInt64))), (.int (31 : Int32)), (.ref b1)])) _
  have Vo_ := V_b1
  obtain ⟨cl_, Ar_, q_, S_, N_, H_, G_⟩ := Vo_
  obtain ⟨T, h32, X, eT, Wh32, st⟩ := stD X hx hZ eT Ar_ (j := (31 : Int32)) (inb_of S_ ⟨by decide, by decide⟩) (g := (mkF m 31 #[.val (.int (16 : Int32)), .val (.ref b1), .val (.int (16 : Int32))] [(.double (FP.dmul (FP.i2d (-16 : Int32)) (4598175219545276416 : UInt64))), (.int (31 : Int32)), (.ref b1)])) rfl rfl (hb hby d1_31)
  have V_b1 := Arv.set Ar_ q_ S_ N_ H_ G_ rfl Wh32 31 rfl (Nat.le_of_ble_eq_true rfl)
  have N := Fr.snoc X N g_b1
  have K := K.wr Wh32 (Or.inr sz_b1)
  refine Go.by st ?_
  show Go p.tables e below (T.setTop (mkF m 32 #[.val (.int (16 : Int32)), .val (.ref b1), .val (.int (16 : Int32))] [])) _
  refine Go.by (fun tt_ kk_ => XS.aloadN X.here hx rfl (hb hby d1_32) rfl rfl kk_) ?_
  show Go p.tables e below (T.setTop (mkF m 33 #[.val (.int (16 : Int32)), .val (.ref b1), .val (.int (16 : Int32))] [(.ref b1)])) _
  refine Go.by (fun tt_ kk_ => XS.iconst X.here hx rfl (hb hby d1_33) kk_) ?_
  show Go p.tables e below (T.setTop (mkF m 34 #[.val (.int (16 : Int32)), .val (.ref b1), .val (.int (16 : Int32))] [(.int (2 : Int32)), (.ref b1)])) _
  refine Go.by (fun tt_ kk_ => XS.iloadN X.here hx rfl (hb hby d1_34) rfl kk_) ?_
  show Go p.tables e below (T.setTop (mkF m 35 #[.val (.int (16 : Int32)), .val (.ref b1), .val (.int (16 : Int32))] [(.int (16 : Int32)), (.int (2 : Int32)), (.ref b1)])) _
  refine Go.by (fun tt_ kk_ => XS.imul X.here hx rfl (hb hby d1_35) rfl kk_) ?_
  show Go p.tables e below (T.setTop (mkF m 36 #[.val (.int (16 : Int32)), .val (.ref b1), .val (.int (16 : Int32))] [(.int (32 : Int32)), (.ref b1)])) _
  refine Go.by (fun tt_ kk_ => XS.iloadN X.here hx rfl (hb hby d1_36) rfl kk_) ?_
  show Go p.tables e below (T.setTop (mkF m 37 #[.val (.int (16 : Int32)), .val (.ref b1), .val (.int (16 : Int32))] [(.int (16 : Int32)), (.int (32 : Int32)), (.ref b1)])) _
  refine Go.by (fun tt_ kk_ => XS.i2dS X.here hx rfl (hb hby d1_37) rfl rfl kk_) ?_
  show Go p.tables e below (T.setTop (mkF m 38 #[.val (.int (16 : Int32)), .val (.ref b1), .val (.int (16 : Int32))] [(.double (FP.i2d (16 : Int32))), (.int (32 : Int32)), (.ref b1)])) _
  refine Go.by (X.ldc2DoubleC hx hown (mvT hZ (hw _ (List.mem_of_getElem? (i := 5) rfl))) (g := (mkF m 38 #[.val (.int (16 : Int32)), .val (.ref b1), .val (.int (16 : Int32))] [(.double (FP.i2d (16 : Int32))), (.int (32 : Int32)), (.ref b1)])) rfl (hb hby d1_38)) ?_
  show Go p.tables e below (T.setTop (mkF m 41 #[.val (.int (16 : Int32)), .val (.ref b1), .val (.int (16 : Int32))] [(.double (4598175219545276416 : UInt64)), (.double (FP.i2d (16 : Int32))), (.int (32 : Int32)), (.ref b1)])) _
  refine Go.by (fun tt_ kk_ => XS.dmulS X.here hx rfl (hb hby d1_41) rfl (by unfold NoNaN64; decide +kernel) rfl kk_) ?_
  show Go p.tables e below (T.setTop (mkF m 42 #[.val (.int (16 : Int32)), .val (.ref b1), .val (.int (16 : Int32))] [(.double (FP.dmul (FP.i2d (16 : Int32)) (4598175219545276416 : UInt64))), (.int (32 : Int32)), (.ref b1)])) _
  have Vo_ := V_b1
  obtain ⟨cl_, Ar_, q_, S_, N_, H_, G_⟩ := Vo_
  obtain ⟨T, h33, X, eT, Wh33, st⟩ := stD X hx hZ eT Ar_ (j := (32 : Int32)) (inb_of S_ ⟨by decide, by decide⟩) (g := (mkF m 42 #[.val (.int (16 : Int32)), .val (.ref b1), .val (.int (16 : Int32))] [(.double (FP.dmul (FP.i2d (16 : Int32)) (4598175219545276416 : UInt64))), (.int (32 : Int32)), (.ref b1)])) rfl rfl (hb hby d1_42)
  have V_b1 := Arv.set Ar_ q_ S_ N_ H_ G_ rfl Wh33 32 rfl (Nat.le_of_ble_eq_true rfl)
  have N := Fr.snoc X N g_b1
  have K := K.wr Wh33 (Or.inr sz_b1)
  refine Go.by st ?_
  show Go p.tables e below (T.setTop (mkF m 43 #[.val (.int (16 : Int32)), .val (.ref b1), .val (.int (16 : Int32))] [])) _
  refine Go.by (fun tt_ kk_ => XS.iinc X.here hx rfl (hb hby d1_43) rfl (l' := #[.val (.int (16 : Int32)), .val (.ref b1), .val (.int (17 : Int32))]) rfl kk_) ?_
  show Go p.tables e below (T.setTop (mkF m 46 #[.val (.int (16 : Int32)), .val (.ref b1), .val (.int (17 : Int32))] [])) _
  refine Go.by (fun tt_ kk_ => XS.goto X.here hx rfl (pc0 := 46) (pc' := 13) rfl (hb hby d1_46) (by decide) (by decide) kk_) ?_
  show Go p.tables e below (T.setTop (mkF m 13 #[.val (.int (16 : Int32)), .val (.ref b1), .val (.int (17 : Int32))] [])) _
  refine Go.by (fun tt_ kk_ => XS.iloadN X.here hx rfl (hb hby d1_13) rfl kk_) ?_
  show Go p.tables e below (T.setTop (mkF m 14 #[.val (.int (16 : Int32)), .val (.ref b1), .val (.int (17 : Int32))] [(.int (17 : Int32))])) _
  refine Go.by (fun tt_ kk_ => XS.iloadN X.here hx rfl (hb hby d1_14) rfl kk_) ?_
  show Go p.tables e below (T.setTop (mkF m 15 #[.val (.int (16 : Int32)), .val (.ref b1), .val (.int (17 : Int32))] [(.int (16 : Int32)), (.int (17 : Int32))])) _
  refine Go.by (fun tt_ kk_ => XS.icmpYes X.here hx rfl (pc0 := 15) (pc' := 49) rfl (hb hby d1_15) rfl (tlt (by decide : (16 : Int32) < (17 : Int32))).2.2.1 (by decide) (by decide) kk_) ?_
  show Go p.tables e below (T.setTop (mkF m 49 #[.val (.int (16 : Int32)), .val (.ref b1), .val (.int (17 : Int32))] [])) _
  refine Go.by (fun tt_ kk_ => XS.aloadN X.here hx rfl (hb hby d1_49) rfl rfl kk_) ?_
  show Go p.tables e below (T.setTop (mkF m 50 #[.val (.int (16 : Int32)), .val (.ref b1), .val (.int (17 : Int32))] [(.ref b1)])) _
  have Vq : Arv Z h33 b1 k_b1 .double 33 own_ws (.double (0 : UInt64)) := by
    have e : [(.double (0 : UInt64)), (.double (FP.dmul (FP.i2d (-1 : Int32)) (4598175219545276416 : UInt64))), (.double (FP.dmul (FP.i2d (1 : Int32)) (4598175219545276416 : UInt64))), (.double (FP.dmul (FP.i2d (-2 : Int32)) (4598175219545276416 : UInt64))), (.double (FP.dmul (FP.i2d (2 : Int32)) (4598175219545276416 : UInt64))), (.double (FP.dmul (FP.i2d (-3 : Int32)) (4598175219545276416 : UInt64))), (.double (FP.dmul (FP.i2d (3 : Int32)) (4598175219545276416 : UInt64))), (.double (FP.dmul (FP.i2d (-4 : Int32)) (4598175219545276416 : UInt64))), (.double (FP.dmul (FP.i2d (4 : Int32)) (4598175219545276416 : UInt64))), (.double (FP.dmul (FP.i2d (-5 : Int32)) (4598175219545276416 : UInt64))), (.double (FP.dmul (FP.i2d (5 : Int32)) (4598175219545276416 : UInt64))), (.double (FP.dmul (FP.i2d (-6 : Int32)) (4598175219545276416 : UInt64))), (.double (FP.dmul (FP.i2d (6 : Int32)) (4598175219545276416 : UInt64))), (.double (FP.dmul (FP.i2d (-7 : Int32)) (4598175219545276416 : UInt64))), (.double (FP.dmul (FP.i2d (7 : Int32)) (4598175219545276416 : UInt64))), (.double (FP.dmul (FP.i2d (-8 : Int32)) (4598175219545276416 : UInt64))), (.double (FP.dmul (FP.i2d (8 : Int32)) (4598175219545276416 : UInt64))), (.double (FP.dmul (FP.i2d (-9 : Int32)) (4598175219545276416 : UInt64))), (.double (FP.dmul (FP.i2d (9 : Int32)) (4598175219545276416 : UInt64))), (.double (FP.dmul (FP.i2d (-10 : Int32)) (4598175219545276416 : UInt64))), (.double (FP.dmul (FP.i2d (10 : Int32)) (4598175219545276416 : UInt64))), (.double (FP.dmul (FP.i2d (-11 : Int32)) (4598175219545276416 : UInt64))), (.double (FP.dmul (FP.i2d (11 : Int32)) (4598175219545276416 : UInt64))), (.double (FP.dmul (FP.i2d (-12 : Int32)) (4598175219545276416 : UInt64))), (.double (FP.dmul (FP.i2d (12 : Int32)) (4598175219545276416 : UInt64))), (.double (FP.dmul (FP.i2d (-13 : Int32)) (4598175219545276416 : UInt64))), (.double (FP.dmul (FP.i2d (13 : Int32)) (4598175219545276416 : UInt64))), (.double (FP.dmul (FP.i2d (-14 : Int32)) (4598175219545276416 : UInt64))), (.double (FP.dmul (FP.i2d (14 : Int32)) (4598175219545276416 : UInt64))), (.double (FP.dmul (FP.i2d (-15 : Int32)) (4598175219545276416 : UInt64))), (.double (FP.dmul (FP.i2d (15 : Int32)) (4598175219545276416 : UInt64))), (.double (FP.dmul (FP.i2d (-16 : Int32)) (4598175219545276416 : UInt64))), (.double (FP.dmul (FP.i2d (16 : Int32)) (4598175219545276416 : UInt64)))] = own_ws := by decide +kernel
    exact e ▸ V_b1
  exact Go.done X  (v := some (.ref b1)) (fun h => by rw [Bd.returns] at h; cases h) Bd.notSynchronized (fun fs hr => retOut X hx Bd.returns rfl (by simp [Value.isRef, FieldType.isReference]) (hb hby d1_50) hr) (by rw [eT]; exact ⟨b1, k_b1, rfl, N, K, Vq⟩) (by decide) (by decide)
theorem pn_1 : plainName "com/example/solder/solder/BestFeedbackLeadWeightsPinLaw" = true := by first | (simp [plainName, overriddenIn]; done) | decide +kernel
theorem pd_0 : parseMethodDescriptor "()[D" = some ⟨[], some (.array .double)⟩ := by decide +kernel
theorem ef_0 (m : MethodId) (x0 : Int32) : entryFrame m #[(.int x0)] maxLocals = mkF m 0 #[.val (.int x0), .unset, .unset, .unset, .unset, .unset, .unset, .unset] [] := by first | (simp [entryFrame, mkF, argsToLocals, Value.category, maxLocals]; done) | rfl
def Q0 (Z : State) (p0 : Int32)  (h0 : Heap) (n0 : Nat) (v : Option Value) (h : Heap) (L : List Loc) : Prop := v = some (.int 1) ∧ Fr n0 L
set_option maxRecDepth 65536 in
set_option maxHeartbeats 40000000 in
theorem rm0 (l : Launch) (Z : State) (a0 : Array Value) (hw : ∀ d ∈ tables_1, d.before a0 Z = true) (ws : List Jvm.Cond) (p0 : Int32)  (h0 : Heap) (n0 : Nat) (Z0 : n0 ≤ h0.size)  :
    MetFree l x (head1 (Jvm.Cond.code x code maxLocals ret :: ws) room_1) (fun a U => a = #[(.int p0)] ∧ Z.Warmed39 U.vm ∧ U.heap = h0) (fun _ _ _ _ _ => True) (fun _ U o U' => ∃ v L, o = .returned v ∧ Q0 Z p0 h0 n0 v U'.heap L ∧ FrameEnd U o U' L 16 192) := by
  refine MetFree.of_bodySF (plainFor_of_name pn_1) hisR ?_
  intro p e s m args below meth c s₁ Bd hml0 hP hK
  obtain ⟨rfl, hZ, hh⟩ := hP
  have hx := Bd.exec
  have hby := Bd.bytes
  have hml : c.maxLocals = 8 := hml0
  have hown : s.vm.findClass "com/example/solder/solder/BestFeedbackLeadWeightsPinLaw" = some m.cls := findClass_of_methodNamed Bd.named
  have hnm := (name_of_methodNamed Bd.named Bd.method).1
  have X : Stand p l e room_1 s m #[(.int p0)] below meth c s₁ [] 0 0 := Stand.of_body Bd
  have eT : s₁.heap = h0 := by rw [← hh, Bd.state]; rfl
  have N := Fr.nil n0
  have K := Keep.refl h0 []
  refine Go.out ?_
  obtain ⟨T, eTT⟩ : ∃ z, z = s₁ := ⟨_, rfl⟩
  rw [← eTT] at X eT ⊢
  refine Go.by (fun tt_ kk_ => castTop (ef_0 m p0) kk_) ?_
  show Go p.tables e below (T.setTop (mkF m 0 #[.val (.int p0), .unset, .unset, .unset, .unset, .unset, .unset, .unset] [])) _
  obtain ⟨_, _, ⟨T, L_, k_, n_⟩, -, X, ⟨Lc_, hQ, l_, y_, z_⟩, st⟩ := Jvm.LawKit.callS X hx (y := (⟨"com/example/solder/solder/BestFeedback", "leadWeights", "()[D"⟩ : MethodName)) hown (mvT hZ (hw _ (List.mem_of_getElem? (i := 0) rfl))) (mvT hZ (hw _ (List.mem_of_getElem? (i := 1) rfl))) (mvT hZ (hw _ (List.mem_of_getElem? (i := 2) rfl))) (mvT hZ (hw _ (List.mem_of_getElem? (i := 3) rfl))) (by decide) (backOf (W := 0) (rm1 l Z a0 hw []  h0 n0 (Nat.le_trans Z0 K.1) ) hZ (hw _ (List.mem_of_getElem? (i := 3) rfl)) (hw _ (List.mem_of_getElem? (i := 2) rfl)) (by decide) (by decide)) (g := (mkF m 0 #[.val (.int p0), .unset, .unset, .unset, .unset, .unset, .unset, .unset] [])) rfl (by rw [hml]; rfl) (argsL := []) (rest := []) (lenOf pd_0 rfl) rfl (by show 2 * 0 + _ ≤ _; exact Nat.le_of_eq rfl) (hb hby at_0) (fun _ _ => ⟨rfl, eT, (by decide : 0 + 1 ≤ _), (by decide : 0 + 33 ≤ _)⟩)
  dsimp only [Pt.U, Pt.locs, Pt.cells, Pt.slots] at X l_ y_ z_ st hQ
  subst l_ y_ z_
  obtain ⟨h1, eT⟩ : ∃ z, T.heap = z := ⟨_, rfl⟩
  rw [eT] at hQ
  obtain ⟨b, kb, rfl, Nq, Kq, V_b⟩ := hQ
  have N := Fr.app N Nq
  have K := K.trans Kq all0
  refine Go.by st ?_
  show Go p.tables e below (T.setTop (mkF m 3 #[.val (.int p0), .unset, .unset, .unset, .unset, .unset, .unset, .unset] [(.ref b)])) _
  refine Go.by (fun tt_ kk_ => XS.astoreN X.here hx rfl (hb hby at_3) rfl rfl (l' := #[.val (.int p0), .val (.ref b), .unset, .unset, .unset, .unset, .unset, .unset]) rfl kk_) ?_
  show Go p.tables e below (T.setTop (mkF m 4 #[.val (.int p0), .val (.ref b), .unset, .unset, .unset, .unset, .unset, .unset] [])) _
  refine Go.by (fun tt_ kk_ => XS.aloadN X.here hx rfl (hb hby at_4) rfl rfl kk_) ?_
  show Go p.tables e below (T.setTop (mkF m 5 #[.val (.int p0), .val (.ref b), .unset, .unset, .unset, .unset, .unset, .unset] [(.ref b)])) _
  have Vo_ := V_b
  obtain ⟨cl_, Ar_, q_, S_, N_, H_, G_⟩ := Vo_
  refine Go.by (X.arraylength hx (by rw [eT]; exact Ar_.1) (State.isArrayOf_alike hZ.alike Ar_.2.1) (g := (mkF m 5 #[.val (.int p0), .val (.ref b), .unset, .unset, .unset, .unset, .unset, .unset] [(.ref b)])) rfl rfl (hb hby at_5)) ?_
  rw [len_of S_ N_]
  show Go p.tables e below (T.setTop (mkF m 6 #[.val (.int p0), .val (.ref b), .unset, .unset, .unset, .unset, .unset, .unset] [(.int (33 : Int32))])) _
  refine Go.by (fun tt_ kk_ => XS.bipush X.here hx rfl (hb hby at_6) kk_) ?_
  show Go p.tables e below (T.setTop (mkF m 8 #[.val (.int p0), .val (.ref b), .unset, .unset, .unset, .unset, .unset, .unset] [(.int (33 : Int32)), (.int (33 : Int32))])) _
  refine Go.by (fun tt_ kk_ => XS.icmpYes X.here hx rfl (pc0 := 8) (pc' := 13) rfl (hb hby at_8) rfl (teq (rfl : (33 : Int32) = (33 : Int32))).1 (by decide) (by decide) kk_) ?_
  show Go p.tables e below (T.setTop (mkF m 13 #[.val (.int p0), .val (.ref b), .unset, .unset, .unset, .unset, .unset, .unset] [])) _
  refine Go.by (fun tt_ kk_ => XS.iloadN X.here hx rfl (hb hby at_13) rfl kk_) ?_
  show Go p.tables e below (T.setTop (mkF m 14 #[.val (.int p0), .val (.ref b), .unset, .unset, .unset, .unset, .unset, .unset] [(.int p0)])) _
  refine Go.by (X.ldcInt hx hown (mvT hZ (hw _ (List.mem_of_getElem? (i := 6) rfl))) (g := (mkF m 14 #[.val (.int p0), .val (.ref b), .unset, .unset, .unset, .unset, .unset, .unset] [(.int p0)])) rfl (hb hby at_14)) ?_
  show Go p.tables e below (T.setTop (mkF m 16 #[.val (.int p0), .val (.ref b), .unset, .unset, .unset, .unset, .unset, .unset] [(.int (2147483647 : Int32)), (.int p0)])) _
  refine Go.by (fun tt_ kk_ => XS.iand X.here hx rfl (hb hby at_16) rfl kk_) ?_
  show Go p.tables e below (T.setTop (mkF m 17 #[.val (.int p0), .val (.ref b), .unset, .unset, .unset, .unset, .unset, .unset] [(.int (p0 &&& (2147483647 : Int32)))])) _
  refine Go.by (fun tt_ kk_ => XS.bipush X.here hx rfl (hb hby at_17) kk_) ?_
  show Go p.tables e below (T.setTop (mkF m 19 #[.val (.int p0), .val (.ref b), .unset, .unset, .unset, .unset, .unset, .unset] [(.int (33 : Int32)), (.int (p0 &&& (2147483647 : Int32)))])) _
  refine Go.by (fun tt_ kk_ => iremM X hx rfl (hb hby at_19) rfl (by decide) kk_) ?_
  show Go p.tables e below (T.setTop (mkF m 20 #[.val (.int p0), .val (.ref b), .unset, .unset, .unset, .unset, .unset, .unset] [(.int ((p0 &&& (2147483647 : Int32)) % (33 : Int32)))])) _
  obtain ⟨i, e_i⟩ : ∃ z, z = ((p0 &&& (2147483647 : Int32)) % (33 : Int32)) := ⟨_, rfl⟩
  rw [← e_i]
  show Go p.tables e below (T.setTop (mkF m 20 #[.val (.int p0), .val (.ref b), .unset, .unset, .unset, .unset, .unset, .unset] [(.int i)])) _
  have m1 : (p0 &&& (2147483647 : Int32)).toInt = p0.toInt % 2 ^ 31 := Jvm.Kit.i32_mask _ _ (by decide) (by decide)
  have m2 : i.toInt = p0.toInt % 2 ^ 31 % 33 := by rw [e_i, Jvm.Kit.i32_rem_nonneg (by rw [m1]; omega), m1, show (33 : Int32).toInt = 33 by decide]
  obtain ⟨n, hn, hi⟩ : ∃ n : Nat, n < 33 ∧ i.toInt = n := ⟨i.toInt.toNat, by omega, by omega⟩
  have hin : i = Int32.ofNat n := Int32.toInt_inj.mp (by rw [hi]; exact (Int32.toInt_ofNat_small (by omega)).symm)
  have hcl : i.toNatClampNeg = n := by simp only [Int32.toNatClampNeg, hi]; rfl
  have hst : (i + 1) / 2 = Int32.ofNat ((n + 1) / 2) := by
    have : ∀ k, k < 33 → (Int32.ofNat k + 1) / 2 = Int32.ofNat ((k + 1) / 2) := by decide +kernel
    rw [hin]; exact this n hn
  have hpar : (i &&& 1).toInt = n % 2 := by rw [Jvm.Kit.i32_mask (k := 1) _ _ (by decide) (by decide), hi]; omega
  refine Go.by (fun tt_ kk_ => XS.istoreN X.here hx rfl (hb hby at_20) rfl (l' := #[.val (.int p0), .val (.ref b), .val (.int i), .unset, .unset, .unset, .unset, .unset]) rfl kk_) ?_
  show Go p.tables e below (T.setTop (mkF m 21 #[.val (.int p0), .val (.ref b), .val (.int i), .unset, .unset, .unset, .unset, .unset] [])) _
  refine Go.by (fun tt_ kk_ => XS.iloadN X.here hx rfl (hb hby at_21) rfl kk_) ?_
  show Go p.tables e below (T.setTop (mkF m 22 #[.val (.int p0), .val (.ref b), .val (.int i), .unset, .unset, .unset, .unset, .unset] [(.int i)])) _
  by_cases hc22 : i = (0 : Int32)
  · refine Go.by (fun tt_ kk_ => XS.ifNo X.here hx rfl (hb hby at_22) rfl ((if0 _ _).trans (teq hc22).2) kk_) ?_
    show Go p.tables e below (T.setTop (mkF m 25 #[.val (.int p0), .val (.ref b), .val (.int i), .unset, .unset, .unset, .unset, .unset] [])) _
    refine Go.by (fun tt_ kk_ => XS.dconst0 X.here hx rfl (hb hby at_25) (v := (0 : UInt64)) rfl kk_) ?_
    show Go p.tables e below (T.setTop (mkF m 26 #[.val (.int p0), .val (.ref b), .val (.int i), .unset, .unset, .unset, .unset, .unset] [(.double (0 : UInt64))])) _
    refine Go.by (fun tt_ kk_ => XS.dstoreN X.here hx rfl (hb hby at_26) rfl (l' := #[.val (.int p0), .val (.ref b), .val (.int i), .val (.double (0 : UInt64)), .second, .unset, .unset, .unset]) rfl kk_) ?_
    show Go p.tables e below (T.setTop (mkF m 27 #[.val (.int p0), .val (.ref b), .val (.int i), .val (.double (0 : UInt64)), .second, .unset, .unset, .unset] [])) _
    refine Go.by (fun tt_ kk_ => XS.goto X.here hx rfl (pc0 := 27) (pc' := 62) rfl (hb hby at_27) (by decide) (by decide) kk_) ?_
    show Go p.tables e below (T.setTop (mkF m 62 #[.val (.int p0), .val (.ref b), .val (.int i), .val (.double (0 : UInt64)), .second, .unset, .unset, .unset] [])) _
    refine Go.by (fun tt_ kk_ => XS.aloadN X.here hx rfl (hb hby at_62) rfl rfl kk_) ?_
    show Go p.tables e below (T.setTop (mkF m 63 #[.val (.int p0), .val (.ref b), .val (.int i), .val (.double (0 : UInt64)), .second, .unset, .unset, .unset] [(.ref b)])) _
    refine Go.by (fun tt_ kk_ => XS.iloadN X.here hx rfl (hb hby at_63) rfl kk_) ?_
    show Go p.tables e below (T.setTop (mkF m 64 #[.val (.int p0), .val (.ref b), .val (.int i), .val (.double (0 : UInt64)), .second, .unset, .unset, .unset] [(.int i), (.ref b)])) _
    have Vo_ := V_b
    obtain ⟨cl_, Ar_, q_, S_, N_, H_, G_⟩ := Vo_
    refine Go.by (X.daload hx (j := i) (v := (.double (own_w n))) (by rw [eT]; exact Ar_.1) (State.isArrayOf_alike hZ.alike Ar_.2.1) Ar_.2.2 (inb_of S_ ⟨by rw [Int32.lt_iff_toInt_lt, hi]; exact Int.not_lt.mpr (Int.natCast_nonneg n), by rw [Int32.lt_iff_toInt_lt, hi]; exact Int.ofNat_lt.mpr hn⟩) (Has.at H_ (inb_of S_ ⟨by rw [Int32.lt_iff_toInt_lt, hi]; exact Int.not_lt.mpr (Int.natCast_nonneg n), by rw [Int32.lt_iff_toInt_lt, hi]; exact Int.ofNat_lt.mpr hn⟩) (by rw [hcl]; simp [own_ws, List.getD, hn])) (g := (mkF m 64 #[.val (.int p0), .val (.ref b), .val (.int i), .val (.double (0 : UInt64)), .second, .unset, .unset, .unset] [(.int i), (.ref b)])) rfl rfl (hb hby at_64)) ?_
    show Go p.tables e below (T.setTop (mkF m 65 #[.val (.int p0), .val (.ref b), .val (.int i), .val (.double (0 : UInt64)), .second, .unset, .unset, .unset] [(.double (own_w n))])) _
    refine Go.by (fun tt_ kk_ => XS.dloadN X.here hx rfl (hb hby at_65) rfl kk_) ?_
    show Go p.tables e below (T.setTop (mkF m 66 #[.val (.int p0), .val (.ref b), .val (.int i), .val (.double (0 : UInt64)), .second, .unset, .unset, .unset] [(.double (0 : UInt64)), (.double (own_w n))])) _
    have hn0 : n = 0 := by
      have q := congrArg Int32.toInt hc22
      rw [hi] at q
      exact Int.ofNat_inj.mp q
    have hz : cmpValue (FP.dcmp (own_w n) (0 : UInt64)) .l = 0 := by subst hn0; decide +kernel
    refine Go.by (fun tt_ kk_ => XS.dcmpS X.here hx rfl (hb hby at_66) rfl hz kk_) ?_
    show Go p.tables e below (T.setTop (mkF m 67 #[.val (.int p0), .val (.ref b), .val (.int i), .val (.double (0 : UInt64)), .second, .unset, .unset, .unset] [(.int (0 : Int32))])) _
    refine Go.by (fun tt_ kk_ => XS.ifNo X.here hx rfl (hb hby at_67) rfl ((if0 _ _).trans (teq (rfl : (0 : Int32) = (0 : Int32))).2) kk_) ?_
    show Go p.tables e below (T.setTop (mkF m 70 #[.val (.int p0), .val (.ref b), .val (.int i), .val (.double (0 : UInt64)), .second, .unset, .unset, .unset] [])) _
    refine Go.by (fun tt_ kk_ => XS.iconst X.here hx rfl (hb hby at_70) kk_) ?_
    show Go p.tables e below (T.setTop (mkF m 71 #[.val (.int p0), .val (.ref b), .val (.int i), .val (.double (0 : UInt64)), .second, .unset, .unset, .unset] [(.int (1 : Int32))])) _
    refine Go.by (fun tt_ kk_ => XS.goto X.here hx rfl (pc0 := 71) (pc' := 75) rfl (hb hby at_71) (by decide) (by decide) kk_) ?_
    show Go p.tables e below (T.setTop (mkF m 75 #[.val (.int p0), .val (.ref b), .val (.int i), .val (.double (0 : UInt64)), .second, .unset, .unset, .unset] [(.int (1 : Int32))])) _
    exact Go.done X  (v := some (.int (1 : Int32))) (fun h => by rw [Bd.returns] at h; cases h) Bd.notSynchronized (fun fs hr => retN X hx (z := (1 : Int32)) (t := .boolean) Bd.returns (by simp) (hb hby at_75) hr) (by rw [eT]; exact ⟨rfl, N⟩) (by decide) (by decide)
  · refine Go.by (fun tt_ kk_ => XS.ifYes X.here hx rfl (pc0 := 22) (pc' := 30) rfl (hb hby at_22) rfl ((if0 _ _).trans (feq hc22).2) (by decide) (by decide) kk_) ?_
    show Go p.tables e below (T.setTop (mkF m 30 #[.val (.int p0), .val (.ref b), .val (.int i), .unset, .unset, .unset, .unset, .unset] [])) _
    refine Go.by (fun tt_ kk_ => XS.iloadN X.here hx rfl (hb hby at_30) rfl kk_) ?_
    show Go p.tables e below (T.setTop (mkF m 31 #[.val (.int p0), .val (.ref b), .val (.int i), .unset, .unset, .unset, .unset, .unset] [(.int i)])) _
    refine Go.by (fun tt_ kk_ => XS.iconst X.here hx rfl (hb hby at_31) kk_) ?_
    show Go p.tables e below (T.setTop (mkF m 32 #[.val (.int p0), .val (.ref b), .val (.int i), .unset, .unset, .unset, .unset, .unset] [(.int (1 : Int32)), (.int i)])) _
    refine Go.by (fun tt_ kk_ => XS.iadd X.here hx rfl (hb hby at_32) rfl kk_) ?_
    show Go p.tables e below (T.setTop (mkF m 33 #[.val (.int p0), .val (.ref b), .val (.int i), .unset, .unset, .unset, .unset, .unset] [(.int (i + (1 : Int32)))])) _
    refine Go.by (fun tt_ kk_ => XS.iconst X.here hx rfl (hb hby at_33) kk_) ?_
    show Go p.tables e below (T.setTop (mkF m 34 #[.val (.int p0), .val (.ref b), .val (.int i), .unset, .unset, .unset, .unset, .unset] [(.int (2 : Int32)), (.int (i + (1 : Int32)))])) _
    refine Go.by (fun tt_ kk_ => XS.idiv X.here hx rfl (hb hby at_34) rfl (by decide) kk_) ?_
    show Go p.tables e below (T.setTop (mkF m 35 #[.val (.int p0), .val (.ref b), .val (.int i), .unset, .unset, .unset, .unset, .unset] [(.int ((i + (1 : Int32)) / (2 : Int32)))])) _
    refine Go.by (fun tt_ kk_ => XS.istore X.here hx rfl (hb hby at_35) rfl (l' := #[.val (.int p0), .val (.ref b), .val (.int i), .unset, .unset, .val (.int ((i + (1 : Int32)) / (2 : Int32))), .unset, .unset]) rfl kk_) ?_
    show Go p.tables e below (T.setTop (mkF m 37 #[.val (.int p0), .val (.ref b), .val (.int i), .unset, .unset, .val (.int ((i + (1 : Int32)) / (2 : Int32))), .unset, .unset] [])) _
    refine Go.by (fun tt_ kk_ => XS.iload X.here hx rfl (hb hby at_37) rfl kk_) ?_
    show Go p.tables e below (T.setTop (mkF m 39 #[.val (.int p0), .val (.ref b), .val (.int i), .unset, .unset, .val (.int ((i + (1 : Int32)) / (2 : Int32))), .unset, .unset] [(.int ((i + (1 : Int32)) / (2 : Int32)))])) _
    refine Go.by (fun tt_ kk_ => XS.i2dS X.here hx rfl (hb hby at_39) rfl rfl kk_) ?_
    show Go p.tables e below (T.setTop (mkF m 40 #[.val (.int p0), .val (.ref b), .val (.int i), .unset, .unset, .val (.int ((i + (1 : Int32)) / (2 : Int32))), .unset, .unset] [(.double (FP.i2d ((i + (1 : Int32)) / (2 : Int32))))])) _
    refine Go.by (X.ldc2DoubleC hx hown (mvT hZ (hw _ (List.mem_of_getElem? (i := 7) rfl))) (g := (mkF m 40 #[.val (.int p0), .val (.ref b), .val (.int i), .unset, .unset, .val (.int ((i + (1 : Int32)) / (2 : Int32))), .unset, .unset] [(.double (FP.i2d ((i + (1 : Int32)) / (2 : Int32))))])) rfl (hb hby at_40)) ?_
    show Go p.tables e below (T.setTop (mkF m 43 #[.val (.int p0), .val (.ref b), .val (.int i), .unset, .unset, .val (.int ((i + (1 : Int32)) / (2 : Int32))), .unset, .unset] [(.double (4616189618054758400 : UInt64)), (.double (FP.i2d ((i + (1 : Int32)) / (2 : Int32))))])) _
    have hst' := hst
    refine Go.by (fun tt_ kk_ => XS.ddivS X.here hx rfl (hb hby at_43) rfl (by rw [hst]; exact own_nn n hn) rfl kk_) ?_
    show Go p.tables e below (T.setTop (mkF m 44 #[.val (.int p0), .val (.ref b), .val (.int i), .unset, .unset, .val (.int ((i + (1 : Int32)) / (2 : Int32))), .unset, .unset] [(.double (FP.ddiv (FP.i2d ((i + (1 : Int32)) / (2 : Int32))) (4616189618054758400 : UInt64)))])) _
    refine Go.by (fun tt_ kk_ => XS.dstore X.here hx rfl (hb hby at_44) rfl (l' := #[.val (.int p0), .val (.ref b), .val (.int i), .unset, .unset, .val (.int ((i + (1 : Int32)) / (2 : Int32))), .val (.double (FP.ddiv (FP.i2d ((i + (1 : Int32)) / (2 : Int32))) (4616189618054758400 : UInt64))), .second]) rfl kk_) ?_
    show Go p.tables e below (T.setTop (mkF m 46 #[.val (.int p0), .val (.ref b), .val (.int i), .unset, .unset, .val (.int ((i + (1 : Int32)) / (2 : Int32))), .val (.double (FP.ddiv (FP.i2d ((i + (1 : Int32)) / (2 : Int32))) (4616189618054758400 : UInt64))), .second] [])) _
    refine Go.by (fun tt_ kk_ => XS.iloadN X.here hx rfl (hb hby at_46) rfl kk_) ?_
    show Go p.tables e below (T.setTop (mkF m 47 #[.val (.int p0), .val (.ref b), .val (.int i), .unset, .unset, .val (.int ((i + (1 : Int32)) / (2 : Int32))), .val (.double (FP.ddiv (FP.i2d ((i + (1 : Int32)) / (2 : Int32))) (4616189618054758400 : UInt64))), .second] [(.int i)])) _
    refine Go.by (fun tt_ kk_ => XS.iconst X.here hx rfl (hb hby at_47) kk_) ?_
    show Go p.tables e below (T.setTop (mkF m 48 #[.val (.int p0), .val (.ref b), .val (.int i), .unset, .unset, .val (.int ((i + (1 : Int32)) / (2 : Int32))), .val (.double (FP.ddiv (FP.i2d ((i + (1 : Int32)) / (2 : Int32))) (4616189618054758400 : UInt64))), .second] [(.int (1 : Int32)), (.int i)])) _
    refine Go.by (fun tt_ kk_ => XS.iand X.here hx rfl (hb hby at_48) rfl kk_) ?_
    show Go p.tables e below (T.setTop (mkF m 49 #[.val (.int p0), .val (.ref b), .val (.int i), .unset, .unset, .val (.int ((i + (1 : Int32)) / (2 : Int32))), .val (.double (FP.ddiv (FP.i2d ((i + (1 : Int32)) / (2 : Int32))) (4616189618054758400 : UInt64))), .second] [(.int (i &&& (1 : Int32)))])) _
    refine Go.by (fun tt_ kk_ => XS.iconst X.here hx rfl (hb hby at_49) kk_) ?_
    show Go p.tables e below (T.setTop (mkF m 50 #[.val (.int p0), .val (.ref b), .val (.int i), .unset, .unset, .val (.int ((i + (1 : Int32)) / (2 : Int32))), .val (.double (FP.ddiv (FP.i2d ((i + (1 : Int32)) / (2 : Int32))) (4616189618054758400 : UInt64))), .second] [(.int (1 : Int32)), (.int (i &&& (1 : Int32)))])) _
    by_cases hc50 : (i &&& (1 : Int32)) = (1 : Int32)
    · refine Go.by (fun tt_ kk_ => XS.icmpNo X.here hx rfl (hb hby at_50) rfl (teq hc50).2 kk_) ?_
      show Go p.tables e below (T.setTop (mkF m 53 #[.val (.int p0), .val (.ref b), .val (.int i), .unset, .unset, .val (.int ((i + (1 : Int32)) / (2 : Int32))), .val (.double (FP.ddiv (FP.i2d ((i + (1 : Int32)) / (2 : Int32))) (4616189618054758400 : UInt64))), .second] [])) _
      refine Go.by (fun tt_ kk_ => XS.dload X.here hx rfl (hb hby at_53) rfl kk_) ?_
      show Go p.tables e below (T.setTop (mkF m 55 #[.val (.int p0), .val (.ref b), .val (.int i), .unset, .unset, .val (.int ((i + (1 : Int32)) / (2 : Int32))), .val (.double (FP.ddiv (FP.i2d ((i + (1 : Int32)) / (2 : Int32))) (4616189618054758400 : UInt64))), .second] [(.double (FP.ddiv (FP.i2d ((i + (1 : Int32)) / (2 : Int32))) (4616189618054758400 : UInt64)))])) _
      refine Go.by (fun tt_ kk_ => XS.dnegS X.here hx rfl (hb hby at_55) rfl rfl kk_) ?_
      show Go p.tables e below (T.setTop (mkF m 56 #[.val (.int p0), .val (.ref b), .val (.int i), .unset, .unset, .val (.int ((i + (1 : Int32)) / (2 : Int32))), .val (.double (FP.ddiv (FP.i2d ((i + (1 : Int32)) / (2 : Int32))) (4616189618054758400 : UInt64))), .second] [(.double (FP.dneg (FP.ddiv (FP.i2d ((i + (1 : Int32)) / (2 : Int32))) (4616189618054758400 : UInt64))))])) _
      refine Go.by (fun tt_ kk_ => XS.goto X.here hx rfl (pc0 := 56) (pc' := 61) rfl (hb hby at_56) (by decide) (by decide) kk_) ?_
      show Go p.tables e below (T.setTop (mkF m 61 #[.val (.int p0), .val (.ref b), .val (.int i), .unset, .unset, .val (.int ((i + (1 : Int32)) / (2 : Int32))), .val (.double (FP.ddiv (FP.i2d ((i + (1 : Int32)) / (2 : Int32))) (4616189618054758400 : UInt64))), .second] [(.double (FP.dneg (FP.ddiv (FP.i2d ((i + (1 : Int32)) / (2 : Int32))) (4616189618054758400 : UInt64))))])) _
      refine Go.by (fun tt_ kk_ => XS.dstoreN X.here hx rfl (hb hby at_61) rfl (l' := #[.val (.int p0), .val (.ref b), .val (.int i), .val (.double (FP.dneg (FP.ddiv (FP.i2d ((i + (1 : Int32)) / (2 : Int32))) (4616189618054758400 : UInt64)))), .second, .val (.int ((i + (1 : Int32)) / (2 : Int32))), .val (.double (FP.ddiv (FP.i2d ((i + (1 : Int32)) / (2 : Int32))) (4616189618054758400 : UInt64))), .second]) rfl kk_) ?_
      show Go p.tables e below (T.setTop (mkF m 62 #[.val (.int p0), .val (.ref b), .val (.int i), .val (.double (FP.dneg (FP.ddiv (FP.i2d ((i + (1 : Int32)) / (2 : Int32))) (4616189618054758400 : UInt64)))), .second, .val (.int ((i + (1 : Int32)) / (2 : Int32))), .val (.double (FP.ddiv (FP.i2d ((i + (1 : Int32)) / (2 : Int32))) (4616189618054758400 : UInt64))), .second] [])) _
      refine Go.by (fun tt_ kk_ => XS.aloadN X.here hx rfl (hb hby at_62) rfl rfl kk_) ?_
      show Go p.tables e below (T.setTop (mkF m 63 #[.val (.int p0), .val (.ref b), .val (.int i), .val (.double (FP.dneg (FP.ddiv (FP.i2d ((i + (1 : Int32)) / (2 : Int32))) (4616189618054758400 : UInt64)))), .second, .val (.int ((i + (1 : Int32)) / (2 : Int32))), .val (.double (FP.ddiv (FP.i2d ((i + (1 : Int32)) / (2 : Int32))) (4616189618054758400 : UInt64))), .second] [(.ref b)])) _
      refine Go.by (fun tt_ kk_ => XS.iloadN X.here hx rfl (hb hby at_63) rfl kk_) ?_
      show Go p.tables e below (T.setTop (mkF m 64 #[.val (.int p0), .val (.ref b), .val (.int i), .val (.double (FP.dneg (FP.ddiv (FP.i2d ((i + (1 : Int32)) / (2 : Int32))) (4616189618054758400 : UInt64)))), .second, .val (.int ((i + (1 : Int32)) / (2 : Int32))), .val (.double (FP.ddiv (FP.i2d ((i + (1 : Int32)) / (2 : Int32))) (4616189618054758400 : UInt64))), .second] [(.int i), (.ref b)])) _
      have Vo_ := V_b
      obtain ⟨cl_, Ar_, q_, S_, N_, H_, G_⟩ := Vo_
      refine Go.by (X.daload hx (j := i) (v := (.double (own_w n))) (by rw [eT]; exact Ar_.1) (State.isArrayOf_alike hZ.alike Ar_.2.1) Ar_.2.2 (inb_of S_ ⟨by rw [Int32.lt_iff_toInt_lt, hi]; exact Int.not_lt.mpr (Int.natCast_nonneg n), by rw [Int32.lt_iff_toInt_lt, hi]; exact Int.ofNat_lt.mpr hn⟩) (Has.at H_ (inb_of S_ ⟨by rw [Int32.lt_iff_toInt_lt, hi]; exact Int.not_lt.mpr (Int.natCast_nonneg n), by rw [Int32.lt_iff_toInt_lt, hi]; exact Int.ofNat_lt.mpr hn⟩) (by rw [hcl]; simp [own_ws, List.getD, hn])) (g := (mkF m 64 #[.val (.int p0), .val (.ref b), .val (.int i), .val (.double (FP.dneg (FP.ddiv (FP.i2d ((i + (1 : Int32)) / (2 : Int32))) (4616189618054758400 : UInt64)))), .second, .val (.int ((i + (1 : Int32)) / (2 : Int32))), .val (.double (FP.ddiv (FP.i2d ((i + (1 : Int32)) / (2 : Int32))) (4616189618054758400 : UInt64))), .second] [(.int i), (.ref b)])) rfl rfl (hb hby at_64)) ?_
      show Go p.tables e below (T.setTop (mkF m 65 #[.val (.int p0), .val (.ref b), .val (.int i), .val (.double (FP.dneg (FP.ddiv (FP.i2d ((i + (1 : Int32)) / (2 : Int32))) (4616189618054758400 : UInt64)))), .second, .val (.int ((i + (1 : Int32)) / (2 : Int32))), .val (.double (FP.ddiv (FP.i2d ((i + (1 : Int32)) / (2 : Int32))) (4616189618054758400 : UInt64))), .second] [(.double (own_w n))])) _
      refine Go.by (fun tt_ kk_ => XS.dloadN X.here hx rfl (hb hby at_65) rfl kk_) ?_
      show Go p.tables e below (T.setTop (mkF m 66 #[.val (.int p0), .val (.ref b), .val (.int i), .val (.double (FP.dneg (FP.ddiv (FP.i2d ((i + (1 : Int32)) / (2 : Int32))) (4616189618054758400 : UInt64)))), .second, .val (.int ((i + (1 : Int32)) / (2 : Int32))), .val (.double (FP.ddiv (FP.i2d ((i + (1 : Int32)) / (2 : Int32))) (4616189618054758400 : UInt64))), .second] [(.double (FP.dneg (FP.ddiv (FP.i2d ((i + (1 : Int32)) / (2 : Int32))) (4616189618054758400 : UInt64)))), (.double (own_w n))])) _
      have hn1 : n % 2 = 1 := by
        have q := congrArg Int32.toInt hc50
        rw [hpar, show (1 : Int32).toInt = 1 by decide] at q
        omega
      have hz : cmpValue (FP.dcmp (own_w n) (FP.dneg (FP.ddiv (FP.i2d ((i + (1 : Int32)) / (2 : Int32))) (4616189618054758400 : UInt64)))) .l = 0 := by rw [hst, own_odd n hn hn1]; rfl
      refine Go.by (fun tt_ kk_ => XS.dcmpS X.here hx rfl (hb hby at_66) rfl hz kk_) ?_
      show Go p.tables e below (T.setTop (mkF m 67 #[.val (.int p0), .val (.ref b), .val (.int i), .val (.double (FP.dneg (FP.ddiv (FP.i2d ((i + (1 : Int32)) / (2 : Int32))) (4616189618054758400 : UInt64)))), .second, .val (.int ((i + (1 : Int32)) / (2 : Int32))), .val (.double (FP.ddiv (FP.i2d ((i + (1 : Int32)) / (2 : Int32))) (4616189618054758400 : UInt64))), .second] [(.int (0 : Int32))])) _
      refine Go.by (fun tt_ kk_ => XS.ifNo X.here hx rfl (hb hby at_67) rfl ((if0 _ _).trans (teq (rfl : (0 : Int32) = (0 : Int32))).2) kk_) ?_
      show Go p.tables e below (T.setTop (mkF m 70 #[.val (.int p0), .val (.ref b), .val (.int i), .val (.double (FP.dneg (FP.ddiv (FP.i2d ((i + (1 : Int32)) / (2 : Int32))) (4616189618054758400 : UInt64)))), .second, .val (.int ((i + (1 : Int32)) / (2 : Int32))), .val (.double (FP.ddiv (FP.i2d ((i + (1 : Int32)) / (2 : Int32))) (4616189618054758400 : UInt64))), .second] [])) _
      refine Go.by (fun tt_ kk_ => XS.iconst X.here hx rfl (hb hby at_70) kk_) ?_
      show Go p.tables e below (T.setTop (mkF m 71 #[.val (.int p0), .val (.ref b), .val (.int i), .val (.double (FP.dneg (FP.ddiv (FP.i2d ((i + (1 : Int32)) / (2 : Int32))) (4616189618054758400 : UInt64)))), .second, .val (.int ((i + (1 : Int32)) / (2 : Int32))), .val (.double (FP.ddiv (FP.i2d ((i + (1 : Int32)) / (2 : Int32))) (4616189618054758400 : UInt64))), .second] [(.int (1 : Int32))])) _
      refine Go.by (fun tt_ kk_ => XS.goto X.here hx rfl (pc0 := 71) (pc' := 75) rfl (hb hby at_71) (by decide) (by decide) kk_) ?_
      show Go p.tables e below (T.setTop (mkF m 75 #[.val (.int p0), .val (.ref b), .val (.int i), .val (.double (FP.dneg (FP.ddiv (FP.i2d ((i + (1 : Int32)) / (2 : Int32))) (4616189618054758400 : UInt64)))), .second, .val (.int ((i + (1 : Int32)) / (2 : Int32))), .val (.double (FP.ddiv (FP.i2d ((i + (1 : Int32)) / (2 : Int32))) (4616189618054758400 : UInt64))), .second] [(.int (1 : Int32))])) _
      exact Go.done X  (v := some (.int (1 : Int32))) (fun h => by rw [Bd.returns] at h; cases h) Bd.notSynchronized (fun fs hr => retN X hx (z := (1 : Int32)) (t := .boolean) Bd.returns (by simp) (hb hby at_75) hr) (by rw [eT]; exact ⟨rfl, N⟩) (by decide) (by decide)
    · refine Go.by (fun tt_ kk_ => XS.icmpYes X.here hx rfl (pc0 := 50) (pc' := 59) rfl (hb hby at_50) rfl (feq hc50).2 (by decide) (by decide) kk_) ?_
      show Go p.tables e below (T.setTop (mkF m 59 #[.val (.int p0), .val (.ref b), .val (.int i), .unset, .unset, .val (.int ((i + (1 : Int32)) / (2 : Int32))), .val (.double (FP.ddiv (FP.i2d ((i + (1 : Int32)) / (2 : Int32))) (4616189618054758400 : UInt64))), .second] [])) _
      refine Go.by (fun tt_ kk_ => XS.dload X.here hx rfl (hb hby at_59) rfl kk_) ?_
      show Go p.tables e below (T.setTop (mkF m 61 #[.val (.int p0), .val (.ref b), .val (.int i), .unset, .unset, .val (.int ((i + (1 : Int32)) / (2 : Int32))), .val (.double (FP.ddiv (FP.i2d ((i + (1 : Int32)) / (2 : Int32))) (4616189618054758400 : UInt64))), .second] [(.double (FP.ddiv (FP.i2d ((i + (1 : Int32)) / (2 : Int32))) (4616189618054758400 : UInt64)))])) _
      refine Go.by (fun tt_ kk_ => XS.dstoreN X.here hx rfl (hb hby at_61) rfl (l' := #[.val (.int p0), .val (.ref b), .val (.int i), .val (.double (FP.ddiv (FP.i2d ((i + (1 : Int32)) / (2 : Int32))) (4616189618054758400 : UInt64))), .second, .val (.int ((i + (1 : Int32)) / (2 : Int32))), .val (.double (FP.ddiv (FP.i2d ((i + (1 : Int32)) / (2 : Int32))) (4616189618054758400 : UInt64))), .second]) rfl kk_) ?_
      show Go p.tables e below (T.setTop (mkF m 62 #[.val (.int p0), .val (.ref b), .val (.int i), .val (.double (FP.ddiv (FP.i2d ((i + (1 : Int32)) / (2 : Int32))) (4616189618054758400 : UInt64))), .second, .val (.int ((i + (1 : Int32)) / (2 : Int32))), .val (.double (FP.ddiv (FP.i2d ((i + (1 : Int32)) / (2 : Int32))) (4616189618054758400 : UInt64))), .second] [])) _
      refine Go.by (fun tt_ kk_ => XS.aloadN X.here hx rfl (hb hby at_62) rfl rfl kk_) ?_
      show Go p.tables e below (T.setTop (mkF m 63 #[.val (.int p0), .val (.ref b), .val (.int i), .val (.double (FP.ddiv (FP.i2d ((i + (1 : Int32)) / (2 : Int32))) (4616189618054758400 : UInt64))), .second, .val (.int ((i + (1 : Int32)) / (2 : Int32))), .val (.double (FP.ddiv (FP.i2d ((i + (1 : Int32)) / (2 : Int32))) (4616189618054758400 : UInt64))), .second] [(.ref b)])) _
      refine Go.by (fun tt_ kk_ => XS.iloadN X.here hx rfl (hb hby at_63) rfl kk_) ?_
      show Go p.tables e below (T.setTop (mkF m 64 #[.val (.int p0), .val (.ref b), .val (.int i), .val (.double (FP.ddiv (FP.i2d ((i + (1 : Int32)) / (2 : Int32))) (4616189618054758400 : UInt64))), .second, .val (.int ((i + (1 : Int32)) / (2 : Int32))), .val (.double (FP.ddiv (FP.i2d ((i + (1 : Int32)) / (2 : Int32))) (4616189618054758400 : UInt64))), .second] [(.int i), (.ref b)])) _
      have Vo_ := V_b
      obtain ⟨cl_, Ar_, q_, S_, N_, H_, G_⟩ := Vo_
      refine Go.by (X.daload hx (j := i) (v := (.double (own_w n))) (by rw [eT]; exact Ar_.1) (State.isArrayOf_alike hZ.alike Ar_.2.1) Ar_.2.2 (inb_of S_ ⟨by rw [Int32.lt_iff_toInt_lt, hi]; exact Int.not_lt.mpr (Int.natCast_nonneg n), by rw [Int32.lt_iff_toInt_lt, hi]; exact Int.ofNat_lt.mpr hn⟩) (Has.at H_ (inb_of S_ ⟨by rw [Int32.lt_iff_toInt_lt, hi]; exact Int.not_lt.mpr (Int.natCast_nonneg n), by rw [Int32.lt_iff_toInt_lt, hi]; exact Int.ofNat_lt.mpr hn⟩) (by rw [hcl]; simp [own_ws, List.getD, hn])) (g := (mkF m 64 #[.val (.int p0), .val (.ref b), .val (.int i), .val (.double (FP.ddiv (FP.i2d ((i + (1 : Int32)) / (2 : Int32))) (4616189618054758400 : UInt64))), .second, .val (.int ((i + (1 : Int32)) / (2 : Int32))), .val (.double (FP.ddiv (FP.i2d ((i + (1 : Int32)) / (2 : Int32))) (4616189618054758400 : UInt64))), .second] [(.int i), (.ref b)])) rfl rfl (hb hby at_64)) ?_
      show Go p.tables e below (T.setTop (mkF m 65 #[.val (.int p0), .val (.ref b), .val (.int i), .val (.double (FP.ddiv (FP.i2d ((i + (1 : Int32)) / (2 : Int32))) (4616189618054758400 : UInt64))), .second, .val (.int ((i + (1 : Int32)) / (2 : Int32))), .val (.double (FP.ddiv (FP.i2d ((i + (1 : Int32)) / (2 : Int32))) (4616189618054758400 : UInt64))), .second] [(.double (own_w n))])) _
      refine Go.by (fun tt_ kk_ => XS.dloadN X.here hx rfl (hb hby at_65) rfl kk_) ?_
      show Go p.tables e below (T.setTop (mkF m 66 #[.val (.int p0), .val (.ref b), .val (.int i), .val (.double (FP.ddiv (FP.i2d ((i + (1 : Int32)) / (2 : Int32))) (4616189618054758400 : UInt64))), .second, .val (.int ((i + (1 : Int32)) / (2 : Int32))), .val (.double (FP.ddiv (FP.i2d ((i + (1 : Int32)) / (2 : Int32))) (4616189618054758400 : UInt64))), .second] [(.double (FP.ddiv (FP.i2d ((i + (1 : Int32)) / (2 : Int32))) (4616189618054758400 : UInt64))), (.double (own_w n))])) _
      have hn1 : ¬ n % 2 = 1 := fun q => hc50 (Int32.toInt_inj.mp (by rw [hpar, show (1 : Int32).toInt = 1 by decide]; omega))
      have hn0 : ¬ n = 0 := fun q => hc22 (Int32.toInt_inj.mp (by rw [hi, q]; decide))
      have hz : cmpValue (FP.dcmp (own_w n) (FP.ddiv (FP.i2d ((i + (1 : Int32)) / (2 : Int32))) (4616189618054758400 : UInt64))) .l = 0 := by rw [hst, own_even n hn (by omega) (by omega)]; rfl
      refine Go.by (fun tt_ kk_ => XS.dcmpS X.here hx rfl (hb hby at_66) rfl hz kk_) ?_
      show Go p.tables e below (T.setTop (mkF m 67 #[.val (.int p0), .val (.ref b), .val (.int i), .val (.double (FP.ddiv (FP.i2d ((i + (1 : Int32)) / (2 : Int32))) (4616189618054758400 : UInt64))), .second, .val (.int ((i + (1 : Int32)) / (2 : Int32))), .val (.double (FP.ddiv (FP.i2d ((i + (1 : Int32)) / (2 : Int32))) (4616189618054758400 : UInt64))), .second] [(.int (0 : Int32))])) _
      refine Go.by (fun tt_ kk_ => XS.ifNo X.here hx rfl (hb hby at_67) rfl ((if0 _ _).trans (teq (rfl : (0 : Int32) = (0 : Int32))).2) kk_) ?_
      show Go p.tables e below (T.setTop (mkF m 70 #[.val (.int p0), .val (.ref b), .val (.int i), .val (.double (FP.ddiv (FP.i2d ((i + (1 : Int32)) / (2 : Int32))) (4616189618054758400 : UInt64))), .second, .val (.int ((i + (1 : Int32)) / (2 : Int32))), .val (.double (FP.ddiv (FP.i2d ((i + (1 : Int32)) / (2 : Int32))) (4616189618054758400 : UInt64))), .second] [])) _
      refine Go.by (fun tt_ kk_ => XS.iconst X.here hx rfl (hb hby at_70) kk_) ?_
      show Go p.tables e below (T.setTop (mkF m 71 #[.val (.int p0), .val (.ref b), .val (.int i), .val (.double (FP.ddiv (FP.i2d ((i + (1 : Int32)) / (2 : Int32))) (4616189618054758400 : UInt64))), .second, .val (.int ((i + (1 : Int32)) / (2 : Int32))), .val (.double (FP.ddiv (FP.i2d ((i + (1 : Int32)) / (2 : Int32))) (4616189618054758400 : UInt64))), .second] [(.int (1 : Int32))])) _
      refine Go.by (fun tt_ kk_ => XS.goto X.here hx rfl (pc0 := 71) (pc' := 75) rfl (hb hby at_71) (by decide) (by decide) kk_) ?_
      show Go p.tables e below (T.setTop (mkF m 75 #[.val (.int p0), .val (.ref b), .val (.int i), .val (.double (FP.ddiv (FP.i2d ((i + (1 : Int32)) / (2 : Int32))) (4616189618054758400 : UInt64))), .second, .val (.int ((i + (1 : Int32)) / (2 : Int32))), .val (.double (FP.ddiv (FP.i2d ((i + (1 : Int32)) / (2 : Int32))) (4616189618054758400 : UInt64))), .second] [(.int (1 : Int32))])) _
      exact Go.done X  (v := some (.int (1 : Int32))) (fun h => by rw [Bd.returns] at h; cases h) Bd.notSynchronized (fun fs hr => retN X hx (z := (1 : Int32)) (t := .boolean) Bd.returns (by simp) (hb hby at_75) hr) (by rw [eT]; exact ⟨rfl, N⟩) (by decide) (by decide)
set_option maxRecDepth 65536 in
set_option maxHeartbeats 40000000 in
theorem comes_1 {Post : Tables → Env → Array Value → State → Outcome → State → Prop} (hpost : ∀ tb e args s v u, (limb_1_1.after args s (.returned v) u = true ∧ limb_1_2.after args s (.returned v) u = true ∧ True) → FrameEnd s (.returned v) u (Jvm.fieldLocs frame_1_writes args s ++ Jvm.arrayLocs frame_1_arrays args s ++ Jvm.staticLocs frame_1_statics s) 16 192 → Post tb e args s (.returned v) u) :
    ArmFor flags0 classFile x code maxLocals ret World_1 tables_1 room_1 Calls_1 rest_1 Pre_1 Post := by
  intro l hfl _ _ p e ha hc hk s m args below hf hA hF happ hP
  obtain ⟨hcalls, hrest, hpre⟩ := hP
  obtain ⟨-, -, -, hnamed, -, -, -, hat⟩ := (Spec.applies_iff hf).mp happ
  obtain ⟨hg, hn⟩ := and_e (Cond.before_iff.mp (show (Jvm.Cond.and given_1 narrow_1).before args s = true from hpre))
  obtain ⟨hcount, hg⟩ := and_e hg
  have hv0 := hg
  obtain ⟨w0, rfl⟩ : ∃ w0 : Value, args = #[w0] := by
    have hs : args.size = 1 := by simpa [Cond.value, given_1] using hcount
    obtain ⟨L⟩ := args
    match L, hs with
    | [w0], _ => exact ⟨w0, rfl⟩
  have hw := fun d (hd : d ∈ tables_1) => atoms_spec (ws := Jvm.Cond.code x code maxLocals ret :: tables_1) hat d (List.mem_cons_of_mem _ hd)
  have hfit : Fit s := fun {y c} hc i hi => by
    obtain ⟨ha, rfl⟩ := Array.getElem?_eq_some_iff.mp hc
    have q := List.all_eq_true.mp ((Array.all_eq_true_iff_forall_mem.mp hF) _ (Array.getElem_mem ha)) i (List.mem_range.mpr hi)
    simpa [Array.getElem?_eq_getElem hi] using q
  obtain ⟨i0, ei0⟩ := is_v hv0
  obtain rfl : w0 = (.int i0) := Option.some.inj ei0
  obtain ⟨n, o, h1, h2, h3, _, L, rfl, ⟨rfl, N⟩, hq⟩ := rm0 l s _ hw tables_1 i0  s.heap s.heap.size (Nat.le_refl _)  p e ha hc hk s m _ below hf ((Spec.applies_iff_loose hf).mp happ).1 ⟨rfl, State.Warmed39.refl s, rfl⟩ trivial
  refine ⟨n, _, h1, h2, h3, hpost _ _ _ _ _ _ ⟨Cond.after_iff.mpr rfl, Cond.after_iff.mpr (eq_i res_at (Term.int_eval (1)) rfl), trivial⟩ ⟨hq.1, hq.2.1, (hq.2.2.sift fun y hy => Or.inr (N y hy)).mono (by decide) (by decide)⟩⟩
theorem main_1_1 : Claimed_1_1 := comes_1 fun _ _ _ _ _ _ h hF => ⟨h.1, hF⟩
theorem main_1_2 : Claimed_1_2 := comes_1 fun _ _ _ _ _ _ h hF => ⟨h.2.1, hF⟩
end Jvm.Pilot.@@N@@
namespace Jvm.Pilot.@@N@@
open Jvm Jvm.ClassFile Sem Op Lib Jvm.Free Jvm.Stand Jvm.Pilot.@@N@@.Jvm.D
/-! MADE BY PROGRAM (witnessworld.py) out of the Statement's table words and the real class files: 11 classes; the members and pool entries that the words name. The judged class is class 1, her method 1. -/
namespace start1
open Jvm.ClassFile
def u (s : String) : CpInfo := .utf8 (stringToUtf16 s)
/-- a pool by its gaps: so many unusable entries, then the entry; so many at the end -/
def gap : Nat → List CpInfo → List CpInfo
  | 0, r => r
  | n + 1, r => .unusable :: gap n r
def poolList (es : List (Nat × CpInfo)) (last : Nat) : List CpInfo := es.foldr (fun e r => gap e.1 (e.2 :: r)) (gap last [])
def pool (es : List (Nat × CpInfo)) (last : Nat) : Array CpInfo := ⟨poolList es last⟩
def fileOf (pool : Array CpInfo) (this : Nat) (attrs : Array Attribute := #[]) (ms : Array MethodInfo := #[]) (fl : Nat := 33) (sup : Nat := 0) (ifs : Array Nat := #[]) (fds : Array FieldInfo := #[]) : ClassFile where
  minorVersion := 0
  majorVersion := 65
  constantPool := pool
  accessFlags := fl
  thisClass := this
  superClass := sup
  interfaces := ifs
  fields := fds
  methods := ms
  attributes := attrs
def plain (name : String) (sup : Option ClassId) : Class where
  name := name
  kind := .ordinary
  loader := none
  accessFlags := 33
  super := sup
  interfaces := #[]
  cf := none
  fields := #[]
  methods := #[]
  instanceTypes := #[]
  staticTypes := #[]
  resolved := #[]
  callSites := []
  init := .initialized
  statics := none
  mirror := none

def pool0 : Array CpInfo := pool [(5, u "<init>"), (0, u "()V"), (1, .class_ 10), (1, u "java/lang/Object")] 113

def k0m0 : Method := { name := "<init>", desc := "()V", sig := { parameters := [], returnType := none }, accessFlags := 1, code := none }
/-- java/lang/Object -/
def k0 : Class := { plain "java/lang/Object" none with
  accessFlags := 33
  interfaces := #[]
  cf := some (fileOf pool0 8 #[] #[{ accessFlags := 1, nameIndex := 5, descriptorIndex := 6, attributes := #[] }] 33 0 #[] #[])
  fields := #[]
  methods := #[k0m0]
  instanceTypes := #[]
  staticTypes := #[]
  resolved := Array.replicate 124 none
  statics := none }

def pool1 : Array CpInfo := pool [(2, .class_ 4), (1, u "java/lang/Object"), (0, u "<init>"), (0, u "()V"), (0, .methodref 8 9), (0, .class_ 10), (0, .nameAndType 11 12), (0, u "com/example/solder/solder/BestFeedback"), (0, u "leadWeights"), (0, u "()[D"), (0, .integer 2147483647), (0, .double 4616189618054758400), (1, .class_ 17), (0, u "com/example/solder/solder/BestFeedbackLeadWeightsPinLaw"), (2, u "law"), (0, u "(I)Z")] 5

def k1m0 : Method := { name := "<init>", desc := "()V", sig := { parameters := [], returnType := none }, accessFlags := 2, code := none }
def k1c1 : Code := { maxStack := 4, maxLocals := 8, code := code, exceptionTable := #[], attributes := #[] }
def k1m1 : Method := { name := "law", desc := "(I)Z", sig := { parameters := [.int], returnType := some .boolean }, accessFlags := 9, code := some k1c1 }
/-- com/example/solder/solder/BestFeedbackLeadWeightsPinLaw -/
def k1 : Class := { plain "com/example/solder/solder/BestFeedbackLeadWeightsPinLaw" (some 0) with
  accessFlags := 49
  interfaces := #[]
  cf := some (fileOf pool1 16 #[] #[{ accessFlags := 2, nameIndex := 5, descriptorIndex := 6, attributes := #[] }, { accessFlags := 9, nameIndex := 20, descriptorIndex := 21, attributes := #[] }] 49 2 #[] #[])
  fields := #[]
  methods := #[k1m0, k1m1]
  instanceTypes := #[]
  staticTypes := #[]
  resolved := Array.replicate 27 none
  statics := none }

def pool2 : Array CpInfo := pool [(2, .class_ 4), (1, u "java/lang/Object"), (3, .class_ 10), (1, u "com/example/solder/solder/BestFeedback"), (0, u "feedback"), (0, u "Lcom/example/solder/solder/Feedback;"), (2, u "value"), (0, u "D"), (120, u "leadWeights"), (0, u "()[D"), (23, .double 4598175219545276416), (51, u "CANDIDATES"), (0, u "I"), (0, u "MOST_DOCUMENTS"), (2, u "WEIGHT_STEP"), (0, u "MOST_WEIGHT")] 52

def k2c0 : Code := { maxStack := 6, maxLocals := 3, code := prog_1_method_4_code, exceptionTable := #[], attributes := #[] }
def k2m0 : Method := { name := "leadWeights", desc := "()[D", sig := { parameters := [], returnType := some (.array .double) }, accessFlags := 8, code := some k2c0 }
/-- com/example/solder/solder/BestFeedback -/
def k2 : Class := { plain "com/example/solder/solder/BestFeedback" (some 0) with
  accessFlags := 49
  interfaces := #[]
  cf := some (fileOf pool2 8 #[] #[{ accessFlags := 8, nameIndex := 137, descriptorIndex := 138, attributes := #[] }] 49 2 #[] #[{ accessFlags := 25, nameIndex := 216, descriptorIndex := 215, attributes := #[] }, { accessFlags := 25, nameIndex := 219, descriptorIndex := 16, attributes := #[] }, { accessFlags := 25, nameIndex := 220, descriptorIndex := 16, attributes := #[] }, { accessFlags := 25, nameIndex := 214, descriptorIndex := 215, attributes := #[] }, { accessFlags := 18, nameIndex := 11, descriptorIndex := 12, attributes := #[] }, { accessFlags := 18, nameIndex := 15, descriptorIndex := 16, attributes := #[] }])
  fields := #[{ name := "MOST_DOCUMENTS", type := .int, accessFlags := 25, slot := 0, constantValue := 0 }, { name := "WEIGHT_STEP", type := .double, accessFlags := 25, slot := 1, constantValue := 0 }, { name := "MOST_WEIGHT", type := .double, accessFlags := 25, slot := 2, constantValue := 0 }, { name := "CANDIDATES", type := .int, accessFlags := 25, slot := 3, constantValue := 0 }, { name := "feedback", type := (.object "com/example/solder/solder/Feedback"), accessFlags := 18, slot := 0, constantValue := 0 }, { name := "value", type := .double, accessFlags := 18, slot := 1, constantValue := 0 }]
  methods := #[k2m0]
  instanceTypes := #[(.object "com/example/solder/solder/Feedback"), .double]
  staticTypes := #[.int, .double, .double, .int]
  resolved := Array.replicate 273 none
  statics := none }

def pool3 : Array CpInfo := pool [(1, u "java/lang/Cloneable"), (0, .class_ 1), (0, u "java/lang/Object"), (0, .class_ 3)] 3

/-- java/lang/Cloneable -/
def k3 : Class := { plain "java/lang/Cloneable" (some 0) with
  accessFlags := 1537
  interfaces := #[]
  cf := some (fileOf pool3 2 #[] #[] 1537 4 #[] #[])
  fields := #[]
  methods := #[]
  instanceTypes := #[]
  staticTypes := #[]
  resolved := Array.replicate 8 none
  statics := none }

def pool4 : Array CpInfo := pool [(1, u "java/io/Serializable"), (0, .class_ 1), (0, u "java/lang/Object"), (0, .class_ 3)] 3

/-- java/io/Serializable -/
def k4 : Class := { plain "java/io/Serializable" (some 0) with
  accessFlags := 1537
  interfaces := #[]
  cf := some (fileOf pool4 2 #[] #[] 1537 4 #[] #[])
  fields := #[]
  methods := #[]
  instanceTypes := #[]
  staticTypes := #[]
  resolved := Array.replicate 8 none
  statics := none }

/-- the primitive byte -/
def k5 : Class := { plain "byte" none with kind := .primitive 'B', accessFlags := 0x411 }
/-- [B -/
def k6 : Class := { plain "[B" (some 0) with kind := .array 5 .byte, interfaces := #[3, 4], accessFlags := 1041 }

/-- the primitive double -/
def k7 : Class := { plain "double" none with kind := .primitive 'D', accessFlags := 0x411 }
/-- [D -/
def k8 : Class := { plain "[D" (some 0) with kind := .array 7 .double, interfaces := #[3, 4], accessFlags := 1041 }

/-- the primitive int -/
def k9 : Class := { plain "int" none with kind := .primitive 'I', accessFlags := 0x411 }
/-- [I -/
def k10 : Class := { plain "[I" (some 0) with kind := .array 9 .int, interfaces := #[3, 4], accessFlags := 1041 }

def heap : Heap := #[]
def classes : Array Class := #[k0, k1, k2, k3, k4, k5, k6, k7, k8, k9, k10]
def interned : List (Array UInt16 × Addr) := []
def slotsUsed : Nat := 0
def theMethod : MethodId := ⟨1, 1⟩
def args0 : Array Value := #[.int 1]
def aboutOver (below : List Frame) : State where
  vm := { classes := classes, interned := interned.toArray }
  heap := heap
  slotsUsed := slotsUsed
  threads := #[{ frames := .invoking theMethod args0 :: below }]
def below0 : List Frame := [.native { method := ⟨0, 0⟩, args := #[] }]
def about1 : State := aboutOver below0
def p0 : Program := .bare "" "" ""
def e0 : Env := launch0.env 0 0 0
theorem w_frames : about1.frames = Frame.invoking theMethod args0 :: below0 := rfl
set_option maxRecDepth 65536 in
theorem w_args : argsFit about1.vm theMethod args0 = true := by decide +kernel
set_option maxRecDepth 65536 in
theorem w_heap : heapFits about1 = true := by decide +kernel
set_option maxRecDepth 65536 in
theorem w_runnable : about1.curStatus? = some .runnable := by decide +kernel
set_option maxRecDepth 65536 in
theorem w_alone : about1.alone = true := by decide +kernel
set_option maxRecDepth 65536 in
theorem w_named : about1.methodNamed? x = some theMethod := by decide +kernel
set_option maxRecDepth 65536 in
theorem w_hears : about1.hears theMethod below0 = true := by decide +kernel
set_option maxRecDepth 65536 in
theorem w_ripe : about1.ripe theMethod args0 below0 = true := by decide +kernel
theorem w_running : about1.status = .running := rfl
set_option maxRecDepth 65536 in
theorem w_room : about1.hasRoom e0.platform room_1 = true :=
  launch0.hasRoom_least _ room_1 (by decide +kernel) (by decide +kernel) (by decide +kernel) (by decide +kernel) (by decide +kernel) (by decide +kernel)
theorem allAtoms_all (ts : List Jvm.Cond) (a : Array Jvm.Value) (st : Jvm.State) : (allAtoms ts).before a st = ts.all (fun c => c.before a st) := by
  induction ts with
  | nil => rfl
  | cons c t ih =>
    show (Jvm.Cond.and c (allAtoms t)).before a st = _
    rw [Jvm.Cond.before_and, ih, List.all_cons]
def words1 : List Jvm.Cond := Jvm.Cond.code x code maxLocals ret :: tables_1
/-- a 'code' word, met by the world's own term for the bytes: nothing is compared byte by byte -/
theorem code_word {y : MethodName} {bytes : ByteArray} {mx : Nat} {rt : Option FieldType} {a : Array Value} {s : State} {m : MethodId} {meth : Method} {c : Code} (h1 : s.methodNamed? y = some m) (h2 : s.vm.method? m = some meth) (h3 : meth.code = some c) (h4 : c.code = bytes)
    (h5 : (c.maxLocals == mx && c.exceptionTable.isEmpty && decide (c.maxStack ≤ mostOperands) && decide (meth.sig.returnType = rt) && !meth.locks && decide (parseMethodDescriptor y.desc = some meth.sig)) = true) : (Jvm.Cond.code y bytes mx rt).before a s = true := by
  simp only [Bool.and_eq_true, beq_iff_eq, Bool.not_eq_true', decide_eq_true_eq] at h5
  obtain ⟨⟨⟨⟨⟨g1, g2⟩, g3⟩, g4⟩, g5⟩, g6⟩ := h5
  simp [Cond.before, Cond.holds, Cond.value, h1, h2, h3, h4, g1, g2, g3, g4, g5, g6]
def isCode : Jvm.Cond → Bool
  | .code _ _ _ _ => true
  | _ => false
theorem all_split {L : List Jvm.Cond} {P : Jvm.Cond → Bool} (h1 : L.all (fun c => isCode c || P c) = true) (h2 : ∀ c ∈ L.filter isCode, P c = true) : L.all P = true := by
  refine List.all_eq_true.mpr fun c hc => ?_
  have h := List.all_eq_true.mp h1 c hc
  rcases Bool.eq_false_or_eq_true (isCode c) with hi | hi
  · exact h2 c (List.mem_filter.mpr ⟨hc, hi⟩)
  · simpa [hi] using h
set_option maxRecDepth 65536 in
theorem w_c0 : (Jvm.Cond.code x code maxLocals ret).before args0 about1 = true := code_word (m := ⟨1, 1⟩) (meth := k1m1) (c := k1c1) (by decide +kernel) rfl rfl rfl (by decide +kernel)
set_option maxRecDepth 65536 in
theorem w_c1 : (Jvm.Cond.code ({ cls := "com/example/solder/solder/BestFeedback", name := "leadWeights", desc := "()[D" } : Jvm.MethodName) prog_1_method_4_code (3 : Nat) (Option.some (Jvm.ClassFile.FieldType.array Jvm.ClassFile.FieldType.double))).before args0 about1 = true := code_word (m := ⟨2, 0⟩) (meth := k2m0) (c := k2c0) (by decide +kernel) rfl rfl rfl (by decide +kernel)
def codes1 : List Jvm.Cond := [Jvm.Cond.code x code maxLocals ret, Jvm.Cond.code ({ cls := "com/example/solder/solder/BestFeedback", name := "leadWeights", desc := "()[D" } : Jvm.MethodName) prog_1_method_4_code (3 : Nat) (Option.some (Jvm.ClassFile.FieldType.array Jvm.ClassFile.FieldType.double))]
set_option maxRecDepth 65536 in
theorem codes_eq : words1.filter isCode = codes1 := rfl
theorem w_codes : ∀ c ∈ words1.filter isCode, c.before args0 about1 = true := by
  rw [codes_eq]
  intro c hc
  simp only [codes1, List.mem_cons, List.not_mem_nil, or_false] at hc
  rcases hc with rfl | rfl
  · exact w_c0
  · exact w_c1
set_option maxRecDepth 65536 in
theorem w_t1 : words1.all (fun c => isCode c || c.before args0 about1) = true := by decide +kernel
theorem w_tables : (allAtoms (Jvm.Cond.code x code maxLocals ret :: tables_1)).before args0 about1 = true := by
  rw [allAtoms_all]
  show words1.all (fun c => c.before args0 about1) = true
  refine all_split ?_ w_codes
  rw [w_t1]
set_option maxRecDepth 65536 in
theorem w_case : (Jvm.Cond.and given_1 narrow_1).before args0 about1 = true := by decide +kernel
theorem w_applies : (headSpec (Jvm.Cond.code x code maxLocals ret :: tables_1) room_1).applies x e0.platform about1 = true :=
  (Spec.applies_iff w_frames).mpr ⟨w_running, w_runnable, w_alone, w_named, w_hears, w_ripe, w_room, w_tables⟩
theorem atStart : AtStart classFile x code maxLocals ret World_1 tables_1 room_1 Calls_1 rest_1 Pre_1 launch0 p0 e0 about1 theMethod args0 below0 :=
  ⟨lists_1, trivial, launch0.admits_env _ _ _, launch0.least_env, fairChoices_fair.cas, fairChoices_fair.clock, w_frames, w_args, w_heap, w_applies, trivial, trivial, w_case⟩
end start1
theorem witness_1 : WitnessClaimed_1 := ⟨start1.p0, start1.e0, start1.about1, start1.theMethod, start1.args0, start1.below0, start1.atStart⟩
end Jvm.Pilot.@@N@@
