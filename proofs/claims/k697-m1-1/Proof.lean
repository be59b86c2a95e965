import JvmDerived
import JvmDerived.Pilot.@@N@@Statement
import JvmDerived.Pilot.@@N@@Code
set_option linter.unusedVariables false
set_option linter.unusedSimpArgs false
@@BLOCK:NumsL.lean.txt@@
namespace Jvm.OwnGo
open Jvm Sem ClassFile Op Lib Jvm.Stand Jvm.Free Jvm.LawKit Jvm.RoadKit
/-- from A the run comes to a state of which K is said -/
def Go (tb : Tables) (e : Env) (below : List Frame) (A : State) (K : State → Prop) : Prop := ∃ u, Steps tb e below A u ∧ K u
theorem Go.by {tb : Tables} {e : Env} {below : List Frame} {A B : State} {K : State → Prop} (h : ∀ t, Steps tb e below B t → Steps tb e below A t) (g : Go tb e below B K) : Go tb e below A K := by
  obtain ⟨u, s, k⟩ := g
  exact ⟨u, h u s, k⟩
theorem Go.tr {tb : Tables} {e : Env} {below : List Frame} {A B : State} {K : State → Prop} (h : Steps tb e below A B) (g : Go tb e below B K) : Go tb e below A K := by
  obtain ⟨u, s, k⟩ := g
  exact ⟨u, h.trans s, k⟩
theorem Go.out {tb : Tables} {e : Env} {below : List Frame} {A : State} {P : State → Outcome → Prop} (g : Go tb e below A (fun u => ∃ o, P u o)) : ∃ u o, Steps tb e below A u ∧ P u o := by
  obtain ⟨u, s, o, k⟩ := g
  exact ⟨u, o, s, k⟩
theorem Go.done {p : Program} {l : Launch} {e : Env} {R : Room} {s : State} {m : MethodId} {args : Array Value} {below : List Frame} {meth : Method} {c : Code} {T : State} {locs : List Loc} {cells slots C D : Nat}
    (X : Stand p l e R s m args below meth c T locs cells slots) {v : Option Value} (hv : meth.sig.returnType = none → v = none) (hlocks : meth.locks = false) {A : State}
    (hst : ∀ fs, (∀ (f : JFrame) (acts : List Action), f.method = m → f.locked = none → f.entered = [] → (doReturn e (T.setTop f) acts v).1 = T.setFrames fs) → Steps p.tables e below A (T.setFrames fs))
    {Q : Option Value → Heap → List Loc → Prop} (hq : Q v T.heap locs) (hc : cells ≤ C) (hs : slots ≤ D) :
    Go p.tables e below A (fun u => ∃ o, u.status = .running ∧ Ended u below o ∧ ∃ v L, o = .returned v ∧ Q v u.heap L ∧ FrameEnd s o u L C D) := by
  obtain ⟨fs, hr, hrun, hended, hW, hsame⟩ := X.leave hv hlocks
  exact ⟨_, hst fs hr, _, hrun, hended, _, _, rfl, hq, ⟨_, rfl⟩, hW, hsame.mono hc hs⟩
theorem Go.doneW {p : Program} {l : Launch} {e : Env} {R : Room} {s : State} {m : MethodId} {args : Array Value} {below : List Frame} {meth : Method} {c : Code} {T : State} {locs : List Loc} {cells slots C D : Nat} {vm1 : Vm}
    (X : Stand p l e R (s.setVm vm1) m args below meth c T locs cells slots) {n : Nat} (hS : s.Since vm1 n) (hn : n ≤ T.heap.size) {v : Option Value} (hv : meth.sig.returnType = none → v = none) (hlocks : meth.locks = false) {A : State}
    (hst : ∀ fs, (∀ (f : JFrame) (acts : List Action), f.method = m → f.locked = none → f.entered = [] → (doReturn e (T.setTop f) acts v).1 = T.setFrames fs) → Steps p.tables e below A (T.setFrames fs))
    {Q : Option Value → Heap → List Loc → Prop} (hq : Q v T.heap locs) (hc : cells ≤ C) (hs : slots ≤ D) :
    Go p.tables e below A (fun u => ∃ o, u.status = .running ∧ Ended u below o ∧ ∃ v L, o = .returned v ∧ Q v u.heap L ∧ ReturnedEndW s o u L C D) := by
  obtain ⟨fs, hr, hrun, hended, h1, h2, h3, h4⟩ := X.leaveW hS hn hv hlocks
  exact ⟨_, hst fs hr, _, hrun, hended, _, _, rfl, hq, h1, h2, h3, h4.mono hc hs⟩
end Jvm.OwnGo
namespace Jvm.OwnFp
open Jvm.FP Jvm.FP.Core Jvm.Free.Fl
/-- the double a is i * 2^e -/
def Dy (i e : Int) (a : UInt64) : Prop := ∃ s c q, val64 a = .fin s c q ∧ Whole i (.fin s c (q - e))
theorem own_const {i e : Int} {a : UInt64} (s : Bool) (c : Nat) (q : Int) (h1 : val64 a = .fin s c q) (h2 : signed s (c * 2 ^ (q - e).toNat) = i * ((2 ^ (-(q - e)).toNat : Nat) : Int)) : Dy i e a := ⟨s, c, q, h1, h2⟩
theorem Dy.noNaN {i e : Int} {a : UInt64} (h : Dy i e a) : NoNaN64 a := by
  obtain ⟨s, c, q, h1, -⟩ := h
  exact val64_no.mpr (by rw [h1]; exact fun q => nomatch q)
theorem Dy.fin {i e : Int} {a : UInt64} (h : Dy i e a) : Fin64 a := by
  obtain ⟨s, c, q, h1, -⟩ := h
  exact fin64_core.mpr ⟨s, c, q, h1⟩
theorem own_fit (s : Bool) {n : Nat} (hn : n ≤ 9007199254740992) {e : Int} (h1 : -1074 ≤ e) (h2 : e ≤ 900) :
    ∃ c q, Core.fits b64 (.fin s c q) ∧ n * 2 ^ (e - q).toNat = c * 1 * 2 ^ (q - e).toNat := by
  have e1 : b64.qmin = -1074 := qmin_b64
  have e2 : b64.qmax = 971 := by decide
  have e3 : b64.tails = 2 ^ 52 := tails_b64
  have e4 : b64.p = 53 := rfl
  have k53 : (9007199254740992 : Nat) = 2 ^ 53 := by decide
  by_cases h0 : n = 0
  · subst h0
    exact ⟨0, b64.qmin, zero_fits good_b64 s, by simp⟩
  by_cases hp : n = 9007199254740992
  · refine ⟨2 ^ 52, e + 1, ⟨by rw [e4]; decide, by rw [e1]; omega, by rw [e2]; omega, Or.inr (by rw [e3]; exact Nat.le_refl _)⟩, ?_⟩
    rw [show (e - (e + 1)).toNat = 0 by omega, show (e + 1 - e).toNat = 1 by omega, hp]
  · have l1 : 2 ^ n.log2 ≤ n := Nat.log2_self_le h0
    have l2 : n < 2 ^ (n.log2 + 1) := Nat.lt_log2_self
    have l3 : n.log2 < 53 := (Nat.pow_lt_pow_iff_right (by decide : 1 < 2)).mp (Nat.lt_of_le_of_lt l1 (by omega))
    generalize n.log2 = L at l1 l2 l3
    by_cases hq : -1074 ≤ e - (52 - (L : Int))
    · refine ⟨n * 2 ^ (52 - L), e - (52 - (L : Int)), ⟨?_, by rw [e1]; omega, by rw [e2]; omega, Or.inr ?_⟩, ?_⟩
      · rw [e4]
        calc n * 2 ^ (52 - L) < 2 ^ (L + 1) * 2 ^ (52 - L) := Nat.mul_lt_mul_of_pos_right l2 (Nat.two_pow_pos _)
          _ = 2 ^ 53 := by rw [← Nat.pow_add]; congr 1; omega
      · rw [e3]
        calc 2 ^ 52 = 2 ^ L * 2 ^ (52 - L) := by rw [← Nat.pow_add]; congr 1; omega
          _ ≤ n * 2 ^ (52 - L) := Nat.mul_le_mul_right _ l1
      · rw [show (e - (e - (52 - (L : Int)))).toNat = 52 - L by omega, show (e - (52 - (L : Int)) - e).toNat = 0 by omega]
        simp
    · refine ⟨n * 2 ^ (e + 1074).toNat, -1074, ⟨?_, by rw [e1]; omega, by rw [e2]; omega, Or.inl e1.symm⟩, ?_⟩
      · rw [e4]
        calc n * 2 ^ (e + 1074).toNat < 2 ^ (L + 1) * 2 ^ (e + 1074).toNat := Nat.mul_lt_mul_of_pos_right l2 (Nat.two_pow_pos _)
          _ = 2 ^ (L + 1 + (e + 1074).toNat) := by rw [← Nat.pow_add]
          _ ≤ 2 ^ 53 := Nat.pow_le_pow_right (by decide) (by omega)
      · rw [show (e - -1074).toNat = (e + 1074).toNat by omega, show (-1074 - e).toNat = 0 by omega]
        simp
theorem own_sg {i : Int} {s : Bool} {c : Nat} {q : Int} (h : Whole i (.fin s c q)) : signed s i.natAbs = i := by
  by_cases hi : i = 0
  · rw [hi]; exact signed_zero s
  · rw [whole_sign h hi]
    unfold signed
    by_cases z : i < 0
    · simp only [z, decide_true, if_true]; omega
    · simp only [z, decide_false]; simp; omega
theorem own_whole {i e : Int} {s : Bool} {c : Nat} {q : Int} (hs : signed s i.natAbs = i) (h : i.natAbs * 2 ^ (e - q).toNat = c * 1 * 2 ^ (q - e).toNat) : Whole i (.fin s c (q - e)) := by
  show signed s (c * 2 ^ (q - e).toNat) = i * ((2 ^ (-(q - e)).toNat : Nat) : Int)
  rw [Nat.mul_one] at h
  rw [← h, signed_mul, hs, show -(q - e) = e - q by omega]
/-- a ratio that is i * 2^e -/
theorem own_ratio {i e : Int} {s : Bool} (hs : signed s i.natAbs = i) (hi : i.natAbs ≤ 9007199254740992) (h1 : -1074 ≤ e) (h2 : e ≤ 900) :
    ∃ c q, roundRatio b64 s i.natAbs 1 e = .fin s c q ∧ Whole i (.fin s c (q - e)) := by
  obtain ⟨c, q, hf, h⟩ := own_fit s hi h1 h2
  exact ⟨c, q, roundRatio_exact good_b64 Nat.one_pos hf h, own_whole hs h⟩
theorem own_round {i e : Int} {s : Bool} {c : Nat} {q : Int} (h : Whole i (.fin s c (q - e))) (hi : i.natAbs ≤ 9007199254740992) (h1 : -1074 ≤ e) (h2 : e ≤ 900) :
    ∃ s' c' q', Core.round b64 (.fin s c q) = .fin s' c' q' ∧ Whole i (.fin s' c' (q' - e)) := by
  obtain ⟨c', q', r1, r2⟩ := own_ratio (own_sg h) hi h1 h2
  refine ⟨s, c', q', ?_, r2⟩
  have w := whole_natAbs h
  show roundRatio b64 s c 1 q = _
  rw [← r1]
  refine roundRatio_congr Nat.one_pos Nat.one_pos ?_
  rw [Nat.mul_one, Nat.mul_one, w, show -(q - e) = e - q by omega]
theorem Dy.add {i j e : Int} {a b : UInt64} (ha : Dy i e a) (hb : Dy j e b) (hi : (i + j).natAbs ≤ 9007199254740992) (h1 : -1074 ≤ e) (h2 : e ≤ 900) : Dy (i + j) e (FP.dadd a b) := by
  obtain ⟨s, c, q, a1, a2⟩ := ha
  obtain ⟨t, d, r, b1, b2⟩ := hb
  have w := whole_sum a2 b2
  have hm : min (q - e) (r - e) = min q r - e := by omega
  have hV : sumUnits s c (q - e) t d (r - e) (min q r - e) = sumUnits s c q t d r (min q r) := by
    unfold sumUnits inUnits
    rw [show q - e - (min q r - e) = q - min q r by omega, show r - e - (min q r - e) = r - min q r by omega]
  simp only [exactSum] at w
  rw [hm, hV] at w
  obtain ⟨s', c', q', r1, r2⟩ := own_round w hi h1 h2
  exact ⟨s', c', q', by rw [val64_dadd, a1, b1]; exact r1, r2⟩
theorem Dy.sub {i j e : Int} {a b : UInt64} (ha : Dy i e a) (hb : Dy j e b) (hi : (i - j).natAbs ≤ 9007199254740992) (h1 : -1074 ≤ e) (h2 : e ≤ 900) : Dy (i - j) e (FP.dsub a b) := by
  obtain ⟨s, c, q, a1, a2⟩ := ha
  obtain ⟨t, d, r, b1, b2⟩ := hb
  have w := whole_sum a2 (whole_negate b2)
  have hm : min (q - e) (r - e) = min q r - e := by omega
  have hV : sumUnits s c (q - e) (!t) d (r - e) (min q r - e) = sumUnits s c q (!t) d r (min q r) := by
    unfold sumUnits inUnits
    rw [show q - e - (min q r - e) = q - min q r by omega, show r - e - (min q r - e) = r - min q r by omega]
  simp only [negate, exactSum] at w
  rw [hm, hV] at w
  obtain ⟨s', c', q', r1, r2⟩ := own_round w hi h1 h2
  exact ⟨s', c', q', by rw [val64_dsub, a1, b1]; exact r1, r2⟩
theorem Dy.mul {i j e g : Int} {a b : UInt64} (ha : Dy i e a) (hb : Dy j g b) (hi : (i * j).natAbs ≤ 9007199254740992) (h1 : -1074 ≤ e + g) (h2 : e + g ≤ 900) : Dy (i * j) (e + g) (FP.dmul a b) := by
  obtain ⟨s, c, q, a1, a2⟩ := ha
  obtain ⟨t, d, r, b1, b2⟩ := hb
  have w := whole_product a2 b2
  simp only [exactProduct] at w
  rw [show q - e + (r - g) = q + r - (e + g) by omega] at w
  obtain ⟨s', c', q', r1, r2⟩ := own_round w hi h1 h2
  exact ⟨s', c', q', by rw [val64_dmul, a1, b1]; exact r1, r2⟩
/-- an exact quotient -/
theorem Dy.div {k j e g : Int} {a b : UInt64} (ha : Dy (k * j) e a) (hb : Dy j g b) (hj : j ≠ 0) (hi : k.natAbs ≤ 9007199254740992) (h1 : -1074 ≤ e - g) (h2 : e - g ≤ 900) : Dy k (e - g) (FP.ddiv a b) := by
  obtain ⟨s, c, q, a1, a2⟩ := ha
  obtain ⟨t, d, r, b1, b2⟩ := hb
  have wa := whole_natAbs a2
  have wb := whole_natAbs b2
  have hd : d ≠ 0 := fun z => hj ((whole_zero b2).mp z)
  have hs : signed (s != t) k.natAbs = k := by
    by_cases hk : k = 0
    · rw [hk]; exact signed_zero _
    · have s1 := whole_sign a2 (Int.mul_ne_zero hk hj)
      have s2 := whole_sign b2 hj
      rw [s1, s2]
      unfold signed
      rcases Int.lt_or_gt_of_ne hk with z | z <;> rcases Int.lt_or_gt_of_ne hj with y | y
      · have := Int.mul_pos_of_neg_of_neg z y
        simp [show ¬ k * j < 0 by omega, y]; omega
      · have := Int.mul_neg_of_neg_of_pos z y
        simp [this, show ¬ j < 0 by omega]; omega
      · have := Int.mul_neg_of_pos_of_neg z y
        simp [this, y]; omega
      · have := Int.mul_pos z y
        simp [show ¬ k * j < 0 by omega, show ¬ j < 0 by omega]; omega
  obtain ⟨c', q', r1, r2⟩ := own_ratio hs hi h1 h2
  refine ⟨_, c', q', ?_, r2⟩
  rw [val64_ddiv, a1, b1]
  show (if d = 0 then _ else roundRatio b64 (s != t) c d (q - r)) = _
  rw [if_neg hd, ← r1]
  refine roundRatio_congr (Nat.pos_of_ne_zero hd) Nat.one_pos ?_
  rw [Nat.mul_one]
  rw [Int.natAbs_mul] at wa
  -- c * 2^(q-e)+ = |k| |j| 2^(q-e)- , d * 2^(r-g)+ = |j| 2^(r-g)-
  have hj' : 0 < j.natAbs := by omega
  apply Nat.eq_of_mul_eq_mul_right (Nat.mul_pos hj' (Nat.mul_pos (Nat.two_pow_pos (q - e).toNat) (Nat.two_pow_pos (-(r - g)).toNat)))
  calc c * 2 ^ (q - r - (e - g)).toNat * (j.natAbs * (2 ^ (q - e).toNat * 2 ^ (-(r - g)).toNat))
      = (c * 2 ^ (q - e).toNat) * (j.natAbs * 2 ^ (-(r - g)).toNat) * 2 ^ (q - r - (e - g)).toNat := by ac_rfl
    _ = (k.natAbs * j.natAbs * 2 ^ (-(q - e)).toNat) * (d * 2 ^ (r - g).toNat) * 2 ^ (q - r - (e - g)).toNat := by rw [wa, wb]
    _ = k.natAbs * d * j.natAbs * 2 ^ ((-(q - e)).toNat + (r - g).toNat + (q - r - (e - g)).toNat) := by rw [Nat.pow_add, Nat.pow_add]; ac_rfl
    _ = k.natAbs * d * j.natAbs * 2 ^ ((e - g - (q - r)).toNat + (q - e).toNat + (-(r - g)).toNat) := by congr 2; omega
    _ = k.natAbs * d * 2 ^ (e - g - (q - r)).toNat * (j.natAbs * (2 ^ (q - e).toNat * 2 ^ (-(r - g)).toNat)) := by rw [Nat.pow_add, Nat.pow_add]; ac_rfl
theorem Dy.scale {i e : Int} {a : UInt64} (h : Dy i e a) (k : Nat) : Dy (i * 2 ^ k) (e - k) a := by
  obtain ⟨s, c, q, a1, a2⟩ := h
  refine ⟨s, c, q, a1, ?_⟩
  have w : signed s (c * 2 ^ (q - e).toNat) = i * ((2 ^ (-(q - e)).toNat : Nat) : Int) := a2
  show signed s (c * 2 ^ (q - (e - k)).toNat) = i * 2 ^ k * ((2 ^ (-(q - (e - k))).toNat : Nat) : Int)
  have p2 : ((2 ^ ((-(q - e)).toNat) : Nat) : Int) ≠ 0 := by
    have := Nat.two_pow_pos ((-(q - e)).toNat); omega
  refine Int.eq_of_mul_eq_mul_right p2 ?_
  have hx : (q - (e - k)).toNat + (-(q - e)).toNat = (q - e).toNat + (k + (-(q - (e - k))).toNat) := by omega
  calc signed s (c * 2 ^ (q - (e - k)).toNat) * ((2 ^ ((-(q - e)).toNat) : Nat) : Int)
      = signed s (c * 2 ^ ((q - (e - k)).toNat + (-(q - e)).toNat)) := by rw [← signed_mul, Nat.pow_add, Nat.mul_assoc]
    _ = signed s (c * 2 ^ (q - e).toNat * 2 ^ (k + (-(q - (e - k))).toNat)) := by rw [hx, Nat.pow_add, Nat.mul_assoc]
    _ = i * ((2 ^ (-(q - e)).toNat : Nat) : Int) * ((2 ^ (k + (-(q - (e - k))).toNat) : Nat) : Int) := by rw [signed_mul, w]
    _ = i * 2 ^ k * ((2 ^ (-(q - (e - k))).toNat : Nat) : Int) * ((2 ^ ((-(q - e)).toNat) : Nat) : Int) := by
        rw [Nat.pow_add, Int.natCast_mul, Int.natCast_pow 2 k]
        show i * _ * ((2 : Int) ^ k * _) = _
        ac_rfl
theorem Dy.unscale {i e : Int} {a : UInt64} (k : Nat) (h : Dy (i * 2 ^ k) e a) : Dy i (e + k) a := by
  obtain ⟨s, c, q, a1, a2⟩ := h
  refine ⟨s, c, q, a1, ?_⟩
  have w : signed s (c * 2 ^ (q - e).toNat) = i * 2 ^ k * ((2 ^ (-(q - e)).toNat : Nat) : Int) := a2
  show signed s (c * 2 ^ (q - (e + k)).toNat) = i * ((2 ^ (-(q - (e + k))).toNat : Nat) : Int)
  have p2 : ((2 ^ (k + (-(q - e)).toNat) : Nat) : Int) ≠ 0 := by
    have := Nat.two_pow_pos (k + (-(q - e)).toNat); omega
  refine Int.eq_of_mul_eq_mul_right p2 ?_
  have hx : (q - (e + k)).toNat + (k + (-(q - e)).toNat) = (q - e).toNat + (-(q - (e + k))).toNat := by omega
  calc signed s (c * 2 ^ (q - (e + k)).toNat) * ((2 ^ (k + (-(q - e)).toNat) : Nat) : Int)
      = signed s (c * 2 ^ ((q - (e + k)).toNat + (k + (-(q - e)).toNat))) := by rw [← signed_mul, Nat.pow_add 2 (q - (e + k)).toNat, Nat.mul_assoc]
    _ = signed s (c * 2 ^ (q - e).toNat * 2 ^ ((-(q - (e + k))).toNat)) := by rw [hx, Nat.pow_add, Nat.mul_assoc]
    _ = i * 2 ^ k * ((2 ^ (-(q - e)).toNat : Nat) : Int) * ((2 ^ ((-(q - (e + k))).toNat) : Nat) : Int) := by rw [signed_mul, w]
    _ = i * ((2 ^ (-(q - (e + k))).toNat : Nat) : Int) * ((2 ^ (k + (-(q - e)).toNat) : Nat) : Int) := by
        rw [Nat.pow_add, Int.natCast_mul, Int.natCast_pow 2 k]
        show i * (2 : Int) ^ k * _ * _ = _ * ((2 : Int) ^ k * _)
        ac_rfl
theorem Dy.cmp {i j e : Int} {a b : UInt64} (ha : Dy i e a) (hb : Dy j e b) : FP.dcmp a b = some (compare i j) := by
  obtain ⟨s, c, q, a1, a2⟩ := ha
  obtain ⟨t, d, r, b1, b2⟩ := hb
  have w := order_whole a2 b2
  have hm : min (q - e) (r - e) = min q r - e := by omega
  simp only [order] at w
  rw [hm] at w
  unfold inUnits at w
  rw [show q - e - (min q r - e) = q - min q r by omega, show r - e - (min q r - e) = r - min q r by omega] at w
  show order (val64 a) (val64 b) = _
  rw [a1, b1]
  exact w
theorem Dy.of_int {i : Int} {a : UInt64} (h : DInt i a) : Dy i 0 a := by
  unfold DInt at h
  cases hv : val64 a with
  | nan => rw [hv] at h; exact h.elim
  | inf => rw [hv] at h; exact h.elim
  | fin s c q => rw [hv] at h; exact ⟨s, c, q, hv, by rw [Int.sub_zero]; exact h⟩
theorem Dy.i2d (x : Int32) : Dy x.toInt 0 (FP.i2d x) := Dy.of_int (i2d_int x)
theorem Dy.l2d {x : Int64} (h : x.toInt.natAbs ≤ 9007199254740992) : Dy x.toInt 0 (FP.l2d x) := Dy.of_int (l2d_int (Nat.le_trans h (by decide)))
/-- the int that a comparison pushes -/
def own_ci (i j : Int) : Int32 := if i < j then -1 else if i = j then 0 else 1
theorem Dy.cmpV {i j e : Int} {a b : UInt64} (ha : Dy i e a) (hb : Dy j e b) (o : Jvm.ClassFile.CmpOp) : Jvm.Op.cmpValue (FP.dcmp a b) o = own_ci i j := by
  rw [ha.cmp hb, compare_ite]
  unfold own_ci
  by_cases h1 : i < j
  · simp only [if_pos h1]; cases o <;> rfl
  · by_cases h2 : i = j
    · simp only [if_neg h1, if_pos h2]; cases o <;> rfl
    · simp only [if_neg h1, if_neg h2]; cases o <;> rfl
theorem own_ci_lt {i j : Int} : own_ci i j < 0 ↔ i < j := by
  unfold own_ci
  by_cases h1 : i < j
  · simp [h1]
  · by_cases h2 : i = j <;> simp [h1, h2]
theorem own_ci_gt {i j : Int} : 0 < own_ci i j ↔ j < i := by
  unfold own_ci
  by_cases h1 : i < j
  · simp [h1]; omega
  · by_cases h2 : i = j
    · simp [h2]
    · simp [h1, h2]; omega
theorem own_ci_eq {i j : Int} : own_ci i j = 0 ↔ i = j := by
  unfold own_ci
  by_cases h1 : i < j
  · simp [h1]; omega
  · by_cases h2 : i = j <;> simp [h1, h2]
theorem Dy.cast {i j e f : Int} {a : UInt64} (h : Dy i e a) (hi : i = j) (he : e = f) : Dy j f a := by subst hi he; exact h
theorem own_zero (e : Int) : Dy 0 e (0 : UInt64) := ⟨false, 0, -1074, by decide +kernel, by
  show signed false (0 * _) = 0 * _
  rw [Nat.zero_mul, Int.zero_mul]; rfl⟩
end Jvm.OwnFp
namespace Jvm.OwnNum
theorem own_mulb {a b A B : Int} (a1 : -A ≤ a) (a2 : a ≤ A) (b1 : -B ≤ b) (b2 : b ≤ B) : -(A * B) ≤ a * b ∧ a * b ≤ A * B := by
  have hm : (a * b).natAbs ≤ A.toNat * B.toNat := by rw [Int.natAbs_mul]; exact Nat.mul_le_mul (by omega) (by omega)
  have hm2 : ((A.toNat * B.toNat : Nat) : Int) = A * B := by rw [Int.natCast_mul, Int.toNat_of_nonneg (by omega), Int.toNat_of_nonneg (by omega)]
  omega
theorem own_i2l (x : Int32) : x.toInt64.toInt = x.toInt := by simp
/-- a remainder by a positive literal -/
theorem own_rem {x k : Int32} {K : Int} (hk : k.toInt = K) (h : 0 < K) : -K < (x % k).toInt ∧ (x % k).toInt < K := by
  rw [Int32.toInt_mod, hk]
  have h1 := Int.tmod_lt_of_pos x.toInt h
  have h2 := Int.lt_tmod_of_pos x.toInt h
  omega
theorem own_and {x k : Int32} {K : Nat} (hk : k.toInt = K) (h0 : K < 2 ^ 31) : 0 ≤ (x &&& k).toInt ∧ (x &&& k).toInt ≤ K := by
  have e : k.toBitVec.toNat = K := by
    have := k.toBitVec.isLt
    have q : k.toInt = k.toBitVec.toInt := rfl
    rw [q, BitVec.toInt_eq_toNat_cond] at hk
    split at hk <;> omega
  have b : (x &&& k).toBitVec.toNat ≤ K := by
    show (x.toBitVec &&& k.toBitVec).toNat ≤ K
    rw [BitVec.toNat_and, e]; exact Nat.and_le_right
  have q : (x &&& k).toInt = (x &&& k).toBitVec.toInt := rfl
  rw [q, BitVec.toInt_eq_toNat_cond]
  split <;> omega
theorem own_add32 {a b : Int32} (h1 : -2147483648 ≤ a.toInt + b.toInt) (h2 : a.toInt + b.toInt < 2147483648) : (a + b).toInt = a.toInt + b.toInt := by
  rw [Int32.toInt_add]; exact Int.bmod_eq_of_le (by omega) (by omega)
theorem own_sub32 {a b : Int32} (h1 : -2147483648 ≤ a.toInt - b.toInt) (h2 : a.toInt - b.toInt < 2147483648) : (a - b).toInt = a.toInt - b.toInt := by
  rw [Int32.toInt_sub]; exact Int.bmod_eq_of_le (by omega) (by omega)
theorem own_mul32 {a b : Int32} (h1 : -2147483648 ≤ a.toInt * b.toInt) (h2 : a.toInt * b.toInt < 2147483648) : (a * b).toInt = a.toInt * b.toInt := by
  rw [Int32.toInt_mul]; exact Int.bmod_eq_of_le (by omega) (by omega)
theorem own_min (a b : Int32) : (if b < a then b else a).toInt = min a.toInt b.toInt := by
  split
  · rename_i h; rw [Int32.lt_iff_toInt_lt] at h; omega
  · rename_i h; rw [Int32.lt_iff_toInt_lt] at h; omega
theorem own_max (a b : Int32) : (if a < b then b else a).toInt = max a.toInt b.toInt := by
  split
  · rename_i h; rw [Int32.lt_iff_toInt_lt] at h; omega
  · rename_i h; rw [Int32.lt_iff_toInt_lt] at h; omega
theorem own_shl {e : Int32} (h0 : 0 ≤ e.toInt) (h1 : e.toInt < 11) : ∃ k : Nat, k ≤ 10 ∧ ((1 : Int32) <<< (e &&& 31)).toInt = 2 ^ k := by
  have hk : e.toInt = 0 ∨ e.toInt = 1 ∨ e.toInt = 2 ∨ e.toInt = 3 ∨ e.toInt = 4 ∨ e.toInt = 5 ∨ e.toInt = 6 ∨ e.toInt = 7 ∨ e.toInt = 8 ∨ e.toInt = 9 ∨ e.toInt = 10 := by omega
  rcases hk with h | h | h | h | h | h | h | h | h | h | h
  · exact ⟨0, by decide, by rw [Int32.toInt_inj.mp (h.trans (by decide : (0 : Int) = (0 : Int32).toInt))]; decide⟩
  · exact ⟨1, by decide, by rw [Int32.toInt_inj.mp (h.trans (by decide : (1 : Int) = (1 : Int32).toInt))]; decide⟩
  · exact ⟨2, by decide, by rw [Int32.toInt_inj.mp (h.trans (by decide : (2 : Int) = (2 : Int32).toInt))]; decide⟩
  · exact ⟨3, by decide, by rw [Int32.toInt_inj.mp (h.trans (by decide : (3 : Int) = (3 : Int32).toInt))]; decide⟩
  · exact ⟨4, by decide, by rw [Int32.toInt_inj.mp (h.trans (by decide : (4 : Int) = (4 : Int32).toInt))]; decide⟩
  · exact ⟨5, by decide, by rw [Int32.toInt_inj.mp (h.trans (by decide : (5 : Int) = (5 : Int32).toInt))]; decide⟩
  · exact ⟨6, by decide, by rw [Int32.toInt_inj.mp (h.trans (by decide : (6 : Int) = (6 : Int32).toInt))]; decide⟩
  · exact ⟨7, by decide, by rw [Int32.toInt_inj.mp (h.trans (by decide : (7 : Int) = (7 : Int32).toInt))]; decide⟩
  · exact ⟨8, by decide, by rw [Int32.toInt_inj.mp (h.trans (by decide : (8 : Int) = (8 : Int32).toInt))]; decide⟩
  · exact ⟨9, by decide, by rw [Int32.toInt_inj.mp (h.trans (by decide : (9 : Int) = (9 : Int32).toInt))]; decide⟩
  · exact ⟨10, by decide, by rw [Int32.toInt_inj.mp (h.trans (by decide : (10 : Int) = (10 : Int32).toInt))]; decide⟩
theorem own_and3 (x : Int32) : (x &&& (3 : Int32)) = (0 : Int32) ∨ (x &&& (3 : Int32)) = (1 : Int32) ∨ (x &&& (3 : Int32)) = (2 : Int32) ∨ (x &&& (3 : Int32)) = (3 : Int32) := by
  have h := own_and (x := x) (k := 3) (K := 3) (by decide) (by decide)
  have q : (x &&& (3 : Int32)).toInt = 0 ∨ (x &&& (3 : Int32)).toInt = 1 ∨ (x &&& (3 : Int32)).toInt = 2 ∨ (x &&& (3 : Int32)).toInt = 3 := by omega
  rcases q with q | q | q | q
  · exact Or.inl (Int32.toInt_inj.mp (q.trans (by decide : (0 : Int) = (0 : Int32).toInt)))
  · exact Or.inr (Or.inl (Int32.toInt_inj.mp (q.trans (by decide : (1 : Int) = (1 : Int32).toInt))))
  · exact Or.inr (Or.inr (Or.inl (Int32.toInt_inj.mp (q.trans (by decide : (2 : Int) = (2 : Int32).toInt)))))
  · exact Or.inr (Or.inr (Or.inr (Int32.toInt_inj.mp (q.trans (by decide : (3 : Int) = (3 : Int32).toInt)))))
theorem own_pow10 {e : Nat} (h : e ≤ 10) : (2 : Int) ^ e ≤ 1024 ∧ 1 ≤ (2 : Int) ^ e := by
  have : ∀ e, e ≤ 10 → (2 : Int) ^ e ≤ 1024 ∧ 1 ≤ (2 : Int) ^ e := by decide
  exact this e h
end Jvm.OwnNum
namespace Jvm.OwnHand
open Jvm Sem ClassFile Op Lib Jvm.Stand Jvm.Free Jvm.LawKit Jvm.RoadKit
variable {p : Program} {l : Launch} {e : Env} {R : Room} {s : State} {m : MethodId} {args : Array Value} {below : List Frame} {meth : Method} {c : Code} {T : State} {locs : List Loc} {cells slots : Nat} {Z : State} {a0 : Array Value} {h : Heap}
/-- a callee with an exception table (its walk throws nothing) that may intern literals: what its own theorem pays -/
theorem own_backSH {y : MethodName} {bytes : ByteArray} {maxL : Nat} {ret : Option FieldType} {hs : List (Nat × Nat × Nat × Nat)} {rm : Room} {len W : Nat} {as' : Array Value} {Q : Option Value → Heap → List Loc → Prop}
    (hM : MetFree l y (head1 [Cond.codeWith y bytes maxL ret hs] rm) (fun a U => a = as' ∧ Z.Warmed39 U.vm ∧ U.heap = h) (fun _ _ _ _ _ => True) (fun _ U o U' => ∃ v L, o = .returned v ∧ Q v U'.heap L ∧ ReturnedEndW U o U' L rm.cells rm.slots))
    (hZ : Z.Warmed39 s.vm) (wc : (Cond.codeWith y bytes maxL ret hs).before a0 Z = true) (wz : (Cond.initialized y.cls).before a0 Z = true) (hf : rm.frames + 1 ≤ R.frames) (hl : W + (maxL + 11) + rm.locals ≤ R.locals) :
    BackS l R p e below s args y len W (fun A a => a = as' ∧ A.U.heap = h ∧ A.cells + rm.cells ≤ R.cells ∧ A.slots + rm.slots ≤ R.slots)
      (fun A _ v B => ∃ L, Q v B.U.heap L ∧ B.locs = A.locs ++ L ∧ B.cells = A.cells + rm.cells ∧ B.slots = A.slots + rm.slots) := by
  rintro m meth c ⟨U, Ls, c0, s0⟩ g ig mk a X rfl hsize hdg hW hn ⟨rfl, hheap, hcc, hss⟩
  dsimp only [Pt.U, Pt.locs, Pt.cells, Pt.slots] at X hn hheap hcc hss ⊢
  have hU : Z.Warmed39 U.vm := wtrans hZ X.warmed
  have wcU : (Cond.codeWith y bytes maxL ret hs).before a U = true := mv hU wc
  obtain ⟨mY, methY, cY, hnY, hmY, hcY, -, hlY, -⟩ := Cond.codeWith_spec wcU
  cases hn.symm.trans hnY
  obtain ⟨kY, hkY, -⟩ := className_of_methodNamed hn
  have hiY : kY.init = .initialized := Cond.initialized_spec (findClass_of_methodNamed hn) hkY (mv (args := a) hU wz)
  have hroom := X.room_calling (g := g) (args' := a) (R' := rm) hsize hmY hcY hf (by rw [hlY]; omega) hcc hss
  have happ : (head1 [Cond.codeWith y bytes maxL ret hs] rm).appliesLoose y e.platform (U.calling g mk a) = true :=
    Spec.appliesLoose_calling (g := g) X.here hdg hn hkY hiY hroom (by show (Cond.and _ .tt).before a U = true; rw [Cond.before_and, wcU]; rfl)
  obtain ⟨up, hup⟩ := X.here.above
  have htop := State.frames_setTop' g X.here.top
  obtain ⟨o, V, hsteps, -, hend, v, L, rfl, hq, hfe⟩ := Steps.callFree hM p X.admits X.cas X.clock (acts := []) (show (U.setTop g).frames = (.java g :: up) ++ below by rw [htop, hup]; rfl) happ ⟨rfl, hU, hheap⟩ trivial
  rw [htop] at hend
  have hfe2 : ReturnedEndW (U.calling g mk a) (.returned v) V L rm.cells rm.slots := hfe
  obtain ⟨-, w39, hbook, hshape, q2, q3, q4, q5, q6⟩ := hfe2
  have w39' : U.Warmed39 V.vm := w39
  obtain ⟨cV, iV, nV, hcV, hdV, hfV⟩ := hend
  obtain rfl : cV = c := Option.some.inj (hcV.symm.trans ((by rw [State.code?_eq, State.code?_eq, w39'.alike.method?] : V.code? g.method = U.code? g.method).trans X.here.code))
  obtain rfl : nV = len := by rw [hdg] at hdV; cases hdV; rfl
  obtain ⟨g0, hg0⟩ := Option.isSome_iff_exists.mp X.here.top
  obtain ⟨fr, hfr⟩ := State.topJava?_eq_some.mp hg0
  let B : State := ({ U with heap := V.heap, slotsUsed := V.slotsUsed } : State).setVm V.vm
  have hB : V = B.setTop { g with pc := g.pc + nV, stack := v.toList ++ g.stack } := by
    have e1 : V = ({ (U.calling g mk a).setFrames V.frames with heap := V.heap, slotsUsed := V.slotsUsed } : State).setVm V.vm := by
      have e0 : V = ({ V with vm := (U.calling g mk a).vm } : State).setVm V.vm := rfl
      rw [hshape] at e0; exact e0
    refine e1.trans ?_
    rw [hfV, State.calling_eq X.here.top, State.setFrames_setFrames, State.setTop_of_frames _ (show B.frames = .java g0 :: fr from hfr), hfr]
    rfl
  have hnew : U.sameButNew ({ U with heap := V.heap, slotsUsed := V.slotsUsed } : State) L rm.cells rm.slots := by
    obtain ⟨t, ht, -⟩ := State.frames_cons hfr
    exact ⟨by show ({ U with heap := V.heap, slotsUsed := V.slotsUsed } : State) = { U.setFrames U.frames with heap := V.heap, slotsUsed := V.slotsUsed }; rw [State.setFrames_self ht], q2, q3, q4, q5, q6⟩
  obtain ⟨X', hS⟩ := X.movedW (T₂ := B) ((X.here.setHeapUsed V.heap V.slotsUsed).setVm w39'.alike) X.tail rfl rfl w39' hbook hnew
  refine ⟨v, ⟨B, Ls ++ L, c0 + rm.cells, s0 + rm.slots⟩, X', hS, hnew.2.1, ⟨L, hq, rfl, rfl, rfl⟩, ?_⟩
  show Steps p.tables e below _ (B.setTop _)
  rw [← hB]
  exact hsteps
/-- the constructor's call by it -/
theorem own_specialSH (X : Stand p l e R s m args below meth c T locs cells slots) (hexec : p.tables.exec = Jvm.exec) {own : String} {index : Nat} {y : MethodName} (hy1 : y.name = "<init>")
    (hown : s.vm.findClass own = some m.cls) (hlink : (Cond.methodLink own index y).before args s = true) (hinst : (Cond.instanceMethod y).before args s = true)
    {bytes : ByteArray} {maxL : Nat} {hs : List (Nat × Nat × Nat × Nat)} (hcode : (Cond.codeWith y bytes maxL none hs).before args s = true) (hy : y.cls ≠ "java/lang/invoke/MethodHandle" ∧ y.cls ≠ "java/lang/invoke/VarHandle")
    {W : Nat} {Pre : Pt → Array Value → Prop} {Post : Pt → Array Value → Option Value → Pt → Prop} (hK : BackS l R p e below s args y 3 W Pre Post)
    {g : JFrame} (hg : g.method = m) (hsize : g.locals.size = c.maxLocals) {s₀ : State} (hcome : Steps p.tables e below s₀ (T.setTop g)) {a : Addr} {argsL rest : List Value}
    (hlen : ∀ sig, parseMethodDescriptor y.desc = some sig → argsL.length = sig.parameters.length) (hstack : g.stack = argsL.reverse ++ .ref a :: rest) (hW : 2 * g.monitorRoom + (rest.map fun v => v.category).sum ≤ W)
    (hdg : decode c.code g.pc = .ok (.invokespecial index, 3)) (hpre : ∀ vm₁, s.WarmedH vm₁ → Pre ⟨T.setVm vm₁, locs, cells, slots⟩ (.ref a :: argsL).toArray) :
    ∃ (v : Option Value) (vm₁ : Vm) (B : Pt), s.WarmedH vm₁ ∧ Stand p l e R (s.setVm B.U.vm) m args below meth c B.U B.locs B.cells B.slots ∧ s.Since B.U.vm B.U.heap.size ∧ T.heap.size ≤ B.U.heap.size ∧ Post ⟨T.setVm vm₁, locs, cells, slots⟩ (.ref a :: argsL).toArray v B ∧
      Steps p.tables e below s₀ (B.U.setTop { g with pc := g.pc + 3, stack := v.toList ++ rest }) := by
  obtain ⟨mk, -, -, -, vm1, hnamed, -, -, -, -, -, -, -, w1, hstep⟩ := Steps.initColdArgsH (e := e) X.here hexec X.warmed (by rw [X.admits.platform]) hown hy1 hy hlink hinst hcode (f := g) hg hlen hstack hdg
  have X1 := X.noted w1
  obtain ⟨v, B, X', hS, hgr, hpost, hrun⟩ := hK m meth c ⟨T.setVm vm1, locs, cells, slots⟩ { g with stack := rest } (.invokespecial index) mk (.ref a :: argsL).toArray X1 hg hsize hdg hW (X1.named hnamed) (hpre vm1 w1)
  exact ⟨v, vm1, B, w1, X', hS, hgr, hpost, (hcome.trans (hstep _ fun acts => by rw [doInvoke_state]; exact Steps.refl _)).trans hrun⟩
end Jvm.OwnHand
namespace Jvm.Pilot.@@N@@
open Jvm Jvm.ClassFile Sem Op Lib Jvm.Free Jvm.Stand Jvm.LawKit Jvm.RoadKit Bundle Jvm.OwnGo Jvm.OwnFp Jvm.Pilot.@@N@@.Jvm.D
open Jvm.OwnNum Jvm.FP Jvm.Free.Fl
theorem own_one : Dy 1 0 (4607182418800017408 : UInt64) := own_const false (2 ^ 52) (-52) (by decide +kernel) (by decide +kernel)
theorem own_lemax {x : UInt64} (h : Fin64 x) : ¬ ((0 : Int32) < cmpValue (FP.dcmp (x &&& 0x7fffffffffffffff) 9218868437227405311) .g) := by
  rcases (Core.le_max (noNaN64_no.mp h.noNaN)).mpr (fin64_core.mp h) with q | q
  · rw [show FP.dcmp (x &&& 0x7fffffffffffffff) 9218868437227405311 = some .lt from q]; decide
  · rw [show FP.dcmp (x &&& 0x7fffffffffffffff) 9218868437227405311 = some .eq from q]; decide
theorem own_divnn {v w : Int} {x y : UInt64} (d : Dy v 0 x) (d0 : Dy w 0 y) (h : 0 < w) : NoNaN64 (FP.ddiv x y) := by
  refine noNaN64_no.mpr (Core.ddiv_out (noNaN64_no.mp d.noNaN) (fin64_core.mp d0.fin) ?_)
  rintro ⟨s, q, e⟩
  obtain ⟨s', c, q', e', w'⟩ := d0
  rw [e] at e'
  cases e'
  have := (Core.whole_zero w').mp rfl
  omega
theorem own_div1 {w : Int} {y : UInt64} (d : Dy w 0 y) (h : 0 < w) : Dy 1 0 (FP.ddiv y y) :=
  Dy.div (k := 1) (j := w) (e := 0) (g := 0) (by rw [Int.one_mul]; exact d) d (by omega) (by decide) (by decide) (by decide)
theorem own_n3 (x : Int32) : ((1 : Int32) + ((x &&& (2147483647 : Int32)) % (3 : Int32))) = (1 : Int32) ∨ ((1 : Int32) + ((x &&& (2147483647 : Int32)) % (3 : Int32))) = (2 : Int32) ∨ ((1 : Int32) + ((x &&& (2147483647 : Int32)) % (3 : Int32))) = (3 : Int32) := by
  have m1 : (x &&& (2147483647 : Int32)).toInt = x.toInt % 2 ^ 31 := Jvm.Kit.i32_mask _ _ (by decide) (by decide)
  have m2 : ((x &&& (2147483647 : Int32)) % (3 : Int32)).toInt = x.toInt % 2 ^ 31 % 3 := by rw [Jvm.Kit.i32_rem_nonneg (by rw [m1]; omega), m1, show (3 : Int32).toInt = 3 by decide]
  have q : ((x &&& (2147483647 : Int32)) % (3 : Int32)).toInt = 0 ∨ ((x &&& (2147483647 : Int32)) % (3 : Int32)).toInt = 1 ∨ ((x &&& (2147483647 : Int32)) % (3 : Int32)).toInt = 2 := by omega
  rcases q with q | q | q
  · exact Or.inl (by rw [Int32.toInt_inj.mp (q.trans (by decide : (0 : Int) = (0 : Int32).toInt))]; decide)
  · exact Or.inr (Or.inl (by rw [Int32.toInt_inj.mp (q.trans (by decide : (1 : Int) = (1 : Int32).toInt))]; decide))
  · exact Or.inr (Or.inr (by rw [Int32.toInt_inj.mp (q.trans (by decide : (2 : Int) = (2 : Int32).toInt))]; decide))
/-- the quotient of two whole doubles, the divisor above 0 -/
theorem own_quot {i j : Int} {x y : UInt64} (hx : Dy i 0 x) (hy : Dy j 0 y) (hj : 0 < j) : ∃ s, Core.val64 (FP.ddiv x y) = Core.roundRatio Core.b64 s i.natAbs j.natAbs 0 ∧ (i ≠ 0 → s = decide (i < 0)) := by
  obtain ⟨s, c, q, a1, a2⟩ := hx
  obtain ⟨t, d, r, b1, b2⟩ := hy
  rw [Int.sub_zero] at a2 b2
  have wa := Core.whole_natAbs a2
  have wb := Core.whole_natAbs b2
  have hd : d ≠ 0 := fun z => by have := (Core.whole_zero b2).mp z; omega
  have ht : t = false := by rw [Core.whole_sign b2 (by omega)]; exact decide_eq_false (by omega)
  subst ht
  refine ⟨s, ?_, fun hi => Core.whole_sign a2 hi⟩
  rw [Core.val64_ddiv, a1, b1]
  show (if d = 0 then _ else Core.roundRatio Core.b64 (s != false) c d (q - r)) = _
  rw [if_neg hd, Bool.bne_false]
  refine Core.roundRatio_congr (Nat.pos_of_ne_zero hd) (by omega) ?_
  apply Nat.eq_of_mul_eq_mul_right (Nat.mul_pos (Nat.two_pow_pos q.toNat) (Nat.two_pow_pos (-r).toNat))
  calc c * j.natAbs * 2 ^ (q - r - 0).toNat * (2 ^ q.toNat * 2 ^ (-r).toNat)
      = (c * 2 ^ q.toNat) * (j.natAbs * 2 ^ (-r).toNat) * 2 ^ (q - r - 0).toNat := by ac_rfl
    _ = (i.natAbs * 2 ^ (-q).toNat) * (d * 2 ^ r.toNat) * 2 ^ (q - r - 0).toNat := by rw [wa, wb]
    _ = i.natAbs * d * 2 ^ ((-q).toNat + r.toNat + (q - r - 0).toNat) := by rw [Nat.pow_add, Nat.pow_add]; ac_rfl
    _ = i.natAbs * d * 2 ^ ((0 - (q - r)).toNat + q.toNat + (-r).toNat) := by congr 2; omega
    _ = i.natAbs * d * 2 ^ (0 - (q - r)).toNat * (2 ^ q.toNat * 2 ^ (-r).toNat) := by rw [Nat.pow_add, Nat.pow_add]; ac_rfl
def own_P : Nat := 2 ^ 1052
theorem own_P_pos : 0 < own_P := Nat.two_pow_pos 1052
/-- a multiple of 2^-22 as a datum -/
theorem own_grid {n : Nat} (h : n ≤ 9007199254740992) : ∃ V, Core.fits Core.b64 V ∧ V ≠ .nan ∧ Core.zmag Core.b64 V = n * own_P := by
  obtain ⟨c, q, hf, e⟩ := own_fit false h (e := -22) (by decide) (by decide)
  refine ⟨_, hf, (fun z => nomatch z), ?_⟩
  show c * 2 ^ (q - Core.b64.qmin).toNat = _
  have hq : -1074 ≤ q := Core.qmin_b64 ▸ hf.2.1
  rw [Core.qmin_b64]
  rw [Nat.mul_one] at e
  by_cases z : -22 ≤ q
  · rw [show (-22 - q).toNat = 0 by omega, Nat.pow_zero, Nat.mul_one] at e
    rw [e, own_P, Nat.mul_assoc, ← Nat.pow_add, show (q - -22).toNat + 1052 = (q - -1074).toNat by omega]
  · rw [show (q - -22).toNat = 0 by omega, Nat.pow_zero, Nat.mul_one] at e
    rw [← e, own_P, Nat.mul_assoc, ← Nat.pow_add, show (-22 - q).toNat + (q - -1074).toNat = 1052 by omega]
theorem own_p22 : (2 : Nat) ^ (0 - -1074 : Int).toNat = 4194304 * own_P := by decide +kernel
theorem own_magle {s : Bool} {a b n : Nat} (hb : 0 < b) (hn : n ≤ 9007199254740992) (h : a * 4194304 ≤ n * b) : Core.zmag Core.b64 (Core.roundRatio Core.b64 s a b 0) ≤ n * own_P := by
  obtain ⟨V, h1, h2, h3⟩ := own_grid hn
  rw [← h3]
  refine Core.zmag_roundRatio_le Core.good_b64 (e0 := -1074) hb h1 h2 (by decide) (by decide) ?_
  rw [h3]
  show a * 2 ^ (0 - -1074 : Int).toNat ≤ n * own_P * 2 ^ (Core.b64.qmin - -1074).toNat * b
  rw [show (Core.b64.qmin - -1074).toNat = 0 by decide, Nat.pow_zero, Nat.mul_one, own_p22]
  calc a * (4194304 * own_P) = a * 4194304 * own_P := by rw [Nat.mul_assoc]
    _ ≤ n * b * own_P := Nat.mul_le_mul_right _ h
    _ = n * own_P * b := Nat.mul_right_comm _ _ _
theorem own_magge {s : Bool} {a b n : Nat} (hb : 0 < b) (hn : n ≤ 9007199254740992) (h : n * b ≤ a * 4194304) : n * own_P ≤ Core.zmag Core.b64 (Core.roundRatio Core.b64 s a b 0) := by
  obtain ⟨V, h1, h2, h3⟩ := own_grid hn
  rw [← h3]
  refine Core.zmag_roundRatio_ge Core.good_b64 (e0 := -1074) hb h1 (by decide) (by decide) ?_
  rw [h3]
  show n * own_P * 2 ^ (Core.b64.qmin - -1074).toNat * b ≤ a * 2 ^ (0 - -1074 : Int).toNat
  rw [show (Core.b64.qmin - -1074).toNat = 0 by decide, Nat.pow_zero, Nat.mul_one, own_p22]
  calc n * own_P * b = n * b * own_P := Nat.mul_right_comm _ _ _
    _ ≤ a * 4194304 * own_P := Nat.mul_le_mul_right _ h
    _ = a * (4194304 * own_P) := by rw [Nat.mul_assoc]
/-- the quotient in the format's least units -/
def own_qz (x y : UInt64) : Int := Core.zval Core.b64 (Core.val64 (FP.ddiv x y))
theorem own_rr0 (s : Bool) (b : Nat) : Core.zmag Core.b64 (Core.roundRatio Core.b64 s 0 b 0) = 0 := by
  simp [Core.roundRatio, Core.zmag, Core.inUnits]
theorem own_qz_eq {i j : Int} {x y : UInt64} (hx : Dy i 0 x) (hy : Dy j 0 y) (hj : 0 < j) : ∃ z : Nat, (∀ s, Core.zmag Core.b64 (Core.roundRatio Core.b64 s i.natAbs j.natAbs 0) = z) ∧ own_qz x y = (if i < 0 then -(z : Int) else z) := by
  obtain ⟨s, e, hs⟩ := own_quot hx hy hj
  refine ⟨Core.zmag Core.b64 (Core.roundRatio Core.b64 s i.natAbs j.natAbs 0), fun s' => ?_, ?_⟩
  · cases s <;> cases s' <;> first | rfl | (have := Core.negate_roundRatio Core.b64 false i.natAbs j.natAbs 0; rw [show (!false) = true from rfl] at this; rw [← this]; cases Core.roundRatio Core.b64 false i.natAbs j.natAbs 0 <;> rfl)
  · unfold own_qz Core.zval
    rw [e, Core.sgn_roundRatio]
    by_cases hi : i = 0
    · subst hi
      rw [show (0 : Int).natAbs = 0 from rfl, own_rr0, Core.signed_zero]; simp
    · rw [hs hi]
      unfold Core.signed
      by_cases z : i < 0 <;> simp [z]
theorem own_qz_le {i j n : Int} {x y : UInt64} (hx : Dy i 0 x) (hy : Dy j 0 y) (hj : 0 < j) (hn : n.natAbs ≤ 9007199254740992) (h : i * 4194304 ≤ n * j) : own_qz x y ≤ n * (own_P : Int) := by
  obtain ⟨z, hz, e⟩ := own_qz_eq hx hy hj
  rw [e]
  have hp : (0 : Int) ≤ (own_P : Int) := Int.natCast_nonneg _
  rcases Int.lt_or_le n 0 with hn0 | hn0
  · have hnj : n * j < 0 := Int.mul_neg_of_neg_of_pos hn0 hj
    have hi : i < 0 := by omega
    rw [if_pos hi]
    have g := own_magge (s := false) (a := i.natAbs) (b := j.natAbs) (n := n.natAbs) (by omega) hn (by
      have q : n.natAbs * j.natAbs = (n * j).natAbs := (Int.natAbs_mul n j).symm
      rw [q]; omega)
    rw [hz] at g
    have g2 : ((n.natAbs * own_P : Nat) : Int) ≤ z := Int.ofNat_le.mpr g
    rw [Int.natCast_mul, show ((n.natAbs : Nat) : Int) = -n by omega, Int.neg_mul] at g2
    omega
  · have hnp : 0 ≤ n * (own_P : Int) := Int.mul_nonneg hn0 hp
    by_cases hi : i < 0
    · rw [if_pos hi]; omega
    · rw [if_neg hi]
      have g := own_magle (s := false) (a := i.natAbs) (b := j.natAbs) (n := n.natAbs) (by omega) hn (by
        have q : n.natAbs * j.natAbs = (n * j).natAbs := (Int.natAbs_mul n j).symm
        have : 0 ≤ n * j := Int.mul_nonneg hn0 (by omega)
        rw [q]; omega)
      rw [hz] at g
      have g2 : (z : Int) ≤ ((n.natAbs * own_P : Nat) : Int) := Int.ofNat_le.mpr g
      rw [Int.natCast_mul, show ((n.natAbs : Nat) : Int) = n by omega] at g2
      exact g2
theorem own_qz_ge {i j n : Int} {x y : UInt64} (hx : Dy i 0 x) (hy : Dy j 0 y) (hj : 0 < j) (hn : n.natAbs ≤ 9007199254740992) (h : n * j ≤ i * 4194304) : n * (own_P : Int) ≤ own_qz x y := by
  obtain ⟨z, hz, e⟩ := own_qz_eq hx hy hj
  rw [e]
  have hp : (0 : Int) ≤ (own_P : Int) := Int.natCast_nonneg _
  rcases Int.lt_or_le 0 n with hn0 | hn0
  · have hnj : 0 < n * j := Int.mul_pos hn0 hj
    have hi : ¬ i < 0 := by omega
    rw [if_neg hi]
    have g := own_magge (s := false) (a := i.natAbs) (b := j.natAbs) (n := n.natAbs) (by omega) hn (by
      have q : n.natAbs * j.natAbs = (n * j).natAbs := (Int.natAbs_mul n j).symm
      rw [q]; omega)
    rw [hz] at g
    have g2 : ((n.natAbs * own_P : Nat) : Int) ≤ z := Int.ofNat_le.mpr g
    rw [Int.natCast_mul, show ((n.natAbs : Nat) : Int) = n by omega] at g2
    exact g2
  · have hnp : n * (own_P : Int) ≤ 0 := Int.mul_nonpos_of_nonpos_of_nonneg hn0 hp
    by_cases hi : i < 0
    · rw [if_pos hi]
      have g := own_magle (s := false) (a := i.natAbs) (b := j.natAbs) (n := n.natAbs) (by omega) hn (by
        have q : n.natAbs * j.natAbs = (n * j).natAbs := (Int.natAbs_mul n j).symm
        have : n * j ≤ 0 := Int.mul_nonpos_of_nonpos_of_nonneg hn0 (by omega)
        rw [q]; omega)
      rw [hz] at g
      have g2 : (z : Int) ≤ ((n.natAbs * own_P : Nat) : Int) := Int.ofNat_le.mpr g
      rw [Int.natCast_mul, show ((n.natAbs : Nat) : Int) = -n by omega, Int.neg_mul] at g2
      omega
    · rw [if_neg hi]; omega
/-- two quotients that differ, differ as doubles too: their distance is 2^-20 at the least -/
theorem own_qz_lt {i j k l : Int} {x y u v : UInt64} (hx : Dy i 0 x) (hy : Dy j 0 y) (hu : Dy k 0 u) (hv : Dy l 0 v) (bi : -2147483648 ≤ i ∧ i ≤ 2147483648) (bj : 1 ≤ j ∧ j ≤ 1024) (bk : -2147483648 ≤ k ∧ k ≤ 2147483648) (bl : 1 ≤ l ∧ l ≤ 1024) (h : i * l < k * j) : own_qz x y < own_qz u v := by
  have d1 := Int.emod_add_mul_ediv (-(i * 4194304)) j
  have d2 := Int.emod_nonneg (-(i * 4194304)) (show j ≠ 0 by omega)
  have d3 := Int.emod_lt_of_pos (-(i * 4194304)) (show 0 < j by omega)
  have e1 := Int.emod_add_mul_ediv (k * 4194304) l
  have e2 := Int.emod_nonneg (k * 4194304) (show l ≠ 0 by omega)
  have e3 := Int.emod_lt_of_pos (k * 4194304) (show 0 < l by omega)
  generalize (-(i * 4194304)) / j = n1 at d1
  generalize (k * 4194304) / l = n2 at e1
  generalize (-(i * 4194304)) % j = r1 at d1 d2 d3
  generalize (k * 4194304) % l = r2 at e1 e2 e3
  -- -(i 2^22) = r1 + j n1, k 2^22 = r2 + l n2
  have c1 : (-n1) * j = i * 4194304 + r1 := by rw [Int.neg_mul, Int.mul_comm n1 j]; omega
  have c2 : n2 * l = k * 4194304 - r2 := by rw [Int.mul_comm n2 l]; omega
  have b1 : (-n1).natAbs ≤ 9007199254740992 := by
    rcases Int.lt_or_le 9007199254740992 (-n1) with q | q
    · have := Int.mul_le_mul_of_nonneg_right (show 9007199254740993 ≤ -n1 by omega) (show 0 ≤ j by omega); omega
    · rcases Int.lt_or_le (-n1) (-9007199254740992) with q' | q'
      · have := Int.mul_le_mul_of_nonneg_right (show -n1 ≤ -9007199254740993 by omega) (show 0 ≤ j by omega); omega
      · omega
  have b2 : n2.natAbs ≤ 9007199254740992 := by
    rcases Int.lt_or_le 9007199254740992 n2 with q | q
    · have := Int.mul_le_mul_of_nonneg_right (show 9007199254740993 ≤ n2 by omega) (show 0 ≤ l by omega); omega
    · rcases Int.lt_or_le n2 (-9007199254740992) with q' | q'
      · have := Int.mul_le_mul_of_nonneg_right (show n2 ≤ -9007199254740993 by omega) (show 0 ≤ l by omega); omega
      · omega
  have lt : -n1 < n2 := by
    rcases Int.lt_or_le (-n1) n2 with q | q
    · exact q
    · exfalso
      have m1 : n2 * (j * l) ≤ -n1 * (j * l) := Int.mul_le_mul_of_nonneg_right q (Int.mul_nonneg (by omega) (by omega))
      have m2 : n2 * (j * l) = (k * j) * 4194304 - r2 * j := by
        calc n2 * (j * l) = (n2 * l) * j := by ac_rfl
          _ = (k * 4194304 - r2) * j := by rw [c2]
          _ = k * 4194304 * j - r2 * j := Int.sub_mul _ _ _
          _ = (k * j) * 4194304 - r2 * j := by congr 1; ac_rfl
      have m3 : -n1 * (j * l) = (i * l) * 4194304 + r1 * l := by
        calc -n1 * (j * l) = (-n1 * j) * l := by ac_rfl
          _ = (i * 4194304 + r1) * l := by rw [c1]
          _ = i * 4194304 * l + r1 * l := Int.add_mul _ _ _
          _ = (i * l) * 4194304 + r1 * l := by congr 1; ac_rfl
      have m4 : r2 * j ≤ 1024 * 1024 := Int.mul_le_mul (by omega) bj.2 (by omega) (by omega)
      have m5 : r1 * l ≤ 1024 * 1024 := Int.mul_le_mul (by omega) bl.2 (by omega) (by omega)
      omega
  have h1 := own_qz_le hx hy (by omega) b1 (by omega)
  have h2 := own_qz_ge hu hv (by omega) b2 (by omega)
  have h3 : -n1 * (own_P : Int) < n2 * (own_P : Int) := Int.mul_lt_mul_of_pos_right lt (Int.ofNat_lt.mpr own_P_pos)
  omega
theorem own_qz_same {i j k l : Int} {x y u v : UInt64} (hx : Dy i 0 x) (hy : Dy j 0 y) (hu : Dy k 0 u) (hv : Dy l 0 v) (bj : 0 < j) (bl : 0 < l) (h : i * l = k * j) : own_qz x y = own_qz u v := by
  obtain ⟨z1, h1, e1⟩ := own_qz_eq hx hy bj
  obtain ⟨z2, h2, e2⟩ := own_qz_eq hu hv bl
  have z : z1 = z2 := by
    rw [← h1 false, ← h2 false]
    congr 1
    refine Core.roundRatio_congr (by omega) (by omega) ?_
    have := congrArg Int.natAbs h
    rw [Int.natAbs_mul, Int.natAbs_mul] at this
    simp [this]
  rw [e1, e2, z]
  have : (i < 0) ↔ (k < 0) := by
    constructor
    · intro q
      have := Int.mul_neg_of_neg_of_pos q bl
      rcases Int.lt_or_le k 0 with r | r
      · exact r
      · have := Int.mul_nonneg r (show 0 ≤ j by omega); omega
    · intro q
      have := Int.mul_neg_of_neg_of_pos q bj
      rcases Int.lt_or_le i 0 with r | r
      · exact r
      · have := Int.mul_nonneg r (show 0 ≤ l by omega); omega
  by_cases q : i < 0
  · rw [if_pos q, if_pos (this.mp q)]
  · rw [if_neg q, if_neg (fun r => q (this.mpr r))]
theorem own_qcmp {i j k l : Int} {x y u v : UInt64} (hx : Dy i 0 x) (hy : Dy j 0 y) (hu : Dy k 0 u) (hv : Dy l 0 v) (bi : -2147483648 ≤ i ∧ i ≤ 2147483648) (bj : 1 ≤ j ∧ j ≤ 1024) (bk : -2147483648 ≤ k ∧ k ≤ 2147483648) (bl : 1 ≤ l ∧ l ≤ 1024) (o : CmpOp) :
    cmpValue (FP.dcmp (FP.ddiv x y) (FP.ddiv u v)) o = own_ci (i * l) (k * j) := by
  have e : FP.dcmp (FP.ddiv x y) (FP.ddiv u v) = some (compare (own_qz x y) (own_qz u v)) :=
    Core.order_zval Core.good_b64 (Core.val64_fits _) (Core.val64_fits _) (val64_no.mp (own_divnn hx hy (by omega))) (val64_no.mp (own_divnn hu hv (by omega)))
  have e2 : own_ci (i * l) (k * j) = own_ci (own_qz x y) (own_qz u v) := by
    unfold own_ci
    rcases Int.lt_trichotomy (i * l) (k * j) with q | q | q
    · have := own_qz_lt hx hy hu hv bi bj bk bl q
      rw [if_pos q, if_pos this]
    · have := own_qz_same hx hy hu hv (by omega) (by omega) q
      rw [if_neg (by omega), if_pos q, if_neg (by omega), if_pos this]
    · have := own_qz_lt hu hv hx hy bk bl bi bj q
      rw [if_neg (by omega), if_neg (by omega), if_neg (by omega), if_neg (by omega)]
  rw [e, e2, Core.compare_ite]
  generalize own_qz x y = A
  generalize own_qz u v = B
  unfold own_ci
  by_cases h1 : A < B
  · simp only [if_pos h1]; cases o <;> rfl
  · by_cases h2 : A = B
    · simp only [if_neg h1, if_pos h2]; cases o <;> rfl
    · simp only [if_neg h1, if_neg h2]; cases o <;> rfl
theorem own_divnn2 {w : Int} {x y : UInt64} (d : NoNaN64 x) (d0 : Dy w 0 y) (h : 0 < w) : NoNaN64 (FP.ddiv x y) := by
  refine noNaN64_no.mpr (Core.ddiv_out (noNaN64_no.mp d) (fin64_core.mp d0.fin) ?_)
  rintro ⟨s, q, e⟩
  obtain ⟨s', c, q', e', w'⟩ := d0
  rw [e] at e'
  cases e'
  have := (Core.whole_zero w').mp rfl
  omega
theorem own_pos {w : Int} {x : UInt64} (d : Dy w 0 x) (h : 0 < w) : (0 : Int32) < cmpValue (FP.dcmp x 0) .l := by rw [d.cmpV (own_zero 0) .l]; exact own_ci_gt.mpr h
theorem own_lpos {a : Int64} (h : 0 < a.toInt) : (0 : Int32) < cmpValue (FP.dcmp (FP.l2d a) 0) .l := by
  obtain ⟨c, q, e⟩ := Core.l2d_shape a
  rw [show decide (a.toInt < 0) = false from decide_eq_false (by omega)] at e
  have hc : c ≠ 0 := fun z => by
    subst z
    have z : (Core.l2d a).toNat % 2 ^ 63 = 0 := (Core.zero_bits2 (FP.l2d a)).mp ⟨_, _, e⟩
    have := (Core.l2d_big (show a.toInt ≠ 0 by omega)).1
    omega
  have o : FP.dcmp (FP.l2d a) 0 = some .gt := by
    show Core.order (Core.val64 (FP.l2d a)) (Core.val64 0) = _
    rw [e, show Core.val64 0 = .fin false 0 (-1074) by decide +kernel]
    simp only [Core.order, Core.inUnits, Core.compare_ite]
    have p1 : (0 : Int) < ((c * 2 ^ (q - min q (-1074)).toNat : Nat) : Int) := Int.ofNat_lt.mpr (Nat.mul_pos (Nat.pos_of_ne_zero hc) (Nat.two_pow_pos _))
    have s1 : Core.signed false (c * 2 ^ (q - min q (-1074)).toNat) = ((c * 2 ^ (q - min q (-1074)).toNat : Nat) : Int) := rfl
    have s2 : Core.signed false (0 * 2 ^ (-1074 - min q (-1074)).toNat) = 0 := by rw [Nat.zero_mul]; rfl
    rw [s1, s2, if_neg (by omega), if_neg (by omega)]
  rw [o]; decide
theorem own_lfin (a : Int64) : Fin64 (FP.l2d a) := fin64_core.mpr (Core.l2d_fin a)
def own_bc1 (l y0 : UInt64) : List Value := [.double (FP.ddiv l y0)]
def own_bc2 (w0 c0 w1 c1 : Int) (l y0 y1 : UInt64) : List Value := if w0 * c1 < w1 * c0 then [.double 0, .double (FP.ddiv l y1)] else [.double (FP.ddiv l y0), .double 0]
def own_bc3 (w0 c0 w1 c1 w2 c2 : Int) (l y0 y1 y2 : UInt64) : List Value :=
  if w0 * c1 < w1 * c0 then (if w1 * c2 < w2 * c1 then [.double 0, .double 0, .double (FP.ddiv l y2)] else [.double 0, .double (FP.ddiv l y1), .double 0])
  else (if w0 * c2 < w2 * c0 then [.double 0, .double 0, .double (FP.ddiv l y2)] else [.double (FP.ddiv l y0), .double 0, .double 0])
theorem d5_0 : decode jdk_117_method_8_code 0 = .ok (.dload_n 0, 1) := by decide +kernel
theorem d5_1 : decode jdk_117_method_8_code 1 = .ok (.invokestatic 38, 3) := by decide +kernel
theorem d5_4 : decode jdk_117_method_8_code 4 = .ok (.ldc2_w 111, 3) := by decide +kernel
theorem d5_7 : decode jdk_117_method_8_code 7 = .ok (.dcmp .g, 1) := by decide +kernel
theorem d5_8 : decode jdk_117_method_8_code 8 = .ok (.ifCond .gt 7, 3) := by decide +kernel
theorem d5_11 : decode jdk_117_method_8_code 11 = .ok (.iconst 1, 1) := by decide +kernel
theorem d5_12 : decode jdk_117_method_8_code 12 = .ok (.goto 4, 3) := by decide +kernel
theorem d5_15 : decode jdk_117_method_8_code 15 = .ok (.iconst 0, 1) := by decide +kernel
theorem d5_16 : decode jdk_117_method_8_code 16 = .ok (.ireturn, 1) := by decide +kernel
theorem pn_0 : plainName "java/lang/Double" = true := by first | (simp [plainName, overriddenIn]; done) | decide +kernel
theorem pd_0 : parseMethodDescriptor "(D)D" = some ⟨[.double], some .double⟩ := by decide +kernel
theorem ef_5 (m : MethodId) (x0 : UInt64) : entryFrame m #[(.double x0)] 2 = mkF m 0 #[.val (.double x0), .second] [] := by first | (simp [entryFrame, mkF, argsToLocals, Value.category]; done) | rfl
def Q5 (Z : State) (x1 : UInt64)  (h0 : Heap) (n0 : Nat) (v : Option Value) (h : Heap) (L : List Loc) : Prop := v = some (.int 1) ∧ Fr n0 L ∧ h = h0
set_option maxRecDepth 65536 in
set_option maxHeartbeats 40000000 in
theorem rm5 (l : Launch) (Z : State) (a0 : Array Value) (hw : ∀ d ∈ tables_1, d.before a0 Z = true) (ws : List Jvm.Cond) (x1 : UInt64)  (h0 : Heap) (n0 : Nat) (Z0 : n0 ≤ h0.size) (f1 : Fin64 x1) :
    MetFree l (⟨"java/lang/Double", "isFinite", "(D)Z"⟩ : MethodName) (head1 (Jvm.Cond.code (⟨"java/lang/Double", "isFinite", "(D)Z"⟩ : MethodName) jdk_117_method_8_code 2 (some .boolean) :: ws) ({ frames := 1, cells := 0, slots := 0, locals := 13 } : Room)) (fun a U => a = #[(.double x1)] ∧ Z.Warmed39 U.vm ∧ U.heap = h0) (fun _ _ _ _ _ => True) (fun _ U o U' => ∃ v L, o = .returned v ∧ Q5 Z x1 h0 n0 v U'.heap L ∧ FrameEnd U o U' L ({ frames := 1, cells := 0, slots := 0, locals := 13 } : Room).cells ({ frames := 1, cells := 0, slots := 0, locals := 13 } : Room).slots) := by
  refine MetFree.of_bodySF (plainFor_of_name pn_0) hisR ?_
  intro p e s m args below meth c s₁ Bd hml0 hP hK
  obtain ⟨rfl, hZ, hh⟩ := hP
  have hx := Bd.exec
  have hby := Bd.bytes
  have hml : c.maxLocals = 2 := hml0
  have hown : s.vm.findClass "java/lang/Double" = some m.cls := findClass_of_methodNamed Bd.named
  have hnm := (name_of_methodNamed Bd.named Bd.method).1
  have X : Stand p l e ({ frames := 1, cells := 0, slots := 0, locals := 13 } : Room) s m #[(.double x1)] below meth c s₁ [] 0 0 := Stand.of_body Bd
  have eT : s₁.heap = h0 := by rw [← hh, Bd.state]; rfl
  have N := Fr.nil n0
  have K := Keep.refl h0 []
  refine Go.out ?_
  obtain ⟨T, eTT⟩ : ∃ z, z = s₁ := ⟨_, rfl⟩
  rw [← eTT] at X eT ⊢
  refine Go.by (fun tt_ kk_ => castTop (ef_5 m x1) kk_) ?_
  show Go p.tables e below (T.setTop (mkF m 0 #[.val (.double x1), .second] [])) _
  refine Go.by (fun tt_ kk_ => XS.dloadN X.here hx rfl (hb hby d5_0) rfl kk_) ?_
  show Go p.tables e below (T.setTop (mkF m 1 #[.val (.double x1), .second] [(.double x1)])) _
  obtain ⟨T, X, eT, st⟩ := natS X hx hZ hown (hw _ (List.mem_of_getElem? (i := 31) rfl)) (hw _ (List.mem_of_getElem? (i := 32) rfl)) (hw _ (List.mem_of_getElem? (i := 33) rfl)) (by0 := Jvm.Free.Fl.Abs.absDCode) (hw _ (List.mem_of_getElem? (i := 34) rfl)) (by decide) eT (F := fun a' => a' = #[.double x1] ∧ NoNaN64 x1) (fun hc => Jvm.Free.Fl.Abs.absD_pays x1 hc (by decide) (by decide)) (W := 0) (g := (mkF m 1 #[.val (.double x1), .second] [(.double x1)])) rfl (by rw [hml]; rfl) (argsL := [.double x1]) (rest := []) (lenOf pd_0 rfl) rfl (by show 2 * 0 + _ ≤ _; exact Nat.le_of_eq rfl) (hb hby d5_1) (by decide) (by decide) ⟨rfl, f1.noNaN⟩ rfl
  refine Go.by st ?_
  show Go p.tables e below (T.setTop (mkF m 4 #[.val (.double x1), .second] [(.double (x1 &&& 0x7fffffffffffffff))])) _
  refine Go.by (X.ldc2DoubleC hx hown (mvT hZ (hw _ (List.mem_of_getElem? (i := 35) rfl))) (g := (mkF m 4 #[.val (.double x1), .second] [(.double (x1 &&& 0x7fffffffffffffff))])) rfl (hb hby d5_4)) ?_
  show Go p.tables e below (T.setTop (mkF m 7 #[.val (.double x1), .second] [(.double (9218868437227405311 : UInt64)), (.double (x1 &&& 0x7fffffffffffffff))])) _
  refine Go.by (fun tt_ kk_ => XS.dcmpS X.here hx rfl (hb hby d5_7) rfl rfl kk_) ?_
  show Go p.tables e below (T.setTop (mkF m 8 #[.val (.double x1), .second] [(.int (cmpValue (FP.dcmp (x1 &&& 0x7fffffffffffffff) (9218868437227405311 : UInt64)) .g))])) _
  refine Go.by (fun tt_ kk_ => XS.ifNo X.here hx rfl (hb hby d5_8) rfl ((if0 _ _).trans (flt (own_lemax f1)).2.2.1) kk_) ?_
  show Go p.tables e below (T.setTop (mkF m 11 #[.val (.double x1), .second] [])) _
  refine Go.by (fun tt_ kk_ => XS.iconst X.here hx rfl (hb hby d5_11) kk_) ?_
  show Go p.tables e below (T.setTop (mkF m 12 #[.val (.double x1), .second] [(.int (1 : Int32))])) _
  refine Go.by (fun tt_ kk_ => XS.goto X.here hx rfl (pc0 := 12) (pc' := 16) rfl (hb hby d5_12) (by decide) (by decide) kk_) ?_
  show Go p.tables e below (T.setTop (mkF m 16 #[.val (.double x1), .second] [(.int (1 : Int32))])) _
  exact Go.done X  (v := some (.int (1 : Int32))) (fun h => by rw [Bd.returns] at h; cases h) Bd.notSynchronized (fun fs hr => retN X hx (z := (1 : Int32)) (t := .boolean) Bd.returns (by simp) (hb hby d5_16) hr) (by rw [eT]; exact ⟨rfl, N, rfl⟩) (by decide) (by decide)
theorem d4_0 : decode prog_24_method_2_code 0 = .ok (.dload_n 0, 1) := by decide +kernel
theorem d4_1 : decode prog_24_method_2_code 1 = .ok (.dconst 0, 1) := by decide +kernel
theorem d4_2 : decode prog_24_method_2_code 2 = .ok (.dcmp .l, 1) := by decide +kernel
theorem d4_3 : decode prog_24_method_2_code 3 = .ok (.ifCond .le 14, 3) := by decide +kernel
theorem d4_6 : decode prog_24_method_2_code 6 = .ok (.dload_n 0, 1) := by decide +kernel
theorem d4_7 : decode prog_24_method_2_code 7 = .ok (.invokestatic 7, 3) := by decide +kernel
theorem d4_10 : decode prog_24_method_2_code 10 = .ok (.ifCond .eq 7, 3) := by decide +kernel
theorem d4_13 : decode prog_24_method_2_code 13 = .ok (.iconst 1, 1) := by decide +kernel
theorem d4_14 : decode prog_24_method_2_code 14 = .ok (.goto 4, 3) := by decide +kernel
theorem d4_17 : decode prog_24_method_2_code 17 = .ok (.iconst 0, 1) := by decide +kernel
theorem d4_18 : decode prog_24_method_2_code 18 = .ok (.ireturn, 1) := by decide +kernel
theorem pn_1 : plainName "com/example/pareto_helm/paretohelm/engine/Positive" = true := by first | (simp [plainName, overriddenIn]; done) | decide +kernel
theorem pd_1 : parseMethodDescriptor "(D)Z" = some ⟨[.double], some .boolean⟩ := by decide +kernel
theorem ef_4 (m : MethodId) (x0 : UInt64) : entryFrame m #[(.double x0)] 2 = mkF m 0 #[.val (.double x0), .second] [] := by first | (simp [entryFrame, mkF, argsToLocals, Value.category]; done) | rfl
def Q4 (Z : State) (x1 : UInt64)  (h0 : Heap) (n0 : Nat) (v : Option Value) (h : Heap) (L : List Loc) : Prop := v = some (.int 1) ∧ Fr n0 L ∧ h = h0
set_option maxRecDepth 65536 in
set_option maxHeartbeats 40000000 in
theorem rm4 (l : Launch) (Z : State) (a0 : Array Value) (hw : ∀ d ∈ tables_1, d.before a0 Z = true) (ws : List Jvm.Cond) (x1 : UInt64)  (h0 : Heap) (n0 : Nat) (Z0 : n0 ≤ h0.size) (f1 : Fin64 x1) (b1 : (0 : Int32) < cmpValue (FP.dcmp x1 0) .l) :
    MetFree l (⟨"com/example/pareto_helm/paretohelm/engine/Positive", "holds", "(D)Z"⟩ : MethodName) (head1 (Jvm.Cond.code (⟨"com/example/pareto_helm/paretohelm/engine/Positive", "holds", "(D)Z"⟩ : MethodName) prog_24_method_2_code 2 (some .boolean) :: ws) ({ frames := 2, cells := 0, slots := 0, locals := 26 } : Room)) (fun a U => a = #[(.double x1)] ∧ Z.Warmed39 U.vm ∧ U.heap = h0) (fun _ _ _ _ _ => True) (fun _ U o U' => ∃ v L, o = .returned v ∧ Q4 Z x1 h0 n0 v U'.heap L ∧ FrameEnd U o U' L ({ frames := 2, cells := 0, slots := 0, locals := 26 } : Room).cells ({ frames := 2, cells := 0, slots := 0, locals := 26 } : Room).slots) := by
  refine MetFree.of_bodySF (plainFor_of_name pn_1) hisR ?_
  intro p e s m args below meth c s₁ Bd hml0 hP hK
  obtain ⟨rfl, hZ, hh⟩ := hP
  have hx := Bd.exec
  have hby := Bd.bytes
  have hml : c.maxLocals = 2 := hml0
  have hown : s.vm.findClass "com/example/pareto_helm/paretohelm/engine/Positive" = some m.cls := findClass_of_methodNamed Bd.named
  have hnm := (name_of_methodNamed Bd.named Bd.method).1
  have X : Stand p l e ({ frames := 2, cells := 0, slots := 0, locals := 26 } : Room) s m #[(.double x1)] below meth c s₁ [] 0 0 := Stand.of_body Bd
  have eT : s₁.heap = h0 := by rw [← hh, Bd.state]; rfl
  have N := Fr.nil n0
  have K := Keep.refl h0 []
  refine Go.out ?_
  obtain ⟨T, eTT⟩ : ∃ z, z = s₁ := ⟨_, rfl⟩
  rw [← eTT] at X eT ⊢
  refine Go.by (fun tt_ kk_ => castTop (ef_4 m x1) kk_) ?_
  show Go p.tables e below (T.setTop (mkF m 0 #[.val (.double x1), .second] [])) _
  refine Go.by (fun tt_ kk_ => XS.dloadN X.here hx rfl (hb hby d4_0) rfl kk_) ?_
  show Go p.tables e below (T.setTop (mkF m 1 #[.val (.double x1), .second] [(.double x1)])) _
  refine Go.by (fun tt_ kk_ => XS.dconst0 X.here hx rfl (hb hby d4_1) (v := (0 : UInt64)) rfl kk_) ?_
  show Go p.tables e below (T.setTop (mkF m 2 #[.val (.double x1), .second] [(.double (0 : UInt64)), (.double x1)])) _
  refine Go.by (fun tt_ kk_ => XS.dcmpS X.here hx rfl (hb hby d4_2) rfl rfl kk_) ?_
  show Go p.tables e below (T.setTop (mkF m 3 #[.val (.double x1), .second] [(.int (cmpValue (FP.dcmp x1 (0 : UInt64)) .l))])) _
  refine Go.by (fun tt_ kk_ => XS.ifNo X.here hx rfl (hb hby d4_3) rfl ((if0 _ _).trans (tlt b1).2.2.2) kk_) ?_
  show Go p.tables e below (T.setTop (mkF m 6 #[.val (.double x1), .second] [])) _
  refine Go.by (fun tt_ kk_ => XS.dloadN X.here hx rfl (hb hby d4_6) rfl kk_) ?_
  show Go p.tables e below (T.setTop (mkF m 7 #[.val (.double x1), .second] [(.double x1)])) _
  obtain ⟨_, _, ⟨T, L_, k_, n_⟩, -, X, ⟨Lc_, hQ, l_, y_, z_⟩, st⟩ := Jvm.LawKit.callS X hx (y := (⟨"java/lang/Double", "isFinite", "(D)Z"⟩ : MethodName)) hown (mvT hZ (hw _ (List.mem_of_getElem? (i := 27) rfl))) (mvT hZ (hw _ (List.mem_of_getElem? (i := 28) rfl))) (mvT hZ (hw _ (List.mem_of_getElem? (i := 29) rfl))) (mvT hZ (hw _ (List.mem_of_getElem? (i := 30) rfl))) (by decide) (backOf (W := 0) (rm5 l Z a0 hw [] x1 h0 n0 (Nat.le_trans Z0 K.1) f1) hZ (hw _ (List.mem_of_getElem? (i := 30) rfl)) (hw _ (List.mem_of_getElem? (i := 29) rfl)) (by decide) (by decide)) (g := (mkF m 7 #[.val (.double x1), .second] [(.double x1)])) rfl (by rw [hml]; rfl) (argsL := [(.double x1)]) (rest := []) (lenOf pd_1 rfl) rfl (by show 2 * 0 + _ ≤ _; exact Nat.le_of_eq rfl) (hb hby d4_7) (fun _ _ => ⟨rfl, eT, (by decide : 0 + 0 ≤ _), (by decide : 0 + 0 ≤ _)⟩)
  dsimp only [Pt.U, Pt.locs, Pt.cells, Pt.slots] at X l_ y_ z_ st hQ
  subst l_ y_ z_
  obtain ⟨rfl, Nq, eh⟩ := hQ
  have N := Fr.app N Nq
  have eT := eh
  refine Go.by st ?_
  show Go p.tables e below (T.setTop (mkF m 10 #[.val (.double x1), .second] [(.int (1 : Int32))])) _
  refine Go.by (fun tt_ kk_ => XS.ifNo X.here hx rfl (hb hby d4_10) rfl ((if0 _ _).trans (feq (by decide : ¬ ((1 : Int32) = (0 : Int32)))).1) kk_) ?_
  show Go p.tables e below (T.setTop (mkF m 13 #[.val (.double x1), .second] [])) _
  refine Go.by (fun tt_ kk_ => XS.iconst X.here hx rfl (hb hby d4_13) kk_) ?_
  show Go p.tables e below (T.setTop (mkF m 14 #[.val (.double x1), .second] [(.int (1 : Int32))])) _
  refine Go.by (fun tt_ kk_ => XS.goto X.here hx rfl (pc0 := 14) (pc' := 18) rfl (hb hby d4_14) (by decide) (by decide) kk_) ?_
  show Go p.tables e below (T.setTop (mkF m 18 #[.val (.double x1), .second] [(.int (1 : Int32))])) _
  exact Go.done X  (v := some (.int (1 : Int32))) (fun h => by rw [Bd.returns] at h; cases h) Bd.notSynchronized (fun fs hr => retN X hx (z := (1 : Int32)) (t := .boolean) Bd.returns (by simp) (hb hby d4_18) hr) (by rw [eT]; exact ⟨rfl, N, rfl⟩) (by decide) (by decide)
theorem d3_0 : decode prog_24_method_4_code 0 = .ok (.aload_n 0, 1) := by decide +kernel
theorem d3_1 : decode prog_24_method_4_code 1 = .ok (.arraylength, 1) := by decide +kernel
theorem d3_2 : decode prog_24_method_4_code 2 = .ok (.ifCond .ne 17, 3) := by decide +kernel
theorem d3_5 : decode prog_24_method_4_code 5 = .ok (.new 29, 3) := by decide +kernel
theorem d3_8 : decode prog_24_method_4_code 8 = .ok (.dup, 1) := by decide +kernel
theorem d3_9 : decode prog_24_method_4_code 9 = .ok (.aload_n 1, 1) := by decide +kernel
theorem d3_15 : decode prog_24_method_4_code 15 = .ok (.invokespecial 35, 3) := by decide +kernel
theorem d3_18 : decode prog_24_method_4_code 18 = .ok (.athrow, 1) := by decide +kernel
theorem d3_19 : decode prog_24_method_4_code 19 = .ok (.iconst 0, 1) := by decide +kernel
theorem d3_20 : decode prog_24_method_4_code 20 = .ok (.istore_n 2, 1) := by decide +kernel
theorem d3_21 : decode prog_24_method_4_code 21 = .ok (.iload_n 2, 1) := by decide +kernel
theorem d3_22 : decode prog_24_method_4_code 22 = .ok (.aload_n 0, 1) := by decide +kernel
theorem d3_23 : decode prog_24_method_4_code 23 = .ok (.arraylength, 1) := by decide +kernel
theorem d3_24 : decode prog_24_method_4_code 24 = .ok (.if_icmp .ge 39, 3) := by decide +kernel
theorem d3_27 : decode prog_24_method_4_code 27 = .ok (.aload_n 0, 1) := by decide +kernel
theorem d3_28 : decode prog_24_method_4_code 28 = .ok (.iload_n 2, 1) := by decide +kernel
theorem d3_29 : decode prog_24_method_4_code 29 = .ok (.daload, 1) := by decide +kernel
theorem d3_30 : decode prog_24_method_4_code 30 = .ok (.invokestatic 38, 3) := by decide +kernel
theorem d3_33 : decode prog_24_method_4_code 33 = .ok (.ifCond .ne 24, 3) := by decide +kernel
theorem d3_36 : decode prog_24_method_4_code 36 = .ok (.new 29, 3) := by decide +kernel
theorem d3_39 : decode prog_24_method_4_code 39 = .ok (.dup, 1) := by decide +kernel
theorem d3_40 : decode prog_24_method_4_code 40 = .ok (.aload_n 1, 1) := by decide +kernel
theorem d3_41 : decode prog_24_method_4_code 41 = .ok (.iload_n 2, 1) := by decide +kernel
theorem d3_42 : decode prog_24_method_4_code 42 = .ok (.iconst 1, 1) := by decide +kernel
theorem d3_43 : decode prog_24_method_4_code 43 = .ok (.iadd, 1) := by decide +kernel
theorem d3_44 : decode prog_24_method_4_code 44 = .ok (.aload_n 0, 1) := by decide +kernel
theorem d3_45 : decode prog_24_method_4_code 45 = .ok (.iload_n 2, 1) := by decide +kernel
theorem d3_46 : decode prog_24_method_4_code 46 = .ok (.daload, 1) := by decide +kernel
theorem d3_47 : decode prog_24_method_4_code 47 = .ok (.aload_n 1, 1) := by decide +kernel
theorem d3_53 : decode prog_24_method_4_code 53 = .ok (.invokespecial 35, 3) := by decide +kernel
theorem d3_56 : decode prog_24_method_4_code 56 = .ok (.athrow, 1) := by decide +kernel
theorem d3_57 : decode prog_24_method_4_code 57 = .ok (.iinc 2 1, 3) := by decide +kernel
theorem d3_60 : decode prog_24_method_4_code 60 = .ok (.goto (-39), 3) := by decide +kernel
theorem d3_63 : decode prog_24_method_4_code 63 = .ok (.aload_n 0, 1) := by decide +kernel
theorem d3_64 : decode prog_24_method_4_code 64 = .ok (.invokevirtual 46, 3) := by decide +kernel
theorem d3_67 : decode prog_24_method_4_code 67 = .ok (.checkcast 47, 3) := by decide +kernel
theorem d3_70 : decode prog_24_method_4_code 70 = .ok (.areturn, 1) := by decide +kernel
theorem ef_3 (m : MethodId) (x0 : Addr) (x1 : Addr) : entryFrame m #[(.ref x0), (.ref x1)] 3 = mkF m 0 #[.val (.ref x0), .val (.ref x1), .unset] [] := by first | (simp [entryFrame, mkF, argsToLocals, Value.category]; done) | rfl
def Q3_1 (Z : State) (a1 : Addr) (a2 : Addr) (y0 : UInt64) (kk : ClassId) (h0 : Heap) (n0 : Nat) (v : Option Value) (h : Heap) (L : List Loc) : Prop := ∃ b : Addr, n0 ≤ b ∧ h0.size ≤ b ∧ v = some (.ref b) ∧ Fr n0 L ∧ Keep h0 h [] ∧ Arv Z h b kk .double (1 : Int32) [(.double y0)] (.double (0 : UInt64))
set_option maxRecDepth 65536 in
set_option maxHeartbeats 40000000 in
theorem rm3_1 (l : Launch) (Z : State) (a0 : Array Value) (hw : ∀ d ∈ tables_1, d.before a0 Z = true) (ws : List Jvm.Cond) (a1 : Addr) (a2 : Addr) (y0 : UInt64) (kk : ClassId) (h0 : Heap) (n0 : Nat) (Z0 : n0 ≤ h0.size) (V_a1 : Arv Z h0 a1 kk .double (1 : Int32) [(.double y0)] (.double (0 : UInt64))) (E_a1 : Exa Z h0 a1 "[D") (f0 : Fin64 y0) (b0 : (0 : Int32) < cmpValue (FP.dcmp y0 0) .l) :
    MetFree l (⟨"com/example/pareto_helm/paretohelm/engine/Positive", "copyOf", "([DLjava/lang/String;)[D"⟩ : MethodName) (head1 (Jvm.Cond.code (⟨"com/example/pareto_helm/paretohelm/engine/Positive", "copyOf", "([DLjava/lang/String;)[D"⟩ : MethodName) prog_24_method_4_code 3 (some (.array .double)) :: ws) ({ frames := 3, cells := 1, slots := 1, locals := 39 } : Room)) (fun a U => a = #[(.ref a1), (.ref a2)] ∧ Z.Warmed39 U.vm ∧ U.heap = h0) (fun _ _ _ _ _ => True) (fun _ U o U' => ∃ v L, o = .returned v ∧ Q3_1 Z a1 a2 y0 kk h0 n0 v U'.heap L ∧ FrameEnd U o U' L ({ frames := 3, cells := 1, slots := 1, locals := 39 } : Room).cells ({ frames := 3, cells := 1, slots := 1, locals := 39 } : Room).slots) := by
  refine MetFree.of_bodySF (plainFor_of_name pn_1) hisR ?_
  intro p e s m args below meth c s₁ Bd hml0 hP hK
  obtain ⟨rfl, hZ, hh⟩ := hP
  have hx := Bd.exec
  have hby := Bd.bytes
  have hml : c.maxLocals = 3 := hml0
  have hown : s.vm.findClass "com/example/pareto_helm/paretohelm/engine/Positive" = some m.cls := findClass_of_methodNamed Bd.named
  have hnm := (name_of_methodNamed Bd.named Bd.method).1
  have X : Stand p l e ({ frames := 3, cells := 1, slots := 1, locals := 39 } : Room) s m #[(.ref a1), (.ref a2)] below meth c s₁ [] 0 0 := Stand.of_body Bd
  have eT : s₁.heap = h0 := by rw [← hh, Bd.state]; rfl
  have N := Fr.nil n0
  have K := Keep.refl h0 []
  refine Go.out ?_
  obtain ⟨T, eTT⟩ : ∃ z, z = s₁ := ⟨_, rfl⟩
  rw [← eTT] at X eT ⊢
  refine Go.by (fun tt_ kk_ => castTop (ef_3 m a1 a2) kk_) ?_
  show Go p.tables e below (T.setTop (mkF m 0 #[.val (.ref a1), .val (.ref a2), .unset] [])) _
  refine Go.by (fun tt_ kk_ => XS.aloadN X.here hx rfl (hb hby d3_0) rfl rfl kk_) ?_
  show Go p.tables e below (T.setTop (mkF m 1 #[.val (.ref a1), .val (.ref a2), .unset] [(.ref a1)])) _
  have Vo_ := V_a1
  obtain ⟨cl_, Ar_, q_, S_, N_, H_, G_⟩ := Vo_
  refine Go.by (X.arraylength hx (by rw [eT]; exact Ar_.1) (State.isArrayOf_alike hZ.alike Ar_.2.1) (g := (mkF m 1 #[.val (.ref a1), .val (.ref a2), .unset] [(.ref a1)])) rfl rfl (hb hby d3_1)) ?_
  rw [len_of S_ N_]
  show Go p.tables e below (T.setTop (mkF m 2 #[.val (.ref a1), .val (.ref a2), .unset] [(.int (1 : Int32))])) _
  refine Go.by (fun tt_ kk_ => XS.ifYes X.here hx rfl (pc0 := 2) (pc' := 19) rfl (hb hby d3_2) rfl ((if0 _ _).trans (feq (by decide : ¬ ((1 : Int32) = (0 : Int32)))).2) (by decide) (by decide) kk_) ?_
  show Go p.tables e below (T.setTop (mkF m 19 #[.val (.ref a1), .val (.ref a2), .unset] [])) _
  refine Go.by (fun tt_ kk_ => XS.iconst X.here hx rfl (hb hby d3_19) kk_) ?_
  show Go p.tables e below (T.setTop (mkF m 20 #[.val (.ref a1), .val (.ref a2), .unset] [(.int (0 : Int32))])) _
  refine Go.by (fun tt_ kk_ => XS.istoreN X.here hx rfl (hb hby d3_20) rfl (l' := #[.val (.ref a1), .val (.ref a2), .val (.int (0 : Int32))]) rfl kk_) ?_
  show Go p.tables e below (T.setTop (mkF m 21 #[.val (.ref a1), .val (.ref a2), .val (.int (0 : Int32))] [])) _
  refine Go.by (fun tt_ kk_ => XS.iloadN X.here hx rfl (hb hby d3_21) rfl kk_) ?_
  show Go p.tables e below (T.setTop (mkF m 22 #[.val (.ref a1), .val (.ref a2), .val (.int (0 : Int32))] [(.int (0 : Int32))])) _
  refine Go.by (fun tt_ kk_ => XS.aloadN X.here hx rfl (hb hby d3_22) rfl rfl kk_) ?_
  show Go p.tables e below (T.setTop (mkF m 23 #[.val (.ref a1), .val (.ref a2), .val (.int (0 : Int32))] [(.ref a1), (.int (0 : Int32))])) _
  have Vo_ := V_a1
  obtain ⟨cl_, Ar_, q_, S_, N_, H_, G_⟩ := Vo_
  refine Go.by (X.arraylength hx (by rw [eT]; exact Ar_.1) (State.isArrayOf_alike hZ.alike Ar_.2.1) (g := (mkF m 23 #[.val (.ref a1), .val (.ref a2), .val (.int (0 : Int32))] [(.ref a1), (.int (0 : Int32))])) rfl rfl (hb hby d3_23)) ?_
  rw [len_of S_ N_]
  show Go p.tables e below (T.setTop (mkF m 24 #[.val (.ref a1), .val (.ref a2), .val (.int (0 : Int32))] [(.int (1 : Int32)), (.int (0 : Int32))])) _
  refine Go.by (fun tt_ kk_ => XS.icmpNo X.here hx rfl (hb hby d3_24) rfl (tlt (by decide : (0 : Int32) < (1 : Int32))).2.1 kk_) ?_
  show Go p.tables e below (T.setTop (mkF m 27 #[.val (.ref a1), .val (.ref a2), .val (.int (0 : Int32))] [])) _
  refine Go.by (fun tt_ kk_ => XS.aloadN X.here hx rfl (hb hby d3_27) rfl rfl kk_) ?_
  show Go p.tables e below (T.setTop (mkF m 28 #[.val (.ref a1), .val (.ref a2), .val (.int (0 : Int32))] [(.ref a1)])) _
  refine Go.by (fun tt_ kk_ => XS.iloadN X.here hx rfl (hb hby d3_28) rfl kk_) ?_
  show Go p.tables e below (T.setTop (mkF m 29 #[.val (.ref a1), .val (.ref a2), .val (.int (0 : Int32))] [(.int (0 : Int32)), (.ref a1)])) _
  have Vo_ := V_a1
  obtain ⟨cl_, Ar_, q_, S_, N_, H_, G_⟩ := Vo_
  refine Go.by (X.daload hx (j := (0 : Int32)) (v := (.double y0)) (by rw [eT]; exact Ar_.1) (State.isArrayOf_alike hZ.alike Ar_.2.1) Ar_.2.2 (inb_of S_ ⟨by decide, by decide⟩) (Has.at H_ (inb_of S_ ⟨by decide, by decide⟩) rfl) (g := (mkF m 29 #[.val (.ref a1), .val (.ref a2), .val (.int (0 : Int32))] [(.int (0 : Int32)), (.ref a1)])) rfl rfl (hb hby d3_29)) ?_
  show Go p.tables e below (T.setTop (mkF m 30 #[.val (.ref a1), .val (.ref a2), .val (.int (0 : Int32))] [(.double y0)])) _
  obtain ⟨_, _, ⟨T, L_, k_, n_⟩, -, X, ⟨Lc_, hQ, l_, y_, z_⟩, st⟩ := Jvm.LawKit.callS X hx (y := (⟨"com/example/pareto_helm/paretohelm/engine/Positive", "holds", "(D)Z"⟩ : MethodName)) hown (mvT hZ (hw _ (List.mem_of_getElem? (i := 24) rfl))) (mvT hZ (hw _ (List.mem_of_getElem? (i := 25) rfl))) (mvT hZ (hw _ (List.mem_of_getElem? (i := 22) rfl))) (mvT hZ (hw _ (List.mem_of_getElem? (i := 26) rfl))) (by decide) (backOf (W := 0) (rm4 l Z a0 hw [] y0 h0 n0 (Nat.le_trans Z0 K.1) f0 b0) hZ (hw _ (List.mem_of_getElem? (i := 26) rfl)) (hw _ (List.mem_of_getElem? (i := 22) rfl)) (by decide) (by decide)) (g := (mkF m 30 #[.val (.ref a1), .val (.ref a2), .val (.int (0 : Int32))] [(.double y0)])) rfl (by rw [hml]; rfl) (argsL := [(.double y0)]) (rest := []) (lenOf pd_1 rfl) rfl (by show 2 * 0 + _ ≤ _; exact Nat.le_of_eq rfl) (hb hby d3_30) (fun _ _ => ⟨rfl, eT, (by decide : 0 + 0 ≤ _), (by decide : 0 + 0 ≤ _)⟩)
  dsimp only [Pt.U, Pt.locs, Pt.cells, Pt.slots] at X l_ y_ z_ st hQ
  subst l_ y_ z_
  obtain ⟨rfl, Nq, eh⟩ := hQ
  have N := Fr.app N Nq
  have eT := eh
  refine Go.by st ?_
  show Go p.tables e below (T.setTop (mkF m 33 #[.val (.ref a1), .val (.ref a2), .val (.int (0 : Int32))] [(.int (1 : Int32))])) _
  refine Go.by (fun tt_ kk_ => XS.ifYes X.here hx rfl (pc0 := 33) (pc' := 57) rfl (hb hby d3_33) rfl ((if0 _ _).trans (feq (by decide : ¬ ((1 : Int32) = (0 : Int32)))).2) (by decide) (by decide) kk_) ?_
  show Go p.tables e below (T.setTop (mkF m 57 #[.val (.ref a1), .val (.ref a2), .val (.int (0 : Int32))] [])) _
  refine Go.by (fun tt_ kk_ => XS.iinc X.here hx rfl (hb hby d3_57) rfl (l' := #[.val (.ref a1), .val (.ref a2), .val (.int (1 : Int32))]) rfl kk_) ?_
  show Go p.tables e below (T.setTop (mkF m 60 #[.val (.ref a1), .val (.ref a2), .val (.int (1 : Int32))] [])) _
  refine Go.by (fun tt_ kk_ => XS.goto X.here hx rfl (pc0 := 60) (pc' := 21) rfl (hb hby d3_60) (by decide) (by decide) kk_) ?_
  show Go p.tables e below (T.setTop (mkF m 21 #[.val (.ref a1), .val (.ref a2), .val (.int (1 : Int32))] [])) _
  refine Go.by (fun tt_ kk_ => XS.iloadN X.here hx rfl (hb hby d3_21) rfl kk_) ?_
  show Go p.tables e below (T.setTop (mkF m 22 #[.val (.ref a1), .val (.ref a2), .val (.int (1 : Int32))] [(.int (1 : Int32))])) _
  refine Go.by (fun tt_ kk_ => XS.aloadN X.here hx rfl (hb hby d3_22) rfl rfl kk_) ?_
  show Go p.tables e below (T.setTop (mkF m 23 #[.val (.ref a1), .val (.ref a2), .val (.int (1 : Int32))] [(.ref a1), (.int (1 : Int32))])) _
  have Vo_ := V_a1
  obtain ⟨cl_, Ar_, q_, S_, N_, H_, G_⟩ := Vo_
  refine Go.by (X.arraylength hx (by rw [eT]; exact Ar_.1) (State.isArrayOf_alike hZ.alike Ar_.2.1) (g := (mkF m 23 #[.val (.ref a1), .val (.ref a2), .val (.int (1 : Int32))] [(.ref a1), (.int (1 : Int32))])) rfl rfl (hb hby d3_23)) ?_
  rw [len_of S_ N_]
  show Go p.tables e below (T.setTop (mkF m 24 #[.val (.ref a1), .val (.ref a2), .val (.int (1 : Int32))] [(.int (1 : Int32)), (.int (1 : Int32))])) _
  refine Go.by (fun tt_ kk_ => XS.icmpYes X.here hx rfl (pc0 := 24) (pc' := 63) rfl (hb hby d3_24) rfl (flt (by decide : ¬ ((1 : Int32) < (1 : Int32)))).2.1 (by decide) (by decide) kk_) ?_
  show Go p.tables e below (T.setTop (mkF m 63 #[.val (.ref a1), .val (.ref a2), .val (.int (1 : Int32))] [])) _
  refine Go.by (fun tt_ kk_ => XS.aloadN X.here hx rfl (hb hby d3_63) rfl rfl kk_) ?_
  show Go p.tables e below (T.setTop (mkF m 64 #[.val (.ref a1), .val (.ref a2), .val (.int (1 : Int32))] [(.ref a1)])) _
  obtain ⟨T, h2, X, eT, E_, A_, Ea_, st⟩ := cloneH X hx hZ hown (hw _ (List.mem_of_getElem? (i := 36) rfl)) (hw _ (List.mem_of_getElem? (i := 37) rfl)) (hw _ (List.mem_of_getElem? (i := 41) rfl)) (hw _ (List.mem_of_getElem? (i := 39) rfl)) (hw _ (List.mem_of_getElem? (i := 40) rfl)) (hw _ (List.mem_of_getElem? (i := 42) rfl)) eT (Arv.arh V_a1) E_a1 (g := (mkF m 64 #[.val (.ref a1), .val (.ref a2), .val (.int (1 : Int32))] [(.ref a1)])) rfl (by rw [hml]; rfl) rfl (hb hby d3_64) (by decide) (W := 0) (cap := 1) (by show 2 * 0 + _ ≤ _; exact Nat.le_of_eq rfl) (by decide) (by decide) (by decide) (by decide)
  obtain ⟨b2, g_b2'⟩ : ∃ z, z = h0.size := ⟨_, rfl⟩
  rw [← g_b2'] at A_ Ea_ st
  have ne_a1_b2 : a1 ≠ b2 := Nat.ne_of_lt (Nat.lt_of_lt_of_le V_a1.lt (Nat.le_of_eq g_b2'.symm))
  have ne_b2_a1 : b2 ≠ a1 := Ne.symm ne_a1_b2
  have g_b2 : n0 ≤ b2 := Nat.le_trans Z0 (Nat.le_trans K.1 (Nat.le_of_eq g_b2'.symm))
  have sz_b2 : h0.size ≤ b2 := Nat.le_trans K.1 (Nat.le_of_eq g_b2'.symm)
  have K := K.ext E_
  have V_a1 := Arv.ext V_a1 E_
  have E_a1 := Exa.ext E_ E_a1
  have V_b2 : Arv Z h2 b2 kk .double (1 : Int32) [(.double y0)] (.double (0 : UInt64)) := A_
  have E_b2 := Ea_
  refine Go.by st ?_
  show Go p.tables e below (T.setTop (mkF m 67 #[.val (.ref a1), .val (.ref a2), .val (.int (1 : Int32))] [(.ref b2)])) _
  obtain ⟨T, X, eT, st⟩ := castY X hx hZ hown (hw _ (List.mem_of_getElem? (i := 43) rfl)) eT (Ins.self E_b2) (g := (mkF m 67 #[.val (.ref a1), .val (.ref a2), .val (.int (1 : Int32))] [(.ref b2)])) rfl rfl (hb hby d3_67)
  refine Go.by st ?_
  show Go p.tables e below (T.setTop (mkF m 70 #[.val (.ref a1), .val (.ref a2), .val (.int (1 : Int32))] [(.ref b2)])) _
  exact Go.done X  (v := some (.ref b2)) (fun h => by rw [Bd.returns] at h; cases h) Bd.notSynchronized (fun fs hr => retOut X hx Bd.returns rfl (by simp [Value.isRef, FieldType.isReference]) (hb hby d3_70) hr) (by rw [eT]; exact ⟨b2, g_b2, sz_b2, rfl, N, K, V_b2⟩) (by decide) (by decide)
theorem d1_0 : decode prog_5_method_1_code 0 = .ok (.aload_n 0, 1) := by decide +kernel
theorem d1_1 : decode prog_5_method_1_code 1 = .ok (.invokespecial 1, 3) := by decide +kernel
theorem d1_4 : decode prog_5_method_1_code 4 = .ok (.aload_n 0, 1) := by decide +kernel
theorem d1_5 : decode prog_5_method_1_code 5 = .ok (.aload_n 1, 1) := by decide +kernel
theorem d1_6 : decode prog_5_method_1_code 6 = .ok (.ldc 7, 2) := by decide +kernel
theorem d1_8 : decode prog_5_method_1_code 8 = .ok (.invokestatic 9, 3) := by decide +kernel
theorem d1_11 : decode prog_5_method_1_code 11 = .ok (.putfield 15, 3) := by decide +kernel
theorem d1_14 : decode prog_5_method_1_code 14 = .ok (.goto 25, 3) := by decide +kernel
theorem d1_17 : decode prog_5_method_1_code 17 = .ok (.astore 4, 2) := by decide +kernel
theorem d1_19 : decode prog_5_method_1_code 19 = .ok (.new 21, 3) := by decide +kernel
theorem d1_22 : decode prog_5_method_1_code 22 = .ok (.dup, 1) := by decide +kernel
theorem d1_23 : decode prog_5_method_1_code 23 = .ok (.aload 4, 2) := by decide +kernel
theorem d1_25 : decode prog_5_method_1_code 25 = .ok (.invokevirtual 23, 3) := by decide +kernel
theorem d1_33 : decode prog_5_method_1_code 33 = .ok (.aload 4, 2) := by decide +kernel
theorem d1_35 : decode prog_5_method_1_code 35 = .ok (.invokespecial 31, 3) := by decide +kernel
theorem d1_38 : decode prog_5_method_1_code 38 = .ok (.athrow, 1) := by decide +kernel
theorem d1_39 : decode prog_5_method_1_code 39 = .ok (.dload_n 2, 1) := by decide +kernel
theorem d1_40 : decode prog_5_method_1_code 40 = .ok (.invokestatic 34, 3) := by decide +kernel
theorem d1_43 : decode prog_5_method_1_code 43 = .ok (.ifCond .ne 17, 3) := by decide +kernel
theorem d1_46 : decode prog_5_method_1_code 46 = .ok (.new 21, 3) := by decide +kernel
theorem d1_49 : decode prog_5_method_1_code 49 = .ok (.dup, 1) := by decide +kernel
theorem d1_50 : decode prog_5_method_1_code 50 = .ok (.dload_n 2, 1) := by decide +kernel
theorem d1_56 : decode prog_5_method_1_code 56 = .ok (.invokespecial 41, 3) := by decide +kernel
theorem d1_59 : decode prog_5_method_1_code 59 = .ok (.athrow, 1) := by decide +kernel
theorem d1_60 : decode prog_5_method_1_code 60 = .ok (.aload_n 0, 1) := by decide +kernel
theorem d1_61 : decode prog_5_method_1_code 61 = .ok (.dload_n 2, 1) := by decide +kernel
theorem d1_62 : decode prog_5_method_1_code 62 = .ok (.putfield 44, 3) := by decide +kernel
theorem d1_65 : decode prog_5_method_1_code 65 = .ok (.return_, 1) := by decide +kernel
theorem pn_2 : plainName "com/example/pareto_helm/paretohelm/engine/Budget" = true := by first | (simp [plainName, overriddenIn]; done) | decide +kernel
theorem pd_2 : parseMethodDescriptor "([DLjava/lang/String;)[D" = some ⟨[(.array .double), (.object "java/lang/String")], some (.array .double)⟩ := by decide +kernel
theorem ef_1 (m : MethodId) (x0 : Addr) (x1 : Addr) (x2 : UInt64) : entryFrame m #[(.ref x0), (.ref x1), (.double x2)] 5 = mkF m 0 #[.val (.ref x0), .val (.ref x1), .val (.double x2), .second, .unset] [] := by first | (simp [entryFrame, mkF, argsToLocals, Value.category]; done) | rfl
def Q1_1 (Z : State) (a1 : Addr) (a2 : Addr) (x3 : UInt64) (y0 : UInt64) (kk : ClassId) (h0 : Heap) (n0 : Nat) (v : Option Value) (h : Heap) (L : List Loc) : Prop := v = none ∧ Fr n0 L ∧ Keep h0 h [a1] ∧ Exa Z h a1 "com/example/pareto_helm/paretohelm/engine/Budget" ∧ ∃ b : Addr, Fld Z h a1 "com/example/pareto_helm/paretohelm/engine/Budget" "costs" "[D" (.ref b) ∧ Fld Z h a1 "com/example/pareto_helm/paretohelm/engine/Budget" "limit" "D" (.double x3) ∧ Arv Z h b kk .double (1 : Int32) [(.double y0)] (.double (0 : UInt64))
set_option maxRecDepth 65536 in
set_option maxHeartbeats 40000000 in
theorem rm1_1 (l : Launch) (Z : State) (a0 : Array Value) (hw : ∀ d ∈ tables_1, d.before a0 Z = true) (ws : List Jvm.Cond) (a1 : Addr) (a2 : Addr) (x3 : UInt64) (y0 : UInt64) (kk : ClassId) (h0 : Heap) (n0 : Nat) (Z0 : n0 ≤ h0.size) (E_a1 : Exa Z h0 a1 "com/example/pareto_helm/paretohelm/engine/Budget") (g_a1 : n0 ≤ a1) (F_costs_a1 : Fld Z h0 a1 "com/example/pareto_helm/paretohelm/engine/Budget" "costs" "[D" .null) (F_limit_a1 : Fld Z h0 a1 "com/example/pareto_helm/paretohelm/engine/Budget" "limit" "D" (.double (0 : UInt64))) (ne_a2_a1 : a2 ≠ a1) (V_a2 : Arv Z h0 a2 kk .double (1 : Int32) [(.double y0)] (.double (0 : UInt64))) (E_a2 : Exa Z h0 a2 "[D") (fl : Fin64 x3) (bl : (0 : Int32) < cmpValue (FP.dcmp x3 0) .l) (f0 : Fin64 y0) (b0 : (0 : Int32) < cmpValue (FP.dcmp y0 0) .l) :
    MetFree l (⟨"com/example/pareto_helm/paretohelm/engine/Budget", "<init>", "([DD)V"⟩ : MethodName) (head1 (Jvm.Cond.codeWith (⟨"com/example/pareto_helm/paretohelm/engine/Budget", "<init>", "([DD)V"⟩ : MethodName) prog_5_method_1_code 5 none [((4 : Nat), (14 : Nat), (17 : Nat), (21 : Nat))] :: ws) ({ frames := 4, cells := 3, slots := 21, locals := 60 } : Room)) (fun a U => a = #[(.ref a1), (.ref a2), (.double x3)] ∧ Z.Warmed39 U.vm ∧ U.heap = h0) (fun _ _ _ _ _ => True) (fun _ U o U' => ∃ v L, o = .returned v ∧ Q1_1 Z a1 a2 x3 y0 kk h0 n0 v U'.heap L ∧ ReturnedEndW U o U' L ({ frames := 4, cells := 3, slots := 21, locals := 60 } : Room).cells ({ frames := 4, cells := 3, slots := 21, locals := 60 } : Room).slots) := by
  refine MetFree.of_bodySF (plainFor_of_name pn_2) hisWith ?_
  intro p e s m args below meth c s₁ Bd hml0 hP hK
  obtain ⟨rfl, hZ, hh⟩ := hP
  have hx := Bd.exec
  have hby := Bd.bytes
  have hml : c.maxLocals = 5 := hml0
  have hown : s.vm.findClass "com/example/pareto_helm/paretohelm/engine/Budget" = some m.cls := findClass_of_methodNamed Bd.named
  have hnm := (name_of_methodNamed Bd.named Bd.method).1
  have X : Stand p l e ({ frames := 4, cells := 3, slots := 21, locals := 60 } : Room) s m #[(.ref a1), (.ref a2), (.double x3)] below meth c s₁ [] 0 0 := Stand.of_body Bd
  have eT : s₁.heap = h0 := by rw [← hh, Bd.state]; rfl
  have N := Fr.nil n0
  have K := Keep.refl h0 [a1]
  have X : Stand p l e ({ frames := 4, cells := 3, slots := 21, locals := 60 } : Room) (s.setVm s.vm) m #[(.ref a1), (.ref a2), (.double x3)] below meth c s₁ [] 0 0 := X
  have hS : s.Since s.vm h0.size := (State.WarmedH.refl s).since _
  have hk : h0.size ≤ h0.size := Nat.le_refl _
  have hZ : Z.Warmed39 (s.setVm s.vm).vm := hZ
  have hown : (s.setVm s.vm).vm.findClass "com/example/pareto_helm/paretohelm/engine/Budget" = some m.cls := hown
  have wS : ∀ a ∈ Bundle.stringAtoms, a.before a0 Z = true := fun a ha => by
    simp only [Bundle.stringAtoms, List.mem_cons, List.not_mem_nil, or_false] at ha
    rcases ha with rfl | rfl | rfl | rfl | rfl | rfl | rfl
    · exact (hw _ (List.mem_of_getElem? (i := 13) rfl))
    · exact (hw _ (List.mem_of_getElem? (i := 14) rfl))
    · exact (hw _ (List.mem_of_getElem? (i := 15) rfl))
    · exact (hw _ (List.mem_of_getElem? (i := 16) rfl))
    · exact (hw _ (List.mem_of_getElem? (i := 17) rfl))
    · exact (hw _ (List.mem_of_getElem? (i := 18) rfl))
    · exact (hw _ (List.mem_of_getElem? (i := 19) rfl))
  refine Go.out ?_
  obtain ⟨T, eTT⟩ : ∃ z, z = s₁ := ⟨_, rfl⟩
  rw [← eTT] at X eT ⊢
  refine Go.by (fun tt_ kk_ => castTop (ef_1 m a1 a2 x3) kk_) ?_
  show Go p.tables e below (T.setTop (mkF m 0 #[.val (.ref a1), .val (.ref a2), .val (.double x3), .second, .unset] [])) _
  refine Go.by (fun tt_ kk_ => XS.aloadN X.here hx rfl (hb hby d1_0) rfl rfl kk_) ?_
  show Go p.tables e below (T.setTop (mkF m 1 #[.val (.ref a1), .val (.ref a2), .val (.double x3), .second, .unset] [(.ref a1)])) _
  obtain ⟨T, X, eT, st⟩ := initO X hx hZ hown (hw _ (List.mem_of_getElem? (i := 9) rfl)) (hw _ (List.mem_of_getElem? (i := 10) rfl)) (hw _ (List.mem_of_getElem? (i := 11) rfl)) eT (g := (mkF m 1 #[.val (.ref a1), .val (.ref a2), .val (.double x3), .second, .unset] [(.ref a1)])) rfl (by rw [hml]; rfl) rfl (hb hby d1_1) (by decide) (W := 0) (by show 2 * 0 + _ ≤ _; exact Nat.le_of_eq rfl) (by decide)
  refine Go.by st ?_
  show Go p.tables e below (T.setTop (mkF m 4 #[.val (.ref a1), .val (.ref a2), .val (.double x3), .second, .unset] [])) _
  refine Go.by (fun tt_ kk_ => XS.aloadN X.here hx rfl (hb hby d1_4) rfl rfl kk_) ?_
  show Go p.tables e below (T.setTop (mkF m 5 #[.val (.ref a1), .val (.ref a2), .val (.double x3), .second, .unset] [(.ref a1)])) _
  refine Go.by (fun tt_ kk_ => XS.aloadN X.here hx rfl (hb hby d1_5) rfl rfl kk_) ?_
  show Go p.tables e below (T.setTop (mkF m 6 #[.val (.ref a1), .val (.ref a2), .val (.double x3), .second, .unset] [(.ref a2), (.ref a1)])) _
  obtain ⟨lit2, T, h1, k1_, X, eT, E_, hS, hk, hZ, hown, st⟩ := ldcS X hx hZ hown (hw _ (List.mem_of_getElem? (i := 12) rfl)) wS eT hS hk (g := (mkF m 6 #[.val (.ref a1), .val (.ref a2), .val (.double x3), .second, .unset] [(.ref a2), (.ref a1)])) rfl (hb hby d1_6) (n := 16) (by decide) (by decide) (by decide) (by decide)
  have V_a2 := Arv.ext V_a2 E_
  have E_a2 := Exa.ext E_ E_a2
  have E_a1 := Exa.ext E_ E_a1
  have F_costs_a1 := Fld.ext E_ F_costs_a1
  have F_limit_a1 := Fld.ext E_ F_limit_a1
  have K := K.ext E_
  refine Go.by st ?_
  show Go p.tables e below (T.setTop (mkF m 8 #[.val (.ref a1), .val (.ref a2), .val (.double x3), .second, .unset] [(.ref lit2), (.ref a2), (.ref a1)])) _
  have lt_a1 := E_a1.lt
  obtain ⟨_, _, ⟨T, L_, k_, n_⟩, -, X, ⟨Lc_, hQ, l_, y_, z_⟩, st⟩ := Jvm.LawKit.callS X hx (y := (⟨"com/example/pareto_helm/paretohelm/engine/Positive", "copyOf", "([DLjava/lang/String;)[D"⟩ : MethodName)) hown (mvT hZ (hw _ (List.mem_of_getElem? (i := 20) rfl))) (mvT hZ (hw _ (List.mem_of_getElem? (i := 21) rfl))) (mvT hZ (hw _ (List.mem_of_getElem? (i := 22) rfl))) (mvT hZ (hw _ (List.mem_of_getElem? (i := 23) rfl))) (by decide) (backOf (W := 1) (rm3_1 l Z a0 hw [] a2 lit2 y0 kk h1 n0 (Nat.le_trans Z0 K.1) V_a2 E_a2 f0 b0) hZ (hw _ (List.mem_of_getElem? (i := 23) rfl)) (hw _ (List.mem_of_getElem? (i := 22) rfl)) (by decide) (by decide)) (g := (mkF m 8 #[.val (.ref a1), .val (.ref a2), .val (.double x3), .second, .unset] [(.ref lit2), (.ref a2), (.ref a1)])) rfl (by rw [hml]; rfl) (argsL := [(.ref a2), (.ref lit2)]) (rest := [(.ref a1)]) (lenOf pd_2 rfl) rfl (by show 2 * 0 + _ ≤ _; exact Nat.le_of_eq rfl) (hb hby d1_8) (fun _ _ => ⟨rfl, eT, (by decide : 2 + 1 ≤ _), (by decide : 20 + 1 ≤ _)⟩)
  dsimp only [Pt.U, Pt.locs, Pt.cells, Pt.slots] at X l_ y_ z_ st hQ
  subst l_ y_ z_
  obtain ⟨h4, eT⟩ : ∃ z, T.heap = z := ⟨_, rfl⟩
  rw [eT] at hQ
  obtain ⟨b3, g_b3, sq_b3, rfl, Nq, Kq, V_b3⟩ := hQ
  have N := Fr.app N Nq
  have V_a2 := Arv.keep V_a2 Kq nin0
  have E_a2 := Exa.keep E_a2 Kq
  have E_a1 := Exa.keep E_a1 Kq
  have F_costs_a1 := Fld.keep F_costs_a1 Kq nin0
  have F_limit_a1 := Fld.keep F_limit_a1 Kq nin0
  have sz_b3 : h0.size ≤ b3 := Nat.le_trans K.1 sq_b3
  have K := K.trans Kq all0
  have ne_a1_b3 : a1 ≠ b3 := Nat.ne_of_lt (Nat.lt_of_lt_of_le lt_a1 sq_b3)
  have ne_b3_a1 := Ne.symm ne_a1_b3
  have hk := Nat.le_trans hk Kq.1
  refine Go.by st ?_
  show Go p.tables e below (T.setTop (mkF m 11 #[.val (.ref a1), .val (.ref a2), .val (.double x3), .second, .unset] [(.ref b3), (.ref a1)])) _
  obtain ⟨T, h5, X, eT, Wh5, st⟩ := putF X hx hZ hown (host := "") (Or.inl (hw _ (List.mem_of_getElem? (i := 45) rfl))) Via.refl eT F_costs_a1 E_a1 (Or.inr ⟨(hw _ (List.mem_of_getElem? (i := 46) rfl)), rfl, hnm⟩) (hw _ (List.mem_of_getElem? (i := 4) rfl)) (ty := (.array .double)) (by decide) rfl rfl (g := (mkF m 11 #[.val (.ref a1), .val (.ref a2), .val (.double x3), .second, .unset] [(.ref b3), (.ref a1)])) rfl rfl (hb hby d1_11)
  have F_costs_a1 := Fld.same Wh5 F_costs_a1
  have V_a2 := Arv.other V_a2 Wh5 ne_a2_a1
  have E_a2 := Exa.wr Wh5 E_a2
  have E_a1 := Exa.wr Wh5 E_a1
  have F_limit_a1 := Fld.other Wh5 F_limit_a1 (Or.inr (slot_ne (Or.inr (hw _ (List.mem_of_getElem? (i := 49) rfl))) (Or.inr (hw _ (List.mem_of_getElem? (i := 46) rfl))) (by decide) (t := .double) (t' := (.array .double)) (by decide) (by decide)))
  have V_b3 := Arv.other V_b3 Wh5 ne_b3_a1
  have N := Fr.snoc X N g_a1
  have K := K.wr Wh5 (Or.inl (List.mem_of_getElem? (i := 0) rfl))
  have hk := Nat.le_trans hk (Nat.le_of_eq (Wr.size Wh5).symm)
  refine Go.by st ?_
  show Go p.tables e below (T.setTop (mkF m 14 #[.val (.ref a1), .val (.ref a2), .val (.double x3), .second, .unset] [])) _
  refine Go.by (fun tt_ kk_ => XS.goto X.here hx rfl (pc0 := 14) (pc' := 39) rfl (hb hby d1_14) (by decide) (by decide) kk_) ?_
  show Go p.tables e below (T.setTop (mkF m 39 #[.val (.ref a1), .val (.ref a2), .val (.double x3), .second, .unset] [])) _
  refine Go.by (fun tt_ kk_ => XS.dloadN X.here hx rfl (hb hby d1_39) rfl kk_) ?_
  show Go p.tables e below (T.setTop (mkF m 40 #[.val (.ref a1), .val (.ref a2), .val (.double x3), .second, .unset] [(.double x3)])) _
  obtain ⟨_, _, ⟨T, L_, k_, n_⟩, -, X, ⟨Lc_, hQ, l_, y_, z_⟩, st⟩ := Jvm.LawKit.callS X hx (y := (⟨"com/example/pareto_helm/paretohelm/engine/Positive", "holds", "(D)Z"⟩ : MethodName)) hown (mvT hZ (hw _ (List.mem_of_getElem? (i := 47) rfl))) (mvT hZ (hw _ (List.mem_of_getElem? (i := 25) rfl))) (mvT hZ (hw _ (List.mem_of_getElem? (i := 22) rfl))) (mvT hZ (hw _ (List.mem_of_getElem? (i := 26) rfl))) (by decide) (backOf (W := 0) (rm4 l Z a0 hw [] x3 h5 n0 (Nat.le_trans Z0 K.1) fl bl) hZ (hw _ (List.mem_of_getElem? (i := 26) rfl)) (hw _ (List.mem_of_getElem? (i := 22) rfl)) (by decide) (by decide)) (g := (mkF m 40 #[.val (.ref a1), .val (.ref a2), .val (.double x3), .second, .unset] [(.double x3)])) rfl (by rw [hml]; rfl) (argsL := [(.double x3)]) (rest := []) (lenOf pd_1 rfl) rfl (by show 2 * 0 + _ ≤ _; exact Nat.le_of_eq rfl) (hb hby d1_40) (fun _ _ => ⟨rfl, eT, (by decide : 3 + 0 ≤ _), (by decide : 21 + 0 ≤ _)⟩)
  dsimp only [Pt.U, Pt.locs, Pt.cells, Pt.slots] at X l_ y_ z_ st hQ
  subst l_ y_ z_
  obtain ⟨rfl, Nq, eh⟩ := hQ
  have N := Fr.app N Nq
  have eT := eh
  refine Go.by st ?_
  show Go p.tables e below (T.setTop (mkF m 43 #[.val (.ref a1), .val (.ref a2), .val (.double x3), .second, .unset] [(.int (1 : Int32))])) _
  refine Go.by (fun tt_ kk_ => XS.ifYes X.here hx rfl (pc0 := 43) (pc' := 60) rfl (hb hby d1_43) rfl ((if0 _ _).trans (feq (by decide : ¬ ((1 : Int32) = (0 : Int32)))).2) (by decide) (by decide) kk_) ?_
  show Go p.tables e below (T.setTop (mkF m 60 #[.val (.ref a1), .val (.ref a2), .val (.double x3), .second, .unset] [])) _
  refine Go.by (fun tt_ kk_ => XS.aloadN X.here hx rfl (hb hby d1_60) rfl rfl kk_) ?_
  show Go p.tables e below (T.setTop (mkF m 61 #[.val (.ref a1), .val (.ref a2), .val (.double x3), .second, .unset] [(.ref a1)])) _
  refine Go.by (fun tt_ kk_ => XS.dloadN X.here hx rfl (hb hby d1_61) rfl kk_) ?_
  show Go p.tables e below (T.setTop (mkF m 62 #[.val (.ref a1), .val (.ref a2), .val (.double x3), .second, .unset] [(.double x3), (.ref a1)])) _
  obtain ⟨T, h7, X, eT, Wh7, st⟩ := putF X hx hZ hown (host := "") (Or.inl (hw _ (List.mem_of_getElem? (i := 48) rfl))) Via.refl eT F_limit_a1 E_a1 (Or.inr ⟨(hw _ (List.mem_of_getElem? (i := 49) rfl)), rfl, hnm⟩) (hw _ (List.mem_of_getElem? (i := 4) rfl)) (ty := .double) (by decide) rfl rfl (g := (mkF m 62 #[.val (.ref a1), .val (.ref a2), .val (.double x3), .second, .unset] [(.double x3), (.ref a1)])) rfl rfl (hb hby d1_62)
  have F_limit_a1 := Fld.same Wh7 F_limit_a1
  have V_a2 := Arv.other V_a2 Wh7 ne_a2_a1
  have E_a2 := Exa.wr Wh7 E_a2
  have E_a1 := Exa.wr Wh7 E_a1
  have F_costs_a1 := Fld.other Wh7 F_costs_a1 (Or.inr (slot_ne (Or.inr (hw _ (List.mem_of_getElem? (i := 46) rfl))) (Or.inr (hw _ (List.mem_of_getElem? (i := 49) rfl))) (by decide) (t := (.array .double)) (t' := .double) (by decide) (by decide)))
  have V_b3 := Arv.other V_b3 Wh7 ne_b3_a1
  have N := Fr.snoc X N g_a1
  have K := K.wr Wh7 (Or.inl (List.mem_of_getElem? (i := 0) rfl))
  have hk := Nat.le_trans hk (Nat.le_of_eq (Wr.size Wh7).symm)
  refine Go.by st ?_
  show Go p.tables e below (T.setTop (mkF m 65 #[.val (.ref a1), .val (.ref a2), .val (.double x3), .second, .unset] [])) _
  exact Go.doneW X hS (by rw [eT]; exact hk) (v := none) (fun _ => rfl) Bd.notSynchronized (fun fs hr => X.returnOut hx Bd.returns (hb hby d1_65) hr) (by rw [eT]; exact ⟨rfl, N, K, E_a1, b3, F_costs_a1, F_limit_a1, V_b3⟩) (by decide) (by decide)
theorem d7_0 : decode prog_5_method_6_code 0 = .ok (.iconst 0, 1) := by decide +kernel
theorem d7_1 : decode prog_5_method_6_code 1 = .ok (.istore_n 2, 1) := by decide +kernel
theorem d7_2 : decode prog_5_method_6_code 2 = .ok (.iconst 1, 1) := by decide +kernel
theorem d7_3 : decode prog_5_method_6_code 3 = .ok (.istore_n 3, 1) := by decide +kernel
theorem d7_4 : decode prog_5_method_6_code 4 = .ok (.iload_n 3, 1) := by decide +kernel
theorem d7_5 : decode prog_5_method_6_code 5 = .ok (.aload_n 0, 1) := by decide +kernel
theorem d7_6 : decode prog_5_method_6_code 6 = .ok (.getfield 15, 3) := by decide +kernel
theorem d7_9 : decode prog_5_method_6_code 9 = .ok (.arraylength, 1) := by decide +kernel
theorem d7_10 : decode prog_5_method_6_code 10 = .ok (.if_icmp .ge 35, 3) := by decide +kernel
theorem d7_13 : decode prog_5_method_6_code 13 = .ok (.aload_n 1, 1) := by decide +kernel
theorem d7_14 : decode prog_5_method_6_code 14 = .ok (.iload_n 3, 1) := by decide +kernel
theorem d7_15 : decode prog_5_method_6_code 15 = .ok (.daload, 1) := by decide +kernel
theorem d7_16 : decode prog_5_method_6_code 16 = .ok (.aload_n 0, 1) := by decide +kernel
theorem d7_17 : decode prog_5_method_6_code 17 = .ok (.getfield 15, 3) := by decide +kernel
theorem d7_20 : decode prog_5_method_6_code 20 = .ok (.iload_n 3, 1) := by decide +kernel
theorem d7_21 : decode prog_5_method_6_code 21 = .ok (.daload, 1) := by decide +kernel
theorem d7_22 : decode prog_5_method_6_code 22 = .ok (.ddiv, 1) := by decide +kernel
theorem d7_23 : decode prog_5_method_6_code 23 = .ok (.aload_n 1, 1) := by decide +kernel
theorem d7_24 : decode prog_5_method_6_code 24 = .ok (.iload_n 2, 1) := by decide +kernel
theorem d7_25 : decode prog_5_method_6_code 25 = .ok (.daload, 1) := by decide +kernel
theorem d7_26 : decode prog_5_method_6_code 26 = .ok (.aload_n 0, 1) := by decide +kernel
theorem d7_27 : decode prog_5_method_6_code 27 = .ok (.getfield 15, 3) := by decide +kernel
theorem d7_30 : decode prog_5_method_6_code 30 = .ok (.iload_n 2, 1) := by decide +kernel
theorem d7_31 : decode prog_5_method_6_code 31 = .ok (.daload, 1) := by decide +kernel
theorem d7_32 : decode prog_5_method_6_code 32 = .ok (.ddiv, 1) := by decide +kernel
theorem d7_33 : decode prog_5_method_6_code 33 = .ok (.dcmp .l, 1) := by decide +kernel
theorem d7_34 : decode prog_5_method_6_code 34 = .ok (.ifCond .le 5, 3) := by decide +kernel
theorem d7_37 : decode prog_5_method_6_code 37 = .ok (.iload_n 3, 1) := by decide +kernel
theorem d7_38 : decode prog_5_method_6_code 38 = .ok (.istore_n 2, 1) := by decide +kernel
theorem d7_39 : decode prog_5_method_6_code 39 = .ok (.iinc 3 1, 3) := by decide +kernel
theorem d7_42 : decode prog_5_method_6_code 42 = .ok (.goto (-38), 3) := by decide +kernel
theorem d7_45 : decode prog_5_method_6_code 45 = .ok (.aload_n 0, 1) := by decide +kernel
theorem d7_46 : decode prog_5_method_6_code 46 = .ok (.getfield 15, 3) := by decide +kernel
theorem d7_49 : decode prog_5_method_6_code 49 = .ok (.arraylength, 1) := by decide +kernel
theorem d7_50 : decode prog_5_method_6_code 50 = .ok (.newarray .double, 2) := by decide +kernel
theorem d7_52 : decode prog_5_method_6_code 52 = .ok (.astore_n 3, 1) := by decide +kernel
theorem d7_53 : decode prog_5_method_6_code 53 = .ok (.aload_n 3, 1) := by decide +kernel
theorem d7_54 : decode prog_5_method_6_code 54 = .ok (.iload_n 2, 1) := by decide +kernel
theorem d7_55 : decode prog_5_method_6_code 55 = .ok (.aload_n 0, 1) := by decide +kernel
theorem d7_56 : decode prog_5_method_6_code 56 = .ok (.getfield 44, 3) := by decide +kernel
theorem d7_59 : decode prog_5_method_6_code 59 = .ok (.aload_n 0, 1) := by decide +kernel
theorem d7_60 : decode prog_5_method_6_code 60 = .ok (.getfield 15, 3) := by decide +kernel
theorem d7_63 : decode prog_5_method_6_code 63 = .ok (.iload_n 2, 1) := by decide +kernel
theorem d7_64 : decode prog_5_method_6_code 64 = .ok (.daload, 1) := by decide +kernel
theorem d7_65 : decode prog_5_method_6_code 65 = .ok (.ddiv, 1) := by decide +kernel
theorem d7_66 : decode prog_5_method_6_code 66 = .ok (.dastore, 1) := by decide +kernel
theorem d7_67 : decode prog_5_method_6_code 67 = .ok (.aload_n 3, 1) := by decide +kernel
theorem d7_68 : decode prog_5_method_6_code 68 = .ok (.areturn, 1) := by decide +kernel
theorem ef_7 (m : MethodId) (x0 : Addr) (x1 : Addr) : entryFrame m #[(.ref x0), (.ref x1)] 4 = mkF m 0 #[.val (.ref x0), .val (.ref x1), .unset, .unset] [] := by first | (simp [entryFrame, mkF, argsToLocals, Value.category]; done) | rfl
def Q7_1 (Z : State) (a1 : Addr) (a2 : Addr) (x0 : UInt64) (y0 : UInt64) (w0 : Int) (c0 : Int) (kc : ClassId) (kw : ClassId) (ca : Addr) (lm : UInt64) (h0 : Heap) (n0 : Nat) (v : Option Value) (h : Heap) (L : List Loc) : Prop := ∃ (b : Addr) (kb : ClassId), n0 ≤ b ∧ h0.size ≤ b ∧ v = some (.ref b) ∧ Fr n0 L ∧ Keep h0 h [] ∧ Arv Z h b kb .double (1 : Int32) (own_bc1  lm y0) (.double (0 : UInt64))
set_option maxRecDepth 65536 in
set_option maxHeartbeats 40000000 in
theorem rm7_1 (l : Launch) (Z : State) (a0 : Array Value) (hw : ∀ d ∈ tables_1, d.before a0 Z = true) (ws : List Jvm.Cond) (a1 : Addr) (a2 : Addr) (x0 : UInt64) (y0 : UInt64) (w0 : Int) (c0 : Int) (kc : ClassId) (kw : ClassId) (ca : Addr) (lm : UInt64) (h0 : Heap) (n0 : Nat) (Z0 : n0 ≤ h0.size) (F_costs_a1 : Fld Z h0 a1 "com/example/pareto_helm/paretohelm/engine/Budget" "costs" "[D" (.ref ca)) (F_limit_a1 : Fld Z h0 a1 "com/example/pareto_helm/paretohelm/engine/Budget" "limit" "D" (.double lm)) (V_ca : Arv Z h0 ca kc .double (1 : Int32) [(.double y0)] (.double (0 : UInt64))) (V_a2 : Arv Z h0 a2 kw .double (1 : Int32) [(.double x0)] (.double (0 : UInt64))) (fl : Fin64 lm) (dx0 : Dy w0 0 x0) (dy0 : Dy c0 0 y0) (bw0 : -2147483648 ≤ w0 ∧ w0 ≤ 2147483648) (bc0 : 1 ≤ c0 ∧ c0 ≤ 1024) :
    MetFree l (⟨"com/example/pareto_helm/paretohelm/engine/Budget", "bestCorner", "([D)[D"⟩ : MethodName) (head1 (Jvm.Cond.code (⟨"com/example/pareto_helm/paretohelm/engine/Budget", "bestCorner", "([D)[D"⟩ : MethodName) prog_5_method_6_code 4 (some (.array .double)) :: ws) ({ frames := 0, cells := 1, slots := 1, locals := 0 } : Room)) (fun a U => a = #[(.ref a1), (.ref a2)] ∧ Z.Warmed39 U.vm ∧ U.heap = h0) (fun _ _ _ _ _ => True) (fun _ U o U' => ∃ v L, o = .returned v ∧ Q7_1 Z a1 a2 x0 y0 w0 c0 kc kw ca lm h0 n0 v U'.heap L ∧ FrameEnd U o U' L ({ frames := 0, cells := 1, slots := 1, locals := 0 } : Room).cells ({ frames := 0, cells := 1, slots := 1, locals := 0 } : Room).slots) := by
  refine MetFree.of_bodySF (plainFor_of_name pn_2) hisR ?_
  intro p e s m args below meth c s₁ Bd hml0 hP hK
  obtain ⟨rfl, hZ, hh⟩ := hP
  have hx := Bd.exec
  have hby := Bd.bytes
  have hml : c.maxLocals = 4 := hml0
  have hown : s.vm.findClass "com/example/pareto_helm/paretohelm/engine/Budget" = some m.cls := findClass_of_methodNamed Bd.named
  have hnm := (name_of_methodNamed Bd.named Bd.method).1
  have X : Stand p l e ({ frames := 0, cells := 1, slots := 1, locals := 0 } : Room) s m #[(.ref a1), (.ref a2)] below meth c s₁ [] 0 0 := Stand.of_body Bd
  have eT : s₁.heap = h0 := by rw [← hh, Bd.state]; rfl
  have N := Fr.nil n0
  have K := Keep.refl h0 []
  refine Go.out ?_
  obtain ⟨T, eTT⟩ : ∃ z, z = s₁ := ⟨_, rfl⟩
  rw [← eTT] at X eT ⊢
  refine Go.by (fun tt_ kk_ => castTop (ef_7 m a1 a2) kk_) ?_
  show Go p.tables e below (T.setTop (mkF m 0 #[.val (.ref a1), .val (.ref a2), .unset, .unset] [])) _
  refine Go.by (fun tt_ kk_ => XS.iconst X.here hx rfl (hb hby d7_0) kk_) ?_
  show Go p.tables e below (T.setTop (mkF m 1 #[.val (.ref a1), .val (.ref a2), .unset, .unset] [(.int (0 : Int32))])) _
  refine Go.by (fun tt_ kk_ => XS.istoreN X.here hx rfl (hb hby d7_1) rfl (l' := #[.val (.ref a1), .val (.ref a2), .val (.int (0 : Int32)), .unset]) rfl kk_) ?_
  show Go p.tables e below (T.setTop (mkF m 2 #[.val (.ref a1), .val (.ref a2), .val (.int (0 : Int32)), .unset] [])) _
  refine Go.by (fun tt_ kk_ => XS.iconst X.here hx rfl (hb hby d7_2) kk_) ?_
  show Go p.tables e below (T.setTop (mkF m 3 #[.val (.ref a1), .val (.ref a2), .val (.int (0 : Int32)), .unset] [(.int (1 : Int32))])) _
  refine Go.by (fun tt_ kk_ => XS.istoreN X.here hx rfl (hb hby d7_3) rfl (l' := #[.val (.ref a1), .val (.ref a2), .val (.int (0 : Int32)), .val (.int (1 : Int32))]) rfl kk_) ?_
  show Go p.tables e below (T.setTop (mkF m 4 #[.val (.ref a1), .val (.ref a2), .val (.int (0 : Int32)), .val (.int (1 : Int32))] [])) _
  refine Go.by (fun tt_ kk_ => XS.iloadN X.here hx rfl (hb hby d7_4) rfl kk_) ?_
  show Go p.tables e below (T.setTop (mkF m 5 #[.val (.ref a1), .val (.ref a2), .val (.int (0 : Int32)), .val (.int (1 : Int32))] [(.int (1 : Int32))])) _
  refine Go.by (fun tt_ kk_ => XS.aloadN X.here hx rfl (hb hby d7_5) rfl rfl kk_) ?_
  show Go p.tables e below (T.setTop (mkF m 6 #[.val (.ref a1), .val (.ref a2), .val (.int (0 : Int32)), .val (.int (1 : Int32))] [(.ref a1), (.int (1 : Int32))])) _
  obtain ⟨T, X, eT, st⟩ := getF X hx hZ hown (host := "") (Or.inl (hw _ (List.mem_of_getElem? (i := 45) rfl))) Via.refl eT F_costs_a1 (g := (mkF m 6 #[.val (.ref a1), .val (.ref a2), .val (.int (0 : Int32)), .val (.int (1 : Int32))] [(.ref a1), (.int (1 : Int32))])) rfl rfl (hb hby d7_6)
  refine Go.by st ?_
  show Go p.tables e below (T.setTop (mkF m 9 #[.val (.ref a1), .val (.ref a2), .val (.int (0 : Int32)), .val (.int (1 : Int32))] [(.ref ca), (.int (1 : Int32))])) _
  have Vo_ := V_ca
  obtain ⟨cl_, Ar_, q_, S_, N_, H_, G_⟩ := Vo_
  refine Go.by (X.arraylength hx (by rw [eT]; exact Ar_.1) (State.isArrayOf_alike hZ.alike Ar_.2.1) (g := (mkF m 9 #[.val (.ref a1), .val (.ref a2), .val (.int (0 : Int32)), .val (.int (1 : Int32))] [(.ref ca), (.int (1 : Int32))])) rfl rfl (hb hby d7_9)) ?_
  rw [len_of S_ N_]
  show Go p.tables e below (T.setTop (mkF m 10 #[.val (.ref a1), .val (.ref a2), .val (.int (0 : Int32)), .val (.int (1 : Int32))] [(.int (1 : Int32)), (.int (1 : Int32))])) _
  refine Go.by (fun tt_ kk_ => XS.icmpYes X.here hx rfl (pc0 := 10) (pc' := 45) rfl (hb hby d7_10) rfl (flt (by decide : ¬ ((1 : Int32) < (1 : Int32)))).2.1 (by decide) (by decide) kk_) ?_
  show Go p.tables e below (T.setTop (mkF m 45 #[.val (.ref a1), .val (.ref a2), .val (.int (0 : Int32)), .val (.int (1 : Int32))] [])) _
  refine Go.by (fun tt_ kk_ => XS.aloadN X.here hx rfl (hb hby d7_45) rfl rfl kk_) ?_
  show Go p.tables e below (T.setTop (mkF m 46 #[.val (.ref a1), .val (.ref a2), .val (.int (0 : Int32)), .val (.int (1 : Int32))] [(.ref a1)])) _
  obtain ⟨T, X, eT, st⟩ := getF X hx hZ hown (host := "") (Or.inl (hw _ (List.mem_of_getElem? (i := 45) rfl))) Via.refl eT F_costs_a1 (g := (mkF m 46 #[.val (.ref a1), .val (.ref a2), .val (.int (0 : Int32)), .val (.int (1 : Int32))] [(.ref a1)])) rfl rfl (hb hby d7_46)
  refine Go.by st ?_
  show Go p.tables e below (T.setTop (mkF m 49 #[.val (.ref a1), .val (.ref a2), .val (.int (0 : Int32)), .val (.int (1 : Int32))] [(.ref ca)])) _
  have Vo_ := V_ca
  obtain ⟨cl_, Ar_, q_, S_, N_, H_, G_⟩ := Vo_
  refine Go.by (X.arraylength hx (by rw [eT]; exact Ar_.1) (State.isArrayOf_alike hZ.alike Ar_.2.1) (g := (mkF m 49 #[.val (.ref a1), .val (.ref a2), .val (.int (0 : Int32)), .val (.int (1 : Int32))] [(.ref ca)])) rfl rfl (hb hby d7_49)) ?_
  rw [len_of S_ N_]
  show Go p.tables e below (T.setTop (mkF m 50 #[.val (.ref a1), .val (.ref a2), .val (.int (0 : Int32)), .val (.int (1 : Int32))] [(.int (1 : Int32))])) _
  obtain ⟨T, h1, k_b1, X, eT, E_, A_, st⟩ := newP X hx hZ (hw _ (List.mem_of_getElem? (i := 2) rfl)) eT (g := (mkF m 50 #[.val (.ref a1), .val (.ref a2), .val (.int (0 : Int32)), .val (.int (1 : Int32))] [(.int (1 : Int32))])) rfl (hb hby d7_50) rfl (by decide) (cap := 1) (by decide) (by decide) (by decide) (by decide)
  obtain ⟨b1, g_b1'⟩ : ∃ z, z = h0.size := ⟨_, rfl⟩
  rw [← g_b1'] at A_ st
  have ne_ca_b1 : ca ≠ b1 := Nat.ne_of_lt (Nat.lt_of_lt_of_le V_ca.lt (Nat.le_of_eq g_b1'.symm))
  have ne_b1_ca : b1 ≠ ca := Ne.symm ne_ca_b1
  have ne_a2_b1 : a2 ≠ b1 := Nat.ne_of_lt (Nat.lt_of_lt_of_le V_a2.lt (Nat.le_of_eq g_b1'.symm))
  have ne_b1_a2 : b1 ≠ a2 := Ne.symm ne_a2_b1
  have ne_a1_b1 : a1 ≠ b1 := Nat.ne_of_lt (Nat.lt_of_lt_of_le F_costs_a1.lt (Nat.le_of_eq g_b1'.symm))
  have ne_b1_a1 : b1 ≠ a1 := Ne.symm ne_a1_b1
  have g_b1 : n0 ≤ b1 := Nat.le_trans Z0 (Nat.le_trans K.1 (Nat.le_of_eq g_b1'.symm))
  have sz_b1 : h0.size ≤ b1 := Nat.le_trans K.1 (Nat.le_of_eq g_b1'.symm)
  have K := K.ext E_
  have V_ca := Arv.ext V_ca E_
  have V_a2 := Arv.ext V_a2 E_
  have F_costs_a1 := Fld.ext E_ F_costs_a1
  have F_limit_a1 := Fld.ext E_ F_limit_a1
  have V_b1 := Arv.new A_ (by decide)
  refine Go.by st ?_
  show Go p.tables e below (T.setTop (mkF m 52 #[.val (.ref a1), .val (.ref a2), .val (.int (0 : Int32)), .val (.int (1 : Int32))] [(.ref b1)])) _
  have V_b1 : Arv Z h1 b1 k_b1 .double (1 : Int32) [(.double (0 : UInt64))] (.double (0 : UInt64)) := V_b1.pad (pad_rep [] (.double (0 : UInt64)) 1)
  refine Go.by (fun tt_ kk_ => XS.astoreN X.here hx rfl (hb hby d7_52) rfl rfl (l' := #[.val (.ref a1), .val (.ref a2), .val (.int (0 : Int32)), .val (.ref b1)]) rfl kk_) ?_
  show Go p.tables e below (T.setTop (mkF m 53 #[.val (.ref a1), .val (.ref a2), .val (.int (0 : Int32)), .val (.ref b1)] [])) _
  refine Go.by (fun tt_ kk_ => XS.aloadN X.here hx rfl (hb hby d7_53) rfl rfl kk_) ?_
  show Go p.tables e below (T.setTop (mkF m 54 #[.val (.ref a1), .val (.ref a2), .val (.int (0 : Int32)), .val (.ref b1)] [(.ref b1)])) _
  refine Go.by (fun tt_ kk_ => XS.iloadN X.here hx rfl (hb hby d7_54) rfl kk_) ?_
  show Go p.tables e below (T.setTop (mkF m 55 #[.val (.ref a1), .val (.ref a2), .val (.int (0 : Int32)), .val (.ref b1)] [(.int (0 : Int32)), (.ref b1)])) _
  refine Go.by (fun tt_ kk_ => XS.aloadN X.here hx rfl (hb hby d7_55) rfl rfl kk_) ?_
  show Go p.tables e below (T.setTop (mkF m 56 #[.val (.ref a1), .val (.ref a2), .val (.int (0 : Int32)), .val (.ref b1)] [(.ref a1), (.int (0 : Int32)), (.ref b1)])) _
  obtain ⟨T, X, eT, st⟩ := getF X hx hZ hown (host := "") (Or.inl (hw _ (List.mem_of_getElem? (i := 48) rfl))) Via.refl eT F_limit_a1 (g := (mkF m 56 #[.val (.ref a1), .val (.ref a2), .val (.int (0 : Int32)), .val (.ref b1)] [(.ref a1), (.int (0 : Int32)), (.ref b1)])) rfl rfl (hb hby d7_56)
  refine Go.by st ?_
  show Go p.tables e below (T.setTop (mkF m 59 #[.val (.ref a1), .val (.ref a2), .val (.int (0 : Int32)), .val (.ref b1)] [(.double lm), (.int (0 : Int32)), (.ref b1)])) _
  refine Go.by (fun tt_ kk_ => XS.aloadN X.here hx rfl (hb hby d7_59) rfl rfl kk_) ?_
  show Go p.tables e below (T.setTop (mkF m 60 #[.val (.ref a1), .val (.ref a2), .val (.int (0 : Int32)), .val (.ref b1)] [(.ref a1), (.double lm), (.int (0 : Int32)), (.ref b1)])) _
  obtain ⟨T, X, eT, st⟩ := getF X hx hZ hown (host := "") (Or.inl (hw _ (List.mem_of_getElem? (i := 45) rfl))) Via.refl eT F_costs_a1 (g := (mkF m 60 #[.val (.ref a1), .val (.ref a2), .val (.int (0 : Int32)), .val (.ref b1)] [(.ref a1), (.double lm), (.int (0 : Int32)), (.ref b1)])) rfl rfl (hb hby d7_60)
  refine Go.by st ?_
  show Go p.tables e below (T.setTop (mkF m 63 #[.val (.ref a1), .val (.ref a2), .val (.int (0 : Int32)), .val (.ref b1)] [(.ref ca), (.double lm), (.int (0 : Int32)), (.ref b1)])) _
  refine Go.by (fun tt_ kk_ => XS.iloadN X.here hx rfl (hb hby d7_63) rfl kk_) ?_
  show Go p.tables e below (T.setTop (mkF m 64 #[.val (.ref a1), .val (.ref a2), .val (.int (0 : Int32)), .val (.ref b1)] [(.int (0 : Int32)), (.ref ca), (.double lm), (.int (0 : Int32)), (.ref b1)])) _
  have Vo_ := V_ca
  obtain ⟨cl_, Ar_, q_, S_, N_, H_, G_⟩ := Vo_
  refine Go.by (X.daload hx (j := (0 : Int32)) (v := (.double y0)) (by rw [eT]; exact Ar_.1) (State.isArrayOf_alike hZ.alike Ar_.2.1) Ar_.2.2 (inb_of S_ ⟨by decide, by decide⟩) (Has.at H_ (inb_of S_ ⟨by decide, by decide⟩) rfl) (g := (mkF m 64 #[.val (.ref a1), .val (.ref a2), .val (.int (0 : Int32)), .val (.ref b1)] [(.int (0 : Int32)), (.ref ca), (.double lm), (.int (0 : Int32)), (.ref b1)])) rfl rfl (hb hby d7_64)) ?_
  show Go p.tables e below (T.setTop (mkF m 65 #[.val (.ref a1), .val (.ref a2), .val (.int (0 : Int32)), .val (.ref b1)] [(.double y0), (.double lm), (.int (0 : Int32)), (.ref b1)])) _
  refine Go.by (fun tt_ kk_ => XS.ddivS X.here hx rfl (hb hby d7_65) rfl (own_divnn2 fl.noNaN dy0 (by omega)) rfl kk_) ?_
  show Go p.tables e below (T.setTop (mkF m 66 #[.val (.ref a1), .val (.ref a2), .val (.int (0 : Int32)), .val (.ref b1)] [(.double (FP.ddiv lm y0)), (.int (0 : Int32)), (.ref b1)])) _
  have Vo_ := V_b1
  obtain ⟨cl_, Ar_, q_, S_, N_, H_, G_⟩ := Vo_
  obtain ⟨T, h2, X, eT, Wh2, st⟩ := stD X hx hZ eT Ar_ (j := (0 : Int32)) (inb_of S_ ⟨by decide, by decide⟩) (g := (mkF m 66 #[.val (.ref a1), .val (.ref a2), .val (.int (0 : Int32)), .val (.ref b1)] [(.double (FP.ddiv lm y0)), (.int (0 : Int32)), (.ref b1)])) rfl rfl (hb hby d7_66)
  have V_b1 := Arv.set Ar_ q_ S_ N_ H_ G_ rfl Wh2 0 rfl (Nat.le_of_ble_eq_true rfl)
  have V_ca := Arv.other V_ca Wh2 ne_ca_b1
  have V_a2 := Arv.other V_a2 Wh2 ne_a2_b1
  have F_costs_a1 := Fld.other Wh2 F_costs_a1 (Or.inl ne_a1_b1)
  have F_limit_a1 := Fld.other Wh2 F_limit_a1 (Or.inl ne_a1_b1)
  have N := Fr.snoc X N g_b1
  have K := K.wr Wh2 (Or.inr sz_b1)
  refine Go.by st ?_
  show Go p.tables e below (T.setTop (mkF m 67 #[.val (.ref a1), .val (.ref a2), .val (.int (0 : Int32)), .val (.ref b1)] [])) _
  refine Go.by (fun tt_ kk_ => XS.aloadN X.here hx rfl (hb hby d7_67) rfl rfl kk_) ?_
  show Go p.tables e below (T.setTop (mkF m 68 #[.val (.ref a1), .val (.ref a2), .val (.int (0 : Int32)), .val (.ref b1)] [(.ref b1)])) _
  have Vq : Arv Z h2 b1 k_b1 .double (1 : Int32) (own_bc1  lm y0) (.double (0 : UInt64)) := by
    unfold own_bc1
    exact V_b1
  exact Go.done X  (v := some (.ref b1)) (fun h => by rw [Bd.returns] at h; cases h) Bd.notSynchronized (fun fs hr => retOut X hx Bd.returns rfl (by simp [Value.isRef, FieldType.isReference]) (hb hby d7_68) hr) (by rw [eT]; exact ⟨b1, k_b1, g_b1, sz_b1, rfl, N, K, Vq⟩) (by decide) (by decide)
def Q3_2 (Z : State) (a1 : Addr) (a2 : Addr) (y0 : UInt64) (y1 : UInt64) (kk : ClassId) (h0 : Heap) (n0 : Nat) (v : Option Value) (h : Heap) (L : List Loc) : Prop := ∃ b : Addr, n0 ≤ b ∧ h0.size ≤ b ∧ v = some (.ref b) ∧ Fr n0 L ∧ Keep h0 h [] ∧ Arv Z h b kk .double (2 : Int32) [(.double y0), (.double y1)] (.double (0 : UInt64))
set_option maxRecDepth 65536 in
set_option maxHeartbeats 40000000 in
theorem rm3_2 (l : Launch) (Z : State) (a0 : Array Value) (hw : ∀ d ∈ tables_1, d.before a0 Z = true) (ws : List Jvm.Cond) (a1 : Addr) (a2 : Addr) (y0 : UInt64) (y1 : UInt64) (kk : ClassId) (h0 : Heap) (n0 : Nat) (Z0 : n0 ≤ h0.size) (V_a1 : Arv Z h0 a1 kk .double (2 : Int32) [(.double y0), (.double y1)] (.double (0 : UInt64))) (E_a1 : Exa Z h0 a1 "[D") (f0 : Fin64 y0) (b0 : (0 : Int32) < cmpValue (FP.dcmp y0 0) .l) (f1 : Fin64 y1) (b1 : (0 : Int32) < cmpValue (FP.dcmp y1 0) .l) :
    MetFree l (⟨"com/example/pareto_helm/paretohelm/engine/Positive", "copyOf", "([DLjava/lang/String;)[D"⟩ : MethodName) (head1 (Jvm.Cond.code (⟨"com/example/pareto_helm/paretohelm/engine/Positive", "copyOf", "([DLjava/lang/String;)[D"⟩ : MethodName) prog_24_method_4_code 3 (some (.array .double)) :: ws) ({ frames := 3, cells := 1, slots := 2, locals := 39 } : Room)) (fun a U => a = #[(.ref a1), (.ref a2)] ∧ Z.Warmed39 U.vm ∧ U.heap = h0) (fun _ _ _ _ _ => True) (fun _ U o U' => ∃ v L, o = .returned v ∧ Q3_2 Z a1 a2 y0 y1 kk h0 n0 v U'.heap L ∧ FrameEnd U o U' L ({ frames := 3, cells := 1, slots := 2, locals := 39 } : Room).cells ({ frames := 3, cells := 1, slots := 2, locals := 39 } : Room).slots) := by
  refine MetFree.of_bodySF (plainFor_of_name pn_1) hisR ?_
  intro p e s m args below meth c s₁ Bd hml0 hP hK
  obtain ⟨rfl, hZ, hh⟩ := hP
  have hx := Bd.exec
  have hby := Bd.bytes
  have hml : c.maxLocals = 3 := hml0
  have hown : s.vm.findClass "com/example/pareto_helm/paretohelm/engine/Positive" = some m.cls := findClass_of_methodNamed Bd.named
  have hnm := (name_of_methodNamed Bd.named Bd.method).1
  have X : Stand p l e ({ frames := 3, cells := 1, slots := 2, locals := 39 } : Room) s m #[(.ref a1), (.ref a2)] below meth c s₁ [] 0 0 := Stand.of_body Bd
  have eT : s₁.heap = h0 := by rw [← hh, Bd.state]; rfl
  have N := Fr.nil n0
  have K := Keep.refl h0 []
  refine Go.out ?_
  obtain ⟨T, eTT⟩ : ∃ z, z = s₁ := ⟨_, rfl⟩
  rw [← eTT] at X eT ⊢
  refine Go.by (fun tt_ kk_ => castTop (ef_3 m a1 a2) kk_) ?_
  show Go p.tables e below (T.setTop (mkF m 0 #[.val (.ref a1), .val (.ref a2), .unset] [])) _
  refine Go.by (fun tt_ kk_ => XS.aloadN X.here hx rfl (hb hby d3_0) rfl rfl kk_) ?_
  show Go p.tables e below (T.setTop (mkF m 1 #[.val (.ref a1), .val (.ref a2), .unset] [(.ref a1)])) _
  have Vo_ := V_a1
  obtain ⟨cl_, Ar_, q_, S_, N_, H_, G_⟩ := Vo_
  refine Go.by (X.arraylength hx (by rw [eT]; exact Ar_.1) (State.isArrayOf_alike hZ.alike Ar_.2.1) (g := (mkF m 1 #[.val (.ref a1), .val (.ref a2), .unset] [(.ref a1)])) rfl rfl (hb hby d3_1)) ?_
  rw [len_of S_ N_]
  show Go p.tables e below (T.setTop (mkF m 2 #[.val (.ref a1), .val (.ref a2), .unset] [(.int (2 : Int32))])) _
  refine Go.by (fun tt_ kk_ => XS.ifYes X.here hx rfl (pc0 := 2) (pc' := 19) rfl (hb hby d3_2) rfl ((if0 _ _).trans (feq (by decide : ¬ ((2 : Int32) = (0 : Int32)))).2) (by decide) (by decide) kk_) ?_
  show Go p.tables e below (T.setTop (mkF m 19 #[.val (.ref a1), .val (.ref a2), .unset] [])) _
  refine Go.by (fun tt_ kk_ => XS.iconst X.here hx rfl (hb hby d3_19) kk_) ?_
  show Go p.tables e below (T.setTop (mkF m 20 #[.val (.ref a1), .val (.ref a2), .unset] [(.int (0 : Int32))])) _
  refine Go.by (fun tt_ kk_ => XS.istoreN X.here hx rfl (hb hby d3_20) rfl (l' := #[.val (.ref a1), .val (.ref a2), .val (.int (0 : Int32))]) rfl kk_) ?_
  show Go p.tables e below (T.setTop (mkF m 21 #[.val (.ref a1), .val (.ref a2), .val (.int (0 : Int32))] [])) _
  refine Go.by (fun tt_ kk_ => XS.iloadN X.here hx rfl (hb hby d3_21) rfl kk_) ?_
  show Go p.tables e below (T.setTop (mkF m 22 #[.val (.ref a1), .val (.ref a2), .val (.int (0 : Int32))] [(.int (0 : Int32))])) _
  refine Go.by (fun tt_ kk_ => XS.aloadN X.here hx rfl (hb hby d3_22) rfl rfl kk_) ?_
  show Go p.tables e below (T.setTop (mkF m 23 #[.val (.ref a1), .val (.ref a2), .val (.int (0 : Int32))] [(.ref a1), (.int (0 : Int32))])) _
  have Vo_ := V_a1
  obtain ⟨cl_, Ar_, q_, S_, N_, H_, G_⟩ := Vo_
  refine Go.by (X.arraylength hx (by rw [eT]; exact Ar_.1) (State.isArrayOf_alike hZ.alike Ar_.2.1) (g := (mkF m 23 #[.val (.ref a1), .val (.ref a2), .val (.int (0 : Int32))] [(.ref a1), (.int (0 : Int32))])) rfl rfl (hb hby d3_23)) ?_
  rw [len_of S_ N_]
  show Go p.tables e below (T.setTop (mkF m 24 #[.val (.ref a1), .val (.ref a2), .val (.int (0 : Int32))] [(.int (2 : Int32)), (.int (0 : Int32))])) _
  refine Go.by (fun tt_ kk_ => XS.icmpNo X.here hx rfl (hb hby d3_24) rfl (tlt (by decide : (0 : Int32) < (2 : Int32))).2.1 kk_) ?_
  show Go p.tables e below (T.setTop (mkF m 27 #[.val (.ref a1), .val (.ref a2), .val (.int (0 : Int32))] [])) _
  refine Go.by (fun tt_ kk_ => XS.aloadN X.here hx rfl (hb hby d3_27) rfl rfl kk_) ?_
  show Go p.tables e below (T.setTop (mkF m 28 #[.val (.ref a1), .val (.ref a2), .val (.int (0 : Int32))] [(.ref a1)])) _
  refine Go.by (fun tt_ kk_ => XS.iloadN X.here hx rfl (hb hby d3_28) rfl kk_) ?_
  show Go p.tables e below (T.setTop (mkF m 29 #[.val (.ref a1), .val (.ref a2), .val (.int (0 : Int32))] [(.int (0 : Int32)), (.ref a1)])) _
  have Vo_ := V_a1
  obtain ⟨cl_, Ar_, q_, S_, N_, H_, G_⟩ := Vo_
  refine Go.by (X.daload hx (j := (0 : Int32)) (v := (.double y0)) (by rw [eT]; exact Ar_.1) (State.isArrayOf_alike hZ.alike Ar_.2.1) Ar_.2.2 (inb_of S_ ⟨by decide, by decide⟩) (Has.at H_ (inb_of S_ ⟨by decide, by decide⟩) rfl) (g := (mkF m 29 #[.val (.ref a1), .val (.ref a2), .val (.int (0 : Int32))] [(.int (0 : Int32)), (.ref a1)])) rfl rfl (hb hby d3_29)) ?_
  show Go p.tables e below (T.setTop (mkF m 30 #[.val (.ref a1), .val (.ref a2), .val (.int (0 : Int32))] [(.double y0)])) _
  obtain ⟨_, _, ⟨T, L_, k_, n_⟩, -, X, ⟨Lc_, hQ, l_, y_, z_⟩, st⟩ := Jvm.LawKit.callS X hx (y := (⟨"com/example/pareto_helm/paretohelm/engine/Positive", "holds", "(D)Z"⟩ : MethodName)) hown (mvT hZ (hw _ (List.mem_of_getElem? (i := 24) rfl))) (mvT hZ (hw _ (List.mem_of_getElem? (i := 25) rfl))) (mvT hZ (hw _ (List.mem_of_getElem? (i := 22) rfl))) (mvT hZ (hw _ (List.mem_of_getElem? (i := 26) rfl))) (by decide) (backOf (W := 0) (rm4 l Z a0 hw [] y0 h0 n0 (Nat.le_trans Z0 K.1) f0 b0) hZ (hw _ (List.mem_of_getElem? (i := 26) rfl)) (hw _ (List.mem_of_getElem? (i := 22) rfl)) (by decide) (by decide)) (g := (mkF m 30 #[.val (.ref a1), .val (.ref a2), .val (.int (0 : Int32))] [(.double y0)])) rfl (by rw [hml]; rfl) (argsL := [(.double y0)]) (rest := []) (lenOf pd_1 rfl) rfl (by show 2 * 0 + _ ≤ _; exact Nat.le_of_eq rfl) (hb hby d3_30) (fun _ _ => ⟨rfl, eT, (by decide : 0 + 0 ≤ _), (by decide : 0 + 0 ≤ _)⟩)
  dsimp only [Pt.U, Pt.locs, Pt.cells, Pt.slots] at X l_ y_ z_ st hQ
  subst l_ y_ z_
  obtain ⟨rfl, Nq, eh⟩ := hQ
  have N := Fr.app N Nq
  have eT := eh
  refine Go.by st ?_
  show Go p.tables e below (T.setTop (mkF m 33 #[.val (.ref a1), .val (.ref a2), .val (.int (0 : Int32))] [(.int (1 : Int32))])) _
  refine Go.by (fun tt_ kk_ => XS.ifYes X.here hx rfl (pc0 := 33) (pc' := 57) rfl (hb hby d3_33) rfl ((if0 _ _).trans (feq (by decide : ¬ ((1 : Int32) = (0 : Int32)))).2) (by decide) (by decide) kk_) ?_
  show Go p.tables e below (T.setTop (mkF m 57 #[.val (.ref a1), .val (.ref a2), .val (.int (0 : Int32))] [])) _
  refine Go.by (fun tt_ kk_ => XS.iinc X.here hx rfl (hb hby d3_57) rfl (l' := #[.val (.ref a1), .val (.ref a2), .val (.int (1 : Int32))]) rfl kk_) ?_
  show Go p.tables e below (T.setTop (mkF m 60 #[.val (.ref a1), .val (.ref a2), .val (.int (1 : Int32))] [])) _
  refine Go.by (fun tt_ kk_ => XS.goto X.here hx rfl (pc0 := 60) (pc' := 21) rfl (hb hby d3_60) (by decide) (by decide) kk_) ?_
  show Go p.tables e below (T.setTop (mkF m 21 #[.val (.ref a1), .val (.ref a2), .val (.int (1 : Int32))] [])) _
  refine Go.by (fun tt_ kk_ => XS.iloadN X.here hx rfl (hb hby d3_21) rfl kk_) ?_
  show Go p.tables e below (T.setTop (mkF m 22 #[.val (.ref a1), .val (.ref a2), .val (.int (1 : Int32))] [(.int (1 : Int32))])) _
  refine Go.by (fun tt_ kk_ => XS.aloadN X.here hx rfl (hb hby d3_22) rfl rfl kk_) ?_
  show Go p.tables e below (T.setTop (mkF m 23 #[.val (.ref a1), .val (.ref a2), .val (.int (1 : Int32))] [(.ref a1), (.int (1 : Int32))])) _
  have Vo_ := V_a1
  obtain ⟨cl_, Ar_, q_, S_, N_, H_, G_⟩ := Vo_
  refine Go.by (X.arraylength hx (by rw [eT]; exact Ar_.1) (State.isArrayOf_alike hZ.alike Ar_.2.1) (g := (mkF m 23 #[.val (.ref a1), .val (.ref a2), .val (.int (1 : Int32))] [(.ref a1), (.int (1 : Int32))])) rfl rfl (hb hby d3_23)) ?_
  rw [len_of S_ N_]
  show Go p.tables e below (T.setTop (mkF m 24 #[.val (.ref a1), .val (.ref a2), .val (.int (1 : Int32))] [(.int (2 : Int32)), (.int (1 : Int32))])) _
  refine Go.by (fun tt_ kk_ => XS.icmpNo X.here hx rfl (hb hby d3_24) rfl (tlt (by decide : (1 : Int32) < (2 : Int32))).2.1 kk_) ?_
  show Go p.tables e below (T.setTop (mkF m 27 #[.val (.ref a1), .val (.ref a2), .val (.int (1 : Int32))] [])) _
  refine Go.by (fun tt_ kk_ => XS.aloadN X.here hx rfl (hb hby d3_27) rfl rfl kk_) ?_
  show Go p.tables e below (T.setTop (mkF m 28 #[.val (.ref a1), .val (.ref a2), .val (.int (1 : Int32))] [(.ref a1)])) _
  refine Go.by (fun tt_ kk_ => XS.iloadN X.here hx rfl (hb hby d3_28) rfl kk_) ?_
  show Go p.tables e below (T.setTop (mkF m 29 #[.val (.ref a1), .val (.ref a2), .val (.int (1 : Int32))] [(.int (1 : Int32)), (.ref a1)])) _
  have Vo_ := V_a1
  obtain ⟨cl_, Ar_, q_, S_, N_, H_, G_⟩ := Vo_
  refine Go.by (X.daload hx (j := (1 : Int32)) (v := (.double y1)) (by rw [eT]; exact Ar_.1) (State.isArrayOf_alike hZ.alike Ar_.2.1) Ar_.2.2 (inb_of S_ ⟨by decide, by decide⟩) (Has.at H_ (inb_of S_ ⟨by decide, by decide⟩) rfl) (g := (mkF m 29 #[.val (.ref a1), .val (.ref a2), .val (.int (1 : Int32))] [(.int (1 : Int32)), (.ref a1)])) rfl rfl (hb hby d3_29)) ?_
  show Go p.tables e below (T.setTop (mkF m 30 #[.val (.ref a1), .val (.ref a2), .val (.int (1 : Int32))] [(.double y1)])) _
  obtain ⟨_, _, ⟨T, L_, k_, n_⟩, -, X, ⟨Lc_, hQ, l_, y_, z_⟩, st⟩ := Jvm.LawKit.callS X hx (y := (⟨"com/example/pareto_helm/paretohelm/engine/Positive", "holds", "(D)Z"⟩ : MethodName)) hown (mvT hZ (hw _ (List.mem_of_getElem? (i := 24) rfl))) (mvT hZ (hw _ (List.mem_of_getElem? (i := 25) rfl))) (mvT hZ (hw _ (List.mem_of_getElem? (i := 22) rfl))) (mvT hZ (hw _ (List.mem_of_getElem? (i := 26) rfl))) (by decide) (backOf (W := 0) (rm4 l Z a0 hw [] y1 h0 n0 (Nat.le_trans Z0 K.1) f1 b1) hZ (hw _ (List.mem_of_getElem? (i := 26) rfl)) (hw _ (List.mem_of_getElem? (i := 22) rfl)) (by decide) (by decide)) (g := (mkF m 30 #[.val (.ref a1), .val (.ref a2), .val (.int (1 : Int32))] [(.double y1)])) rfl (by rw [hml]; rfl) (argsL := [(.double y1)]) (rest := []) (lenOf pd_1 rfl) rfl (by show 2 * 0 + _ ≤ _; exact Nat.le_of_eq rfl) (hb hby d3_30) (fun _ _ => ⟨rfl, eT, (by decide : 0 + 0 ≤ _), (by decide : 0 + 0 ≤ _)⟩)
  dsimp only [Pt.U, Pt.locs, Pt.cells, Pt.slots] at X l_ y_ z_ st hQ
  subst l_ y_ z_
  obtain ⟨rfl, Nq, eh⟩ := hQ
  have N := Fr.app N Nq
  have eT := eh
  refine Go.by st ?_
  show Go p.tables e below (T.setTop (mkF m 33 #[.val (.ref a1), .val (.ref a2), .val (.int (1 : Int32))] [(.int (1 : Int32))])) _
  refine Go.by (fun tt_ kk_ => XS.ifYes X.here hx rfl (pc0 := 33) (pc' := 57) rfl (hb hby d3_33) rfl ((if0 _ _).trans (feq (by decide : ¬ ((1 : Int32) = (0 : Int32)))).2) (by decide) (by decide) kk_) ?_
  show Go p.tables e below (T.setTop (mkF m 57 #[.val (.ref a1), .val (.ref a2), .val (.int (1 : Int32))] [])) _
  refine Go.by (fun tt_ kk_ => XS.iinc X.here hx rfl (hb hby d3_57) rfl (l' := #[.val (.ref a1), .val (.ref a2), .val (.int (2 : Int32))]) rfl kk_) ?_
  show Go p.tables e below (T.setTop (mkF m 60 #[.val (.ref a1), .val (.ref a2), .val (.int (2 : Int32))] [])) _
  refine Go.by (fun tt_ kk_ => XS.goto X.here hx rfl (pc0 := 60) (pc' := 21) rfl (hb hby d3_60) (by decide) (by decide) kk_) ?_
  show Go p.tables e below (T.setTop (mkF m 21 #[.val (.ref a1), .val (.ref a2), .val (.int (2 : Int32))] [])) _
  refine Go.by (fun tt_ kk_ => XS.iloadN X.here hx rfl (hb hby d3_21) rfl kk_) ?_
  show Go p.tables e below (T.setTop (mkF m 22 #[.val (.ref a1), .val (.ref a2), .val (.int (2 : Int32))] [(.int (2 : Int32))])) _
  refine Go.by (fun tt_ kk_ => XS.aloadN X.here hx rfl (hb hby d3_22) rfl rfl kk_) ?_
  show Go p.tables e below (T.setTop (mkF m 23 #[.val (.ref a1), .val (.ref a2), .val (.int (2 : Int32))] [(.ref a1), (.int (2 : Int32))])) _
  have Vo_ := V_a1
  obtain ⟨cl_, Ar_, q_, S_, N_, H_, G_⟩ := Vo_
  refine Go.by (X.arraylength hx (by rw [eT]; exact Ar_.1) (State.isArrayOf_alike hZ.alike Ar_.2.1) (g := (mkF m 23 #[.val (.ref a1), .val (.ref a2), .val (.int (2 : Int32))] [(.ref a1), (.int (2 : Int32))])) rfl rfl (hb hby d3_23)) ?_
  rw [len_of S_ N_]
  show Go p.tables e below (T.setTop (mkF m 24 #[.val (.ref a1), .val (.ref a2), .val (.int (2 : Int32))] [(.int (2 : Int32)), (.int (2 : Int32))])) _
  refine Go.by (fun tt_ kk_ => XS.icmpYes X.here hx rfl (pc0 := 24) (pc' := 63) rfl (hb hby d3_24) rfl (flt (by decide : ¬ ((2 : Int32) < (2 : Int32)))).2.1 (by decide) (by decide) kk_) ?_
  show Go p.tables e below (T.setTop (mkF m 63 #[.val (.ref a1), .val (.ref a2), .val (.int (2 : Int32))] [])) _
  refine Go.by (fun tt_ kk_ => XS.aloadN X.here hx rfl (hb hby d3_63) rfl rfl kk_) ?_
  show Go p.tables e below (T.setTop (mkF m 64 #[.val (.ref a1), .val (.ref a2), .val (.int (2 : Int32))] [(.ref a1)])) _
  obtain ⟨T, h3, X, eT, E_, A_, Ea_, st⟩ := cloneH X hx hZ hown (hw _ (List.mem_of_getElem? (i := 36) rfl)) (hw _ (List.mem_of_getElem? (i := 37) rfl)) (hw _ (List.mem_of_getElem? (i := 41) rfl)) (hw _ (List.mem_of_getElem? (i := 39) rfl)) (hw _ (List.mem_of_getElem? (i := 40) rfl)) (hw _ (List.mem_of_getElem? (i := 42) rfl)) eT (Arv.arh V_a1) E_a1 (g := (mkF m 64 #[.val (.ref a1), .val (.ref a2), .val (.int (2 : Int32))] [(.ref a1)])) rfl (by rw [hml]; rfl) rfl (hb hby d3_64) (by decide) (W := 0) (cap := 2) (by show 2 * 0 + _ ≤ _; exact Nat.le_of_eq rfl) (by decide) (by decide) (by decide) (by decide)
  obtain ⟨b3, g_b3'⟩ : ∃ z, z = h0.size := ⟨_, rfl⟩
  rw [← g_b3'] at A_ Ea_ st
  have ne_a1_b3 : a1 ≠ b3 := Nat.ne_of_lt (Nat.lt_of_lt_of_le V_a1.lt (Nat.le_of_eq g_b3'.symm))
  have ne_b3_a1 : b3 ≠ a1 := Ne.symm ne_a1_b3
  have g_b3 : n0 ≤ b3 := Nat.le_trans Z0 (Nat.le_trans K.1 (Nat.le_of_eq g_b3'.symm))
  have sz_b3 : h0.size ≤ b3 := Nat.le_trans K.1 (Nat.le_of_eq g_b3'.symm)
  have K := K.ext E_
  have V_a1 := Arv.ext V_a1 E_
  have E_a1 := Exa.ext E_ E_a1
  have V_b3 : Arv Z h3 b3 kk .double (2 : Int32) [(.double y0), (.double y1)] (.double (0 : UInt64)) := A_
  have E_b3 := Ea_
  refine Go.by st ?_
  show Go p.tables e below (T.setTop (mkF m 67 #[.val (.ref a1), .val (.ref a2), .val (.int (2 : Int32))] [(.ref b3)])) _
  obtain ⟨T, X, eT, st⟩ := castY X hx hZ hown (hw _ (List.mem_of_getElem? (i := 43) rfl)) eT (Ins.self E_b3) (g := (mkF m 67 #[.val (.ref a1), .val (.ref a2), .val (.int (2 : Int32))] [(.ref b3)])) rfl rfl (hb hby d3_67)
  refine Go.by st ?_
  show Go p.tables e below (T.setTop (mkF m 70 #[.val (.ref a1), .val (.ref a2), .val (.int (2 : Int32))] [(.ref b3)])) _
  exact Go.done X  (v := some (.ref b3)) (fun h => by rw [Bd.returns] at h; cases h) Bd.notSynchronized (fun fs hr => retOut X hx Bd.returns rfl (by simp [Value.isRef, FieldType.isReference]) (hb hby d3_70) hr) (by rw [eT]; exact ⟨b3, g_b3, sz_b3, rfl, N, K, V_b3⟩) (by decide) (by decide)
def Q1_2 (Z : State) (a1 : Addr) (a2 : Addr) (x3 : UInt64) (y0 : UInt64) (y1 : UInt64) (kk : ClassId) (h0 : Heap) (n0 : Nat) (v : Option Value) (h : Heap) (L : List Loc) : Prop := v = none ∧ Fr n0 L ∧ Keep h0 h [a1] ∧ Exa Z h a1 "com/example/pareto_helm/paretohelm/engine/Budget" ∧ ∃ b : Addr, Fld Z h a1 "com/example/pareto_helm/paretohelm/engine/Budget" "costs" "[D" (.ref b) ∧ Fld Z h a1 "com/example/pareto_helm/paretohelm/engine/Budget" "limit" "D" (.double x3) ∧ Arv Z h b kk .double (2 : Int32) [(.double y0), (.double y1)] (.double (0 : UInt64))
set_option maxRecDepth 65536 in
set_option maxHeartbeats 40000000 in
theorem rm1_2 (l : Launch) (Z : State) (a0 : Array Value) (hw : ∀ d ∈ tables_1, d.before a0 Z = true) (ws : List Jvm.Cond) (a1 : Addr) (a2 : Addr) (x3 : UInt64) (y0 : UInt64) (y1 : UInt64) (kk : ClassId) (h0 : Heap) (n0 : Nat) (Z0 : n0 ≤ h0.size) (E_a1 : Exa Z h0 a1 "com/example/pareto_helm/paretohelm/engine/Budget") (g_a1 : n0 ≤ a1) (F_costs_a1 : Fld Z h0 a1 "com/example/pareto_helm/paretohelm/engine/Budget" "costs" "[D" .null) (F_limit_a1 : Fld Z h0 a1 "com/example/pareto_helm/paretohelm/engine/Budget" "limit" "D" (.double (0 : UInt64))) (ne_a2_a1 : a2 ≠ a1) (V_a2 : Arv Z h0 a2 kk .double (2 : Int32) [(.double y0), (.double y1)] (.double (0 : UInt64))) (E_a2 : Exa Z h0 a2 "[D") (fl : Fin64 x3) (bl : (0 : Int32) < cmpValue (FP.dcmp x3 0) .l) (f0 : Fin64 y0) (b0 : (0 : Int32) < cmpValue (FP.dcmp y0 0) .l) (f1 : Fin64 y1) (b1 : (0 : Int32) < cmpValue (FP.dcmp y1 0) .l) :
    MetFree l (⟨"com/example/pareto_helm/paretohelm/engine/Budget", "<init>", "([DD)V"⟩ : MethodName) (head1 (Jvm.Cond.codeWith (⟨"com/example/pareto_helm/paretohelm/engine/Budget", "<init>", "([DD)V"⟩ : MethodName) prog_5_method_1_code 5 none [((4 : Nat), (14 : Nat), (17 : Nat), (21 : Nat))] :: ws) ({ frames := 4, cells := 3, slots := 22, locals := 60 } : Room)) (fun a U => a = #[(.ref a1), (.ref a2), (.double x3)] ∧ Z.Warmed39 U.vm ∧ U.heap = h0) (fun _ _ _ _ _ => True) (fun _ U o U' => ∃ v L, o = .returned v ∧ Q1_2 Z a1 a2 x3 y0 y1 kk h0 n0 v U'.heap L ∧ ReturnedEndW U o U' L ({ frames := 4, cells := 3, slots := 22, locals := 60 } : Room).cells ({ frames := 4, cells := 3, slots := 22, locals := 60 } : Room).slots) := by
  refine MetFree.of_bodySF (plainFor_of_name pn_2) hisWith ?_
  intro p e s m args below meth c s₁ Bd hml0 hP hK
  obtain ⟨rfl, hZ, hh⟩ := hP
  have hx := Bd.exec
  have hby := Bd.bytes
  have hml : c.maxLocals = 5 := hml0
  have hown : s.vm.findClass "com/example/pareto_helm/paretohelm/engine/Budget" = some m.cls := findClass_of_methodNamed Bd.named
  have hnm := (name_of_methodNamed Bd.named Bd.method).1
  have X : Stand p l e ({ frames := 4, cells := 3, slots := 22, locals := 60 } : Room) s m #[(.ref a1), (.ref a2), (.double x3)] below meth c s₁ [] 0 0 := Stand.of_body Bd
  have eT : s₁.heap = h0 := by rw [← hh, Bd.state]; rfl
  have N := Fr.nil n0
  have K := Keep.refl h0 [a1]
  have X : Stand p l e ({ frames := 4, cells := 3, slots := 22, locals := 60 } : Room) (s.setVm s.vm) m #[(.ref a1), (.ref a2), (.double x3)] below meth c s₁ [] 0 0 := X
  have hS : s.Since s.vm h0.size := (State.WarmedH.refl s).since _
  have hk : h0.size ≤ h0.size := Nat.le_refl _
  have hZ : Z.Warmed39 (s.setVm s.vm).vm := hZ
  have hown : (s.setVm s.vm).vm.findClass "com/example/pareto_helm/paretohelm/engine/Budget" = some m.cls := hown
  have wS : ∀ a ∈ Bundle.stringAtoms, a.before a0 Z = true := fun a ha => by
    simp only [Bundle.stringAtoms, List.mem_cons, List.not_mem_nil, or_false] at ha
    rcases ha with rfl | rfl | rfl | rfl | rfl | rfl | rfl
    · exact (hw _ (List.mem_of_getElem? (i := 13) rfl))
    · exact (hw _ (List.mem_of_getElem? (i := 14) rfl))
    · exact (hw _ (List.mem_of_getElem? (i := 15) rfl))
    · exact (hw _ (List.mem_of_getElem? (i := 16) rfl))
    · exact (hw _ (List.mem_of_getElem? (i := 17) rfl))
    · exact (hw _ (List.mem_of_getElem? (i := 18) rfl))
    · exact (hw _ (List.mem_of_getElem? (i := 19) rfl))
  refine Go.out ?_
  obtain ⟨T, eTT⟩ : ∃ z, z = s₁ := ⟨_, rfl⟩
  rw [← eTT] at X eT ⊢
  refine Go.by (fun tt_ kk_ => castTop (ef_1 m a1 a2 x3) kk_) ?_
  show Go p.tables e below (T.setTop (mkF m 0 #[.val (.ref a1), .val (.ref a2), .val (.double x3), .second, .unset] [])) _
  refine Go.by (fun tt_ kk_ => XS.aloadN X.here hx rfl (hb hby d1_0) rfl rfl kk_) ?_
  show Go p.tables e below (T.setTop (mkF m 1 #[.val (.ref a1), .val (.ref a2), .val (.double x3), .second, .unset] [(.ref a1)])) _
  obtain ⟨T, X, eT, st⟩ := initO X hx hZ hown (hw _ (List.mem_of_getElem? (i := 9) rfl)) (hw _ (List.mem_of_getElem? (i := 10) rfl)) (hw _ (List.mem_of_getElem? (i := 11) rfl)) eT (g := (mkF m 1 #[.val (.ref a1), .val (.ref a2), .val (.double x3), .second, .unset] [(.ref a1)])) rfl (by rw [hml]; rfl) rfl (hb hby d1_1) (by decide) (W := 0) (by show 2 * 0 + _ ≤ _; exact Nat.le_of_eq rfl) (by decide)
  refine Go.by st ?_
  show Go p.tables e below (T.setTop (mkF m 4 #[.val (.ref a1), .val (.ref a2), .val (.double x3), .second, .unset] [])) _
  refine Go.by (fun tt_ kk_ => XS.aloadN X.here hx rfl (hb hby d1_4) rfl rfl kk_) ?_
  show Go p.tables e below (T.setTop (mkF m 5 #[.val (.ref a1), .val (.ref a2), .val (.double x3), .second, .unset] [(.ref a1)])) _
  refine Go.by (fun tt_ kk_ => XS.aloadN X.here hx rfl (hb hby d1_5) rfl rfl kk_) ?_
  show Go p.tables e below (T.setTop (mkF m 6 #[.val (.ref a1), .val (.ref a2), .val (.double x3), .second, .unset] [(.ref a2), (.ref a1)])) _
  obtain ⟨lit2, T, h1, k1_, X, eT, E_, hS, hk, hZ, hown, st⟩ := ldcS X hx hZ hown (hw _ (List.mem_of_getElem? (i := 12) rfl)) wS eT hS hk (g := (mkF m 6 #[.val (.ref a1), .val (.ref a2), .val (.double x3), .second, .unset] [(.ref a2), (.ref a1)])) rfl (hb hby d1_6) (n := 16) (by decide) (by decide) (by decide) (by decide)
  have V_a2 := Arv.ext V_a2 E_
  have E_a2 := Exa.ext E_ E_a2
  have E_a1 := Exa.ext E_ E_a1
  have F_costs_a1 := Fld.ext E_ F_costs_a1
  have F_limit_a1 := Fld.ext E_ F_limit_a1
  have K := K.ext E_
  refine Go.by st ?_
  show Go p.tables e below (T.setTop (mkF m 8 #[.val (.ref a1), .val (.ref a2), .val (.double x3), .second, .unset] [(.ref lit2), (.ref a2), (.ref a1)])) _
  have lt_a1 := E_a1.lt
  obtain ⟨_, _, ⟨T, L_, k_, n_⟩, -, X, ⟨Lc_, hQ, l_, y_, z_⟩, st⟩ := Jvm.LawKit.callS X hx (y := (⟨"com/example/pareto_helm/paretohelm/engine/Positive", "copyOf", "([DLjava/lang/String;)[D"⟩ : MethodName)) hown (mvT hZ (hw _ (List.mem_of_getElem? (i := 20) rfl))) (mvT hZ (hw _ (List.mem_of_getElem? (i := 21) rfl))) (mvT hZ (hw _ (List.mem_of_getElem? (i := 22) rfl))) (mvT hZ (hw _ (List.mem_of_getElem? (i := 23) rfl))) (by decide) (backOf (W := 1) (rm3_2 l Z a0 hw [] a2 lit2 y0 y1 kk h1 n0 (Nat.le_trans Z0 K.1) V_a2 E_a2 f0 b0 f1 b1) hZ (hw _ (List.mem_of_getElem? (i := 23) rfl)) (hw _ (List.mem_of_getElem? (i := 22) rfl)) (by decide) (by decide)) (g := (mkF m 8 #[.val (.ref a1), .val (.ref a2), .val (.double x3), .second, .unset] [(.ref lit2), (.ref a2), (.ref a1)])) rfl (by rw [hml]; rfl) (argsL := [(.ref a2), (.ref lit2)]) (rest := [(.ref a1)]) (lenOf pd_2 rfl) rfl (by show 2 * 0 + _ ≤ _; exact Nat.le_of_eq rfl) (hb hby d1_8) (fun _ _ => ⟨rfl, eT, (by decide : 2 + 1 ≤ _), (by decide : 20 + 2 ≤ _)⟩)
  dsimp only [Pt.U, Pt.locs, Pt.cells, Pt.slots] at X l_ y_ z_ st hQ
  subst l_ y_ z_
  obtain ⟨h4, eT⟩ : ∃ z, T.heap = z := ⟨_, rfl⟩
  rw [eT] at hQ
  obtain ⟨b3, g_b3, sq_b3, rfl, Nq, Kq, V_b3⟩ := hQ
  have N := Fr.app N Nq
  have V_a2 := Arv.keep V_a2 Kq nin0
  have E_a2 := Exa.keep E_a2 Kq
  have E_a1 := Exa.keep E_a1 Kq
  have F_costs_a1 := Fld.keep F_costs_a1 Kq nin0
  have F_limit_a1 := Fld.keep F_limit_a1 Kq nin0
  have sz_b3 : h0.size ≤ b3 := Nat.le_trans K.1 sq_b3
  have K := K.trans Kq all0
  have ne_a1_b3 : a1 ≠ b3 := Nat.ne_of_lt (Nat.lt_of_lt_of_le lt_a1 sq_b3)
  have ne_b3_a1 := Ne.symm ne_a1_b3
  have hk := Nat.le_trans hk Kq.1
  refine Go.by st ?_
  show Go p.tables e below (T.setTop (mkF m 11 #[.val (.ref a1), .val (.ref a2), .val (.double x3), .second, .unset] [(.ref b3), (.ref a1)])) _
  obtain ⟨T, h5, X, eT, Wh5, st⟩ := putF X hx hZ hown (host := "") (Or.inl (hw _ (List.mem_of_getElem? (i := 45) rfl))) Via.refl eT F_costs_a1 E_a1 (Or.inr ⟨(hw _ (List.mem_of_getElem? (i := 46) rfl)), rfl, hnm⟩) (hw _ (List.mem_of_getElem? (i := 4) rfl)) (ty := (.array .double)) (by decide) rfl rfl (g := (mkF m 11 #[.val (.ref a1), .val (.ref a2), .val (.double x3), .second, .unset] [(.ref b3), (.ref a1)])) rfl rfl (hb hby d1_11)
  have F_costs_a1 := Fld.same Wh5 F_costs_a1
  have V_a2 := Arv.other V_a2 Wh5 ne_a2_a1
  have E_a2 := Exa.wr Wh5 E_a2
  have E_a1 := Exa.wr Wh5 E_a1
  have F_limit_a1 := Fld.other Wh5 F_limit_a1 (Or.inr (slot_ne (Or.inr (hw _ (List.mem_of_getElem? (i := 49) rfl))) (Or.inr (hw _ (List.mem_of_getElem? (i := 46) rfl))) (by decide) (t := .double) (t' := (.array .double)) (by decide) (by decide)))
  have V_b3 := Arv.other V_b3 Wh5 ne_b3_a1
  have N := Fr.snoc X N g_a1
  have K := K.wr Wh5 (Or.inl (List.mem_of_getElem? (i := 0) rfl))
  have hk := Nat.le_trans hk (Nat.le_of_eq (Wr.size Wh5).symm)
  refine Go.by st ?_
  show Go p.tables e below (T.setTop (mkF m 14 #[.val (.ref a1), .val (.ref a2), .val (.double x3), .second, .unset] [])) _
  refine Go.by (fun tt_ kk_ => XS.goto X.here hx rfl (pc0 := 14) (pc' := 39) rfl (hb hby d1_14) (by decide) (by decide) kk_) ?_
  show Go p.tables e below (T.setTop (mkF m 39 #[.val (.ref a1), .val (.ref a2), .val (.double x3), .second, .unset] [])) _
  refine Go.by (fun tt_ kk_ => XS.dloadN X.here hx rfl (hb hby d1_39) rfl kk_) ?_
  show Go p.tables e below (T.setTop (mkF m 40 #[.val (.ref a1), .val (.ref a2), .val (.double x3), .second, .unset] [(.double x3)])) _
  obtain ⟨_, _, ⟨T, L_, k_, n_⟩, -, X, ⟨Lc_, hQ, l_, y_, z_⟩, st⟩ := Jvm.LawKit.callS X hx (y := (⟨"com/example/pareto_helm/paretohelm/engine/Positive", "holds", "(D)Z"⟩ : MethodName)) hown (mvT hZ (hw _ (List.mem_of_getElem? (i := 47) rfl))) (mvT hZ (hw _ (List.mem_of_getElem? (i := 25) rfl))) (mvT hZ (hw _ (List.mem_of_getElem? (i := 22) rfl))) (mvT hZ (hw _ (List.mem_of_getElem? (i := 26) rfl))) (by decide) (backOf (W := 0) (rm4 l Z a0 hw [] x3 h5 n0 (Nat.le_trans Z0 K.1) fl bl) hZ (hw _ (List.mem_of_getElem? (i := 26) rfl)) (hw _ (List.mem_of_getElem? (i := 22) rfl)) (by decide) (by decide)) (g := (mkF m 40 #[.val (.ref a1), .val (.ref a2), .val (.double x3), .second, .unset] [(.double x3)])) rfl (by rw [hml]; rfl) (argsL := [(.double x3)]) (rest := []) (lenOf pd_1 rfl) rfl (by show 2 * 0 + _ ≤ _; exact Nat.le_of_eq rfl) (hb hby d1_40) (fun _ _ => ⟨rfl, eT, (by decide : 3 + 0 ≤ _), (by decide : 22 + 0 ≤ _)⟩)
  dsimp only [Pt.U, Pt.locs, Pt.cells, Pt.slots] at X l_ y_ z_ st hQ
  subst l_ y_ z_
  obtain ⟨rfl, Nq, eh⟩ := hQ
  have N := Fr.app N Nq
  have eT := eh
  refine Go.by st ?_
  show Go p.tables e below (T.setTop (mkF m 43 #[.val (.ref a1), .val (.ref a2), .val (.double x3), .second, .unset] [(.int (1 : Int32))])) _
  refine Go.by (fun tt_ kk_ => XS.ifYes X.here hx rfl (pc0 := 43) (pc' := 60) rfl (hb hby d1_43) rfl ((if0 _ _).trans (feq (by decide : ¬ ((1 : Int32) = (0 : Int32)))).2) (by decide) (by decide) kk_) ?_
  show Go p.tables e below (T.setTop (mkF m 60 #[.val (.ref a1), .val (.ref a2), .val (.double x3), .second, .unset] [])) _
  refine Go.by (fun tt_ kk_ => XS.aloadN X.here hx rfl (hb hby d1_60) rfl rfl kk_) ?_
  show Go p.tables e below (T.setTop (mkF m 61 #[.val (.ref a1), .val (.ref a2), .val (.double x3), .second, .unset] [(.ref a1)])) _
  refine Go.by (fun tt_ kk_ => XS.dloadN X.here hx rfl (hb hby d1_61) rfl kk_) ?_
  show Go p.tables e below (T.setTop (mkF m 62 #[.val (.ref a1), .val (.ref a2), .val (.double x3), .second, .unset] [(.double x3), (.ref a1)])) _
  obtain ⟨T, h7, X, eT, Wh7, st⟩ := putF X hx hZ hown (host := "") (Or.inl (hw _ (List.mem_of_getElem? (i := 48) rfl))) Via.refl eT F_limit_a1 E_a1 (Or.inr ⟨(hw _ (List.mem_of_getElem? (i := 49) rfl)), rfl, hnm⟩) (hw _ (List.mem_of_getElem? (i := 4) rfl)) (ty := .double) (by decide) rfl rfl (g := (mkF m 62 #[.val (.ref a1), .val (.ref a2), .val (.double x3), .second, .unset] [(.double x3), (.ref a1)])) rfl rfl (hb hby d1_62)
  have F_limit_a1 := Fld.same Wh7 F_limit_a1
  have V_a2 := Arv.other V_a2 Wh7 ne_a2_a1
  have E_a2 := Exa.wr Wh7 E_a2
  have E_a1 := Exa.wr Wh7 E_a1
  have F_costs_a1 := Fld.other Wh7 F_costs_a1 (Or.inr (slot_ne (Or.inr (hw _ (List.mem_of_getElem? (i := 46) rfl))) (Or.inr (hw _ (List.mem_of_getElem? (i := 49) rfl))) (by decide) (t := (.array .double)) (t' := .double) (by decide) (by decide)))
  have V_b3 := Arv.other V_b3 Wh7 ne_b3_a1
  have N := Fr.snoc X N g_a1
  have K := K.wr Wh7 (Or.inl (List.mem_of_getElem? (i := 0) rfl))
  have hk := Nat.le_trans hk (Nat.le_of_eq (Wr.size Wh7).symm)
  refine Go.by st ?_
  show Go p.tables e below (T.setTop (mkF m 65 #[.val (.ref a1), .val (.ref a2), .val (.double x3), .second, .unset] [])) _
  exact Go.doneW X hS (by rw [eT]; exact hk) (v := none) (fun _ => rfl) Bd.notSynchronized (fun fs hr => X.returnOut hx Bd.returns (hb hby d1_65) hr) (by rw [eT]; exact ⟨rfl, N, K, E_a1, b3, F_costs_a1, F_limit_a1, V_b3⟩) (by decide) (by decide)
def Q7_2 (Z : State) (a1 : Addr) (a2 : Addr) (x0 : UInt64) (y0 : UInt64) (w0 : Int) (c0 : Int) (x1 : UInt64) (y1 : UInt64) (w1 : Int) (c1 : Int) (kc : ClassId) (kw : ClassId) (ca : Addr) (lm : UInt64) (h0 : Heap) (n0 : Nat) (v : Option Value) (h : Heap) (L : List Loc) : Prop := ∃ (b : Addr) (kb : ClassId), n0 ≤ b ∧ h0.size ≤ b ∧ v = some (.ref b) ∧ Fr n0 L ∧ Keep h0 h [] ∧ Arv Z h b kb .double (2 : Int32) (own_bc2 w0 c0 w1 c1 lm y0 y1) (.double (0 : UInt64))
set_option maxRecDepth 65536 in
set_option maxHeartbeats 40000000 in
theorem rm7_2 (l : Launch) (Z : State) (a0 : Array Value) (hw : ∀ d ∈ tables_1, d.before a0 Z = true) (ws : List Jvm.Cond) (a1 : Addr) (a2 : Addr) (x0 : UInt64) (y0 : UInt64) (w0 : Int) (c0 : Int) (x1 : UInt64) (y1 : UInt64) (w1 : Int) (c1 : Int) (kc : ClassId) (kw : ClassId) (ca : Addr) (lm : UInt64) (h0 : Heap) (n0 : Nat) (Z0 : n0 ≤ h0.size) (F_costs_a1 : Fld Z h0 a1 "com/example/pareto_helm/paretohelm/engine/Budget" "costs" "[D" (.ref ca)) (F_limit_a1 : Fld Z h0 a1 "com/example/pareto_helm/paretohelm/engine/Budget" "limit" "D" (.double lm)) (V_ca : Arv Z h0 ca kc .double (2 : Int32) [(.double y0), (.double y1)] (.double (0 : UInt64))) (V_a2 : Arv Z h0 a2 kw .double (2 : Int32) [(.double x0), (.double x1)] (.double (0 : UInt64))) (fl : Fin64 lm) (dx0 : Dy w0 0 x0) (dy0 : Dy c0 0 y0) (bw0 : -2147483648 ≤ w0 ∧ w0 ≤ 2147483648) (bc0 : 1 ≤ c0 ∧ c0 ≤ 1024) (dx1 : Dy w1 0 x1) (dy1 : Dy c1 0 y1) (bw1 : -2147483648 ≤ w1 ∧ w1 ≤ 2147483648) (bc1 : 1 ≤ c1 ∧ c1 ≤ 1024) :
    MetFree l (⟨"com/example/pareto_helm/paretohelm/engine/Budget", "bestCorner", "([D)[D"⟩ : MethodName) (head1 (Jvm.Cond.code (⟨"com/example/pareto_helm/paretohelm/engine/Budget", "bestCorner", "([D)[D"⟩ : MethodName) prog_5_method_6_code 4 (some (.array .double)) :: ws) ({ frames := 0, cells := 1, slots := 2, locals := 0 } : Room)) (fun a U => a = #[(.ref a1), (.ref a2)] ∧ Z.Warmed39 U.vm ∧ U.heap = h0) (fun _ _ _ _ _ => True) (fun _ U o U' => ∃ v L, o = .returned v ∧ Q7_2 Z a1 a2 x0 y0 w0 c0 x1 y1 w1 c1 kc kw ca lm h0 n0 v U'.heap L ∧ FrameEnd U o U' L ({ frames := 0, cells := 1, slots := 2, locals := 0 } : Room).cells ({ frames := 0, cells := 1, slots := 2, locals := 0 } : Room).slots) := by
  refine MetFree.of_bodySF (plainFor_of_name pn_2) hisR ?_
  intro p e s m args below meth c s₁ Bd hml0 hP hK
  obtain ⟨rfl, hZ, hh⟩ := hP
  have hx := Bd.exec
  have hby := Bd.bytes
  have hml : c.maxLocals = 4 := hml0
  have hown : s.vm.findClass "com/example/pareto_helm/paretohelm/engine/Budget" = some m.cls := findClass_of_methodNamed Bd.named
  have hnm := (name_of_methodNamed Bd.named Bd.method).1
  have X : Stand p l e ({ frames := 0, cells := 1, slots := 2, locals := 0 } : Room) s m #[(.ref a1), (.ref a2)] below meth c s₁ [] 0 0 := Stand.of_body Bd
  have eT : s₁.heap = h0 := by rw [← hh, Bd.state]; rfl
  have N := Fr.nil n0
  have K := Keep.refl h0 []
  refine Go.out ?_
  obtain ⟨T, eTT⟩ : ∃ z, z = s₁ := ⟨_, rfl⟩
  rw [← eTT] at X eT ⊢
  refine Go.by (fun tt_ kk_ => castTop (ef_7 m a1 a2) kk_) ?_
  show Go p.tables e below (T.setTop (mkF m 0 #[.val (.ref a1), .val (.ref a2), .unset, .unset] [])) _
  refine Go.by (fun tt_ kk_ => XS.iconst X.here hx rfl (hb hby d7_0) kk_) ?_
  show Go p.tables e below (T.setTop (mkF m 1 #[.val (.ref a1), .val (.ref a2), .unset, .unset] [(.int (0 : Int32))])) _
  refine Go.by (fun tt_ kk_ => XS.istoreN X.here hx rfl (hb hby d7_1) rfl (l' := #[.val (.ref a1), .val (.ref a2), .val (.int (0 : Int32)), .unset]) rfl kk_) ?_
  show Go p.tables e below (T.setTop (mkF m 2 #[.val (.ref a1), .val (.ref a2), .val (.int (0 : Int32)), .unset] [])) _
  refine Go.by (fun tt_ kk_ => XS.iconst X.here hx rfl (hb hby d7_2) kk_) ?_
  show Go p.tables e below (T.setTop (mkF m 3 #[.val (.ref a1), .val (.ref a2), .val (.int (0 : Int32)), .unset] [(.int (1 : Int32))])) _
  refine Go.by (fun tt_ kk_ => XS.istoreN X.here hx rfl (hb hby d7_3) rfl (l' := #[.val (.ref a1), .val (.ref a2), .val (.int (0 : Int32)), .val (.int (1 : Int32))]) rfl kk_) ?_
  show Go p.tables e below (T.setTop (mkF m 4 #[.val (.ref a1), .val (.ref a2), .val (.int (0 : Int32)), .val (.int (1 : Int32))] [])) _
  refine Go.by (fun tt_ kk_ => XS.iloadN X.here hx rfl (hb hby d7_4) rfl kk_) ?_
  show Go p.tables e below (T.setTop (mkF m 5 #[.val (.ref a1), .val (.ref a2), .val (.int (0 : Int32)), .val (.int (1 : Int32))] [(.int (1 : Int32))])) _
  refine Go.by (fun tt_ kk_ => XS.aloadN X.here hx rfl (hb hby d7_5) rfl rfl kk_) ?_
  show Go p.tables e below (T.setTop (mkF m 6 #[.val (.ref a1), .val (.ref a2), .val (.int (0 : Int32)), .val (.int (1 : Int32))] [(.ref a1), (.int (1 : Int32))])) _
  obtain ⟨T, X, eT, st⟩ := getF X hx hZ hown (host := "") (Or.inl (hw _ (List.mem_of_getElem? (i := 45) rfl))) Via.refl eT F_costs_a1 (g := (mkF m 6 #[.val (.ref a1), .val (.ref a2), .val (.int (0 : Int32)), .val (.int (1 : Int32))] [(.ref a1), (.int (1 : Int32))])) rfl rfl (hb hby d7_6)
  refine Go.by st ?_
  show Go p.tables e below (T.setTop (mkF m 9 #[.val (.ref a1), .val (.ref a2), .val (.int (0 : Int32)), .val (.int (1 : Int32))] [(.ref ca), (.int (1 : Int32))])) _
  have Vo_ := V_ca
  obtain ⟨cl_, Ar_, q_, S_, N_, H_, G_⟩ := Vo_
  refine Go.by (X.arraylength hx (by rw [eT]; exact Ar_.1) (State.isArrayOf_alike hZ.alike Ar_.2.1) (g := (mkF m 9 #[.val (.ref a1), .val (.ref a2), .val (.int (0 : Int32)), .val (.int (1 : Int32))] [(.ref ca), (.int (1 : Int32))])) rfl rfl (hb hby d7_9)) ?_
  rw [len_of S_ N_]
  show Go p.tables e below (T.setTop (mkF m 10 #[.val (.ref a1), .val (.ref a2), .val (.int (0 : Int32)), .val (.int (1 : Int32))] [(.int (2 : Int32)), (.int (1 : Int32))])) _
  refine Go.by (fun tt_ kk_ => XS.icmpNo X.here hx rfl (hb hby d7_10) rfl (tlt (by decide : (1 : Int32) < (2 : Int32))).2.1 kk_) ?_
  show Go p.tables e below (T.setTop (mkF m 13 #[.val (.ref a1), .val (.ref a2), .val (.int (0 : Int32)), .val (.int (1 : Int32))] [])) _
  refine Go.by (fun tt_ kk_ => XS.aloadN X.here hx rfl (hb hby d7_13) rfl rfl kk_) ?_
  show Go p.tables e below (T.setTop (mkF m 14 #[.val (.ref a1), .val (.ref a2), .val (.int (0 : Int32)), .val (.int (1 : Int32))] [(.ref a2)])) _
  refine Go.by (fun tt_ kk_ => XS.iloadN X.here hx rfl (hb hby d7_14) rfl kk_) ?_
  show Go p.tables e below (T.setTop (mkF m 15 #[.val (.ref a1), .val (.ref a2), .val (.int (0 : Int32)), .val (.int (1 : Int32))] [(.int (1 : Int32)), (.ref a2)])) _
  have Vo_ := V_a2
  obtain ⟨cl_, Ar_, q_, S_, N_, H_, G_⟩ := Vo_
  refine Go.by (X.daload hx (j := (1 : Int32)) (v := (.double x1)) (by rw [eT]; exact Ar_.1) (State.isArrayOf_alike hZ.alike Ar_.2.1) Ar_.2.2 (inb_of S_ ⟨by decide, by decide⟩) (Has.at H_ (inb_of S_ ⟨by decide, by decide⟩) rfl) (g := (mkF m 15 #[.val (.ref a1), .val (.ref a2), .val (.int (0 : Int32)), .val (.int (1 : Int32))] [(.int (1 : Int32)), (.ref a2)])) rfl rfl (hb hby d7_15)) ?_
  show Go p.tables e below (T.setTop (mkF m 16 #[.val (.ref a1), .val (.ref a2), .val (.int (0 : Int32)), .val (.int (1 : Int32))] [(.double x1)])) _
  refine Go.by (fun tt_ kk_ => XS.aloadN X.here hx rfl (hb hby d7_16) rfl rfl kk_) ?_
  show Go p.tables e below (T.setTop (mkF m 17 #[.val (.ref a1), .val (.ref a2), .val (.int (0 : Int32)), .val (.int (1 : Int32))] [(.ref a1), (.double x1)])) _
  obtain ⟨T, X, eT, st⟩ := getF X hx hZ hown (host := "") (Or.inl (hw _ (List.mem_of_getElem? (i := 45) rfl))) Via.refl eT F_costs_a1 (g := (mkF m 17 #[.val (.ref a1), .val (.ref a2), .val (.int (0 : Int32)), .val (.int (1 : Int32))] [(.ref a1), (.double x1)])) rfl rfl (hb hby d7_17)
  refine Go.by st ?_
  show Go p.tables e below (T.setTop (mkF m 20 #[.val (.ref a1), .val (.ref a2), .val (.int (0 : Int32)), .val (.int (1 : Int32))] [(.ref ca), (.double x1)])) _
  refine Go.by (fun tt_ kk_ => XS.iloadN X.here hx rfl (hb hby d7_20) rfl kk_) ?_
  show Go p.tables e below (T.setTop (mkF m 21 #[.val (.ref a1), .val (.ref a2), .val (.int (0 : Int32)), .val (.int (1 : Int32))] [(.int (1 : Int32)), (.ref ca), (.double x1)])) _
  have Vo_ := V_ca
  obtain ⟨cl_, Ar_, q_, S_, N_, H_, G_⟩ := Vo_
  refine Go.by (X.daload hx (j := (1 : Int32)) (v := (.double y1)) (by rw [eT]; exact Ar_.1) (State.isArrayOf_alike hZ.alike Ar_.2.1) Ar_.2.2 (inb_of S_ ⟨by decide, by decide⟩) (Has.at H_ (inb_of S_ ⟨by decide, by decide⟩) rfl) (g := (mkF m 21 #[.val (.ref a1), .val (.ref a2), .val (.int (0 : Int32)), .val (.int (1 : Int32))] [(.int (1 : Int32)), (.ref ca), (.double x1)])) rfl rfl (hb hby d7_21)) ?_
  show Go p.tables e below (T.setTop (mkF m 22 #[.val (.ref a1), .val (.ref a2), .val (.int (0 : Int32)), .val (.int (1 : Int32))] [(.double y1), (.double x1)])) _
  refine Go.by (fun tt_ kk_ => XS.ddivS X.here hx rfl (hb hby d7_22) rfl (own_divnn dx1 dy1 (by omega)) rfl kk_) ?_
  show Go p.tables e below (T.setTop (mkF m 23 #[.val (.ref a1), .val (.ref a2), .val (.int (0 : Int32)), .val (.int (1 : Int32))] [(.double (FP.ddiv x1 y1))])) _
  refine Go.by (fun tt_ kk_ => XS.aloadN X.here hx rfl (hb hby d7_23) rfl rfl kk_) ?_
  show Go p.tables e below (T.setTop (mkF m 24 #[.val (.ref a1), .val (.ref a2), .val (.int (0 : Int32)), .val (.int (1 : Int32))] [(.ref a2), (.double (FP.ddiv x1 y1))])) _
  refine Go.by (fun tt_ kk_ => XS.iloadN X.here hx rfl (hb hby d7_24) rfl kk_) ?_
  show Go p.tables e below (T.setTop (mkF m 25 #[.val (.ref a1), .val (.ref a2), .val (.int (0 : Int32)), .val (.int (1 : Int32))] [(.int (0 : Int32)), (.ref a2), (.double (FP.ddiv x1 y1))])) _
  have Vo_ := V_a2
  obtain ⟨cl_, Ar_, q_, S_, N_, H_, G_⟩ := Vo_
  refine Go.by (X.daload hx (j := (0 : Int32)) (v := (.double x0)) (by rw [eT]; exact Ar_.1) (State.isArrayOf_alike hZ.alike Ar_.2.1) Ar_.2.2 (inb_of S_ ⟨by decide, by decide⟩) (Has.at H_ (inb_of S_ ⟨by decide, by decide⟩) rfl) (g := (mkF m 25 #[.val (.ref a1), .val (.ref a2), .val (.int (0 : Int32)), .val (.int (1 : Int32))] [(.int (0 : Int32)), (.ref a2), (.double (FP.ddiv x1 y1))])) rfl rfl (hb hby d7_25)) ?_
  show Go p.tables e below (T.setTop (mkF m 26 #[.val (.ref a1), .val (.ref a2), .val (.int (0 : Int32)), .val (.int (1 : Int32))] [(.double x0), (.double (FP.ddiv x1 y1))])) _
  refine Go.by (fun tt_ kk_ => XS.aloadN X.here hx rfl (hb hby d7_26) rfl rfl kk_) ?_
  show Go p.tables e below (T.setTop (mkF m 27 #[.val (.ref a1), .val (.ref a2), .val (.int (0 : Int32)), .val (.int (1 : Int32))] [(.ref a1), (.double x0), (.double (FP.ddiv x1 y1))])) _
  obtain ⟨T, X, eT, st⟩ := getF X hx hZ hown (host := "") (Or.inl (hw _ (List.mem_of_getElem? (i := 45) rfl))) Via.refl eT F_costs_a1 (g := (mkF m 27 #[.val (.ref a1), .val (.ref a2), .val (.int (0 : Int32)), .val (.int (1 : Int32))] [(.ref a1), (.double x0), (.double (FP.ddiv x1 y1))])) rfl rfl (hb hby d7_27)
  refine Go.by st ?_
  show Go p.tables e below (T.setTop (mkF m 30 #[.val (.ref a1), .val (.ref a2), .val (.int (0 : Int32)), .val (.int (1 : Int32))] [(.ref ca), (.double x0), (.double (FP.ddiv x1 y1))])) _
  refine Go.by (fun tt_ kk_ => XS.iloadN X.here hx rfl (hb hby d7_30) rfl kk_) ?_
  show Go p.tables e below (T.setTop (mkF m 31 #[.val (.ref a1), .val (.ref a2), .val (.int (0 : Int32)), .val (.int (1 : Int32))] [(.int (0 : Int32)), (.ref ca), (.double x0), (.double (FP.ddiv x1 y1))])) _
  have Vo_ := V_ca
  obtain ⟨cl_, Ar_, q_, S_, N_, H_, G_⟩ := Vo_
  refine Go.by (X.daload hx (j := (0 : Int32)) (v := (.double y0)) (by rw [eT]; exact Ar_.1) (State.isArrayOf_alike hZ.alike Ar_.2.1) Ar_.2.2 (inb_of S_ ⟨by decide, by decide⟩) (Has.at H_ (inb_of S_ ⟨by decide, by decide⟩) rfl) (g := (mkF m 31 #[.val (.ref a1), .val (.ref a2), .val (.int (0 : Int32)), .val (.int (1 : Int32))] [(.int (0 : Int32)), (.ref ca), (.double x0), (.double (FP.ddiv x1 y1))])) rfl rfl (hb hby d7_31)) ?_
  show Go p.tables e below (T.setTop (mkF m 32 #[.val (.ref a1), .val (.ref a2), .val (.int (0 : Int32)), .val (.int (1 : Int32))] [(.double y0), (.double x0), (.double (FP.ddiv x1 y1))])) _
  refine Go.by (fun tt_ kk_ => XS.ddivS X.here hx rfl (hb hby d7_32) rfl (own_divnn dx0 dy0 (by omega)) rfl kk_) ?_
  show Go p.tables e below (T.setTop (mkF m 33 #[.val (.ref a1), .val (.ref a2), .val (.int (0 : Int32)), .val (.int (1 : Int32))] [(.double (FP.ddiv x0 y0)), (.double (FP.ddiv x1 y1))])) _
  refine Go.by (fun tt_ kk_ => XS.dcmpS X.here hx rfl (hb hby d7_33) rfl (own_qcmp dx1 dy1 dx0 dy0 bw1 bc1 bw0 bc0 .l) kk_) ?_
  show Go p.tables e below (T.setTop (mkF m 34 #[.val (.ref a1), .val (.ref a2), .val (.int (0 : Int32)), .val (.int (1 : Int32))] [(.int (own_ci (w1 * c0) (w0 * c1)))])) _
  by_cases hc34 : (0 : Int32) < (own_ci (w1 * c0) (w0 * c1))
  · have hg0 := own_ci_gt.mp hc34
    refine Go.by (fun tt_ kk_ => XS.ifNo X.here hx rfl (hb hby d7_34) rfl ((if0 _ _).trans (tlt hc34).2.2.2) kk_) ?_
    show Go p.tables e below (T.setTop (mkF m 37 #[.val (.ref a1), .val (.ref a2), .val (.int (0 : Int32)), .val (.int (1 : Int32))] [])) _
    refine Go.by (fun tt_ kk_ => XS.iloadN X.here hx rfl (hb hby d7_37) rfl kk_) ?_
    show Go p.tables e below (T.setTop (mkF m 38 #[.val (.ref a1), .val (.ref a2), .val (.int (0 : Int32)), .val (.int (1 : Int32))] [(.int (1 : Int32))])) _
    refine Go.by (fun tt_ kk_ => XS.istoreN X.here hx rfl (hb hby d7_38) rfl (l' := #[.val (.ref a1), .val (.ref a2), .val (.int (1 : Int32)), .val (.int (1 : Int32))]) rfl kk_) ?_
    show Go p.tables e below (T.setTop (mkF m 39 #[.val (.ref a1), .val (.ref a2), .val (.int (1 : Int32)), .val (.int (1 : Int32))] [])) _
    refine Go.by (fun tt_ kk_ => XS.iinc X.here hx rfl (hb hby d7_39) rfl (l' := #[.val (.ref a1), .val (.ref a2), .val (.int (1 : Int32)), .val (.int (2 : Int32))]) rfl kk_) ?_
    show Go p.tables e below (T.setTop (mkF m 42 #[.val (.ref a1), .val (.ref a2), .val (.int (1 : Int32)), .val (.int (2 : Int32))] [])) _
    refine Go.by (fun tt_ kk_ => XS.goto X.here hx rfl (pc0 := 42) (pc' := 4) rfl (hb hby d7_42) (by decide) (by decide) kk_) ?_
    show Go p.tables e below (T.setTop (mkF m 4 #[.val (.ref a1), .val (.ref a2), .val (.int (1 : Int32)), .val (.int (2 : Int32))] [])) _
    refine Go.by (fun tt_ kk_ => XS.iloadN X.here hx rfl (hb hby d7_4) rfl kk_) ?_
    show Go p.tables e below (T.setTop (mkF m 5 #[.val (.ref a1), .val (.ref a2), .val (.int (1 : Int32)), .val (.int (2 : Int32))] [(.int (2 : Int32))])) _
    refine Go.by (fun tt_ kk_ => XS.aloadN X.here hx rfl (hb hby d7_5) rfl rfl kk_) ?_
    show Go p.tables e below (T.setTop (mkF m 6 #[.val (.ref a1), .val (.ref a2), .val (.int (1 : Int32)), .val (.int (2 : Int32))] [(.ref a1), (.int (2 : Int32))])) _
    obtain ⟨T, X, eT, st⟩ := getF X hx hZ hown (host := "") (Or.inl (hw _ (List.mem_of_getElem? (i := 45) rfl))) Via.refl eT F_costs_a1 (g := (mkF m 6 #[.val (.ref a1), .val (.ref a2), .val (.int (1 : Int32)), .val (.int (2 : Int32))] [(.ref a1), (.int (2 : Int32))])) rfl rfl (hb hby d7_6)
    refine Go.by st ?_
    show Go p.tables e below (T.setTop (mkF m 9 #[.val (.ref a1), .val (.ref a2), .val (.int (1 : Int32)), .val (.int (2 : Int32))] [(.ref ca), (.int (2 : Int32))])) _
    have Vo_ := V_ca
    obtain ⟨cl_, Ar_, q_, S_, N_, H_, G_⟩ := Vo_
    refine Go.by (X.arraylength hx (by rw [eT]; exact Ar_.1) (State.isArrayOf_alike hZ.alike Ar_.2.1) (g := (mkF m 9 #[.val (.ref a1), .val (.ref a2), .val (.int (1 : Int32)), .val (.int (2 : Int32))] [(.ref ca), (.int (2 : Int32))])) rfl rfl (hb hby d7_9)) ?_
    rw [len_of S_ N_]
    show Go p.tables e below (T.setTop (mkF m 10 #[.val (.ref a1), .val (.ref a2), .val (.int (1 : Int32)), .val (.int (2 : Int32))] [(.int (2 : Int32)), (.int (2 : Int32))])) _
    refine Go.by (fun tt_ kk_ => XS.icmpYes X.here hx rfl (pc0 := 10) (pc' := 45) rfl (hb hby d7_10) rfl (flt (by decide : ¬ ((2 : Int32) < (2 : Int32)))).2.1 (by decide) (by decide) kk_) ?_
    show Go p.tables e below (T.setTop (mkF m 45 #[.val (.ref a1), .val (.ref a2), .val (.int (1 : Int32)), .val (.int (2 : Int32))] [])) _
    refine Go.by (fun tt_ kk_ => XS.aloadN X.here hx rfl (hb hby d7_45) rfl rfl kk_) ?_
    show Go p.tables e below (T.setTop (mkF m 46 #[.val (.ref a1), .val (.ref a2), .val (.int (1 : Int32)), .val (.int (2 : Int32))] [(.ref a1)])) _
    obtain ⟨T, X, eT, st⟩ := getF X hx hZ hown (host := "") (Or.inl (hw _ (List.mem_of_getElem? (i := 45) rfl))) Via.refl eT F_costs_a1 (g := (mkF m 46 #[.val (.ref a1), .val (.ref a2), .val (.int (1 : Int32)), .val (.int (2 : Int32))] [(.ref a1)])) rfl rfl (hb hby d7_46)
    refine Go.by st ?_
    show Go p.tables e below (T.setTop (mkF m 49 #[.val (.ref a1), .val (.ref a2), .val (.int (1 : Int32)), .val (.int (2 : Int32))] [(.ref ca)])) _
    have Vo_ := V_ca
    obtain ⟨cl_, Ar_, q_, S_, N_, H_, G_⟩ := Vo_
    refine Go.by (X.arraylength hx (by rw [eT]; exact Ar_.1) (State.isArrayOf_alike hZ.alike Ar_.2.1) (g := (mkF m 49 #[.val (.ref a1), .val (.ref a2), .val (.int (1 : Int32)), .val (.int (2 : Int32))] [(.ref ca)])) rfl rfl (hb hby d7_49)) ?_
    rw [len_of S_ N_]
    show Go p.tables e below (T.setTop (mkF m 50 #[.val (.ref a1), .val (.ref a2), .val (.int (1 : Int32)), .val (.int (2 : Int32))] [(.int (2 : Int32))])) _
    obtain ⟨T, h1, k_b1, X, eT, E_, A_, st⟩ := newP X hx hZ (hw _ (List.mem_of_getElem? (i := 2) rfl)) eT (g := (mkF m 50 #[.val (.ref a1), .val (.ref a2), .val (.int (1 : Int32)), .val (.int (2 : Int32))] [(.int (2 : Int32))])) rfl (hb hby d7_50) rfl (by decide) (cap := 2) (by decide) (by decide) (by decide) (by decide)
    obtain ⟨b1, g_b1'⟩ : ∃ z, z = h0.size := ⟨_, rfl⟩
    rw [← g_b1'] at A_ st
    have ne_ca_b1 : ca ≠ b1 := Nat.ne_of_lt (Nat.lt_of_lt_of_le V_ca.lt (Nat.le_of_eq g_b1'.symm))
    have ne_b1_ca : b1 ≠ ca := Ne.symm ne_ca_b1
    have ne_a2_b1 : a2 ≠ b1 := Nat.ne_of_lt (Nat.lt_of_lt_of_le V_a2.lt (Nat.le_of_eq g_b1'.symm))
    have ne_b1_a2 : b1 ≠ a2 := Ne.symm ne_a2_b1
    have ne_a1_b1 : a1 ≠ b1 := Nat.ne_of_lt (Nat.lt_of_lt_of_le F_costs_a1.lt (Nat.le_of_eq g_b1'.symm))
    have ne_b1_a1 : b1 ≠ a1 := Ne.symm ne_a1_b1
    have g_b1 : n0 ≤ b1 := Nat.le_trans Z0 (Nat.le_trans K.1 (Nat.le_of_eq g_b1'.symm))
    have sz_b1 : h0.size ≤ b1 := Nat.le_trans K.1 (Nat.le_of_eq g_b1'.symm)
    have K := K.ext E_
    have V_ca := Arv.ext V_ca E_
    have V_a2 := Arv.ext V_a2 E_
    have F_costs_a1 := Fld.ext E_ F_costs_a1
    have F_limit_a1 := Fld.ext E_ F_limit_a1
    have V_b1 := Arv.new A_ (by decide)
    refine Go.by st ?_
    show Go p.tables e below (T.setTop (mkF m 52 #[.val (.ref a1), .val (.ref a2), .val (.int (1 : Int32)), .val (.int (2 : Int32))] [(.ref b1)])) _
    have V_b1 : Arv Z h1 b1 k_b1 .double (2 : Int32) [(.double (0 : UInt64)), (.double (0 : UInt64))] (.double (0 : UInt64)) := V_b1.pad (pad_rep [] (.double (0 : UInt64)) 2)
    refine Go.by (fun tt_ kk_ => XS.astoreN X.here hx rfl (hb hby d7_52) rfl rfl (l' := #[.val (.ref a1), .val (.ref a2), .val (.int (1 : Int32)), .val (.ref b1)]) rfl kk_) ?_
    show Go p.tables e below (T.setTop (mkF m 53 #[.val (.ref a1), .val (.ref a2), .val (.int (1 : Int32)), .val (.ref b1)] [])) _
    refine Go.by (fun tt_ kk_ => XS.aloadN X.here hx rfl (hb hby d7_53) rfl rfl kk_) ?_
    show Go p.tables e below (T.setTop (mkF m 54 #[.val (.ref a1), .val (.ref a2), .val (.int (1 : Int32)), .val (.ref b1)] [(.ref b1)])) _
    refine Go.by (fun tt_ kk_ => XS.iloadN X.here hx rfl (hb hby d7_54) rfl kk_) ?_
    show Go p.tables e below (T.setTop (mkF m 55 #[.val (.ref a1), .val (.ref a2), .val (.int (1 : Int32)), .val (.ref b1)] [(.int (1 : Int32)), (.ref b1)])) _
    refine Go.by (fun tt_ kk_ => XS.aloadN X.here hx rfl (hb hby d7_55) rfl rfl kk_) ?_
    show Go p.tables e below (T.setTop (mkF m 56 #[.val (.ref a1), .val (.ref a2), .val (.int (1 : Int32)), .val (.ref b1)] [(.ref a1), (.int (1 : Int32)), (.ref b1)])) _
    obtain ⟨T, X, eT, st⟩ := getF X hx hZ hown (host := "") (Or.inl (hw _ (List.mem_of_getElem? (i := 48) rfl))) Via.refl eT F_limit_a1 (g := (mkF m 56 #[.val (.ref a1), .val (.ref a2), .val (.int (1 : Int32)), .val (.ref b1)] [(.ref a1), (.int (1 : Int32)), (.ref b1)])) rfl rfl (hb hby d7_56)
    refine Go.by st ?_
    show Go p.tables e below (T.setTop (mkF m 59 #[.val (.ref a1), .val (.ref a2), .val (.int (1 : Int32)), .val (.ref b1)] [(.double lm), (.int (1 : Int32)), (.ref b1)])) _
    refine Go.by (fun tt_ kk_ => XS.aloadN X.here hx rfl (hb hby d7_59) rfl rfl kk_) ?_
    show Go p.tables e below (T.setTop (mkF m 60 #[.val (.ref a1), .val (.ref a2), .val (.int (1 : Int32)), .val (.ref b1)] [(.ref a1), (.double lm), (.int (1 : Int32)), (.ref b1)])) _
    obtain ⟨T, X, eT, st⟩ := getF X hx hZ hown (host := "") (Or.inl (hw _ (List.mem_of_getElem? (i := 45) rfl))) Via.refl eT F_costs_a1 (g := (mkF m 60 #[.val (.ref a1), .val (.ref a2), .val (.int (1 : Int32)), .val (.ref b1)] [(.ref a1), (.double lm), (.int (1 : Int32)), (.ref b1)])) rfl rfl (hb hby d7_60)
    refine Go.by st ?_
    show Go p.tables e below (T.setTop (mkF m 63 #[.val (.ref a1), .val (.ref a2), .val (.int (1 : Int32)), .val (.ref b1)] [(.ref ca), (.double lm), (.int (1 : Int32)), (.ref b1)])) _
    refine Go.by (fun tt_ kk_ => XS.iloadN X.here hx rfl (hb hby d7_63) rfl kk_) ?_
    show Go p.tables e below (T.setTop (mkF m 64 #[.val (.ref a1), .val (.ref a2), .val (.int (1 : Int32)), .val (.ref b1)] [(.int (1 : Int32)), (.ref ca), (.double lm), (.int (1 : Int32)), (.ref b1)])) _
    have Vo_ := V_ca
    obtain ⟨cl_, Ar_, q_, S_, N_, H_, G_⟩ := Vo_
    refine Go.by (X.daload hx (j := (1 : Int32)) (v := (.double y1)) (by rw [eT]; exact Ar_.1) (State.isArrayOf_alike hZ.alike Ar_.2.1) Ar_.2.2 (inb_of S_ ⟨by decide, by decide⟩) (Has.at H_ (inb_of S_ ⟨by decide, by decide⟩) rfl) (g := (mkF m 64 #[.val (.ref a1), .val (.ref a2), .val (.int (1 : Int32)), .val (.ref b1)] [(.int (1 : Int32)), (.ref ca), (.double lm), (.int (1 : Int32)), (.ref b1)])) rfl rfl (hb hby d7_64)) ?_
    show Go p.tables e below (T.setTop (mkF m 65 #[.val (.ref a1), .val (.ref a2), .val (.int (1 : Int32)), .val (.ref b1)] [(.double y1), (.double lm), (.int (1 : Int32)), (.ref b1)])) _
    refine Go.by (fun tt_ kk_ => XS.ddivS X.here hx rfl (hb hby d7_65) rfl (own_divnn2 fl.noNaN dy1 (by omega)) rfl kk_) ?_
    show Go p.tables e below (T.setTop (mkF m 66 #[.val (.ref a1), .val (.ref a2), .val (.int (1 : Int32)), .val (.ref b1)] [(.double (FP.ddiv lm y1)), (.int (1 : Int32)), (.ref b1)])) _
    have Vo_ := V_b1
    obtain ⟨cl_, Ar_, q_, S_, N_, H_, G_⟩ := Vo_
    obtain ⟨T, h2, X, eT, Wh2, st⟩ := stD X hx hZ eT Ar_ (j := (1 : Int32)) (inb_of S_ ⟨by decide, by decide⟩) (g := (mkF m 66 #[.val (.ref a1), .val (.ref a2), .val (.int (1 : Int32)), .val (.ref b1)] [(.double (FP.ddiv lm y1)), (.int (1 : Int32)), (.ref b1)])) rfl rfl (hb hby d7_66)
    have V_b1 := Arv.set Ar_ q_ S_ N_ H_ G_ rfl Wh2 1 rfl (Nat.le_of_ble_eq_true rfl)
    have V_ca := Arv.other V_ca Wh2 ne_ca_b1
    have V_a2 := Arv.other V_a2 Wh2 ne_a2_b1
    have F_costs_a1 := Fld.other Wh2 F_costs_a1 (Or.inl ne_a1_b1)
    have F_limit_a1 := Fld.other Wh2 F_limit_a1 (Or.inl ne_a1_b1)
    have N := Fr.snoc X N g_b1
    have K := K.wr Wh2 (Or.inr sz_b1)
    refine Go.by st ?_
    show Go p.tables e below (T.setTop (mkF m 67 #[.val (.ref a1), .val (.ref a2), .val (.int (1 : Int32)), .val (.ref b1)] [])) _
    refine Go.by (fun tt_ kk_ => XS.aloadN X.here hx rfl (hb hby d7_67) rfl rfl kk_) ?_
    show Go p.tables e below (T.setTop (mkF m 68 #[.val (.ref a1), .val (.ref a2), .val (.int (1 : Int32)), .val (.ref b1)] [(.ref b1)])) _
    have Vq : Arv Z h2 b1 k_b1 .double (2 : Int32) (own_bc2 w0 c0 w1 c1 lm y0 y1) (.double (0 : UInt64)) := by
      unfold own_bc2
      rw [if_pos hg0]
      exact V_b1
    exact Go.done X  (v := some (.ref b1)) (fun h => by rw [Bd.returns] at h; cases h) Bd.notSynchronized (fun fs hr => retOut X hx Bd.returns rfl (by simp [Value.isRef, FieldType.isReference]) (hb hby d7_68) hr) (by rw [eT]; exact ⟨b1, k_b1, g_b1, sz_b1, rfl, N, K, Vq⟩) (by decide) (by decide)
  · have hg0 := (fun q => hc34 (own_ci_gt.mpr q) : ¬ _)
    refine Go.by (fun tt_ kk_ => XS.ifYes X.here hx rfl (pc0 := 34) (pc' := 39) rfl (hb hby d7_34) rfl ((if0 _ _).trans (flt hc34).2.2.2) (by decide) (by decide) kk_) ?_
    show Go p.tables e below (T.setTop (mkF m 39 #[.val (.ref a1), .val (.ref a2), .val (.int (0 : Int32)), .val (.int (1 : Int32))] [])) _
    refine Go.by (fun tt_ kk_ => XS.iinc X.here hx rfl (hb hby d7_39) rfl (l' := #[.val (.ref a1), .val (.ref a2), .val (.int (0 : Int32)), .val (.int (2 : Int32))]) rfl kk_) ?_
    show Go p.tables e below (T.setTop (mkF m 42 #[.val (.ref a1), .val (.ref a2), .val (.int (0 : Int32)), .val (.int (2 : Int32))] [])) _
    refine Go.by (fun tt_ kk_ => XS.goto X.here hx rfl (pc0 := 42) (pc' := 4) rfl (hb hby d7_42) (by decide) (by decide) kk_) ?_
    show Go p.tables e below (T.setTop (mkF m 4 #[.val (.ref a1), .val (.ref a2), .val (.int (0 : Int32)), .val (.int (2 : Int32))] [])) _
    refine Go.by (fun tt_ kk_ => XS.iloadN X.here hx rfl (hb hby d7_4) rfl kk_) ?_
    show Go p.tables e below (T.setTop (mkF m 5 #[.val (.ref a1), .val (.ref a2), .val (.int (0 : Int32)), .val (.int (2 : Int32))] [(.int (2 : Int32))])) _
    refine Go.by (fun tt_ kk_ => XS.aloadN X.here hx rfl (hb hby d7_5) rfl rfl kk_) ?_
    show Go p.tables e below (T.setTop (mkF m 6 #[.val (.ref a1), .val (.ref a2), .val (.int (0 : Int32)), .val (.int (2 : Int32))] [(.ref a1), (.int (2 : Int32))])) _
    obtain ⟨T, X, eT, st⟩ := getF X hx hZ hown (host := "") (Or.inl (hw _ (List.mem_of_getElem? (i := 45) rfl))) Via.refl eT F_costs_a1 (g := (mkF m 6 #[.val (.ref a1), .val (.ref a2), .val (.int (0 : Int32)), .val (.int (2 : Int32))] [(.ref a1), (.int (2 : Int32))])) rfl rfl (hb hby d7_6)
    refine Go.by st ?_
    show Go p.tables e below (T.setTop (mkF m 9 #[.val (.ref a1), .val (.ref a2), .val (.int (0 : Int32)), .val (.int (2 : Int32))] [(.ref ca), (.int (2 : Int32))])) _
    have Vo_ := V_ca
    obtain ⟨cl_, Ar_, q_, S_, N_, H_, G_⟩ := Vo_
    refine Go.by (X.arraylength hx (by rw [eT]; exact Ar_.1) (State.isArrayOf_alike hZ.alike Ar_.2.1) (g := (mkF m 9 #[.val (.ref a1), .val (.ref a2), .val (.int (0 : Int32)), .val (.int (2 : Int32))] [(.ref ca), (.int (2 : Int32))])) rfl rfl (hb hby d7_9)) ?_
    rw [len_of S_ N_]
    show Go p.tables e below (T.setTop (mkF m 10 #[.val (.ref a1), .val (.ref a2), .val (.int (0 : Int32)), .val (.int (2 : Int32))] [(.int (2 : Int32)), (.int (2 : Int32))])) _
    refine Go.by (fun tt_ kk_ => XS.icmpYes X.here hx rfl (pc0 := 10) (pc' := 45) rfl (hb hby d7_10) rfl (flt (by decide : ¬ ((2 : Int32) < (2 : Int32)))).2.1 (by decide) (by decide) kk_) ?_
    show Go p.tables e below (T.setTop (mkF m 45 #[.val (.ref a1), .val (.ref a2), .val (.int (0 : Int32)), .val (.int (2 : Int32))] [])) _
    refine Go.by (fun tt_ kk_ => XS.aloadN X.here hx rfl (hb hby d7_45) rfl rfl kk_) ?_
    show Go p.tables e below (T.setTop (mkF m 46 #[.val (.ref a1), .val (.ref a2), .val (.int (0 : Int32)), .val (.int (2 : Int32))] [(.ref a1)])) _
    obtain ⟨T, X, eT, st⟩ := getF X hx hZ hown (host := "") (Or.inl (hw _ (List.mem_of_getElem? (i := 45) rfl))) Via.refl eT F_costs_a1 (g := (mkF m 46 #[.val (.ref a1), .val (.ref a2), .val (.int (0 : Int32)), .val (.int (2 : Int32))] [(.ref a1)])) rfl rfl (hb hby d7_46)
    refine Go.by st ?_
    show Go p.tables e below (T.setTop (mkF m 49 #[.val (.ref a1), .val (.ref a2), .val (.int (0 : Int32)), .val (.int (2 : Int32))] [(.ref ca)])) _
    have Vo_ := V_ca
    obtain ⟨cl_, Ar_, q_, S_, N_, H_, G_⟩ := Vo_
    refine Go.by (X.arraylength hx (by rw [eT]; exact Ar_.1) (State.isArrayOf_alike hZ.alike Ar_.2.1) (g := (mkF m 49 #[.val (.ref a1), .val (.ref a2), .val (.int (0 : Int32)), .val (.int (2 : Int32))] [(.ref ca)])) rfl rfl (hb hby d7_49)) ?_
    rw [len_of S_ N_]
    show Go p.tables e below (T.setTop (mkF m 50 #[.val (.ref a1), .val (.ref a2), .val (.int (0 : Int32)), .val (.int (2 : Int32))] [(.int (2 : Int32))])) _
    obtain ⟨T, h3, k_b3, X, eT, E_, A_, st⟩ := newP X hx hZ (hw _ (List.mem_of_getElem? (i := 2) rfl)) eT (g := (mkF m 50 #[.val (.ref a1), .val (.ref a2), .val (.int (0 : Int32)), .val (.int (2 : Int32))] [(.int (2 : Int32))])) rfl (hb hby d7_50) rfl (by decide) (cap := 2) (by decide) (by decide) (by decide) (by decide)
    obtain ⟨b3, g_b3'⟩ : ∃ z, z = h0.size := ⟨_, rfl⟩
    rw [← g_b3'] at A_ st
    have ne_ca_b3 : ca ≠ b3 := Nat.ne_of_lt (Nat.lt_of_lt_of_le V_ca.lt (Nat.le_of_eq g_b3'.symm))
    have ne_b3_ca : b3 ≠ ca := Ne.symm ne_ca_b3
    have ne_a2_b3 : a2 ≠ b3 := Nat.ne_of_lt (Nat.lt_of_lt_of_le V_a2.lt (Nat.le_of_eq g_b3'.symm))
    have ne_b3_a2 : b3 ≠ a2 := Ne.symm ne_a2_b3
    have ne_a1_b3 : a1 ≠ b3 := Nat.ne_of_lt (Nat.lt_of_lt_of_le F_costs_a1.lt (Nat.le_of_eq g_b3'.symm))
    have ne_b3_a1 : b3 ≠ a1 := Ne.symm ne_a1_b3
    have g_b3 : n0 ≤ b3 := Nat.le_trans Z0 (Nat.le_trans K.1 (Nat.le_of_eq g_b3'.symm))
    have sz_b3 : h0.size ≤ b3 := Nat.le_trans K.1 (Nat.le_of_eq g_b3'.symm)
    have K := K.ext E_
    have V_ca := Arv.ext V_ca E_
    have V_a2 := Arv.ext V_a2 E_
    have F_costs_a1 := Fld.ext E_ F_costs_a1
    have F_limit_a1 := Fld.ext E_ F_limit_a1
    have V_b3 := Arv.new A_ (by decide)
    refine Go.by st ?_
    show Go p.tables e below (T.setTop (mkF m 52 #[.val (.ref a1), .val (.ref a2), .val (.int (0 : Int32)), .val (.int (2 : Int32))] [(.ref b3)])) _
    have V_b3 : Arv Z h3 b3 k_b3 .double (2 : Int32) [(.double (0 : UInt64)), (.double (0 : UInt64))] (.double (0 : UInt64)) := V_b3.pad (pad_rep [] (.double (0 : UInt64)) 2)
    refine Go.by (fun tt_ kk_ => XS.astoreN X.here hx rfl (hb hby d7_52) rfl rfl (l' := #[.val (.ref a1), .val (.ref a2), .val (.int (0 : Int32)), .val (.ref b3)]) rfl kk_) ?_
    show Go p.tables e below (T.setTop (mkF m 53 #[.val (.ref a1), .val (.ref a2), .val (.int (0 : Int32)), .val (.ref b3)] [])) _
    refine Go.by (fun tt_ kk_ => XS.aloadN X.here hx rfl (hb hby d7_53) rfl rfl kk_) ?_
    show Go p.tables e below (T.setTop (mkF m 54 #[.val (.ref a1), .val (.ref a2), .val (.int (0 : Int32)), .val (.ref b3)] [(.ref b3)])) _
    refine Go.by (fun tt_ kk_ => XS.iloadN X.here hx rfl (hb hby d7_54) rfl kk_) ?_
    show Go p.tables e below (T.setTop (mkF m 55 #[.val (.ref a1), .val (.ref a2), .val (.int (0 : Int32)), .val (.ref b3)] [(.int (0 : Int32)), (.ref b3)])) _
    refine Go.by (fun tt_ kk_ => XS.aloadN X.here hx rfl (hb hby d7_55) rfl rfl kk_) ?_
    show Go p.tables e below (T.setTop (mkF m 56 #[.val (.ref a1), .val (.ref a2), .val (.int (0 : Int32)), .val (.ref b3)] [(.ref a1), (.int (0 : Int32)), (.ref b3)])) _
    obtain ⟨T, X, eT, st⟩ := getF X hx hZ hown (host := "") (Or.inl (hw _ (List.mem_of_getElem? (i := 48) rfl))) Via.refl eT F_limit_a1 (g := (mkF m 56 #[.val (.ref a1), .val (.ref a2), .val (.int (0 : Int32)), .val (.ref b3)] [(.ref a1), (.int (0 : Int32)), (.ref b3)])) rfl rfl (hb hby d7_56)
    refine Go.by st ?_
    show Go p.tables e below (T.setTop (mkF m 59 #[.val (.ref a1), .val (.ref a2), .val (.int (0 : Int32)), .val (.ref b3)] [(.double lm), (.int (0 : Int32)), (.ref b3)])) _
    refine Go.by (fun tt_ kk_ => XS.aloadN X.here hx rfl (hb hby d7_59) rfl rfl kk_) ?_
    show Go p.tables e below (T.setTop (mkF m 60 #[.val (.ref a1), .val (.ref a2), .val (.int (0 : Int32)), .val (.ref b3)] [(.ref a1), (.double lm), (.int (0 : Int32)), (.ref b3)])) _
    obtain ⟨T, X, eT, st⟩ := getF X hx hZ hown (host := "") (Or.inl (hw _ (List.mem_of_getElem? (i := 45) rfl))) Via.refl eT F_costs_a1 (g := (mkF m 60 #[.val (.ref a1), .val (.ref a2), .val (.int (0 : Int32)), .val (.ref b3)] [(.ref a1), (.double lm), (.int (0 : Int32)), (.ref b3)])) rfl rfl (hb hby d7_60)
    refine Go.by st ?_
    show Go p.tables e below (T.setTop (mkF m 63 #[.val (.ref a1), .val (.ref a2), .val (.int (0 : Int32)), .val (.ref b3)] [(.ref ca), (.double lm), (.int (0 : Int32)), (.ref b3)])) _
    refine Go.by (fun tt_ kk_ => XS.iloadN X.here hx rfl (hb hby d7_63) rfl kk_) ?_
    show Go p.tables e below (T.setTop (mkF m 64 #[.val (.ref a1), .val (.ref a2), .val (.int (0 : Int32)), .val (.ref b3)] [(.int (0 : Int32)), (.ref ca), (.double lm), (.int (0 : Int32)), (.ref b3)])) _
    have Vo_ := V_ca
    obtain ⟨cl_, Ar_, q_, S_, N_, H_, G_⟩ := Vo_
    refine Go.by (X.daload hx (j := (0 : Int32)) (v := (.double y0)) (by rw [eT]; exact Ar_.1) (State.isArrayOf_alike hZ.alike Ar_.2.1) Ar_.2.2 (inb_of S_ ⟨by decide, by decide⟩) (Has.at H_ (inb_of S_ ⟨by decide, by decide⟩) rfl) (g := (mkF m 64 #[.val (.ref a1), .val (.ref a2), .val (.int (0 : Int32)), .val (.ref b3)] [(.int (0 : Int32)), (.ref ca), (.double lm), (.int (0 : Int32)), (.ref b3)])) rfl rfl (hb hby d7_64)) ?_
    show Go p.tables e below (T.setTop (mkF m 65 #[.val (.ref a1), .val (.ref a2), .val (.int (0 : Int32)), .val (.ref b3)] [(.double y0), (.double lm), (.int (0 : Int32)), (.ref b3)])) _
    refine Go.by (fun tt_ kk_ => XS.ddivS X.here hx rfl (hb hby d7_65) rfl (own_divnn2 fl.noNaN dy0 (by omega)) rfl kk_) ?_
    show Go p.tables e below (T.setTop (mkF m 66 #[.val (.ref a1), .val (.ref a2), .val (.int (0 : Int32)), .val (.ref b3)] [(.double (FP.ddiv lm y0)), (.int (0 : Int32)), (.ref b3)])) _
    have Vo_ := V_b3
    obtain ⟨cl_, Ar_, q_, S_, N_, H_, G_⟩ := Vo_
    obtain ⟨T, h4, X, eT, Wh4, st⟩ := stD X hx hZ eT Ar_ (j := (0 : Int32)) (inb_of S_ ⟨by decide, by decide⟩) (g := (mkF m 66 #[.val (.ref a1), .val (.ref a2), .val (.int (0 : Int32)), .val (.ref b3)] [(.double (FP.ddiv lm y0)), (.int (0 : Int32)), (.ref b3)])) rfl rfl (hb hby d7_66)
    have V_b3 := Arv.set Ar_ q_ S_ N_ H_ G_ rfl Wh4 0 rfl (Nat.le_of_ble_eq_true rfl)
    have V_ca := Arv.other V_ca Wh4 ne_ca_b3
    have V_a2 := Arv.other V_a2 Wh4 ne_a2_b3
    have F_costs_a1 := Fld.other Wh4 F_costs_a1 (Or.inl ne_a1_b3)
    have F_limit_a1 := Fld.other Wh4 F_limit_a1 (Or.inl ne_a1_b3)
    have N := Fr.snoc X N g_b3
    have K := K.wr Wh4 (Or.inr sz_b3)
    refine Go.by st ?_
    show Go p.tables e below (T.setTop (mkF m 67 #[.val (.ref a1), .val (.ref a2), .val (.int (0 : Int32)), .val (.ref b3)] [])) _
    refine Go.by (fun tt_ kk_ => XS.aloadN X.here hx rfl (hb hby d7_67) rfl rfl kk_) ?_
    show Go p.tables e below (T.setTop (mkF m 68 #[.val (.ref a1), .val (.ref a2), .val (.int (0 : Int32)), .val (.ref b3)] [(.ref b3)])) _
    have Vq : Arv Z h4 b3 k_b3 .double (2 : Int32) (own_bc2 w0 c0 w1 c1 lm y0 y1) (.double (0 : UInt64)) := by
      unfold own_bc2
      rw [if_neg hg0]
      exact V_b3
    exact Go.done X  (v := some (.ref b3)) (fun h => by rw [Bd.returns] at h; cases h) Bd.notSynchronized (fun fs hr => retOut X hx Bd.returns rfl (by simp [Value.isRef, FieldType.isReference]) (hb hby d7_68) hr) (by rw [eT]; exact ⟨b3, k_b3, g_b3, sz_b3, rfl, N, K, Vq⟩) (by decide) (by decide)
def Q3_3 (Z : State) (a1 : Addr) (a2 : Addr) (y0 : UInt64) (y1 : UInt64) (y2 : UInt64) (kk : ClassId) (h0 : Heap) (n0 : Nat) (v : Option Value) (h : Heap) (L : List Loc) : Prop := ∃ b : Addr, n0 ≤ b ∧ h0.size ≤ b ∧ v = some (.ref b) ∧ Fr n0 L ∧ Keep h0 h [] ∧ Arv Z h b kk .double (3 : Int32) [(.double y0), (.double y1), (.double y2)] (.double (0 : UInt64))
set_option maxRecDepth 65536 in
set_option maxHeartbeats 40000000 in
theorem rm3_3 (l : Launch) (Z : State) (a0 : Array Value) (hw : ∀ d ∈ tables_1, d.before a0 Z = true) (ws : List Jvm.Cond) (a1 : Addr) (a2 : Addr) (y0 : UInt64) (y1 : UInt64) (y2 : UInt64) (kk : ClassId) (h0 : Heap) (n0 : Nat) (Z0 : n0 ≤ h0.size) (V_a1 : Arv Z h0 a1 kk .double (3 : Int32) [(.double y0), (.double y1), (.double y2)] (.double (0 : UInt64))) (E_a1 : Exa Z h0 a1 "[D") (f0 : Fin64 y0) (b0 : (0 : Int32) < cmpValue (FP.dcmp y0 0) .l) (f1 : Fin64 y1) (b1 : (0 : Int32) < cmpValue (FP.dcmp y1 0) .l) (f2 : Fin64 y2) (b2 : (0 : Int32) < cmpValue (FP.dcmp y2 0) .l) :
    MetFree l (⟨"com/example/pareto_helm/paretohelm/engine/Positive", "copyOf", "([DLjava/lang/String;)[D"⟩ : MethodName) (head1 (Jvm.Cond.code (⟨"com/example/pareto_helm/paretohelm/engine/Positive", "copyOf", "([DLjava/lang/String;)[D"⟩ : MethodName) prog_24_method_4_code 3 (some (.array .double)) :: ws) ({ frames := 3, cells := 1, slots := 3, locals := 39 } : Room)) (fun a U => a = #[(.ref a1), (.ref a2)] ∧ Z.Warmed39 U.vm ∧ U.heap = h0) (fun _ _ _ _ _ => True) (fun _ U o U' => ∃ v L, o = .returned v ∧ Q3_3 Z a1 a2 y0 y1 y2 kk h0 n0 v U'.heap L ∧ FrameEnd U o U' L ({ frames := 3, cells := 1, slots := 3, locals := 39 } : Room).cells ({ frames := 3, cells := 1, slots := 3, locals := 39 } : Room).slots) := by
  refine MetFree.of_bodySF (plainFor_of_name pn_1) hisR ?_
  intro p e s m args below meth c s₁ Bd hml0 hP hK
  obtain ⟨rfl, hZ, hh⟩ := hP
  have hx := Bd.exec
  have hby := Bd.bytes
  have hml : c.maxLocals = 3 := hml0
  have hown : s.vm.findClass "com/example/pareto_helm/paretohelm/engine/Positive" = some m.cls := findClass_of_methodNamed Bd.named
  have hnm := (name_of_methodNamed Bd.named Bd.method).1
  have X : Stand p l e ({ frames := 3, cells := 1, slots := 3, locals := 39 } : Room) s m #[(.ref a1), (.ref a2)] below meth c s₁ [] 0 0 := Stand.of_body Bd
  have eT : s₁.heap = h0 := by rw [← hh, Bd.state]; rfl
  have N := Fr.nil n0
  have K := Keep.refl h0 []
  refine Go.out ?_
  obtain ⟨T, eTT⟩ : ∃ z, z = s₁ := ⟨_, rfl⟩
  rw [← eTT] at X eT ⊢
  refine Go.by (fun tt_ kk_ => castTop (ef_3 m a1 a2) kk_) ?_
  show Go p.tables e below (T.setTop (mkF m 0 #[.val (.ref a1), .val (.ref a2), .unset] [])) _
  refine Go.by (fun tt_ kk_ => XS.aloadN X.here hx rfl (hb hby d3_0) rfl rfl kk_) ?_
  show Go p.tables e below (T.setTop (mkF m 1 #[.val (.ref a1), .val (.ref a2), .unset] [(.ref a1)])) _
  have Vo_ := V_a1
  obtain ⟨cl_, Ar_, q_, S_, N_, H_, G_⟩ := Vo_
  refine Go.by (X.arraylength hx (by rw [eT]; exact Ar_.1) (State.isArrayOf_alike hZ.alike Ar_.2.1) (g := (mkF m 1 #[.val (.ref a1), .val (.ref a2), .unset] [(.ref a1)])) rfl rfl (hb hby d3_1)) ?_
  rw [len_of S_ N_]
  show Go p.tables e below (T.setTop (mkF m 2 #[.val (.ref a1), .val (.ref a2), .unset] [(.int (3 : Int32))])) _
  refine Go.by (fun tt_ kk_ => XS.ifYes X.here hx rfl (pc0 := 2) (pc' := 19) rfl (hb hby d3_2) rfl ((if0 _ _).trans (feq (by decide : ¬ ((3 : Int32) = (0 : Int32)))).2) (by decide) (by decide) kk_) ?_
  show Go p.tables e below (T.setTop (mkF m 19 #[.val (.ref a1), .val (.ref a2), .unset] [])) _
  refine Go.by (fun tt_ kk_ => XS.iconst X.here hx rfl (hb hby d3_19) kk_) ?_
  show Go p.tables e below (T.setTop (mkF m 20 #[.val (.ref a1), .val (.ref a2), .unset] [(.int (0 : Int32))])) _
  refine Go.by (fun tt_ kk_ => XS.istoreN X.here hx rfl (hb hby d3_20) rfl (l' := #[.val (.ref a1), .val (.ref a2), .val (.int (0 : Int32))]) rfl kk_) ?_
  show Go p.tables e below (T.setTop (mkF m 21 #[.val (.ref a1), .val (.ref a2), .val (.int (0 : Int32))] [])) _
  refine Go.by (fun tt_ kk_ => XS.iloadN X.here hx rfl (hb hby d3_21) rfl kk_) ?_
  show Go p.tables e below (T.setTop (mkF m 22 #[.val (.ref a1), .val (.ref a2), .val (.int (0 : Int32))] [(.int (0 : Int32))])) _
  refine Go.by (fun tt_ kk_ => XS.aloadN X.here hx rfl (hb hby d3_22) rfl rfl kk_) ?_
  show Go p.tables e below (T.setTop (mkF m 23 #[.val (.ref a1), .val (.ref a2), .val (.int (0 : Int32))] [(.ref a1), (.int (0 : Int32))])) _
  have Vo_ := V_a1
  obtain ⟨cl_, Ar_, q_, S_, N_, H_, G_⟩ := Vo_
  refine Go.by (X.arraylength hx (by rw [eT]; exact Ar_.1) (State.isArrayOf_alike hZ.alike Ar_.2.1) (g := (mkF m 23 #[.val (.ref a1), .val (.ref a2), .val (.int (0 : Int32))] [(.ref a1), (.int (0 : Int32))])) rfl rfl (hb hby d3_23)) ?_
  rw [len_of S_ N_]
  show Go p.tables e below (T.setTop (mkF m 24 #[.val (.ref a1), .val (.ref a2), .val (.int (0 : Int32))] [(.int (3 : Int32)), (.int (0 : Int32))])) _
  refine Go.by (fun tt_ kk_ => XS.icmpNo X.here hx rfl (hb hby d3_24) rfl (tlt (by decide : (0 : Int32) < (3 : Int32))).2.1 kk_) ?_
  show Go p.tables e below (T.setTop (mkF m 27 #[.val (.ref a1), .val (.ref a2), .val (.int (0 : Int32))] [])) _
  refine Go.by (fun tt_ kk_ => XS.aloadN X.here hx rfl (hb hby d3_27) rfl rfl kk_) ?_
  show Go p.tables e below (T.setTop (mkF m 28 #[.val (.ref a1), .val (.ref a2), .val (.int (0 : Int32))] [(.ref a1)])) _
  refine Go.by (fun tt_ kk_ => XS.iloadN X.here hx rfl (hb hby d3_28) rfl kk_) ?_
  show Go p.tables e below (T.setTop (mkF m 29 #[.val (.ref a1), .val (.ref a2), .val (.int (0 : Int32))] [(.int (0 : Int32)), (.ref a1)])) _
  have Vo_ := V_a1
  obtain ⟨cl_, Ar_, q_, S_, N_, H_, G_⟩ := Vo_
  refine Go.by (X.daload hx (j := (0 : Int32)) (v := (.double y0)) (by rw [eT]; exact Ar_.1) (State.isArrayOf_alike hZ.alike Ar_.2.1) Ar_.2.2 (inb_of S_ ⟨by decide, by decide⟩) (Has.at H_ (inb_of S_ ⟨by decide, by decide⟩) rfl) (g := (mkF m 29 #[.val (.ref a1), .val (.ref a2), .val (.int (0 : Int32))] [(.int (0 : Int32)), (.ref a1)])) rfl rfl (hb hby d3_29)) ?_
  show Go p.tables e below (T.setTop (mkF m 30 #[.val (.ref a1), .val (.ref a2), .val (.int (0 : Int32))] [(.double y0)])) _
  obtain ⟨_, _, ⟨T, L_, k_, n_⟩, -, X, ⟨Lc_, hQ, l_, y_, z_⟩, st⟩ := Jvm.LawKit.callS X hx (y := (⟨"com/example/pareto_helm/paretohelm/engine/Positive", "holds", "(D)Z"⟩ : MethodName)) hown (mvT hZ (hw _ (List.mem_of_getElem? (i := 24) rfl))) (mvT hZ (hw _ (List.mem_of_getElem? (i := 25) rfl))) (mvT hZ (hw _ (List.mem_of_getElem? (i := 22) rfl))) (mvT hZ (hw _ (List.mem_of_getElem? (i := 26) rfl))) (by decide) (backOf (W := 0) (rm4 l Z a0 hw [] y0 h0 n0 (Nat.le_trans Z0 K.1) f0 b0) hZ (hw _ (List.mem_of_getElem? (i := 26) rfl)) (hw _ (List.mem_of_getElem? (i := 22) rfl)) (by decide) (by decide)) (g := (mkF m 30 #[.val (.ref a1), .val (.ref a2), .val (.int (0 : Int32))] [(.double y0)])) rfl (by rw [hml]; rfl) (argsL := [(.double y0)]) (rest := []) (lenOf pd_1 rfl) rfl (by show 2 * 0 + _ ≤ _; exact Nat.le_of_eq rfl) (hb hby d3_30) (fun _ _ => ⟨rfl, eT, (by decide : 0 + 0 ≤ _), (by decide : 0 + 0 ≤ _)⟩)
  dsimp only [Pt.U, Pt.locs, Pt.cells, Pt.slots] at X l_ y_ z_ st hQ
  subst l_ y_ z_
  obtain ⟨rfl, Nq, eh⟩ := hQ
  have N := Fr.app N Nq
  have eT := eh
  refine Go.by st ?_
  show Go p.tables e below (T.setTop (mkF m 33 #[.val (.ref a1), .val (.ref a2), .val (.int (0 : Int32))] [(.int (1 : Int32))])) _
  refine Go.by (fun tt_ kk_ => XS.ifYes X.here hx rfl (pc0 := 33) (pc' := 57) rfl (hb hby d3_33) rfl ((if0 _ _).trans (feq (by decide : ¬ ((1 : Int32) = (0 : Int32)))).2) (by decide) (by decide) kk_) ?_
  show Go p.tables e below (T.setTop (mkF m 57 #[.val (.ref a1), .val (.ref a2), .val (.int (0 : Int32))] [])) _
  refine Go.by (fun tt_ kk_ => XS.iinc X.here hx rfl (hb hby d3_57) rfl (l' := #[.val (.ref a1), .val (.ref a2), .val (.int (1 : Int32))]) rfl kk_) ?_
  show Go p.tables e below (T.setTop (mkF m 60 #[.val (.ref a1), .val (.ref a2), .val (.int (1 : Int32))] [])) _
  refine Go.by (fun tt_ kk_ => XS.goto X.here hx rfl (pc0 := 60) (pc' := 21) rfl (hb hby d3_60) (by decide) (by decide) kk_) ?_
  show Go p.tables e below (T.setTop (mkF m 21 #[.val (.ref a1), .val (.ref a2), .val (.int (1 : Int32))] [])) _
  refine Go.by (fun tt_ kk_ => XS.iloadN X.here hx rfl (hb hby d3_21) rfl kk_) ?_
  show Go p.tables e below (T.setTop (mkF m 22 #[.val (.ref a1), .val (.ref a2), .val (.int (1 : Int32))] [(.int (1 : Int32))])) _
  refine Go.by (fun tt_ kk_ => XS.aloadN X.here hx rfl (hb hby d3_22) rfl rfl kk_) ?_
  show Go p.tables e below (T.setTop (mkF m 23 #[.val (.ref a1), .val (.ref a2), .val (.int (1 : Int32))] [(.ref a1), (.int (1 : Int32))])) _
  have Vo_ := V_a1
  obtain ⟨cl_, Ar_, q_, S_, N_, H_, G_⟩ := Vo_
  refine Go.by (X.arraylength hx (by rw [eT]; exact Ar_.1) (State.isArrayOf_alike hZ.alike Ar_.2.1) (g := (mkF m 23 #[.val (.ref a1), .val (.ref a2), .val (.int (1 : Int32))] [(.ref a1), (.int (1 : Int32))])) rfl rfl (hb hby d3_23)) ?_
  rw [len_of S_ N_]
  show Go p.tables e below (T.setTop (mkF m 24 #[.val (.ref a1), .val (.ref a2), .val (.int (1 : Int32))] [(.int (3 : Int32)), (.int (1 : Int32))])) _
  refine Go.by (fun tt_ kk_ => XS.icmpNo X.here hx rfl (hb hby d3_24) rfl (tlt (by decide : (1 : Int32) < (3 : Int32))).2.1 kk_) ?_
  show Go p.tables e below (T.setTop (mkF m 27 #[.val (.ref a1), .val (.ref a2), .val (.int (1 : Int32))] [])) _
  refine Go.by (fun tt_ kk_ => XS.aloadN X.here hx rfl (hb hby d3_27) rfl rfl kk_) ?_
  show Go p.tables e below (T.setTop (mkF m 28 #[.val (.ref a1), .val (.ref a2), .val (.int (1 : Int32))] [(.ref a1)])) _
  refine Go.by (fun tt_ kk_ => XS.iloadN X.here hx rfl (hb hby d3_28) rfl kk_) ?_
  show Go p.tables e below (T.setTop (mkF m 29 #[.val (.ref a1), .val (.ref a2), .val (.int (1 : Int32))] [(.int (1 : Int32)), (.ref a1)])) _
  have Vo_ := V_a1
  obtain ⟨cl_, Ar_, q_, S_, N_, H_, G_⟩ := Vo_
  refine Go.by (X.daload hx (j := (1 : Int32)) (v := (.double y1)) (by rw [eT]; exact Ar_.1) (State.isArrayOf_alike hZ.alike Ar_.2.1) Ar_.2.2 (inb_of S_ ⟨by decide, by decide⟩) (Has.at H_ (inb_of S_ ⟨by decide, by decide⟩) rfl) (g := (mkF m 29 #[.val (.ref a1), .val (.ref a2), .val (.int (1 : Int32))] [(.int (1 : Int32)), (.ref a1)])) rfl rfl (hb hby d3_29)) ?_
  show Go p.tables e below (T.setTop (mkF m 30 #[.val (.ref a1), .val (.ref a2), .val (.int (1 : Int32))] [(.double y1)])) _
  obtain ⟨_, _, ⟨T, L_, k_, n_⟩, -, X, ⟨Lc_, hQ, l_, y_, z_⟩, st⟩ := Jvm.LawKit.callS X hx (y := (⟨"com/example/pareto_helm/paretohelm/engine/Positive", "holds", "(D)Z"⟩ : MethodName)) hown (mvT hZ (hw _ (List.mem_of_getElem? (i := 24) rfl))) (mvT hZ (hw _ (List.mem_of_getElem? (i := 25) rfl))) (mvT hZ (hw _ (List.mem_of_getElem? (i := 22) rfl))) (mvT hZ (hw _ (List.mem_of_getElem? (i := 26) rfl))) (by decide) (backOf (W := 0) (rm4 l Z a0 hw [] y1 h0 n0 (Nat.le_trans Z0 K.1) f1 b1) hZ (hw _ (List.mem_of_getElem? (i := 26) rfl)) (hw _ (List.mem_of_getElem? (i := 22) rfl)) (by decide) (by decide)) (g := (mkF m 30 #[.val (.ref a1), .val (.ref a2), .val (.int (1 : Int32))] [(.double y1)])) rfl (by rw [hml]; rfl) (argsL := [(.double y1)]) (rest := []) (lenOf pd_1 rfl) rfl (by show 2 * 0 + _ ≤ _; exact Nat.le_of_eq rfl) (hb hby d3_30) (fun _ _ => ⟨rfl, eT, (by decide : 0 + 0 ≤ _), (by decide : 0 + 0 ≤ _)⟩)
  dsimp only [Pt.U, Pt.locs, Pt.cells, Pt.slots] at X l_ y_ z_ st hQ
  subst l_ y_ z_
  obtain ⟨rfl, Nq, eh⟩ := hQ
  have N := Fr.app N Nq
  have eT := eh
  refine Go.by st ?_
  show Go p.tables e below (T.setTop (mkF m 33 #[.val (.ref a1), .val (.ref a2), .val (.int (1 : Int32))] [(.int (1 : Int32))])) _
  refine Go.by (fun tt_ kk_ => XS.ifYes X.here hx rfl (pc0 := 33) (pc' := 57) rfl (hb hby d3_33) rfl ((if0 _ _).trans (feq (by decide : ¬ ((1 : Int32) = (0 : Int32)))).2) (by decide) (by decide) kk_) ?_
  show Go p.tables e below (T.setTop (mkF m 57 #[.val (.ref a1), .val (.ref a2), .val (.int (1 : Int32))] [])) _
  refine Go.by (fun tt_ kk_ => XS.iinc X.here hx rfl (hb hby d3_57) rfl (l' := #[.val (.ref a1), .val (.ref a2), .val (.int (2 : Int32))]) rfl kk_) ?_
  show Go p.tables e below (T.setTop (mkF m 60 #[.val (.ref a1), .val (.ref a2), .val (.int (2 : Int32))] [])) _
  refine Go.by (fun tt_ kk_ => XS.goto X.here hx rfl (pc0 := 60) (pc' := 21) rfl (hb hby d3_60) (by decide) (by decide) kk_) ?_
  show Go p.tables e below (T.setTop (mkF m 21 #[.val (.ref a1), .val (.ref a2), .val (.int (2 : Int32))] [])) _
  refine Go.by (fun tt_ kk_ => XS.iloadN X.here hx rfl (hb hby d3_21) rfl kk_) ?_
  show Go p.tables e below (T.setTop (mkF m 22 #[.val (.ref a1), .val (.ref a2), .val (.int (2 : Int32))] [(.int (2 : Int32))])) _
  refine Go.by (fun tt_ kk_ => XS.aloadN X.here hx rfl (hb hby d3_22) rfl rfl kk_) ?_
  show Go p.tables e below (T.setTop (mkF m 23 #[.val (.ref a1), .val (.ref a2), .val (.int (2 : Int32))] [(.ref a1), (.int (2 : Int32))])) _
  have Vo_ := V_a1
  obtain ⟨cl_, Ar_, q_, S_, N_, H_, G_⟩ := Vo_
  refine Go.by (X.arraylength hx (by rw [eT]; exact Ar_.1) (State.isArrayOf_alike hZ.alike Ar_.2.1) (g := (mkF m 23 #[.val (.ref a1), .val (.ref a2), .val (.int (2 : Int32))] [(.ref a1), (.int (2 : Int32))])) rfl rfl (hb hby d3_23)) ?_
  rw [len_of S_ N_]
  show Go p.tables e below (T.setTop (mkF m 24 #[.val (.ref a1), .val (.ref a2), .val (.int (2 : Int32))] [(.int (3 : Int32)), (.int (2 : Int32))])) _
  refine Go.by (fun tt_ kk_ => XS.icmpNo X.here hx rfl (hb hby d3_24) rfl (tlt (by decide : (2 : Int32) < (3 : Int32))).2.1 kk_) ?_
  show Go p.tables e below (T.setTop (mkF m 27 #[.val (.ref a1), .val (.ref a2), .val (.int (2 : Int32))] [])) _
  refine Go.by (fun tt_ kk_ => XS.aloadN X.here hx rfl (hb hby d3_27) rfl rfl kk_) ?_
  show Go p.tables e below (T.setTop (mkF m 28 #[.val (.ref a1), .val (.ref a2), .val (.int (2 : Int32))] [(.ref a1)])) _
  refine Go.by (fun tt_ kk_ => XS.iloadN X.here hx rfl (hb hby d3_28) rfl kk_) ?_
  show Go p.tables e below (T.setTop (mkF m 29 #[.val (.ref a1), .val (.ref a2), .val (.int (2 : Int32))] [(.int (2 : Int32)), (.ref a1)])) _
  have Vo_ := V_a1
  obtain ⟨cl_, Ar_, q_, S_, N_, H_, G_⟩ := Vo_
  refine Go.by (X.daload hx (j := (2 : Int32)) (v := (.double y2)) (by rw [eT]; exact Ar_.1) (State.isArrayOf_alike hZ.alike Ar_.2.1) Ar_.2.2 (inb_of S_ ⟨by decide, by decide⟩) (Has.at H_ (inb_of S_ ⟨by decide, by decide⟩) rfl) (g := (mkF m 29 #[.val (.ref a1), .val (.ref a2), .val (.int (2 : Int32))] [(.int (2 : Int32)), (.ref a1)])) rfl rfl (hb hby d3_29)) ?_
  show Go p.tables e below (T.setTop (mkF m 30 #[.val (.ref a1), .val (.ref a2), .val (.int (2 : Int32))] [(.double y2)])) _
  obtain ⟨_, _, ⟨T, L_, k_, n_⟩, -, X, ⟨Lc_, hQ, l_, y_, z_⟩, st⟩ := Jvm.LawKit.callS X hx (y := (⟨"com/example/pareto_helm/paretohelm/engine/Positive", "holds", "(D)Z"⟩ : MethodName)) hown (mvT hZ (hw _ (List.mem_of_getElem? (i := 24) rfl))) (mvT hZ (hw _ (List.mem_of_getElem? (i := 25) rfl))) (mvT hZ (hw _ (List.mem_of_getElem? (i := 22) rfl))) (mvT hZ (hw _ (List.mem_of_getElem? (i := 26) rfl))) (by decide) (backOf (W := 0) (rm4 l Z a0 hw [] y2 h0 n0 (Nat.le_trans Z0 K.1) f2 b2) hZ (hw _ (List.mem_of_getElem? (i := 26) rfl)) (hw _ (List.mem_of_getElem? (i := 22) rfl)) (by decide) (by decide)) (g := (mkF m 30 #[.val (.ref a1), .val (.ref a2), .val (.int (2 : Int32))] [(.double y2)])) rfl (by rw [hml]; rfl) (argsL := [(.double y2)]) (rest := []) (lenOf pd_1 rfl) rfl (by show 2 * 0 + _ ≤ _; exact Nat.le_of_eq rfl) (hb hby d3_30) (fun _ _ => ⟨rfl, eT, (by decide : 0 + 0 ≤ _), (by decide : 0 + 0 ≤ _)⟩)
  dsimp only [Pt.U, Pt.locs, Pt.cells, Pt.slots] at X l_ y_ z_ st hQ
  subst l_ y_ z_
  obtain ⟨rfl, Nq, eh⟩ := hQ
  have N := Fr.app N Nq
  have eT := eh
  refine Go.by st ?_
  show Go p.tables e below (T.setTop (mkF m 33 #[.val (.ref a1), .val (.ref a2), .val (.int (2 : Int32))] [(.int (1 : Int32))])) _
  refine Go.by (fun tt_ kk_ => XS.ifYes X.here hx rfl (pc0 := 33) (pc' := 57) rfl (hb hby d3_33) rfl ((if0 _ _).trans (feq (by decide : ¬ ((1 : Int32) = (0 : Int32)))).2) (by decide) (by decide) kk_) ?_
  show Go p.tables e below (T.setTop (mkF m 57 #[.val (.ref a1), .val (.ref a2), .val (.int (2 : Int32))] [])) _
  refine Go.by (fun tt_ kk_ => XS.iinc X.here hx rfl (hb hby d3_57) rfl (l' := #[.val (.ref a1), .val (.ref a2), .val (.int (3 : Int32))]) rfl kk_) ?_
  show Go p.tables e below (T.setTop (mkF m 60 #[.val (.ref a1), .val (.ref a2), .val (.int (3 : Int32))] [])) _
  refine Go.by (fun tt_ kk_ => XS.goto X.here hx rfl (pc0 := 60) (pc' := 21) rfl (hb hby d3_60) (by decide) (by decide) kk_) ?_
  show Go p.tables e below (T.setTop (mkF m 21 #[.val (.ref a1), .val (.ref a2), .val (.int (3 : Int32))] [])) _
  refine Go.by (fun tt_ kk_ => XS.iloadN X.here hx rfl (hb hby d3_21) rfl kk_) ?_
  show Go p.tables e below (T.setTop (mkF m 22 #[.val (.ref a1), .val (.ref a2), .val (.int (3 : Int32))] [(.int (3 : Int32))])) _
  refine Go.by (fun tt_ kk_ => XS.aloadN X.here hx rfl (hb hby d3_22) rfl rfl kk_) ?_
  show Go p.tables e below (T.setTop (mkF m 23 #[.val (.ref a1), .val (.ref a2), .val (.int (3 : Int32))] [(.ref a1), (.int (3 : Int32))])) _
  have Vo_ := V_a1
  obtain ⟨cl_, Ar_, q_, S_, N_, H_, G_⟩ := Vo_
  refine Go.by (X.arraylength hx (by rw [eT]; exact Ar_.1) (State.isArrayOf_alike hZ.alike Ar_.2.1) (g := (mkF m 23 #[.val (.ref a1), .val (.ref a2), .val (.int (3 : Int32))] [(.ref a1), (.int (3 : Int32))])) rfl rfl (hb hby d3_23)) ?_
  rw [len_of S_ N_]
  show Go p.tables e below (T.setTop (mkF m 24 #[.val (.ref a1), .val (.ref a2), .val (.int (3 : Int32))] [(.int (3 : Int32)), (.int (3 : Int32))])) _
  refine Go.by (fun tt_ kk_ => XS.icmpYes X.here hx rfl (pc0 := 24) (pc' := 63) rfl (hb hby d3_24) rfl (flt (by decide : ¬ ((3 : Int32) < (3 : Int32)))).2.1 (by decide) (by decide) kk_) ?_
  show Go p.tables e below (T.setTop (mkF m 63 #[.val (.ref a1), .val (.ref a2), .val (.int (3 : Int32))] [])) _
  refine Go.by (fun tt_ kk_ => XS.aloadN X.here hx rfl (hb hby d3_63) rfl rfl kk_) ?_
  show Go p.tables e below (T.setTop (mkF m 64 #[.val (.ref a1), .val (.ref a2), .val (.int (3 : Int32))] [(.ref a1)])) _
  obtain ⟨T, h4, X, eT, E_, A_, Ea_, st⟩ := cloneH X hx hZ hown (hw _ (List.mem_of_getElem? (i := 36) rfl)) (hw _ (List.mem_of_getElem? (i := 37) rfl)) (hw _ (List.mem_of_getElem? (i := 41) rfl)) (hw _ (List.mem_of_getElem? (i := 39) rfl)) (hw _ (List.mem_of_getElem? (i := 40) rfl)) (hw _ (List.mem_of_getElem? (i := 42) rfl)) eT (Arv.arh V_a1) E_a1 (g := (mkF m 64 #[.val (.ref a1), .val (.ref a2), .val (.int (3 : Int32))] [(.ref a1)])) rfl (by rw [hml]; rfl) rfl (hb hby d3_64) (by decide) (W := 0) (cap := 3) (by show 2 * 0 + _ ≤ _; exact Nat.le_of_eq rfl) (by decide) (by decide) (by decide) (by decide)
  obtain ⟨b4, g_b4'⟩ : ∃ z, z = h0.size := ⟨_, rfl⟩
  rw [← g_b4'] at A_ Ea_ st
  have ne_a1_b4 : a1 ≠ b4 := Nat.ne_of_lt (Nat.lt_of_lt_of_le V_a1.lt (Nat.le_of_eq g_b4'.symm))
  have ne_b4_a1 : b4 ≠ a1 := Ne.symm ne_a1_b4
  have g_b4 : n0 ≤ b4 := Nat.le_trans Z0 (Nat.le_trans K.1 (Nat.le_of_eq g_b4'.symm))
  have sz_b4 : h0.size ≤ b4 := Nat.le_trans K.1 (Nat.le_of_eq g_b4'.symm)
  have K := K.ext E_
  have V_a1 := Arv.ext V_a1 E_
  have E_a1 := Exa.ext E_ E_a1
  have V_b4 : Arv Z h4 b4 kk .double (3 : Int32) [(.double y0), (.double y1), (.double y2)] (.double (0 : UInt64)) := A_
  have E_b4 := Ea_
  refine Go.by st ?_
  show Go p.tables e below (T.setTop (mkF m 67 #[.val (.ref a1), .val (.ref a2), .val (.int (3 : Int32))] [(.ref b4)])) _
  obtain ⟨T, X, eT, st⟩ := castY X hx hZ hown (hw _ (List.mem_of_getElem? (i := 43) rfl)) eT (Ins.self E_b4) (g := (mkF m 67 #[.val (.ref a1), .val (.ref a2), .val (.int (3 : Int32))] [(.ref b4)])) rfl rfl (hb hby d3_67)
  refine Go.by st ?_
  show Go p.tables e below (T.setTop (mkF m 70 #[.val (.ref a1), .val (.ref a2), .val (.int (3 : Int32))] [(.ref b4)])) _
  exact Go.done X  (v := some (.ref b4)) (fun h => by rw [Bd.returns] at h; cases h) Bd.notSynchronized (fun fs hr => retOut X hx Bd.returns rfl (by simp [Value.isRef, FieldType.isReference]) (hb hby d3_70) hr) (by rw [eT]; exact ⟨b4, g_b4, sz_b4, rfl, N, K, V_b4⟩) (by decide) (by decide)
def Q1_3 (Z : State) (a1 : Addr) (a2 : Addr) (x3 : UInt64) (y0 : UInt64) (y1 : UInt64) (y2 : UInt64) (kk : ClassId) (h0 : Heap) (n0 : Nat) (v : Option Value) (h : Heap) (L : List Loc) : Prop := v = none ∧ Fr n0 L ∧ Keep h0 h [a1] ∧ Exa Z h a1 "com/example/pareto_helm/paretohelm/engine/Budget" ∧ ∃ b : Addr, Fld Z h a1 "com/example/pareto_helm/paretohelm/engine/Budget" "costs" "[D" (.ref b) ∧ Fld Z h a1 "com/example/pareto_helm/paretohelm/engine/Budget" "limit" "D" (.double x3) ∧ Arv Z h b kk .double (3 : Int32) [(.double y0), (.double y1), (.double y2)] (.double (0 : UInt64))
set_option maxRecDepth 65536 in
set_option maxHeartbeats 40000000 in
theorem rm1_3 (l : Launch) (Z : State) (a0 : Array Value) (hw : ∀ d ∈ tables_1, d.before a0 Z = true) (ws : List Jvm.Cond) (a1 : Addr) (a2 : Addr) (x3 : UInt64) (y0 : UInt64) (y1 : UInt64) (y2 : UInt64) (kk : ClassId) (h0 : Heap) (n0 : Nat) (Z0 : n0 ≤ h0.size) (E_a1 : Exa Z h0 a1 "com/example/pareto_helm/paretohelm/engine/Budget") (g_a1 : n0 ≤ a1) (F_costs_a1 : Fld Z h0 a1 "com/example/pareto_helm/paretohelm/engine/Budget" "costs" "[D" .null) (F_limit_a1 : Fld Z h0 a1 "com/example/pareto_helm/paretohelm/engine/Budget" "limit" "D" (.double (0 : UInt64))) (ne_a2_a1 : a2 ≠ a1) (V_a2 : Arv Z h0 a2 kk .double (3 : Int32) [(.double y0), (.double y1), (.double y2)] (.double (0 : UInt64))) (E_a2 : Exa Z h0 a2 "[D") (fl : Fin64 x3) (bl : (0 : Int32) < cmpValue (FP.dcmp x3 0) .l) (f0 : Fin64 y0) (b0 : (0 : Int32) < cmpValue (FP.dcmp y0 0) .l) (f1 : Fin64 y1) (b1 : (0 : Int32) < cmpValue (FP.dcmp y1 0) .l) (f2 : Fin64 y2) (b2 : (0 : Int32) < cmpValue (FP.dcmp y2 0) .l) :
    MetFree l (⟨"com/example/pareto_helm/paretohelm/engine/Budget", "<init>", "([DD)V"⟩ : MethodName) (head1 (Jvm.Cond.codeWith (⟨"com/example/pareto_helm/paretohelm/engine/Budget", "<init>", "([DD)V"⟩ : MethodName) prog_5_method_1_code 5 none [((4 : Nat), (14 : Nat), (17 : Nat), (21 : Nat))] :: ws) ({ frames := 4, cells := 3, slots := 23, locals := 60 } : Room)) (fun a U => a = #[(.ref a1), (.ref a2), (.double x3)] ∧ Z.Warmed39 U.vm ∧ U.heap = h0) (fun _ _ _ _ _ => True) (fun _ U o U' => ∃ v L, o = .returned v ∧ Q1_3 Z a1 a2 x3 y0 y1 y2 kk h0 n0 v U'.heap L ∧ ReturnedEndW U o U' L ({ frames := 4, cells := 3, slots := 23, locals := 60 } : Room).cells ({ frames := 4, cells := 3, slots := 23, locals := 60 } : Room).slots) := by
  refine MetFree.of_bodySF (plainFor_of_name pn_2) hisWith ?_
  intro p e s m args below meth c s₁ Bd hml0 hP hK
  obtain ⟨rfl, hZ, hh⟩ := hP
  have hx := Bd.exec
  have hby := Bd.bytes
  have hml : c.maxLocals = 5 := hml0
  have hown : s.vm.findClass "com/example/pareto_helm/paretohelm/engine/Budget" = some m.cls := findClass_of_methodNamed Bd.named
  have hnm := (name_of_methodNamed Bd.named Bd.method).1
  have X : Stand p l e ({ frames := 4, cells := 3, slots := 23, locals := 60 } : Room) s m #[(.ref a1), (.ref a2), (.double x3)] below meth c s₁ [] 0 0 := Stand.of_body Bd
  have eT : s₁.heap = h0 := by rw [← hh, Bd.state]; rfl
  have N := Fr.nil n0
  have K := Keep.refl h0 [a1]
  have X : Stand p l e ({ frames := 4, cells := 3, slots := 23, locals := 60 } : Room) (s.setVm s.vm) m #[(.ref a1), (.ref a2), (.double x3)] below meth c s₁ [] 0 0 := X
  have hS : s.Since s.vm h0.size := (State.WarmedH.refl s).since _
  have hk : h0.size ≤ h0.size := Nat.le_refl _
  have hZ : Z.Warmed39 (s.setVm s.vm).vm := hZ
  have hown : (s.setVm s.vm).vm.findClass "com/example/pareto_helm/paretohelm/engine/Budget" = some m.cls := hown
  have wS : ∀ a ∈ Bundle.stringAtoms, a.before a0 Z = true := fun a ha => by
    simp only [Bundle.stringAtoms, List.mem_cons, List.not_mem_nil, or_false] at ha
    rcases ha with rfl | rfl | rfl | rfl | rfl | rfl | rfl
    · exact (hw _ (List.mem_of_getElem? (i := 13) rfl))
    · exact (hw _ (List.mem_of_getElem? (i := 14) rfl))
    · exact (hw _ (List.mem_of_getElem? (i := 15) rfl))
    · exact (hw _ (List.mem_of_getElem? (i := 16) rfl))
    · exact (hw _ (List.mem_of_getElem? (i := 17) rfl))
    · exact (hw _ (List.mem_of_getElem? (i := 18) rfl))
    · exact (hw _ (List.mem_of_getElem? (i := 19) rfl))
  refine Go.out ?_
  obtain ⟨T, eTT⟩ : ∃ z, z = s₁ := ⟨_, rfl⟩
  rw [← eTT] at X eT ⊢
  refine Go.by (fun tt_ kk_ => castTop (ef_1 m a1 a2 x3) kk_) ?_
  show Go p.tables e below (T.setTop (mkF m 0 #[.val (.ref a1), .val (.ref a2), .val (.double x3), .second, .unset] [])) _
  refine Go.by (fun tt_ kk_ => XS.aloadN X.here hx rfl (hb hby d1_0) rfl rfl kk_) ?_
  show Go p.tables e below (T.setTop (mkF m 1 #[.val (.ref a1), .val (.ref a2), .val (.double x3), .second, .unset] [(.ref a1)])) _
  obtain ⟨T, X, eT, st⟩ := initO X hx hZ hown (hw _ (List.mem_of_getElem? (i := 9) rfl)) (hw _ (List.mem_of_getElem? (i := 10) rfl)) (hw _ (List.mem_of_getElem? (i := 11) rfl)) eT (g := (mkF m 1 #[.val (.ref a1), .val (.ref a2), .val (.double x3), .second, .unset] [(.ref a1)])) rfl (by rw [hml]; rfl) rfl (hb hby d1_1) (by decide) (W := 0) (by show 2 * 0 + _ ≤ _; exact Nat.le_of_eq rfl) (by decide)
  refine Go.by st ?_
  show Go p.tables e below (T.setTop (mkF m 4 #[.val (.ref a1), .val (.ref a2), .val (.double x3), .second, .unset] [])) _
  refine Go.by (fun tt_ kk_ => XS.aloadN X.here hx rfl (hb hby d1_4) rfl rfl kk_) ?_
  show Go p.tables e below (T.setTop (mkF m 5 #[.val (.ref a1), .val (.ref a2), .val (.double x3), .second, .unset] [(.ref a1)])) _
  refine Go.by (fun tt_ kk_ => XS.aloadN X.here hx rfl (hb hby d1_5) rfl rfl kk_) ?_
  show Go p.tables e below (T.setTop (mkF m 6 #[.val (.ref a1), .val (.ref a2), .val (.double x3), .second, .unset] [(.ref a2), (.ref a1)])) _
  obtain ⟨lit2, T, h1, k1_, X, eT, E_, hS, hk, hZ, hown, st⟩ := ldcS X hx hZ hown (hw _ (List.mem_of_getElem? (i := 12) rfl)) wS eT hS hk (g := (mkF m 6 #[.val (.ref a1), .val (.ref a2), .val (.double x3), .second, .unset] [(.ref a2), (.ref a1)])) rfl (hb hby d1_6) (n := 16) (by decide) (by decide) (by decide) (by decide)
  have V_a2 := Arv.ext V_a2 E_
  have E_a2 := Exa.ext E_ E_a2
  have E_a1 := Exa.ext E_ E_a1
  have F_costs_a1 := Fld.ext E_ F_costs_a1
  have F_limit_a1 := Fld.ext E_ F_limit_a1
  have K := K.ext E_
  refine Go.by st ?_
  show Go p.tables e below (T.setTop (mkF m 8 #[.val (.ref a1), .val (.ref a2), .val (.double x3), .second, .unset] [(.ref lit2), (.ref a2), (.ref a1)])) _
  have lt_a1 := E_a1.lt
  obtain ⟨_, _, ⟨T, L_, k_, n_⟩, -, X, ⟨Lc_, hQ, l_, y_, z_⟩, st⟩ := Jvm.LawKit.callS X hx (y := (⟨"com/example/pareto_helm/paretohelm/engine/Positive", "copyOf", "([DLjava/lang/String;)[D"⟩ : MethodName)) hown (mvT hZ (hw _ (List.mem_of_getElem? (i := 20) rfl))) (mvT hZ (hw _ (List.mem_of_getElem? (i := 21) rfl))) (mvT hZ (hw _ (List.mem_of_getElem? (i := 22) rfl))) (mvT hZ (hw _ (List.mem_of_getElem? (i := 23) rfl))) (by decide) (backOf (W := 1) (rm3_3 l Z a0 hw [] a2 lit2 y0 y1 y2 kk h1 n0 (Nat.le_trans Z0 K.1) V_a2 E_a2 f0 b0 f1 b1 f2 b2) hZ (hw _ (List.mem_of_getElem? (i := 23) rfl)) (hw _ (List.mem_of_getElem? (i := 22) rfl)) (by decide) (by decide)) (g := (mkF m 8 #[.val (.ref a1), .val (.ref a2), .val (.double x3), .second, .unset] [(.ref lit2), (.ref a2), (.ref a1)])) rfl (by rw [hml]; rfl) (argsL := [(.ref a2), (.ref lit2)]) (rest := [(.ref a1)]) (lenOf pd_2 rfl) rfl (by show 2 * 0 + _ ≤ _; exact Nat.le_of_eq rfl) (hb hby d1_8) (fun _ _ => ⟨rfl, eT, (by decide : 2 + 1 ≤ _), (by decide : 20 + 3 ≤ _)⟩)
  dsimp only [Pt.U, Pt.locs, Pt.cells, Pt.slots] at X l_ y_ z_ st hQ
  subst l_ y_ z_
  obtain ⟨h4, eT⟩ : ∃ z, T.heap = z := ⟨_, rfl⟩
  rw [eT] at hQ
  obtain ⟨b3, g_b3, sq_b3, rfl, Nq, Kq, V_b3⟩ := hQ
  have N := Fr.app N Nq
  have V_a2 := Arv.keep V_a2 Kq nin0
  have E_a2 := Exa.keep E_a2 Kq
  have E_a1 := Exa.keep E_a1 Kq
  have F_costs_a1 := Fld.keep F_costs_a1 Kq nin0
  have F_limit_a1 := Fld.keep F_limit_a1 Kq nin0
  have sz_b3 : h0.size ≤ b3 := Nat.le_trans K.1 sq_b3
  have K := K.trans Kq all0
  have ne_a1_b3 : a1 ≠ b3 := Nat.ne_of_lt (Nat.lt_of_lt_of_le lt_a1 sq_b3)
  have ne_b3_a1 := Ne.symm ne_a1_b3
  have hk := Nat.le_trans hk Kq.1
  refine Go.by st ?_
  show Go p.tables e below (T.setTop (mkF m 11 #[.val (.ref a1), .val (.ref a2), .val (.double x3), .second, .unset] [(.ref b3), (.ref a1)])) _
  obtain ⟨T, h5, X, eT, Wh5, st⟩ := putF X hx hZ hown (host := "") (Or.inl (hw _ (List.mem_of_getElem? (i := 45) rfl))) Via.refl eT F_costs_a1 E_a1 (Or.inr ⟨(hw _ (List.mem_of_getElem? (i := 46) rfl)), rfl, hnm⟩) (hw _ (List.mem_of_getElem? (i := 4) rfl)) (ty := (.array .double)) (by decide) rfl rfl (g := (mkF m 11 #[.val (.ref a1), .val (.ref a2), .val (.double x3), .second, .unset] [(.ref b3), (.ref a1)])) rfl rfl (hb hby d1_11)
  have F_costs_a1 := Fld.same Wh5 F_costs_a1
  have V_a2 := Arv.other V_a2 Wh5 ne_a2_a1
  have E_a2 := Exa.wr Wh5 E_a2
  have E_a1 := Exa.wr Wh5 E_a1
  have F_limit_a1 := Fld.other Wh5 F_limit_a1 (Or.inr (slot_ne (Or.inr (hw _ (List.mem_of_getElem? (i := 49) rfl))) (Or.inr (hw _ (List.mem_of_getElem? (i := 46) rfl))) (by decide) (t := .double) (t' := (.array .double)) (by decide) (by decide)))
  have V_b3 := Arv.other V_b3 Wh5 ne_b3_a1
  have N := Fr.snoc X N g_a1
  have K := K.wr Wh5 (Or.inl (List.mem_of_getElem? (i := 0) rfl))
  have hk := Nat.le_trans hk (Nat.le_of_eq (Wr.size Wh5).symm)
  refine Go.by st ?_
  show Go p.tables e below (T.setTop (mkF m 14 #[.val (.ref a1), .val (.ref a2), .val (.double x3), .second, .unset] [])) _
  refine Go.by (fun tt_ kk_ => XS.goto X.here hx rfl (pc0 := 14) (pc' := 39) rfl (hb hby d1_14) (by decide) (by decide) kk_) ?_
  show Go p.tables e below (T.setTop (mkF m 39 #[.val (.ref a1), .val (.ref a2), .val (.double x3), .second, .unset] [])) _
  refine Go.by (fun tt_ kk_ => XS.dloadN X.here hx rfl (hb hby d1_39) rfl kk_) ?_
  show Go p.tables e below (T.setTop (mkF m 40 #[.val (.ref a1), .val (.ref a2), .val (.double x3), .second, .unset] [(.double x3)])) _
  obtain ⟨_, _, ⟨T, L_, k_, n_⟩, -, X, ⟨Lc_, hQ, l_, y_, z_⟩, st⟩ := Jvm.LawKit.callS X hx (y := (⟨"com/example/pareto_helm/paretohelm/engine/Positive", "holds", "(D)Z"⟩ : MethodName)) hown (mvT hZ (hw _ (List.mem_of_getElem? (i := 47) rfl))) (mvT hZ (hw _ (List.mem_of_getElem? (i := 25) rfl))) (mvT hZ (hw _ (List.mem_of_getElem? (i := 22) rfl))) (mvT hZ (hw _ (List.mem_of_getElem? (i := 26) rfl))) (by decide) (backOf (W := 0) (rm4 l Z a0 hw [] x3 h5 n0 (Nat.le_trans Z0 K.1) fl bl) hZ (hw _ (List.mem_of_getElem? (i := 26) rfl)) (hw _ (List.mem_of_getElem? (i := 22) rfl)) (by decide) (by decide)) (g := (mkF m 40 #[.val (.ref a1), .val (.ref a2), .val (.double x3), .second, .unset] [(.double x3)])) rfl (by rw [hml]; rfl) (argsL := [(.double x3)]) (rest := []) (lenOf pd_1 rfl) rfl (by show 2 * 0 + _ ≤ _; exact Nat.le_of_eq rfl) (hb hby d1_40) (fun _ _ => ⟨rfl, eT, (by decide : 3 + 0 ≤ _), (by decide : 23 + 0 ≤ _)⟩)
  dsimp only [Pt.U, Pt.locs, Pt.cells, Pt.slots] at X l_ y_ z_ st hQ
  subst l_ y_ z_
  obtain ⟨rfl, Nq, eh⟩ := hQ
  have N := Fr.app N Nq
  have eT := eh
  refine Go.by st ?_
  show Go p.tables e below (T.setTop (mkF m 43 #[.val (.ref a1), .val (.ref a2), .val (.double x3), .second, .unset] [(.int (1 : Int32))])) _
  refine Go.by (fun tt_ kk_ => XS.ifYes X.here hx rfl (pc0 := 43) (pc' := 60) rfl (hb hby d1_43) rfl ((if0 _ _).trans (feq (by decide : ¬ ((1 : Int32) = (0 : Int32)))).2) (by decide) (by decide) kk_) ?_
  show Go p.tables e below (T.setTop (mkF m 60 #[.val (.ref a1), .val (.ref a2), .val (.double x3), .second, .unset] [])) _
  refine Go.by (fun tt_ kk_ => XS.aloadN X.here hx rfl (hb hby d1_60) rfl rfl kk_) ?_
  show Go p.tables e below (T.setTop (mkF m 61 #[.val (.ref a1), .val (.ref a2), .val (.double x3), .second, .unset] [(.ref a1)])) _
  refine Go.by (fun tt_ kk_ => XS.dloadN X.here hx rfl (hb hby d1_61) rfl kk_) ?_
  show Go p.tables e below (T.setTop (mkF m 62 #[.val (.ref a1), .val (.ref a2), .val (.double x3), .second, .unset] [(.double x3), (.ref a1)])) _
  obtain ⟨T, h7, X, eT, Wh7, st⟩ := putF X hx hZ hown (host := "") (Or.inl (hw _ (List.mem_of_getElem? (i := 48) rfl))) Via.refl eT F_limit_a1 E_a1 (Or.inr ⟨(hw _ (List.mem_of_getElem? (i := 49) rfl)), rfl, hnm⟩) (hw _ (List.mem_of_getElem? (i := 4) rfl)) (ty := .double) (by decide) rfl rfl (g := (mkF m 62 #[.val (.ref a1), .val (.ref a2), .val (.double x3), .second, .unset] [(.double x3), (.ref a1)])) rfl rfl (hb hby d1_62)
  have F_limit_a1 := Fld.same Wh7 F_limit_a1
  have V_a2 := Arv.other V_a2 Wh7 ne_a2_a1
  have E_a2 := Exa.wr Wh7 E_a2
  have E_a1 := Exa.wr Wh7 E_a1
  have F_costs_a1 := Fld.other Wh7 F_costs_a1 (Or.inr (slot_ne (Or.inr (hw _ (List.mem_of_getElem? (i := 46) rfl))) (Or.inr (hw _ (List.mem_of_getElem? (i := 49) rfl))) (by decide) (t := (.array .double)) (t' := .double) (by decide) (by decide)))
  have V_b3 := Arv.other V_b3 Wh7 ne_b3_a1
  have N := Fr.snoc X N g_a1
  have K := K.wr Wh7 (Or.inl (List.mem_of_getElem? (i := 0) rfl))
  have hk := Nat.le_trans hk (Nat.le_of_eq (Wr.size Wh7).symm)
  refine Go.by st ?_
  show Go p.tables e below (T.setTop (mkF m 65 #[.val (.ref a1), .val (.ref a2), .val (.double x3), .second, .unset] [])) _
  exact Go.doneW X hS (by rw [eT]; exact hk) (v := none) (fun _ => rfl) Bd.notSynchronized (fun fs hr => X.returnOut hx Bd.returns (hb hby d1_65) hr) (by rw [eT]; exact ⟨rfl, N, K, E_a1, b3, F_costs_a1, F_limit_a1, V_b3⟩) (by decide) (by decide)
def Q7_3 (Z : State) (a1 : Addr) (a2 : Addr) (x0 : UInt64) (y0 : UInt64) (w0 : Int) (c0 : Int) (x1 : UInt64) (y1 : UInt64) (w1 : Int) (c1 : Int) (x2 : UInt64) (y2 : UInt64) (w2 : Int) (c2 : Int) (kc : ClassId) (kw : ClassId) (ca : Addr) (lm : UInt64) (h0 : Heap) (n0 : Nat) (v : Option Value) (h : Heap) (L : List Loc) : Prop := ∃ (b : Addr) (kb : ClassId), n0 ≤ b ∧ h0.size ≤ b ∧ v = some (.ref b) ∧ Fr n0 L ∧ Keep h0 h [] ∧ Arv Z h b kb .double (3 : Int32) (own_bc3 w0 c0 w1 c1 w2 c2 lm y0 y1 y2) (.double (0 : UInt64))
set_option maxRecDepth 65536 in
set_option maxHeartbeats 40000000 in
theorem rm7_3 (l : Launch) (Z : State) (a0 : Array Value) (hw : ∀ d ∈ tables_1, d.before a0 Z = true) (ws : List Jvm.Cond) (a1 : Addr) (a2 : Addr) (x0 : UInt64) (y0 : UInt64) (w0 : Int) (c0 : Int) (x1 : UInt64) (y1 : UInt64) (w1 : Int) (c1 : Int) (x2 : UInt64) (y2 : UInt64) (w2 : Int) (c2 : Int) (kc : ClassId) (kw : ClassId) (ca : Addr) (lm : UInt64) (h0 : Heap) (n0 : Nat) (Z0 : n0 ≤ h0.size) (F_costs_a1 : Fld Z h0 a1 "com/example/pareto_helm/paretohelm/engine/Budget" "costs" "[D" (.ref ca)) (F_limit_a1 : Fld Z h0 a1 "com/example/pareto_helm/paretohelm/engine/Budget" "limit" "D" (.double lm)) (V_ca : Arv Z h0 ca kc .double (3 : Int32) [(.double y0), (.double y1), (.double y2)] (.double (0 : UInt64))) (V_a2 : Arv Z h0 a2 kw .double (3 : Int32) [(.double x0), (.double x1), (.double x2)] (.double (0 : UInt64))) (fl : Fin64 lm) (dx0 : Dy w0 0 x0) (dy0 : Dy c0 0 y0) (bw0 : -2147483648 ≤ w0 ∧ w0 ≤ 2147483648) (bc0 : 1 ≤ c0 ∧ c0 ≤ 1024) (dx1 : Dy w1 0 x1) (dy1 : Dy c1 0 y1) (bw1 : -2147483648 ≤ w1 ∧ w1 ≤ 2147483648) (bc1 : 1 ≤ c1 ∧ c1 ≤ 1024) (dx2 : Dy w2 0 x2) (dy2 : Dy c2 0 y2) (bw2 : -2147483648 ≤ w2 ∧ w2 ≤ 2147483648) (bc2 : 1 ≤ c2 ∧ c2 ≤ 1024) :
    MetFree l (⟨"com/example/pareto_helm/paretohelm/engine/Budget", "bestCorner", "([D)[D"⟩ : MethodName) (head1 (Jvm.Cond.code (⟨"com/example/pareto_helm/paretohelm/engine/Budget", "bestCorner", "([D)[D"⟩ : MethodName) prog_5_method_6_code 4 (some (.array .double)) :: ws) ({ frames := 0, cells := 1, slots := 3, locals := 0 } : Room)) (fun a U => a = #[(.ref a1), (.ref a2)] ∧ Z.Warmed39 U.vm ∧ U.heap = h0) (fun _ _ _ _ _ => True) (fun _ U o U' => ∃ v L, o = .returned v ∧ Q7_3 Z a1 a2 x0 y0 w0 c0 x1 y1 w1 c1 x2 y2 w2 c2 kc kw ca lm h0 n0 v U'.heap L ∧ FrameEnd U o U' L ({ frames := 0, cells := 1, slots := 3, locals := 0 } : Room).cells ({ frames := 0, cells := 1, slots := 3, locals := 0 } : Room).slots) := by
  refine MetFree.of_bodySF (plainFor_of_name pn_2) hisR ?_
  intro p e s m args below meth c s₁ Bd hml0 hP hK
  obtain ⟨rfl, hZ, hh⟩ := hP
  have hx := Bd.exec
  have hby := Bd.bytes
  have hml : c.maxLocals = 4 := hml0
  have hown : s.vm.findClass "com/example/pareto_helm/paretohelm/engine/Budget" = some m.cls := findClass_of_methodNamed Bd.named
  have hnm := (name_of_methodNamed Bd.named Bd.method).1
  have X : Stand p l e ({ frames := 0, cells := 1, slots := 3, locals := 0 } : Room) s m #[(.ref a1), (.ref a2)] below meth c s₁ [] 0 0 := Stand.of_body Bd
  have eT : s₁.heap = h0 := by rw [← hh, Bd.state]; rfl
  have N := Fr.nil n0
  have K := Keep.refl h0 []
  refine Go.out ?_
  obtain ⟨T, eTT⟩ : ∃ z, z = s₁ := ⟨_, rfl⟩
  rw [← eTT] at X eT ⊢
  refine Go.by (fun tt_ kk_ => castTop (ef_7 m a1 a2) kk_) ?_
  show Go p.tables e below (T.setTop (mkF m 0 #[.val (.ref a1), .val (.ref a2), .unset, .unset] [])) _
  refine Go.by (fun tt_ kk_ => XS.iconst X.here hx rfl (hb hby d7_0) kk_) ?_
  show Go p.tables e below (T.setTop (mkF m 1 #[.val (.ref a1), .val (.ref a2), .unset, .unset] [(.int (0 : Int32))])) _
  refine Go.by (fun tt_ kk_ => XS.istoreN X.here hx rfl (hb hby d7_1) rfl (l' := #[.val (.ref a1), .val (.ref a2), .val (.int (0 : Int32)), .unset]) rfl kk_) ?_
  show Go p.tables e below (T.setTop (mkF m 2 #[.val (.ref a1), .val (.ref a2), .val (.int (0 : Int32)), .unset] [])) _
  refine Go.by (fun tt_ kk_ => XS.iconst X.here hx rfl (hb hby d7_2) kk_) ?_
  show Go p.tables e below (T.setTop (mkF m 3 #[.val (.ref a1), .val (.ref a2), .val (.int (0 : Int32)), .unset] [(.int (1 : Int32))])) _
  refine Go.by (fun tt_ kk_ => XS.istoreN X.here hx rfl (hb hby d7_3) rfl (l' := #[.val (.ref a1), .val (.ref a2), .val (.int (0 : Int32)), .val (.int (1 : Int32))]) rfl kk_) ?_
  show Go p.tables e below (T.setTop (mkF m 4 #[.val (.ref a1), .val (.ref a2), .val (.int (0 : Int32)), .val (.int (1 : Int32))] [])) _
  refine Go.by (fun tt_ kk_ => XS.iloadN X.here hx rfl (hb hby d7_4) rfl kk_) ?_
  show Go p.tables e below (T.setTop (mkF m 5 #[.val (.ref a1), .val (.ref a2), .val (.int (0 : Int32)), .val (.int (1 : Int32))] [(.int (1 : Int32))])) _
  refine Go.by (fun tt_ kk_ => XS.aloadN X.here hx rfl (hb hby d7_5) rfl rfl kk_) ?_
  show Go p.tables e below (T.setTop (mkF m 6 #[.val (.ref a1), .val (.ref a2), .val (.int (0 : Int32)), .val (.int (1 : Int32))] [(.ref a1), (.int (1 : Int32))])) _
  obtain ⟨T, X, eT, st⟩ := getF X hx hZ hown (host := "") (Or.inl (hw _ (List.mem_of_getElem? (i := 45) rfl))) Via.refl eT F_costs_a1 (g := (mkF m 6 #[.val (.ref a1), .val (.ref a2), .val (.int (0 : Int32)), .val (.int (1 : Int32))] [(.ref a1), (.int (1 : Int32))])) rfl rfl (hb hby d7_6)
  refine Go.by st ?_
  show Go p.tables e below (T.setTop (mkF m 9 #[.val (.ref a1), .val (.ref a2), .val (.int (0 : Int32)), .val (.int (1 : Int32))] [(.ref ca), (.int (1 : Int32))])) _
  have Vo_ := V_ca
  obtain ⟨cl_, Ar_, q_, S_, N_, H_, G_⟩ := Vo_
  refine Go.by (X.arraylength hx (by rw [eT]; exact Ar_.1) (State.isArrayOf_alike hZ.alike Ar_.2.1) (g := (mkF m 9 #[.val (.ref a1), .val (.ref a2), .val (.int (0 : Int32)), .val (.int (1 : Int32))] [(.ref ca), (.int (1 : Int32))])) rfl rfl (hb hby d7_9)) ?_
  rw [len_of S_ N_]
  show Go p.tables e below (T.setTop (mkF m 10 #[.val (.ref a1), .val (.ref a2), .val (.int (0 : Int32)), .val (.int (1 : Int32))] [(.int (3 : Int32)), (.int (1 : Int32))])) _
  refine Go.by (fun tt_ kk_ => XS.icmpNo X.here hx rfl (hb hby d7_10) rfl (tlt (by decide : (1 : Int32) < (3 : Int32))).2.1 kk_) ?_
  show Go p.tables e below (T.setTop (mkF m 13 #[.val (.ref a1), .val (.ref a2), .val (.int (0 : Int32)), .val (.int (1 : Int32))] [])) _
  refine Go.by (fun tt_ kk_ => XS.aloadN X.here hx rfl (hb hby d7_13) rfl rfl kk_) ?_
  show Go p.tables e below (T.setTop (mkF m 14 #[.val (.ref a1), .val (.ref a2), .val (.int (0 : Int32)), .val (.int (1 : Int32))] [(.ref a2)])) _
  refine Go.by (fun tt_ kk_ => XS.iloadN X.here hx rfl (hb hby d7_14) rfl kk_) ?_
  show Go p.tables e below (T.setTop (mkF m 15 #[.val (.ref a1), .val (.ref a2), .val (.int (0 : Int32)), .val (.int (1 : Int32))] [(.int (1 : Int32)), (.ref a2)])) _
  have Vo_ := V_a2
  obtain ⟨cl_, Ar_, q_, S_, N_, H_, G_⟩ := Vo_
  refine Go.by (X.daload hx (j := (1 : Int32)) (v := (.double x1)) (by rw [eT]; exact Ar_.1) (State.isArrayOf_alike hZ.alike Ar_.2.1) Ar_.2.2 (inb_of S_ ⟨by decide, by decide⟩) (Has.at H_ (inb_of S_ ⟨by decide, by decide⟩) rfl) (g := (mkF m 15 #[.val (.ref a1), .val (.ref a2), .val (.int (0 : Int32)), .val (.int (1 : Int32))] [(.int (1 : Int32)), (.ref a2)])) rfl rfl (hb hby d7_15)) ?_
  show Go p.tables e below (T.setTop (mkF m 16 #[.val (.ref a1), .val (.ref a2), .val (.int (0 : Int32)), .val (.int (1 : Int32))] [(.double x1)])) _
  refine Go.by (fun tt_ kk_ => XS.aloadN X.here hx rfl (hb hby d7_16) rfl rfl kk_) ?_
  show Go p.tables e below (T.setTop (mkF m 17 #[.val (.ref a1), .val (.ref a2), .val (.int (0 : Int32)), .val (.int (1 : Int32))] [(.ref a1), (.double x1)])) _
  obtain ⟨T, X, eT, st⟩ := getF X hx hZ hown (host := "") (Or.inl (hw _ (List.mem_of_getElem? (i := 45) rfl))) Via.refl eT F_costs_a1 (g := (mkF m 17 #[.val (.ref a1), .val (.ref a2), .val (.int (0 : Int32)), .val (.int (1 : Int32))] [(.ref a1), (.double x1)])) rfl rfl (hb hby d7_17)
  refine Go.by st ?_
  show Go p.tables e below (T.setTop (mkF m 20 #[.val (.ref a1), .val (.ref a2), .val (.int (0 : Int32)), .val (.int (1 : Int32))] [(.ref ca), (.double x1)])) _
  refine Go.by (fun tt_ kk_ => XS.iloadN X.here hx rfl (hb hby d7_20) rfl kk_) ?_
  show Go p.tables e below (T.setTop (mkF m 21 #[.val (.ref a1), .val (.ref a2), .val (.int (0 : Int32)), .val (.int (1 : Int32))] [(.int (1 : Int32)), (.ref ca), (.double x1)])) _
  have Vo_ := V_ca
  obtain ⟨cl_, Ar_, q_, S_, N_, H_, G_⟩ := Vo_
  refine Go.by (X.daload hx (j := (1 : Int32)) (v := (.double y1)) (by rw [eT]; exact Ar_.1) (State.isArrayOf_alike hZ.alike Ar_.2.1) Ar_.2.2 (inb_of S_ ⟨by decide, by decide⟩) (Has.at H_ (inb_of S_ ⟨by decide, by decide⟩) rfl) (g := (mkF m 21 #[.val (.ref a1), .val (.ref a2), .val (.int (0 : Int32)), .val (.int (1 : Int32))] [(.int (1 : Int32)), (.ref ca), (.double x1)])) rfl rfl (hb hby d7_21)) ?_
  show Go p.tables e below (T.setTop (mkF m 22 #[.val (.ref a1), .val (.ref a2), .val (.int (0 : Int32)), .val (.int (1 : Int32))] [(.double y1), (.double x1)])) _
  refine Go.by (fun tt_ kk_ => XS.ddivS X.here hx rfl (hb hby d7_22) rfl (own_divnn dx1 dy1 (by omega)) rfl kk_) ?_
  show Go p.tables e below (T.setTop (mkF m 23 #[.val (.ref a1), .val (.ref a2), .val (.int (0 : Int32)), .val (.int (1 : Int32))] [(.double (FP.ddiv x1 y1))])) _
  refine Go.by (fun tt_ kk_ => XS.aloadN X.here hx rfl (hb hby d7_23) rfl rfl kk_) ?_
  show Go p.tables e below (T.setTop (mkF m 24 #[.val (.ref a1), .val (.ref a2), .val (.int (0 : Int32)), .val (.int (1 : Int32))] [(.ref a2), (.double (FP.ddiv x1 y1))])) _
  refine Go.by (fun tt_ kk_ => XS.iloadN X.here hx rfl (hb hby d7_24) rfl kk_) ?_
  show Go p.tables e below (T.setTop (mkF m 25 #[.val (.ref a1), .val (.ref a2), .val (.int (0 : Int32)), .val (.int (1 : Int32))] [(.int (0 : Int32)), (.ref a2), (.double (FP.ddiv x1 y1))])) _
  have Vo_ := V_a2
  obtain ⟨cl_, Ar_, q_, S_, N_, H_, G_⟩ := Vo_
  refine Go.by (X.daload hx (j := (0 : Int32)) (v := (.double x0)) (by rw [eT]; exact Ar_.1) (State.isArrayOf_alike hZ.alike Ar_.2.1) Ar_.2.2 (inb_of S_ ⟨by decide, by decide⟩) (Has.at H_ (inb_of S_ ⟨by decide, by decide⟩) rfl) (g := (mkF m 25 #[.val (.ref a1), .val (.ref a2), .val (.int (0 : Int32)), .val (.int (1 : Int32))] [(.int (0 : Int32)), (.ref a2), (.double (FP.ddiv x1 y1))])) rfl rfl (hb hby d7_25)) ?_
  show Go p.tables e below (T.setTop (mkF m 26 #[.val (.ref a1), .val (.ref a2), .val (.int (0 : Int32)), .val (.int (1 : Int32))] [(.double x0), (.double (FP.ddiv x1 y1))])) _
  refine Go.by (fun tt_ kk_ => XS.aloadN X.here hx rfl (hb hby d7_26) rfl rfl kk_) ?_
  show Go p.tables e below (T.setTop (mkF m 27 #[.val (.ref a1), .val (.ref a2), .val (.int (0 : Int32)), .val (.int (1 : Int32))] [(.ref a1), (.double x0), (.double (FP.ddiv x1 y1))])) _
  obtain ⟨T, X, eT, st⟩ := getF X hx hZ hown (host := "") (Or.inl (hw _ (List.mem_of_getElem? (i := 45) rfl))) Via.refl eT F_costs_a1 (g := (mkF m 27 #[.val (.ref a1), .val (.ref a2), .val (.int (0 : Int32)), .val (.int (1 : Int32))] [(.ref a1), (.double x0), (.double (FP.ddiv x1 y1))])) rfl rfl (hb hby d7_27)
  refine Go.by st ?_
  show Go p.tables e below (T.setTop (mkF m 30 #[.val (.ref a1), .val (.ref a2), .val (.int (0 : Int32)), .val (.int (1 : Int32))] [(.ref ca), (.double x0), (.double (FP.ddiv x1 y1))])) _
  refine Go.by (fun tt_ kk_ => XS.iloadN X.here hx rfl (hb hby d7_30) rfl kk_) ?_
  show Go p.tables e below (T.setTop (mkF m 31 #[.val (.ref a1), .val (.ref a2), .val (.int (0 : Int32)), .val (.int (1 : Int32))] [(.int (0 : Int32)), (.ref ca), (.double x0), (.double (FP.ddiv x1 y1))])) _
  have Vo_ := V_ca
  obtain ⟨cl_, Ar_, q_, S_, N_, H_, G_⟩ := Vo_
  refine Go.by (X.daload hx (j := (0 : Int32)) (v := (.double y0)) (by rw [eT]; exact Ar_.1) (State.isArrayOf_alike hZ.alike Ar_.2.1) Ar_.2.2 (inb_of S_ ⟨by decide, by decide⟩) (Has.at H_ (inb_of S_ ⟨by decide, by decide⟩) rfl) (g := (mkF m 31 #[.val (.ref a1), .val (.ref a2), .val (.int (0 : Int32)), .val (.int (1 : Int32))] [(.int (0 : Int32)), (.ref ca), (.double x0), (.double (FP.ddiv x1 y1))])) rfl rfl (hb hby d7_31)) ?_
  show Go p.tables e below (T.setTop (mkF m 32 #[.val (.ref a1), .val (.ref a2), .val (.int (0 : Int32)), .val (.int (1 : Int32))] [(.double y0), (.double x0), (.double (FP.ddiv x1 y1))])) _
  refine Go.by (fun tt_ kk_ => XS.ddivS X.here hx rfl (hb hby d7_32) rfl (own_divnn dx0 dy0 (by omega)) rfl kk_) ?_
  show Go p.tables e below (T.setTop (mkF m 33 #[.val (.ref a1), .val (.ref a2), .val (.int (0 : Int32)), .val (.int (1 : Int32))] [(.double (FP.ddiv x0 y0)), (.double (FP.ddiv x1 y1))])) _
  refine Go.by (fun tt_ kk_ => XS.dcmpS X.here hx rfl (hb hby d7_33) rfl (own_qcmp dx1 dy1 dx0 dy0 bw1 bc1 bw0 bc0 .l) kk_) ?_
  show Go p.tables e below (T.setTop (mkF m 34 #[.val (.ref a1), .val (.ref a2), .val (.int (0 : Int32)), .val (.int (1 : Int32))] [(.int (own_ci (w1 * c0) (w0 * c1)))])) _
  by_cases hc34 : (0 : Int32) < (own_ci (w1 * c0) (w0 * c1))
  · have hg0 := own_ci_gt.mp hc34
    refine Go.by (fun tt_ kk_ => XS.ifNo X.here hx rfl (hb hby d7_34) rfl ((if0 _ _).trans (tlt hc34).2.2.2) kk_) ?_
    show Go p.tables e below (T.setTop (mkF m 37 #[.val (.ref a1), .val (.ref a2), .val (.int (0 : Int32)), .val (.int (1 : Int32))] [])) _
    refine Go.by (fun tt_ kk_ => XS.iloadN X.here hx rfl (hb hby d7_37) rfl kk_) ?_
    show Go p.tables e below (T.setTop (mkF m 38 #[.val (.ref a1), .val (.ref a2), .val (.int (0 : Int32)), .val (.int (1 : Int32))] [(.int (1 : Int32))])) _
    refine Go.by (fun tt_ kk_ => XS.istoreN X.here hx rfl (hb hby d7_38) rfl (l' := #[.val (.ref a1), .val (.ref a2), .val (.int (1 : Int32)), .val (.int (1 : Int32))]) rfl kk_) ?_
    show Go p.tables e below (T.setTop (mkF m 39 #[.val (.ref a1), .val (.ref a2), .val (.int (1 : Int32)), .val (.int (1 : Int32))] [])) _
    refine Go.by (fun tt_ kk_ => XS.iinc X.here hx rfl (hb hby d7_39) rfl (l' := #[.val (.ref a1), .val (.ref a2), .val (.int (1 : Int32)), .val (.int (2 : Int32))]) rfl kk_) ?_
    show Go p.tables e below (T.setTop (mkF m 42 #[.val (.ref a1), .val (.ref a2), .val (.int (1 : Int32)), .val (.int (2 : Int32))] [])) _
    refine Go.by (fun tt_ kk_ => XS.goto X.here hx rfl (pc0 := 42) (pc' := 4) rfl (hb hby d7_42) (by decide) (by decide) kk_) ?_
    show Go p.tables e below (T.setTop (mkF m 4 #[.val (.ref a1), .val (.ref a2), .val (.int (1 : Int32)), .val (.int (2 : Int32))] [])) _
    refine Go.by (fun tt_ kk_ => XS.iloadN X.here hx rfl (hb hby d7_4) rfl kk_) ?_
    show Go p.tables e below (T.setTop (mkF m 5 #[.val (.ref a1), .val (.ref a2), .val (.int (1 : Int32)), .val (.int (2 : Int32))] [(.int (2 : Int32))])) _
    refine Go.by (fun tt_ kk_ => XS.aloadN X.here hx rfl (hb hby d7_5) rfl rfl kk_) ?_
    show Go p.tables e below (T.setTop (mkF m 6 #[.val (.ref a1), .val (.ref a2), .val (.int (1 : Int32)), .val (.int (2 : Int32))] [(.ref a1), (.int (2 : Int32))])) _
    obtain ⟨T, X, eT, st⟩ := getF X hx hZ hown (host := "") (Or.inl (hw _ (List.mem_of_getElem? (i := 45) rfl))) Via.refl eT F_costs_a1 (g := (mkF m 6 #[.val (.ref a1), .val (.ref a2), .val (.int (1 : Int32)), .val (.int (2 : Int32))] [(.ref a1), (.int (2 : Int32))])) rfl rfl (hb hby d7_6)
    refine Go.by st ?_
    show Go p.tables e below (T.setTop (mkF m 9 #[.val (.ref a1), .val (.ref a2), .val (.int (1 : Int32)), .val (.int (2 : Int32))] [(.ref ca), (.int (2 : Int32))])) _
    have Vo_ := V_ca
    obtain ⟨cl_, Ar_, q_, S_, N_, H_, G_⟩ := Vo_
    refine Go.by (X.arraylength hx (by rw [eT]; exact Ar_.1) (State.isArrayOf_alike hZ.alike Ar_.2.1) (g := (mkF m 9 #[.val (.ref a1), .val (.ref a2), .val (.int (1 : Int32)), .val (.int (2 : Int32))] [(.ref ca), (.int (2 : Int32))])) rfl rfl (hb hby d7_9)) ?_
    rw [len_of S_ N_]
    show Go p.tables e below (T.setTop (mkF m 10 #[.val (.ref a1), .val (.ref a2), .val (.int (1 : Int32)), .val (.int (2 : Int32))] [(.int (3 : Int32)), (.int (2 : Int32))])) _
    refine Go.by (fun tt_ kk_ => XS.icmpNo X.here hx rfl (hb hby d7_10) rfl (tlt (by decide : (2 : Int32) < (3 : Int32))).2.1 kk_) ?_
    show Go p.tables e below (T.setTop (mkF m 13 #[.val (.ref a1), .val (.ref a2), .val (.int (1 : Int32)), .val (.int (2 : Int32))] [])) _
    refine Go.by (fun tt_ kk_ => XS.aloadN X.here hx rfl (hb hby d7_13) rfl rfl kk_) ?_
    show Go p.tables e below (T.setTop (mkF m 14 #[.val (.ref a1), .val (.ref a2), .val (.int (1 : Int32)), .val (.int (2 : Int32))] [(.ref a2)])) _
    refine Go.by (fun tt_ kk_ => XS.iloadN X.here hx rfl (hb hby d7_14) rfl kk_) ?_
    show Go p.tables e below (T.setTop (mkF m 15 #[.val (.ref a1), .val (.ref a2), .val (.int (1 : Int32)), .val (.int (2 : Int32))] [(.int (2 : Int32)), (.ref a2)])) _
    have Vo_ := V_a2
    obtain ⟨cl_, Ar_, q_, S_, N_, H_, G_⟩ := Vo_
    refine Go.by (X.daload hx (j := (2 : Int32)) (v := (.double x2)) (by rw [eT]; exact Ar_.1) (State.isArrayOf_alike hZ.alike Ar_.2.1) Ar_.2.2 (inb_of S_ ⟨by decide, by decide⟩) (Has.at H_ (inb_of S_ ⟨by decide, by decide⟩) rfl) (g := (mkF m 15 #[.val (.ref a1), .val (.ref a2), .val (.int (1 : Int32)), .val (.int (2 : Int32))] [(.int (2 : Int32)), (.ref a2)])) rfl rfl (hb hby d7_15)) ?_
    show Go p.tables e below (T.setTop (mkF m 16 #[.val (.ref a1), .val (.ref a2), .val (.int (1 : Int32)), .val (.int (2 : Int32))] [(.double x2)])) _
    refine Go.by (fun tt_ kk_ => XS.aloadN X.here hx rfl (hb hby d7_16) rfl rfl kk_) ?_
    show Go p.tables e below (T.setTop (mkF m 17 #[.val (.ref a1), .val (.ref a2), .val (.int (1 : Int32)), .val (.int (2 : Int32))] [(.ref a1), (.double x2)])) _
    obtain ⟨T, X, eT, st⟩ := getF X hx hZ hown (host := "") (Or.inl (hw _ (List.mem_of_getElem? (i := 45) rfl))) Via.refl eT F_costs_a1 (g := (mkF m 17 #[.val (.ref a1), .val (.ref a2), .val (.int (1 : Int32)), .val (.int (2 : Int32))] [(.ref a1), (.double x2)])) rfl rfl (hb hby d7_17)
    refine Go.by st ?_
    show Go p.tables e below (T.setTop (mkF m 20 #[.val (.ref a1), .val (.ref a2), .val (.int (1 : Int32)), .val (.int (2 : Int32))] [(.ref ca), (.double x2)])) _
    refine Go.by (fun tt_ kk_ => XS.iloadN X.here hx rfl (hb hby d7_20) rfl kk_) ?_
    show Go p.tables e below (T.setTop (mkF m 21 #[.val (.ref a1), .val (.ref a2), .val (.int (1 : Int32)), .val (.int (2 : Int32))] [(.int (2 : Int32)), (.ref ca), (.double x2)])) _
    have Vo_ := V_ca
    obtain ⟨cl_, Ar_, q_, S_, N_, H_, G_⟩ := Vo_
    refine Go.by (X.daload hx (j := (2 : Int32)) (v := (.double y2)) (by rw [eT]; exact Ar_.1) (State.isArrayOf_alike hZ.alike Ar_.2.1) Ar_.2.2 (inb_of S_ ⟨by decide, by decide⟩) (Has.at H_ (inb_of S_ ⟨by decide, by decide⟩) rfl) (g := (mkF m 21 #[.val (.ref a1), .val (.ref a2), .val (.int (1 : Int32)), .val (.int (2 : Int32))] [(.int (2 : Int32)), (.ref ca), (.double x2)])) rfl rfl (hb hby d7_21)) ?_
    show Go p.tables e below (T.setTop (mkF m 22 #[.val (.ref a1), .val (.ref a2), .val (.int (1 : Int32)), .val (.int (2 : Int32))] [(.double y2), (.double x2)])) _
    refine Go.by (fun tt_ kk_ => XS.ddivS X.here hx rfl (hb hby d7_22) rfl (own_divnn dx2 dy2 (by omega)) rfl kk_) ?_
    show Go p.tables e below (T.setTop (mkF m 23 #[.val (.ref a1), .val (.ref a2), .val (.int (1 : Int32)), .val (.int (2 : Int32))] [(.double (FP.ddiv x2 y2))])) _
    refine Go.by (fun tt_ kk_ => XS.aloadN X.here hx rfl (hb hby d7_23) rfl rfl kk_) ?_
    show Go p.tables e below (T.setTop (mkF m 24 #[.val (.ref a1), .val (.ref a2), .val (.int (1 : Int32)), .val (.int (2 : Int32))] [(.ref a2), (.double (FP.ddiv x2 y2))])) _
    refine Go.by (fun tt_ kk_ => XS.iloadN X.here hx rfl (hb hby d7_24) rfl kk_) ?_
    show Go p.tables e below (T.setTop (mkF m 25 #[.val (.ref a1), .val (.ref a2), .val (.int (1 : Int32)), .val (.int (2 : Int32))] [(.int (1 : Int32)), (.ref a2), (.double (FP.ddiv x2 y2))])) _
    have Vo_ := V_a2
    obtain ⟨cl_, Ar_, q_, S_, N_, H_, G_⟩ := Vo_
    refine Go.by (X.daload hx (j := (1 : Int32)) (v := (.double x1)) (by rw [eT]; exact Ar_.1) (State.isArrayOf_alike hZ.alike Ar_.2.1) Ar_.2.2 (inb_of S_ ⟨by decide, by decide⟩) (Has.at H_ (inb_of S_ ⟨by decide, by decide⟩) rfl) (g := (mkF m 25 #[.val (.ref a1), .val (.ref a2), .val (.int (1 : Int32)), .val (.int (2 : Int32))] [(.int (1 : Int32)), (.ref a2), (.double (FP.ddiv x2 y2))])) rfl rfl (hb hby d7_25)) ?_
    show Go p.tables e below (T.setTop (mkF m 26 #[.val (.ref a1), .val (.ref a2), .val (.int (1 : Int32)), .val (.int (2 : Int32))] [(.double x1), (.double (FP.ddiv x2 y2))])) _
    refine Go.by (fun tt_ kk_ => XS.aloadN X.here hx rfl (hb hby d7_26) rfl rfl kk_) ?_
    show Go p.tables e below (T.setTop (mkF m 27 #[.val (.ref a1), .val (.ref a2), .val (.int (1 : Int32)), .val (.int (2 : Int32))] [(.ref a1), (.double x1), (.double (FP.ddiv x2 y2))])) _
    obtain ⟨T, X, eT, st⟩ := getF X hx hZ hown (host := "") (Or.inl (hw _ (List.mem_of_getElem? (i := 45) rfl))) Via.refl eT F_costs_a1 (g := (mkF m 27 #[.val (.ref a1), .val (.ref a2), .val (.int (1 : Int32)), .val (.int (2 : Int32))] [(.ref a1), (.double x1), (.double (FP.ddiv x2 y2))])) rfl rfl (hb hby d7_27)
    refine Go.by st ?_
    show Go p.tables e below (T.setTop (mkF m 30 #[.val (.ref a1), .val (.ref a2), .val (.int (1 : Int32)), .val (.int (2 : Int32))] [(.ref ca), (.double x1), (.double (FP.ddiv x2 y2))])) _
    refine Go.by (fun tt_ kk_ => XS.iloadN X.here hx rfl (hb hby d7_30) rfl kk_) ?_
    show Go p.tables e below (T.setTop (mkF m 31 #[.val (.ref a1), .val (.ref a2), .val (.int (1 : Int32)), .val (.int (2 : Int32))] [(.int (1 : Int32)), (.ref ca), (.double x1), (.double (FP.ddiv x2 y2))])) _
    have Vo_ := V_ca
    obtain ⟨cl_, Ar_, q_, S_, N_, H_, G_⟩ := Vo_
    refine Go.by (X.daload hx (j := (1 : Int32)) (v := (.double y1)) (by rw [eT]; exact Ar_.1) (State.isArrayOf_alike hZ.alike Ar_.2.1) Ar_.2.2 (inb_of S_ ⟨by decide, by decide⟩) (Has.at H_ (inb_of S_ ⟨by decide, by decide⟩) rfl) (g := (mkF m 31 #[.val (.ref a1), .val (.ref a2), .val (.int (1 : Int32)), .val (.int (2 : Int32))] [(.int (1 : Int32)), (.ref ca), (.double x1), (.double (FP.ddiv x2 y2))])) rfl rfl (hb hby d7_31)) ?_
    show Go p.tables e below (T.setTop (mkF m 32 #[.val (.ref a1), .val (.ref a2), .val (.int (1 : Int32)), .val (.int (2 : Int32))] [(.double y1), (.double x1), (.double (FP.ddiv x2 y2))])) _
    refine Go.by (fun tt_ kk_ => XS.ddivS X.here hx rfl (hb hby d7_32) rfl (own_divnn dx1 dy1 (by omega)) rfl kk_) ?_
    show Go p.tables e below (T.setTop (mkF m 33 #[.val (.ref a1), .val (.ref a2), .val (.int (1 : Int32)), .val (.int (2 : Int32))] [(.double (FP.ddiv x1 y1)), (.double (FP.ddiv x2 y2))])) _
    refine Go.by (fun tt_ kk_ => XS.dcmpS X.here hx rfl (hb hby d7_33) rfl (own_qcmp dx2 dy2 dx1 dy1 bw2 bc2 bw1 bc1 .l) kk_) ?_
    show Go p.tables e below (T.setTop (mkF m 34 #[.val (.ref a1), .val (.ref a2), .val (.int (1 : Int32)), .val (.int (2 : Int32))] [(.int (own_ci (w2 * c1) (w1 * c2)))])) _
    by_cases hc34 : (0 : Int32) < (own_ci (w2 * c1) (w1 * c2))
    · have hg1 := own_ci_gt.mp hc34
      refine Go.by (fun tt_ kk_ => XS.ifNo X.here hx rfl (hb hby d7_34) rfl ((if0 _ _).trans (tlt hc34).2.2.2) kk_) ?_
      show Go p.tables e below (T.setTop (mkF m 37 #[.val (.ref a1), .val (.ref a2), .val (.int (1 : Int32)), .val (.int (2 : Int32))] [])) _
      refine Go.by (fun tt_ kk_ => XS.iloadN X.here hx rfl (hb hby d7_37) rfl kk_) ?_
      show Go p.tables e below (T.setTop (mkF m 38 #[.val (.ref a1), .val (.ref a2), .val (.int (1 : Int32)), .val (.int (2 : Int32))] [(.int (2 : Int32))])) _
      refine Go.by (fun tt_ kk_ => XS.istoreN X.here hx rfl (hb hby d7_38) rfl (l' := #[.val (.ref a1), .val (.ref a2), .val (.int (2 : Int32)), .val (.int (2 : Int32))]) rfl kk_) ?_
      show Go p.tables e below (T.setTop (mkF m 39 #[.val (.ref a1), .val (.ref a2), .val (.int (2 : Int32)), .val (.int (2 : Int32))] [])) _
      refine Go.by (fun tt_ kk_ => XS.iinc X.here hx rfl (hb hby d7_39) rfl (l' := #[.val (.ref a1), .val (.ref a2), .val (.int (2 : Int32)), .val (.int (3 : Int32))]) rfl kk_) ?_
      show Go p.tables e below (T.setTop (mkF m 42 #[.val (.ref a1), .val (.ref a2), .val (.int (2 : Int32)), .val (.int (3 : Int32))] [])) _
      refine Go.by (fun tt_ kk_ => XS.goto X.here hx rfl (pc0 := 42) (pc' := 4) rfl (hb hby d7_42) (by decide) (by decide) kk_) ?_
      show Go p.tables e below (T.setTop (mkF m 4 #[.val (.ref a1), .val (.ref a2), .val (.int (2 : Int32)), .val (.int (3 : Int32))] [])) _
      refine Go.by (fun tt_ kk_ => XS.iloadN X.here hx rfl (hb hby d7_4) rfl kk_) ?_
      show Go p.tables e below (T.setTop (mkF m 5 #[.val (.ref a1), .val (.ref a2), .val (.int (2 : Int32)), .val (.int (3 : Int32))] [(.int (3 : Int32))])) _
      refine Go.by (fun tt_ kk_ => XS.aloadN X.here hx rfl (hb hby d7_5) rfl rfl kk_) ?_
      show Go p.tables e below (T.setTop (mkF m 6 #[.val (.ref a1), .val (.ref a2), .val (.int (2 : Int32)), .val (.int (3 : Int32))] [(.ref a1), (.int (3 : Int32))])) _
      obtain ⟨T, X, eT, st⟩ := getF X hx hZ hown (host := "") (Or.inl (hw _ (List.mem_of_getElem? (i := 45) rfl))) Via.refl eT F_costs_a1 (g := (mkF m 6 #[.val (.ref a1), .val (.ref a2), .val (.int (2 : Int32)), .val (.int (3 : Int32))] [(.ref a1), (.int (3 : Int32))])) rfl rfl (hb hby d7_6)
      refine Go.by st ?_
      show Go p.tables e below (T.setTop (mkF m 9 #[.val (.ref a1), .val (.ref a2), .val (.int (2 : Int32)), .val (.int (3 : Int32))] [(.ref ca), (.int (3 : Int32))])) _
      have Vo_ := V_ca
      obtain ⟨cl_, Ar_, q_, S_, N_, H_, G_⟩ := Vo_
      refine Go.by (X.arraylength hx (by rw [eT]; exact Ar_.1) (State.isArrayOf_alike hZ.alike Ar_.2.1) (g := (mkF m 9 #[.val (.ref a1), .val (.ref a2), .val (.int (2 : Int32)), .val (.int (3 : Int32))] [(.ref ca), (.int (3 : Int32))])) rfl rfl (hb hby d7_9)) ?_
      rw [len_of S_ N_]
      show Go p.tables e below (T.setTop (mkF m 10 #[.val (.ref a1), .val (.ref a2), .val (.int (2 : Int32)), .val (.int (3 : Int32))] [(.int (3 : Int32)), (.int (3 : Int32))])) _
      refine Go.by (fun tt_ kk_ => XS.icmpYes X.here hx rfl (pc0 := 10) (pc' := 45) rfl (hb hby d7_10) rfl (flt (by decide : ¬ ((3 : Int32) < (3 : Int32)))).2.1 (by decide) (by decide) kk_) ?_
      show Go p.tables e below (T.setTop (mkF m 45 #[.val (.ref a1), .val (.ref a2), .val (.int (2 : Int32)), .val (.int (3 : Int32))] [])) _
      refine Go.by (fun tt_ kk_ => XS.aloadN X.here hx rfl (hb hby d7_45) rfl rfl kk_) ?_
      show Go p.tables e below (T.setTop (mkF m 46 #[.val (.ref a1), .val (.ref a2), .val (.int (2 : Int32)), .val (.int (3 : Int32))] [(.ref a1)])) _
      obtain ⟨T, X, eT, st⟩ := getF X hx hZ hown (host := "") (Or.inl (hw _ (List.mem_of_getElem? (i := 45) rfl))) Via.refl eT F_costs_a1 (g := (mkF m 46 #[.val (.ref a1), .val (.ref a2), .val (.int (2 : Int32)), .val (.int (3 : Int32))] [(.ref a1)])) rfl rfl (hb hby d7_46)
      refine Go.by st ?_
      show Go p.tables e below (T.setTop (mkF m 49 #[.val (.ref a1), .val (.ref a2), .val (.int (2 : Int32)), .val (.int (3 : Int32))] [(.ref ca)])) _
      have Vo_ := V_ca
      obtain ⟨cl_, Ar_, q_, S_, N_, H_, G_⟩ := Vo_
      refine Go.by (X.arraylength hx (by rw [eT]; exact Ar_.1) (State.isArrayOf_alike hZ.alike Ar_.2.1) (g := (mkF m 49 #[.val (.ref a1), .val (.ref a2), .val (.int (2 : Int32)), .val (.int (3 : Int32))] [(.ref ca)])) rfl rfl (hb hby d7_49)) ?_
      rw [len_of S_ N_]
      show Go p.tables e below (T.setTop (mkF m 50 #[.val (.ref a1), .val (.ref a2), .val (.int (2 : Int32)), .val (.int (3 : Int32))] [(.int (3 : Int32))])) _
      obtain ⟨T, h1, k_b1, X, eT, E_, A_, st⟩ := newP X hx hZ (hw _ (List.mem_of_getElem? (i := 2) rfl)) eT (g := (mkF m 50 #[.val (.ref a1), .val (.ref a2), .val (.int (2 : Int32)), .val (.int (3 : Int32))] [(.int (3 : Int32))])) rfl (hb hby d7_50) rfl (by decide) (cap := 3) (by decide) (by decide) (by decide) (by decide)
      obtain ⟨b1, g_b1'⟩ : ∃ z, z = h0.size := ⟨_, rfl⟩
      rw [← g_b1'] at A_ st
      have ne_ca_b1 : ca ≠ b1 := Nat.ne_of_lt (Nat.lt_of_lt_of_le V_ca.lt (Nat.le_of_eq g_b1'.symm))
      have ne_b1_ca : b1 ≠ ca := Ne.symm ne_ca_b1
      have ne_a2_b1 : a2 ≠ b1 := Nat.ne_of_lt (Nat.lt_of_lt_of_le V_a2.lt (Nat.le_of_eq g_b1'.symm))
      have ne_b1_a2 : b1 ≠ a2 := Ne.symm ne_a2_b1
      have ne_a1_b1 : a1 ≠ b1 := Nat.ne_of_lt (Nat.lt_of_lt_of_le F_costs_a1.lt (Nat.le_of_eq g_b1'.symm))
      have ne_b1_a1 : b1 ≠ a1 := Ne.symm ne_a1_b1
      have g_b1 : n0 ≤ b1 := Nat.le_trans Z0 (Nat.le_trans K.1 (Nat.le_of_eq g_b1'.symm))
      have sz_b1 : h0.size ≤ b1 := Nat.le_trans K.1 (Nat.le_of_eq g_b1'.symm)
      have K := K.ext E_
      have V_ca := Arv.ext V_ca E_
      have V_a2 := Arv.ext V_a2 E_
      have F_costs_a1 := Fld.ext E_ F_costs_a1
      have F_limit_a1 := Fld.ext E_ F_limit_a1
      have V_b1 := Arv.new A_ (by decide)
      refine Go.by st ?_
      show Go p.tables e below (T.setTop (mkF m 52 #[.val (.ref a1), .val (.ref a2), .val (.int (2 : Int32)), .val (.int (3 : Int32))] [(.ref b1)])) _
      have V_b1 : Arv Z h1 b1 k_b1 .double (3 : Int32) [(.double (0 : UInt64)), (.double (0 : UInt64)), (.double (0 : UInt64))] (.double (0 : UInt64)) := V_b1.pad (pad_rep [] (.double (0 : UInt64)) 3)
      refine Go.by (fun tt_ kk_ => XS.astoreN X.here hx rfl (hb hby d7_52) rfl rfl (l' := #[.val (.ref a1), .val (.ref a2), .val (.int (2 : Int32)), .val (.ref b1)]) rfl kk_) ?_
      show Go p.tables e below (T.setTop (mkF m 53 #[.val (.ref a1), .val (.ref a2), .val (.int (2 : Int32)), .val (.ref b1)] [])) _
      refine Go.by (fun tt_ kk_ => XS.aloadN X.here hx rfl (hb hby d7_53) rfl rfl kk_) ?_
      show Go p.tables e below (T.setTop (mkF m 54 #[.val (.ref a1), .val (.ref a2), .val (.int (2 : Int32)), .val (.ref b1)] [(.ref b1)])) _
      refine Go.by (fun tt_ kk_ => XS.iloadN X.here hx rfl (hb hby d7_54) rfl kk_) ?_
      show Go p.tables e below (T.setTop (mkF m 55 #[.val (.ref a1), .val (.ref a2), .val (.int (2 : Int32)), .val (.ref b1)] [(.int (2 : Int32)), (.ref b1)])) _
      refine Go.by (fun tt_ kk_ => XS.aloadN X.here hx rfl (hb hby d7_55) rfl rfl kk_) ?_
      show Go p.tables e below (T.setTop (mkF m 56 #[.val (.ref a1), .val (.ref a2), .val (.int (2 : Int32)), .val (.ref b1)] [(.ref a1), (.int (2 : Int32)), (.ref b1)])) _
      obtain ⟨T, X, eT, st⟩ := getF X hx hZ hown (host := "") (Or.inl (hw _ (List.mem_of_getElem? (i := 48) rfl))) Via.refl eT F_limit_a1 (g := (mkF m 56 #[.val (.ref a1), .val (.ref a2), .val (.int (2 : Int32)), .val (.ref b1)] [(.ref a1), (.int (2 : Int32)), (.ref b1)])) rfl rfl (hb hby d7_56)
      refine Go.by st ?_
      show Go p.tables e below (T.setTop (mkF m 59 #[.val (.ref a1), .val (.ref a2), .val (.int (2 : Int32)), .val (.ref b1)] [(.double lm), (.int (2 : Int32)), (.ref b1)])) _
      refine Go.by (fun tt_ kk_ => XS.aloadN X.here hx rfl (hb hby d7_59) rfl rfl kk_) ?_
      show Go p.tables e below (T.setTop (mkF m 60 #[.val (.ref a1), .val (.ref a2), .val (.int (2 : Int32)), .val (.ref b1)] [(.ref a1), (.double lm), (.int (2 : Int32)), (.ref b1)])) _
      obtain ⟨T, X, eT, st⟩ := getF X hx hZ hown (host := "") (Or.inl (hw _ (List.mem_of_getElem? (i := 45) rfl))) Via.refl eT F_costs_a1 (g := (mkF m 60 #[.val (.ref a1), .val (.ref a2), .val (.int (2 : Int32)), .val (.ref b1)] [(.ref a1), (.double lm), (.int (2 : Int32)), (.ref b1)])) rfl rfl (hb hby d7_60)
      refine Go.by st ?_
      show Go p.tables e below (T.setTop (mkF m 63 #[.val (.ref a1), .val (.ref a2), .val (.int (2 : Int32)), .val (.ref b1)] [(.ref ca), (.double lm), (.int (2 : Int32)), (.ref b1)])) _
      refine Go.by (fun tt_ kk_ => XS.iloadN X.here hx rfl (hb hby d7_63) rfl kk_) ?_
      show Go p.tables e below (T.setTop (mkF m 64 #[.val (.ref a1), .val (.ref a2), .val (.int (2 : Int32)), .val (.ref b1)] [(.int (2 : Int32)), (.ref ca), (.double lm), (.int (2 : Int32)), (.ref b1)])) _
      have Vo_ := V_ca
      obtain ⟨cl_, Ar_, q_, S_, N_, H_, G_⟩ := Vo_
      refine Go.by (X.daload hx (j := (2 : Int32)) (v := (.double y2)) (by rw [eT]; exact Ar_.1) (State.isArrayOf_alike hZ.alike Ar_.2.1) Ar_.2.2 (inb_of S_ ⟨by decide, by decide⟩) (Has.at H_ (inb_of S_ ⟨by decide, by decide⟩) rfl) (g := (mkF m 64 #[.val (.ref a1), .val (.ref a2), .val (.int (2 : Int32)), .val (.ref b1)] [(.int (2 : Int32)), (.ref ca), (.double lm), (.int (2 : Int32)), (.ref b1)])) rfl rfl (hb hby d7_64)) ?_
      show Go p.tables e below (T.setTop (mkF m 65 #[.val (.ref a1), .val (.ref a2), .val (.int (2 : Int32)), .val (.ref b1)] [(.double y2), (.double lm), (.int (2 : Int32)), (.ref b1)])) _
      refine Go.by (fun tt_ kk_ => XS.ddivS X.here hx rfl (hb hby d7_65) rfl (own_divnn2 fl.noNaN dy2 (by omega)) rfl kk_) ?_
      show Go p.tables e below (T.setTop (mkF m 66 #[.val (.ref a1), .val (.ref a2), .val (.int (2 : Int32)), .val (.ref b1)] [(.double (FP.ddiv lm y2)), (.int (2 : Int32)), (.ref b1)])) _
      have Vo_ := V_b1
      obtain ⟨cl_, Ar_, q_, S_, N_, H_, G_⟩ := Vo_
      obtain ⟨T, h2, X, eT, Wh2, st⟩ := stD X hx hZ eT Ar_ (j := (2 : Int32)) (inb_of S_ ⟨by decide, by decide⟩) (g := (mkF m 66 #[.val (.ref a1), .val (.ref a2), .val (.int (2 : Int32)), .val (.ref b1)] [(.double (FP.ddiv lm y2)), (.int (2 : Int32)), (.ref b1)])) rfl rfl (hb hby d7_66)
      have V_b1 := Arv.set Ar_ q_ S_ N_ H_ G_ rfl Wh2 2 rfl (Nat.le_of_ble_eq_true rfl)
      have V_ca := Arv.other V_ca Wh2 ne_ca_b1
      have V_a2 := Arv.other V_a2 Wh2 ne_a2_b1
      have F_costs_a1 := Fld.other Wh2 F_costs_a1 (Or.inl ne_a1_b1)
      have F_limit_a1 := Fld.other Wh2 F_limit_a1 (Or.inl ne_a1_b1)
      have N := Fr.snoc X N g_b1
      have K := K.wr Wh2 (Or.inr sz_b1)
      refine Go.by st ?_
      show Go p.tables e below (T.setTop (mkF m 67 #[.val (.ref a1), .val (.ref a2), .val (.int (2 : Int32)), .val (.ref b1)] [])) _
      refine Go.by (fun tt_ kk_ => XS.aloadN X.here hx rfl (hb hby d7_67) rfl rfl kk_) ?_
      show Go p.tables e below (T.setTop (mkF m 68 #[.val (.ref a1), .val (.ref a2), .val (.int (2 : Int32)), .val (.ref b1)] [(.ref b1)])) _
      have Vq : Arv Z h2 b1 k_b1 .double (3 : Int32) (own_bc3 w0 c0 w1 c1 w2 c2 lm y0 y1 y2) (.double (0 : UInt64)) := by
        unfold own_bc3
        rw [if_pos hg0]
        rw [if_pos hg1]
        exact V_b1
      exact Go.done X  (v := some (.ref b1)) (fun h => by rw [Bd.returns] at h; cases h) Bd.notSynchronized (fun fs hr => retOut X hx Bd.returns rfl (by simp [Value.isRef, FieldType.isReference]) (hb hby d7_68) hr) (by rw [eT]; exact ⟨b1, k_b1, g_b1, sz_b1, rfl, N, K, Vq⟩) (by decide) (by decide)
    · have hg1 := (fun q => hc34 (own_ci_gt.mpr q) : ¬ _)
      refine Go.by (fun tt_ kk_ => XS.ifYes X.here hx rfl (pc0 := 34) (pc' := 39) rfl (hb hby d7_34) rfl ((if0 _ _).trans (flt hc34).2.2.2) (by decide) (by decide) kk_) ?_
      show Go p.tables e below (T.setTop (mkF m 39 #[.val (.ref a1), .val (.ref a2), .val (.int (1 : Int32)), .val (.int (2 : Int32))] [])) _
      refine Go.by (fun tt_ kk_ => XS.iinc X.here hx rfl (hb hby d7_39) rfl (l' := #[.val (.ref a1), .val (.ref a2), .val (.int (1 : Int32)), .val (.int (3 : Int32))]) rfl kk_) ?_
      show Go p.tables e below (T.setTop (mkF m 42 #[.val (.ref a1), .val (.ref a2), .val (.int (1 : Int32)), .val (.int (3 : Int32))] [])) _
      refine Go.by (fun tt_ kk_ => XS.goto X.here hx rfl (pc0 := 42) (pc' := 4) rfl (hb hby d7_42) (by decide) (by decide) kk_) ?_
      show Go p.tables e below (T.setTop (mkF m 4 #[.val (.ref a1), .val (.ref a2), .val (.int (1 : Int32)), .val (.int (3 : Int32))] [])) _
      refine Go.by (fun tt_ kk_ => XS.iloadN X.here hx rfl (hb hby d7_4) rfl kk_) ?_
      show Go p.tables e below (T.setTop (mkF m 5 #[.val (.ref a1), .val (.ref a2), .val (.int (1 : Int32)), .val (.int (3 : Int32))] [(.int (3 : Int32))])) _
      refine Go.by (fun tt_ kk_ => XS.aloadN X.here hx rfl (hb hby d7_5) rfl rfl kk_) ?_
      show Go p.tables e below (T.setTop (mkF m 6 #[.val (.ref a1), .val (.ref a2), .val (.int (1 : Int32)), .val (.int (3 : Int32))] [(.ref a1), (.int (3 : Int32))])) _
      obtain ⟨T, X, eT, st⟩ := getF X hx hZ hown (host := "") (Or.inl (hw _ (List.mem_of_getElem? (i := 45) rfl))) Via.refl eT F_costs_a1 (g := (mkF m 6 #[.val (.ref a1), .val (.ref a2), .val (.int (1 : Int32)), .val (.int (3 : Int32))] [(.ref a1), (.int (3 : Int32))])) rfl rfl (hb hby d7_6)
      refine Go.by st ?_
      show Go p.tables e below (T.setTop (mkF m 9 #[.val (.ref a1), .val (.ref a2), .val (.int (1 : Int32)), .val (.int (3 : Int32))] [(.ref ca), (.int (3 : Int32))])) _
      have Vo_ := V_ca
      obtain ⟨cl_, Ar_, q_, S_, N_, H_, G_⟩ := Vo_
      refine Go.by (X.arraylength hx (by rw [eT]; exact Ar_.1) (State.isArrayOf_alike hZ.alike Ar_.2.1) (g := (mkF m 9 #[.val (.ref a1), .val (.ref a2), .val (.int (1 : Int32)), .val (.int (3 : Int32))] [(.ref ca), (.int (3 : Int32))])) rfl rfl (hb hby d7_9)) ?_
      rw [len_of S_ N_]
      show Go p.tables e below (T.setTop (mkF m 10 #[.val (.ref a1), .val (.ref a2), .val (.int (1 : Int32)), .val (.int (3 : Int32))] [(.int (3 : Int32)), (.int (3 : Int32))])) _
      refine Go.by (fun tt_ kk_ => XS.icmpYes X.here hx rfl (pc0 := 10) (pc' := 45) rfl (hb hby d7_10) rfl (flt (by decide : ¬ ((3 : Int32) < (3 : Int32)))).2.1 (by decide) (by decide) kk_) ?_
      show Go p.tables e below (T.setTop (mkF m 45 #[.val (.ref a1), .val (.ref a2), .val (.int (1 : Int32)), .val (.int (3 : Int32))] [])) _
      refine Go.by (fun tt_ kk_ => XS.aloadN X.here hx rfl (hb hby d7_45) rfl rfl kk_) ?_
      show Go p.tables e below (T.setTop (mkF m 46 #[.val (.ref a1), .val (.ref a2), .val (.int (1 : Int32)), .val (.int (3 : Int32))] [(.ref a1)])) _
      obtain ⟨T, X, eT, st⟩ := getF X hx hZ hown (host := "") (Or.inl (hw _ (List.mem_of_getElem? (i := 45) rfl))) Via.refl eT F_costs_a1 (g := (mkF m 46 #[.val (.ref a1), .val (.ref a2), .val (.int (1 : Int32)), .val (.int (3 : Int32))] [(.ref a1)])) rfl rfl (hb hby d7_46)
      refine Go.by st ?_
      show Go p.tables e below (T.setTop (mkF m 49 #[.val (.ref a1), .val (.ref a2), .val (.int (1 : Int32)), .val (.int (3 : Int32))] [(.ref ca)])) _
      have Vo_ := V_ca
      obtain ⟨cl_, Ar_, q_, S_, N_, H_, G_⟩ := Vo_
      refine Go.by (X.arraylength hx (by rw [eT]; exact Ar_.1) (State.isArrayOf_alike hZ.alike Ar_.2.1) (g := (mkF m 49 #[.val (.ref a1), .val (.ref a2), .val (.int (1 : Int32)), .val (.int (3 : Int32))] [(.ref ca)])) rfl rfl (hb hby d7_49)) ?_
      rw [len_of S_ N_]
      show Go p.tables e below (T.setTop (mkF m 50 #[.val (.ref a1), .val (.ref a2), .val (.int (1 : Int32)), .val (.int (3 : Int32))] [(.int (3 : Int32))])) _
      obtain ⟨T, h3, k_b3, X, eT, E_, A_, st⟩ := newP X hx hZ (hw _ (List.mem_of_getElem? (i := 2) rfl)) eT (g := (mkF m 50 #[.val (.ref a1), .val (.ref a2), .val (.int (1 : Int32)), .val (.int (3 : Int32))] [(.int (3 : Int32))])) rfl (hb hby d7_50) rfl (by decide) (cap := 3) (by decide) (by decide) (by decide) (by decide)
      obtain ⟨b3, g_b3'⟩ : ∃ z, z = h0.size := ⟨_, rfl⟩
      rw [← g_b3'] at A_ st
      have ne_ca_b3 : ca ≠ b3 := Nat.ne_of_lt (Nat.lt_of_lt_of_le V_ca.lt (Nat.le_of_eq g_b3'.symm))
      have ne_b3_ca : b3 ≠ ca := Ne.symm ne_ca_b3
      have ne_a2_b3 : a2 ≠ b3 := Nat.ne_of_lt (Nat.lt_of_lt_of_le V_a2.lt (Nat.le_of_eq g_b3'.symm))
      have ne_b3_a2 : b3 ≠ a2 := Ne.symm ne_a2_b3
      have ne_a1_b3 : a1 ≠ b3 := Nat.ne_of_lt (Nat.lt_of_lt_of_le F_costs_a1.lt (Nat.le_of_eq g_b3'.symm))
      have ne_b3_a1 : b3 ≠ a1 := Ne.symm ne_a1_b3
      have g_b3 : n0 ≤ b3 := Nat.le_trans Z0 (Nat.le_trans K.1 (Nat.le_of_eq g_b3'.symm))
      have sz_b3 : h0.size ≤ b3 := Nat.le_trans K.1 (Nat.le_of_eq g_b3'.symm)
      have K := K.ext E_
      have V_ca := Arv.ext V_ca E_
      have V_a2 := Arv.ext V_a2 E_
      have F_costs_a1 := Fld.ext E_ F_costs_a1
      have F_limit_a1 := Fld.ext E_ F_limit_a1
      have V_b3 := Arv.new A_ (by decide)
      refine Go.by st ?_
      show Go p.tables e below (T.setTop (mkF m 52 #[.val (.ref a1), .val (.ref a2), .val (.int (1 : Int32)), .val (.int (3 : Int32))] [(.ref b3)])) _
      have V_b3 : Arv Z h3 b3 k_b3 .double (3 : Int32) [(.double (0 : UInt64)), (.double (0 : UInt64)), (.double (0 : UInt64))] (.double (0 : UInt64)) := V_b3.pad (pad_rep [] (.double (0 : UInt64)) 3)
      refine Go.by (fun tt_ kk_ => XS.astoreN X.here hx rfl (hb hby d7_52) rfl rfl (l' := #[.val (.ref a1), .val (.ref a2), .val (.int (1 : Int32)), .val (.ref b3)]) rfl kk_) ?_
      show Go p.tables e below (T.setTop (mkF m 53 #[.val (.ref a1), .val (.ref a2), .val (.int (1 : Int32)), .val (.ref b3)] [])) _
      refine Go.by (fun tt_ kk_ => XS.aloadN X.here hx rfl (hb hby d7_53) rfl rfl kk_) ?_
      show Go p.tables e below (T.setTop (mkF m 54 #[.val (.ref a1), .val (.ref a2), .val (.int (1 : Int32)), .val (.ref b3)] [(.ref b3)])) _
      refine Go.by (fun tt_ kk_ => XS.iloadN X.here hx rfl (hb hby d7_54) rfl kk_) ?_
      show Go p.tables e below (T.setTop (mkF m 55 #[.val (.ref a1), .val (.ref a2), .val (.int (1 : Int32)), .val (.ref b3)] [(.int (1 : Int32)), (.ref b3)])) _
      refine Go.by (fun tt_ kk_ => XS.aloadN X.here hx rfl (hb hby d7_55) rfl rfl kk_) ?_
      show Go p.tables e below (T.setTop (mkF m 56 #[.val (.ref a1), .val (.ref a2), .val (.int (1 : Int32)), .val (.ref b3)] [(.ref a1), (.int (1 : Int32)), (.ref b3)])) _
      obtain ⟨T, X, eT, st⟩ := getF X hx hZ hown (host := "") (Or.inl (hw _ (List.mem_of_getElem? (i := 48) rfl))) Via.refl eT F_limit_a1 (g := (mkF m 56 #[.val (.ref a1), .val (.ref a2), .val (.int (1 : Int32)), .val (.ref b3)] [(.ref a1), (.int (1 : Int32)), (.ref b3)])) rfl rfl (hb hby d7_56)
      refine Go.by st ?_
      show Go p.tables e below (T.setTop (mkF m 59 #[.val (.ref a1), .val (.ref a2), .val (.int (1 : Int32)), .val (.ref b3)] [(.double lm), (.int (1 : Int32)), (.ref b3)])) _
      refine Go.by (fun tt_ kk_ => XS.aloadN X.here hx rfl (hb hby d7_59) rfl rfl kk_) ?_
      show Go p.tables e below (T.setTop (mkF m 60 #[.val (.ref a1), .val (.ref a2), .val (.int (1 : Int32)), .val (.ref b3)] [(.ref a1), (.double lm), (.int (1 : Int32)), (.ref b3)])) _
      obtain ⟨T, X, eT, st⟩ := getF X hx hZ hown (host := "") (Or.inl (hw _ (List.mem_of_getElem? (i := 45) rfl))) Via.refl eT F_costs_a1 (g := (mkF m 60 #[.val (.ref a1), .val (.ref a2), .val (.int (1 : Int32)), .val (.ref b3)] [(.ref a1), (.double lm), (.int (1 : Int32)), (.ref b3)])) rfl rfl (hb hby d7_60)
      refine Go.by st ?_
      show Go p.tables e below (T.setTop (mkF m 63 #[.val (.ref a1), .val (.ref a2), .val (.int (1 : Int32)), .val (.ref b3)] [(.ref ca), (.double lm), (.int (1 : Int32)), (.ref b3)])) _
      refine Go.by (fun tt_ kk_ => XS.iloadN X.here hx rfl (hb hby d7_63) rfl kk_) ?_
      show Go p.tables e below (T.setTop (mkF m 64 #[.val (.ref a1), .val (.ref a2), .val (.int (1 : Int32)), .val (.ref b3)] [(.int (1 : Int32)), (.ref ca), (.double lm), (.int (1 : Int32)), (.ref b3)])) _
      have Vo_ := V_ca
      obtain ⟨cl_, Ar_, q_, S_, N_, H_, G_⟩ := Vo_
      refine Go.by (X.daload hx (j := (1 : Int32)) (v := (.double y1)) (by rw [eT]; exact Ar_.1) (State.isArrayOf_alike hZ.alike Ar_.2.1) Ar_.2.2 (inb_of S_ ⟨by decide, by decide⟩) (Has.at H_ (inb_of S_ ⟨by decide, by decide⟩) rfl) (g := (mkF m 64 #[.val (.ref a1), .val (.ref a2), .val (.int (1 : Int32)), .val (.ref b3)] [(.int (1 : Int32)), (.ref ca), (.double lm), (.int (1 : Int32)), (.ref b3)])) rfl rfl (hb hby d7_64)) ?_
      show Go p.tables e below (T.setTop (mkF m 65 #[.val (.ref a1), .val (.ref a2), .val (.int (1 : Int32)), .val (.ref b3)] [(.double y1), (.double lm), (.int (1 : Int32)), (.ref b3)])) _
      refine Go.by (fun tt_ kk_ => XS.ddivS X.here hx rfl (hb hby d7_65) rfl (own_divnn2 fl.noNaN dy1 (by omega)) rfl kk_) ?_
      show Go p.tables e below (T.setTop (mkF m 66 #[.val (.ref a1), .val (.ref a2), .val (.int (1 : Int32)), .val (.ref b3)] [(.double (FP.ddiv lm y1)), (.int (1 : Int32)), (.ref b3)])) _
      have Vo_ := V_b3
      obtain ⟨cl_, Ar_, q_, S_, N_, H_, G_⟩ := Vo_
      obtain ⟨T, h4, X, eT, Wh4, st⟩ := stD X hx hZ eT Ar_ (j := (1 : Int32)) (inb_of S_ ⟨by decide, by decide⟩) (g := (mkF m 66 #[.val (.ref a1), .val (.ref a2), .val (.int (1 : Int32)), .val (.ref b3)] [(.double (FP.ddiv lm y1)), (.int (1 : Int32)), (.ref b3)])) rfl rfl (hb hby d7_66)
      have V_b3 := Arv.set Ar_ q_ S_ N_ H_ G_ rfl Wh4 1 rfl (Nat.le_of_ble_eq_true rfl)
      have V_ca := Arv.other V_ca Wh4 ne_ca_b3
      have V_a2 := Arv.other V_a2 Wh4 ne_a2_b3
      have F_costs_a1 := Fld.other Wh4 F_costs_a1 (Or.inl ne_a1_b3)
      have F_limit_a1 := Fld.other Wh4 F_limit_a1 (Or.inl ne_a1_b3)
      have N := Fr.snoc X N g_b3
      have K := K.wr Wh4 (Or.inr sz_b3)
      refine Go.by st ?_
      show Go p.tables e below (T.setTop (mkF m 67 #[.val (.ref a1), .val (.ref a2), .val (.int (1 : Int32)), .val (.ref b3)] [])) _
      refine Go.by (fun tt_ kk_ => XS.aloadN X.here hx rfl (hb hby d7_67) rfl rfl kk_) ?_
      show Go p.tables e below (T.setTop (mkF m 68 #[.val (.ref a1), .val (.ref a2), .val (.int (1 : Int32)), .val (.ref b3)] [(.ref b3)])) _
      have Vq : Arv Z h4 b3 k_b3 .double (3 : Int32) (own_bc3 w0 c0 w1 c1 w2 c2 lm y0 y1 y2) (.double (0 : UInt64)) := by
        unfold own_bc3
        rw [if_pos hg0]
        rw [if_neg hg1]
        exact V_b3
      exact Go.done X  (v := some (.ref b3)) (fun h => by rw [Bd.returns] at h; cases h) Bd.notSynchronized (fun fs hr => retOut X hx Bd.returns rfl (by simp [Value.isRef, FieldType.isReference]) (hb hby d7_68) hr) (by rw [eT]; exact ⟨b3, k_b3, g_b3, sz_b3, rfl, N, K, Vq⟩) (by decide) (by decide)
  · have hg0 := (fun q => hc34 (own_ci_gt.mpr q) : ¬ _)
    refine Go.by (fun tt_ kk_ => XS.ifYes X.here hx rfl (pc0 := 34) (pc' := 39) rfl (hb hby d7_34) rfl ((if0 _ _).trans (flt hc34).2.2.2) (by decide) (by decide) kk_) ?_
    show Go p.tables e below (T.setTop (mkF m 39 #[.val (.ref a1), .val (.ref a2), .val (.int (0 : Int32)), .val (.int (1 : Int32))] [])) _
    refine Go.by (fun tt_ kk_ => XS.iinc X.here hx rfl (hb hby d7_39) rfl (l' := #[.val (.ref a1), .val (.ref a2), .val (.int (0 : Int32)), .val (.int (2 : Int32))]) rfl kk_) ?_
    show Go p.tables e below (T.setTop (mkF m 42 #[.val (.ref a1), .val (.ref a2), .val (.int (0 : Int32)), .val (.int (2 : Int32))] [])) _
    refine Go.by (fun tt_ kk_ => XS.goto X.here hx rfl (pc0 := 42) (pc' := 4) rfl (hb hby d7_42) (by decide) (by decide) kk_) ?_
    show Go p.tables e below (T.setTop (mkF m 4 #[.val (.ref a1), .val (.ref a2), .val (.int (0 : Int32)), .val (.int (2 : Int32))] [])) _
    refine Go.by (fun tt_ kk_ => XS.iloadN X.here hx rfl (hb hby d7_4) rfl kk_) ?_
    show Go p.tables e below (T.setTop (mkF m 5 #[.val (.ref a1), .val (.ref a2), .val (.int (0 : Int32)), .val (.int (2 : Int32))] [(.int (2 : Int32))])) _
    refine Go.by (fun tt_ kk_ => XS.aloadN X.here hx rfl (hb hby d7_5) rfl rfl kk_) ?_
    show Go p.tables e below (T.setTop (mkF m 6 #[.val (.ref a1), .val (.ref a2), .val (.int (0 : Int32)), .val (.int (2 : Int32))] [(.ref a1), (.int (2 : Int32))])) _
    obtain ⟨T, X, eT, st⟩ := getF X hx hZ hown (host := "") (Or.inl (hw _ (List.mem_of_getElem? (i := 45) rfl))) Via.refl eT F_costs_a1 (g := (mkF m 6 #[.val (.ref a1), .val (.ref a2), .val (.int (0 : Int32)), .val (.int (2 : Int32))] [(.ref a1), (.int (2 : Int32))])) rfl rfl (hb hby d7_6)
    refine Go.by st ?_
    show Go p.tables e below (T.setTop (mkF m 9 #[.val (.ref a1), .val (.ref a2), .val (.int (0 : Int32)), .val (.int (2 : Int32))] [(.ref ca), (.int (2 : Int32))])) _
    have Vo_ := V_ca
    obtain ⟨cl_, Ar_, q_, S_, N_, H_, G_⟩ := Vo_
    refine Go.by (X.arraylength hx (by rw [eT]; exact Ar_.1) (State.isArrayOf_alike hZ.alike Ar_.2.1) (g := (mkF m 9 #[.val (.ref a1), .val (.ref a2), .val (.int (0 : Int32)), .val (.int (2 : Int32))] [(.ref ca), (.int (2 : Int32))])) rfl rfl (hb hby d7_9)) ?_
    rw [len_of S_ N_]
    show Go p.tables e below (T.setTop (mkF m 10 #[.val (.ref a1), .val (.ref a2), .val (.int (0 : Int32)), .val (.int (2 : Int32))] [(.int (3 : Int32)), (.int (2 : Int32))])) _
    refine Go.by (fun tt_ kk_ => XS.icmpNo X.here hx rfl (hb hby d7_10) rfl (tlt (by decide : (2 : Int32) < (3 : Int32))).2.1 kk_) ?_
    show Go p.tables e below (T.setTop (mkF m 13 #[.val (.ref a1), .val (.ref a2), .val (.int (0 : Int32)), .val (.int (2 : Int32))] [])) _
    refine Go.by (fun tt_ kk_ => XS.aloadN X.here hx rfl (hb hby d7_13) rfl rfl kk_) ?_
    show Go p.tables e below (T.setTop (mkF m 14 #[.val (.ref a1), .val (.ref a2), .val (.int (0 : Int32)), .val (.int (2 : Int32))] [(.ref a2)])) _
    refine Go.by (fun tt_ kk_ => XS.iloadN X.here hx rfl (hb hby d7_14) rfl kk_) ?_
    show Go p.tables e below (T.setTop (mkF m 15 #[.val (.ref a1), .val (.ref a2), .val (.int (0 : Int32)), .val (.int (2 : Int32))] [(.int (2 : Int32)), (.ref a2)])) _
    have Vo_ := V_a2
    obtain ⟨cl_, Ar_, q_, S_, N_, H_, G_⟩ := Vo_
    refine Go.by (X.daload hx (j := (2 : Int32)) (v := (.double x2)) (by rw [eT]; exact Ar_.1) (State.isArrayOf_alike hZ.alike Ar_.2.1) Ar_.2.2 (inb_of S_ ⟨by decide, by decide⟩) (Has.at H_ (inb_of S_ ⟨by decide, by decide⟩) rfl) (g := (mkF m 15 #[.val (.ref a1), .val (.ref a2), .val (.int (0 : Int32)), .val (.int (2 : Int32))] [(.int (2 : Int32)), (.ref a2)])) rfl rfl (hb hby d7_15)) ?_
    show Go p.tables e below (T.setTop (mkF m 16 #[.val (.ref a1), .val (.ref a2), .val (.int (0 : Int32)), .val (.int (2 : Int32))] [(.double x2)])) _
    refine Go.by (fun tt_ kk_ => XS.aloadN X.here hx rfl (hb hby d7_16) rfl rfl kk_) ?_
    show Go p.tables e below (T.setTop (mkF m 17 #[.val (.ref a1), .val (.ref a2), .val (.int (0 : Int32)), .val (.int (2 : Int32))] [(.ref a1), (.double x2)])) _
    obtain ⟨T, X, eT, st⟩ := getF X hx hZ hown (host := "") (Or.inl (hw _ (List.mem_of_getElem? (i := 45) rfl))) Via.refl eT F_costs_a1 (g := (mkF m 17 #[.val (.ref a1), .val (.ref a2), .val (.int (0 : Int32)), .val (.int (2 : Int32))] [(.ref a1), (.double x2)])) rfl rfl (hb hby d7_17)
    refine Go.by st ?_
    show Go p.tables e below (T.setTop (mkF m 20 #[.val (.ref a1), .val (.ref a2), .val (.int (0 : Int32)), .val (.int (2 : Int32))] [(.ref ca), (.double x2)])) _
    refine Go.by (fun tt_ kk_ => XS.iloadN X.here hx rfl (hb hby d7_20) rfl kk_) ?_
    show Go p.tables e below (T.setTop (mkF m 21 #[.val (.ref a1), .val (.ref a2), .val (.int (0 : Int32)), .val (.int (2 : Int32))] [(.int (2 : Int32)), (.ref ca), (.double x2)])) _
    have Vo_ := V_ca
    obtain ⟨cl_, Ar_, q_, S_, N_, H_, G_⟩ := Vo_
    refine Go.by (X.daload hx (j := (2 : Int32)) (v := (.double y2)) (by rw [eT]; exact Ar_.1) (State.isArrayOf_alike hZ.alike Ar_.2.1) Ar_.2.2 (inb_of S_ ⟨by decide, by decide⟩) (Has.at H_ (inb_of S_ ⟨by decide, by decide⟩) rfl) (g := (mkF m 21 #[.val (.ref a1), .val (.ref a2), .val (.int (0 : Int32)), .val (.int (2 : Int32))] [(.int (2 : Int32)), (.ref ca), (.double x2)])) rfl rfl (hb hby d7_21)) ?_
    show Go p.tables e below (T.setTop (mkF m 22 #[.val (.ref a1), .val (.ref a2), .val (.int (0 : Int32)), .val (.int (2 : Int32))] [(.double y2), (.double x2)])) _
    refine Go.by (fun tt_ kk_ => XS.ddivS X.here hx rfl (hb hby d7_22) rfl (own_divnn dx2 dy2 (by omega)) rfl kk_) ?_
    show Go p.tables e below (T.setTop (mkF m 23 #[.val (.ref a1), .val (.ref a2), .val (.int (0 : Int32)), .val (.int (2 : Int32))] [(.double (FP.ddiv x2 y2))])) _
    refine Go.by (fun tt_ kk_ => XS.aloadN X.here hx rfl (hb hby d7_23) rfl rfl kk_) ?_
    show Go p.tables e below (T.setTop (mkF m 24 #[.val (.ref a1), .val (.ref a2), .val (.int (0 : Int32)), .val (.int (2 : Int32))] [(.ref a2), (.double (FP.ddiv x2 y2))])) _
    refine Go.by (fun tt_ kk_ => XS.iloadN X.here hx rfl (hb hby d7_24) rfl kk_) ?_
    show Go p.tables e below (T.setTop (mkF m 25 #[.val (.ref a1), .val (.ref a2), .val (.int (0 : Int32)), .val (.int (2 : Int32))] [(.int (0 : Int32)), (.ref a2), (.double (FP.ddiv x2 y2))])) _
    have Vo_ := V_a2
    obtain ⟨cl_, Ar_, q_, S_, N_, H_, G_⟩ := Vo_
    refine Go.by (X.daload hx (j := (0 : Int32)) (v := (.double x0)) (by rw [eT]; exact Ar_.1) (State.isArrayOf_alike hZ.alike Ar_.2.1) Ar_.2.2 (inb_of S_ ⟨by decide, by decide⟩) (Has.at H_ (inb_of S_ ⟨by decide, by decide⟩) rfl) (g := (mkF m 25 #[.val (.ref a1), .val (.ref a2), .val (.int (0 : Int32)), .val (.int (2 : Int32))] [(.int (0 : Int32)), (.ref a2), (.double (FP.ddiv x2 y2))])) rfl rfl (hb hby d7_25)) ?_
    show Go p.tables e below (T.setTop (mkF m 26 #[.val (.ref a1), .val (.ref a2), .val (.int (0 : Int32)), .val (.int (2 : Int32))] [(.double x0), (.double (FP.ddiv x2 y2))])) _
    refine Go.by (fun tt_ kk_ => XS.aloadN X.here hx rfl (hb hby d7_26) rfl rfl kk_) ?_
    show Go p.tables e below (T.setTop (mkF m 27 #[.val (.ref a1), .val (.ref a2), .val (.int (0 : Int32)), .val (.int (2 : Int32))] [(.ref a1), (.double x0), (.double (FP.ddiv x2 y2))])) _
    obtain ⟨T, X, eT, st⟩ := getF X hx hZ hown (host := "") (Or.inl (hw _ (List.mem_of_getElem? (i := 45) rfl))) Via.refl eT F_costs_a1 (g := (mkF m 27 #[.val (.ref a1), .val (.ref a2), .val (.int (0 : Int32)), .val (.int (2 : Int32))] [(.ref a1), (.double x0), (.double (FP.ddiv x2 y2))])) rfl rfl (hb hby d7_27)
    refine Go.by st ?_
    show Go p.tables e below (T.setTop (mkF m 30 #[.val (.ref a1), .val (.ref a2), .val (.int (0 : Int32)), .val (.int (2 : Int32))] [(.ref ca), (.double x0), (.double (FP.ddiv x2 y2))])) _
    refine Go.by (fun tt_ kk_ => XS.iloadN X.here hx rfl (hb hby d7_30) rfl kk_) ?_
    show Go p.tables e below (T.setTop (mkF m 31 #[.val (.ref a1), .val (.ref a2), .val (.int (0 : Int32)), .val (.int (2 : Int32))] [(.int (0 : Int32)), (.ref ca), (.double x0), (.double (FP.ddiv x2 y2))])) _
    have Vo_ := V_ca
    obtain ⟨cl_, Ar_, q_, S_, N_, H_, G_⟩ := Vo_
    refine Go.by (X.daload hx (j := (0 : Int32)) (v := (.double y0)) (by rw [eT]; exact Ar_.1) (State.isArrayOf_alike hZ.alike Ar_.2.1) Ar_.2.2 (inb_of S_ ⟨by decide, by decide⟩) (Has.at H_ (inb_of S_ ⟨by decide, by decide⟩) rfl) (g := (mkF m 31 #[.val (.ref a1), .val (.ref a2), .val (.int (0 : Int32)), .val (.int (2 : Int32))] [(.int (0 : Int32)), (.ref ca), (.double x0), (.double (FP.ddiv x2 y2))])) rfl rfl (hb hby d7_31)) ?_
    show Go p.tables e below (T.setTop (mkF m 32 #[.val (.ref a1), .val (.ref a2), .val (.int (0 : Int32)), .val (.int (2 : Int32))] [(.double y0), (.double x0), (.double (FP.ddiv x2 y2))])) _
    refine Go.by (fun tt_ kk_ => XS.ddivS X.here hx rfl (hb hby d7_32) rfl (own_divnn dx0 dy0 (by omega)) rfl kk_) ?_
    show Go p.tables e below (T.setTop (mkF m 33 #[.val (.ref a1), .val (.ref a2), .val (.int (0 : Int32)), .val (.int (2 : Int32))] [(.double (FP.ddiv x0 y0)), (.double (FP.ddiv x2 y2))])) _
    refine Go.by (fun tt_ kk_ => XS.dcmpS X.here hx rfl (hb hby d7_33) rfl (own_qcmp dx2 dy2 dx0 dy0 bw2 bc2 bw0 bc0 .l) kk_) ?_
    show Go p.tables e below (T.setTop (mkF m 34 #[.val (.ref a1), .val (.ref a2), .val (.int (0 : Int32)), .val (.int (2 : Int32))] [(.int (own_ci (w2 * c0) (w0 * c2)))])) _
    by_cases hc34 : (0 : Int32) < (own_ci (w2 * c0) (w0 * c2))
    · have hg1 := own_ci_gt.mp hc34
      refine Go.by (fun tt_ kk_ => XS.ifNo X.here hx rfl (hb hby d7_34) rfl ((if0 _ _).trans (tlt hc34).2.2.2) kk_) ?_
      show Go p.tables e below (T.setTop (mkF m 37 #[.val (.ref a1), .val (.ref a2), .val (.int (0 : Int32)), .val (.int (2 : Int32))] [])) _
      refine Go.by (fun tt_ kk_ => XS.iloadN X.here hx rfl (hb hby d7_37) rfl kk_) ?_
      show Go p.tables e below (T.setTop (mkF m 38 #[.val (.ref a1), .val (.ref a2), .val (.int (0 : Int32)), .val (.int (2 : Int32))] [(.int (2 : Int32))])) _
      refine Go.by (fun tt_ kk_ => XS.istoreN X.here hx rfl (hb hby d7_38) rfl (l' := #[.val (.ref a1), .val (.ref a2), .val (.int (2 : Int32)), .val (.int (2 : Int32))]) rfl kk_) ?_
      show Go p.tables e below (T.setTop (mkF m 39 #[.val (.ref a1), .val (.ref a2), .val (.int (2 : Int32)), .val (.int (2 : Int32))] [])) _
      refine Go.by (fun tt_ kk_ => XS.iinc X.here hx rfl (hb hby d7_39) rfl (l' := #[.val (.ref a1), .val (.ref a2), .val (.int (2 : Int32)), .val (.int (3 : Int32))]) rfl kk_) ?_
      show Go p.tables e below (T.setTop (mkF m 42 #[.val (.ref a1), .val (.ref a2), .val (.int (2 : Int32)), .val (.int (3 : Int32))] [])) _
      refine Go.by (fun tt_ kk_ => XS.goto X.here hx rfl (pc0 := 42) (pc' := 4) rfl (hb hby d7_42) (by decide) (by decide) kk_) ?_
      show Go p.tables e below (T.setTop (mkF m 4 #[.val (.ref a1), .val (.ref a2), .val (.int (2 : Int32)), .val (.int (3 : Int32))] [])) _
      refine Go.by (fun tt_ kk_ => XS.iloadN X.here hx rfl (hb hby d7_4) rfl kk_) ?_
      show Go p.tables e below (T.setTop (mkF m 5 #[.val (.ref a1), .val (.ref a2), .val (.int (2 : Int32)), .val (.int (3 : Int32))] [(.int (3 : Int32))])) _
      refine Go.by (fun tt_ kk_ => XS.aloadN X.here hx rfl (hb hby d7_5) rfl rfl kk_) ?_
      show Go p.tables e below (T.setTop (mkF m 6 #[.val (.ref a1), .val (.ref a2), .val (.int (2 : Int32)), .val (.int (3 : Int32))] [(.ref a1), (.int (3 : Int32))])) _
      obtain ⟨T, X, eT, st⟩ := getF X hx hZ hown (host := "") (Or.inl (hw _ (List.mem_of_getElem? (i := 45) rfl))) Via.refl eT F_costs_a1 (g := (mkF m 6 #[.val (.ref a1), .val (.ref a2), .val (.int (2 : Int32)), .val (.int (3 : Int32))] [(.ref a1), (.int (3 : Int32))])) rfl rfl (hb hby d7_6)
      refine Go.by st ?_
      show Go p.tables e below (T.setTop (mkF m 9 #[.val (.ref a1), .val (.ref a2), .val (.int (2 : Int32)), .val (.int (3 : Int32))] [(.ref ca), (.int (3 : Int32))])) _
      have Vo_ := V_ca
      obtain ⟨cl_, Ar_, q_, S_, N_, H_, G_⟩ := Vo_
      refine Go.by (X.arraylength hx (by rw [eT]; exact Ar_.1) (State.isArrayOf_alike hZ.alike Ar_.2.1) (g := (mkF m 9 #[.val (.ref a1), .val (.ref a2), .val (.int (2 : Int32)), .val (.int (3 : Int32))] [(.ref ca), (.int (3 : Int32))])) rfl rfl (hb hby d7_9)) ?_
      rw [len_of S_ N_]
      show Go p.tables e below (T.setTop (mkF m 10 #[.val (.ref a1), .val (.ref a2), .val (.int (2 : Int32)), .val (.int (3 : Int32))] [(.int (3 : Int32)), (.int (3 : Int32))])) _
      refine Go.by (fun tt_ kk_ => XS.icmpYes X.here hx rfl (pc0 := 10) (pc' := 45) rfl (hb hby d7_10) rfl (flt (by decide : ¬ ((3 : Int32) < (3 : Int32)))).2.1 (by decide) (by decide) kk_) ?_
      show Go p.tables e below (T.setTop (mkF m 45 #[.val (.ref a1), .val (.ref a2), .val (.int (2 : Int32)), .val (.int (3 : Int32))] [])) _
      refine Go.by (fun tt_ kk_ => XS.aloadN X.here hx rfl (hb hby d7_45) rfl rfl kk_) ?_
      show Go p.tables e below (T.setTop (mkF m 46 #[.val (.ref a1), .val (.ref a2), .val (.int (2 : Int32)), .val (.int (3 : Int32))] [(.ref a1)])) _
      obtain ⟨T, X, eT, st⟩ := getF X hx hZ hown (host := "") (Or.inl (hw _ (List.mem_of_getElem? (i := 45) rfl))) Via.refl eT F_costs_a1 (g := (mkF m 46 #[.val (.ref a1), .val (.ref a2), .val (.int (2 : Int32)), .val (.int (3 : Int32))] [(.ref a1)])) rfl rfl (hb hby d7_46)
      refine Go.by st ?_
      show Go p.tables e below (T.setTop (mkF m 49 #[.val (.ref a1), .val (.ref a2), .val (.int (2 : Int32)), .val (.int (3 : Int32))] [(.ref ca)])) _
      have Vo_ := V_ca
      obtain ⟨cl_, Ar_, q_, S_, N_, H_, G_⟩ := Vo_
      refine Go.by (X.arraylength hx (by rw [eT]; exact Ar_.1) (State.isArrayOf_alike hZ.alike Ar_.2.1) (g := (mkF m 49 #[.val (.ref a1), .val (.ref a2), .val (.int (2 : Int32)), .val (.int (3 : Int32))] [(.ref ca)])) rfl rfl (hb hby d7_49)) ?_
      rw [len_of S_ N_]
      show Go p.tables e below (T.setTop (mkF m 50 #[.val (.ref a1), .val (.ref a2), .val (.int (2 : Int32)), .val (.int (3 : Int32))] [(.int (3 : Int32))])) _
      obtain ⟨T, h5, k_b5, X, eT, E_, A_, st⟩ := newP X hx hZ (hw _ (List.mem_of_getElem? (i := 2) rfl)) eT (g := (mkF m 50 #[.val (.ref a1), .val (.ref a2), .val (.int (2 : Int32)), .val (.int (3 : Int32))] [(.int (3 : Int32))])) rfl (hb hby d7_50) rfl (by decide) (cap := 3) (by decide) (by decide) (by decide) (by decide)
      obtain ⟨b5, g_b5'⟩ : ∃ z, z = h0.size := ⟨_, rfl⟩
      rw [← g_b5'] at A_ st
      have ne_ca_b5 : ca ≠ b5 := Nat.ne_of_lt (Nat.lt_of_lt_of_le V_ca.lt (Nat.le_of_eq g_b5'.symm))
      have ne_b5_ca : b5 ≠ ca := Ne.symm ne_ca_b5
      have ne_a2_b5 : a2 ≠ b5 := Nat.ne_of_lt (Nat.lt_of_lt_of_le V_a2.lt (Nat.le_of_eq g_b5'.symm))
      have ne_b5_a2 : b5 ≠ a2 := Ne.symm ne_a2_b5
      have ne_a1_b5 : a1 ≠ b5 := Nat.ne_of_lt (Nat.lt_of_lt_of_le F_costs_a1.lt (Nat.le_of_eq g_b5'.symm))
      have ne_b5_a1 : b5 ≠ a1 := Ne.symm ne_a1_b5
      have g_b5 : n0 ≤ b5 := Nat.le_trans Z0 (Nat.le_trans K.1 (Nat.le_of_eq g_b5'.symm))
      have sz_b5 : h0.size ≤ b5 := Nat.le_trans K.1 (Nat.le_of_eq g_b5'.symm)
      have K := K.ext E_
      have V_ca := Arv.ext V_ca E_
      have V_a2 := Arv.ext V_a2 E_
      have F_costs_a1 := Fld.ext E_ F_costs_a1
      have F_limit_a1 := Fld.ext E_ F_limit_a1
      have V_b5 := Arv.new A_ (by decide)
      refine Go.by st ?_
      show Go p.tables e below (T.setTop (mkF m 52 #[.val (.ref a1), .val (.ref a2), .val (.int (2 : Int32)), .val (.int (3 : Int32))] [(.ref b5)])) _
      have V_b5 : Arv Z h5 b5 k_b5 .double (3 : Int32) [(.double (0 : UInt64)), (.double (0 : UInt64)), (.double (0 : UInt64))] (.double (0 : UInt64)) := V_b5.pad (pad_rep [] (.double (0 : UInt64)) 3)
      refine Go.by (fun tt_ kk_ => XS.astoreN X.here hx rfl (hb hby d7_52) rfl rfl (l' := #[.val (.ref a1), .val (.ref a2), .val (.int (2 : Int32)), .val (.ref b5)]) rfl kk_) ?_
      show Go p.tables e below (T.setTop (mkF m 53 #[.val (.ref a1), .val (.ref a2), .val (.int (2 : Int32)), .val (.ref b5)] [])) _
      refine Go.by (fun tt_ kk_ => XS.aloadN X.here hx rfl (hb hby d7_53) rfl rfl kk_) ?_
      show Go p.tables e below (T.setTop (mkF m 54 #[.val (.ref a1), .val (.ref a2), .val (.int (2 : Int32)), .val (.ref b5)] [(.ref b5)])) _
      refine Go.by (fun tt_ kk_ => XS.iloadN X.here hx rfl (hb hby d7_54) rfl kk_) ?_
      show Go p.tables e below (T.setTop (mkF m 55 #[.val (.ref a1), .val (.ref a2), .val (.int (2 : Int32)), .val (.ref b5)] [(.int (2 : Int32)), (.ref b5)])) _
      refine Go.by (fun tt_ kk_ => XS.aloadN X.here hx rfl (hb hby d7_55) rfl rfl kk_) ?_
      show Go p.tables e below (T.setTop (mkF m 56 #[.val (.ref a1), .val (.ref a2), .val (.int (2 : Int32)), .val (.ref b5)] [(.ref a1), (.int (2 : Int32)), (.ref b5)])) _
      obtain ⟨T, X, eT, st⟩ := getF X hx hZ hown (host := "") (Or.inl (hw _ (List.mem_of_getElem? (i := 48) rfl))) Via.refl eT F_limit_a1 (g := (mkF m 56 #[.val (.ref a1), .val (.ref a2), .val (.int (2 : Int32)), .val (.ref b5)] [(.ref a1), (.int (2 : Int32)), (.ref b5)])) rfl rfl (hb hby d7_56)
      refine Go.by st ?_
      show Go p.tables e below (T.setTop (mkF m 59 #[.val (.ref a1), .val (.ref a2), .val (.int (2 : Int32)), .val (.ref b5)] [(.double lm), (.int (2 : Int32)), (.ref b5)])) _
      refine Go.by (fun tt_ kk_ => XS.aloadN X.here hx rfl (hb hby d7_59) rfl rfl kk_) ?_
      show Go p.tables e below (T.setTop (mkF m 60 #[.val (.ref a1), .val (.ref a2), .val (.int (2 : Int32)), .val (.ref b5)] [(.ref a1), (.double lm), (.int (2 : Int32)), (.ref b5)])) _
      obtain ⟨T, X, eT, st⟩ := getF X hx hZ hown (host := "") (Or.inl (hw _ (List.mem_of_getElem? (i := 45) rfl))) Via.refl eT F_costs_a1 (g := (mkF m 60 #[.val (.ref a1), .val (.ref a2), .val (.int (2 : Int32)), .val (.ref b5)] [(.ref a1), (.double lm), (.int (2 : Int32)), (.ref b5)])) rfl rfl (hb hby d7_60)
      refine Go.by st ?_
      show Go p.tables e below (T.setTop (mkF m 63 #[.val (.ref a1), .val (.ref a2), .val (.int (2 : Int32)), .val (.ref b5)] [(.ref ca), (.double lm), (.int (2 : Int32)), (.ref b5)])) _
      refine Go.by (fun tt_ kk_ => XS.iloadN X.here hx rfl (hb hby d7_63) rfl kk_) ?_
      show Go p.tables e below (T.setTop (mkF m 64 #[.val (.ref a1), .val (.ref a2), .val (.int (2 : Int32)), .val (.ref b5)] [(.int (2 : Int32)), (.ref ca), (.double lm), (.int (2 : Int32)), (.ref b5)])) _
      have Vo_ := V_ca
      obtain ⟨cl_, Ar_, q_, S_, N_, H_, G_⟩ := Vo_
      refine Go.by (X.daload hx (j := (2 : Int32)) (v := (.double y2)) (by rw [eT]; exact Ar_.1) (State.isArrayOf_alike hZ.alike Ar_.2.1) Ar_.2.2 (inb_of S_ ⟨by decide, by decide⟩) (Has.at H_ (inb_of S_ ⟨by decide, by decide⟩) rfl) (g := (mkF m 64 #[.val (.ref a1), .val (.ref a2), .val (.int (2 : Int32)), .val (.ref b5)] [(.int (2 : Int32)), (.ref ca), (.double lm), (.int (2 : Int32)), (.ref b5)])) rfl rfl (hb hby d7_64)) ?_
      show Go p.tables e below (T.setTop (mkF m 65 #[.val (.ref a1), .val (.ref a2), .val (.int (2 : Int32)), .val (.ref b5)] [(.double y2), (.double lm), (.int (2 : Int32)), (.ref b5)])) _
      refine Go.by (fun tt_ kk_ => XS.ddivS X.here hx rfl (hb hby d7_65) rfl (own_divnn2 fl.noNaN dy2 (by omega)) rfl kk_) ?_
      show Go p.tables e below (T.setTop (mkF m 66 #[.val (.ref a1), .val (.ref a2), .val (.int (2 : Int32)), .val (.ref b5)] [(.double (FP.ddiv lm y2)), (.int (2 : Int32)), (.ref b5)])) _
      have Vo_ := V_b5
      obtain ⟨cl_, Ar_, q_, S_, N_, H_, G_⟩ := Vo_
      obtain ⟨T, h6, X, eT, Wh6, st⟩ := stD X hx hZ eT Ar_ (j := (2 : Int32)) (inb_of S_ ⟨by decide, by decide⟩) (g := (mkF m 66 #[.val (.ref a1), .val (.ref a2), .val (.int (2 : Int32)), .val (.ref b5)] [(.double (FP.ddiv lm y2)), (.int (2 : Int32)), (.ref b5)])) rfl rfl (hb hby d7_66)
      have V_b5 := Arv.set Ar_ q_ S_ N_ H_ G_ rfl Wh6 2 rfl (Nat.le_of_ble_eq_true rfl)
      have V_ca := Arv.other V_ca Wh6 ne_ca_b5
      have V_a2 := Arv.other V_a2 Wh6 ne_a2_b5
      have F_costs_a1 := Fld.other Wh6 F_costs_a1 (Or.inl ne_a1_b5)
      have F_limit_a1 := Fld.other Wh6 F_limit_a1 (Or.inl ne_a1_b5)
      have N := Fr.snoc X N g_b5
      have K := K.wr Wh6 (Or.inr sz_b5)
      refine Go.by st ?_
      show Go p.tables e below (T.setTop (mkF m 67 #[.val (.ref a1), .val (.ref a2), .val (.int (2 : Int32)), .val (.ref b5)] [])) _
      refine Go.by (fun tt_ kk_ => XS.aloadN X.here hx rfl (hb hby d7_67) rfl rfl kk_) ?_
      show Go p.tables e below (T.setTop (mkF m 68 #[.val (.ref a1), .val (.ref a2), .val (.int (2 : Int32)), .val (.ref b5)] [(.ref b5)])) _
      have Vq : Arv Z h6 b5 k_b5 .double (3 : Int32) (own_bc3 w0 c0 w1 c1 w2 c2 lm y0 y1 y2) (.double (0 : UInt64)) := by
        unfold own_bc3
        rw [if_neg hg0]
        rw [if_pos hg1]
        exact V_b5
      exact Go.done X  (v := some (.ref b5)) (fun h => by rw [Bd.returns] at h; cases h) Bd.notSynchronized (fun fs hr => retOut X hx Bd.returns rfl (by simp [Value.isRef, FieldType.isReference]) (hb hby d7_68) hr) (by rw [eT]; exact ⟨b5, k_b5, g_b5, sz_b5, rfl, N, K, Vq⟩) (by decide) (by decide)
    · have hg1 := (fun q => hc34 (own_ci_gt.mpr q) : ¬ _)
      refine Go.by (fun tt_ kk_ => XS.ifYes X.here hx rfl (pc0 := 34) (pc' := 39) rfl (hb hby d7_34) rfl ((if0 _ _).trans (flt hc34).2.2.2) (by decide) (by decide) kk_) ?_
      show Go p.tables e below (T.setTop (mkF m 39 #[.val (.ref a1), .val (.ref a2), .val (.int (0 : Int32)), .val (.int (2 : Int32))] [])) _
      refine Go.by (fun tt_ kk_ => XS.iinc X.here hx rfl (hb hby d7_39) rfl (l' := #[.val (.ref a1), .val (.ref a2), .val (.int (0 : Int32)), .val (.int (3 : Int32))]) rfl kk_) ?_
      show Go p.tables e below (T.setTop (mkF m 42 #[.val (.ref a1), .val (.ref a2), .val (.int (0 : Int32)), .val (.int (3 : Int32))] [])) _
      refine Go.by (fun tt_ kk_ => XS.goto X.here hx rfl (pc0 := 42) (pc' := 4) rfl (hb hby d7_42) (by decide) (by decide) kk_) ?_
      show Go p.tables e below (T.setTop (mkF m 4 #[.val (.ref a1), .val (.ref a2), .val (.int (0 : Int32)), .val (.int (3 : Int32))] [])) _
      refine Go.by (fun tt_ kk_ => XS.iloadN X.here hx rfl (hb hby d7_4) rfl kk_) ?_
      show Go p.tables e below (T.setTop (mkF m 5 #[.val (.ref a1), .val (.ref a2), .val (.int (0 : Int32)), .val (.int (3 : Int32))] [(.int (3 : Int32))])) _
      refine Go.by (fun tt_ kk_ => XS.aloadN X.here hx rfl (hb hby d7_5) rfl rfl kk_) ?_
      show Go p.tables e below (T.setTop (mkF m 6 #[.val (.ref a1), .val (.ref a2), .val (.int (0 : Int32)), .val (.int (3 : Int32))] [(.ref a1), (.int (3 : Int32))])) _
      obtain ⟨T, X, eT, st⟩ := getF X hx hZ hown (host := "") (Or.inl (hw _ (List.mem_of_getElem? (i := 45) rfl))) Via.refl eT F_costs_a1 (g := (mkF m 6 #[.val (.ref a1), .val (.ref a2), .val (.int (0 : Int32)), .val (.int (3 : Int32))] [(.ref a1), (.int (3 : Int32))])) rfl rfl (hb hby d7_6)
      refine Go.by st ?_
      show Go p.tables e below (T.setTop (mkF m 9 #[.val (.ref a1), .val (.ref a2), .val (.int (0 : Int32)), .val (.int (3 : Int32))] [(.ref ca), (.int (3 : Int32))])) _
      have Vo_ := V_ca
      obtain ⟨cl_, Ar_, q_, S_, N_, H_, G_⟩ := Vo_
      refine Go.by (X.arraylength hx (by rw [eT]; exact Ar_.1) (State.isArrayOf_alike hZ.alike Ar_.2.1) (g := (mkF m 9 #[.val (.ref a1), .val (.ref a2), .val (.int (0 : Int32)), .val (.int (3 : Int32))] [(.ref ca), (.int (3 : Int32))])) rfl rfl (hb hby d7_9)) ?_
      rw [len_of S_ N_]
      show Go p.tables e below (T.setTop (mkF m 10 #[.val (.ref a1), .val (.ref a2), .val (.int (0 : Int32)), .val (.int (3 : Int32))] [(.int (3 : Int32)), (.int (3 : Int32))])) _
      refine Go.by (fun tt_ kk_ => XS.icmpYes X.here hx rfl (pc0 := 10) (pc' := 45) rfl (hb hby d7_10) rfl (flt (by decide : ¬ ((3 : Int32) < (3 : Int32)))).2.1 (by decide) (by decide) kk_) ?_
      show Go p.tables e below (T.setTop (mkF m 45 #[.val (.ref a1), .val (.ref a2), .val (.int (0 : Int32)), .val (.int (3 : Int32))] [])) _
      refine Go.by (fun tt_ kk_ => XS.aloadN X.here hx rfl (hb hby d7_45) rfl rfl kk_) ?_
      show Go p.tables e below (T.setTop (mkF m 46 #[.val (.ref a1), .val (.ref a2), .val (.int (0 : Int32)), .val (.int (3 : Int32))] [(.ref a1)])) _
      obtain ⟨T, X, eT, st⟩ := getF X hx hZ hown (host := "") (Or.inl (hw _ (List.mem_of_getElem? (i := 45) rfl))) Via.refl eT F_costs_a1 (g := (mkF m 46 #[.val (.ref a1), .val (.ref a2), .val (.int (0 : Int32)), .val (.int (3 : Int32))] [(.ref a1)])) rfl rfl (hb hby d7_46)
      refine Go.by st ?_
      show Go p.tables e below (T.setTop (mkF m 49 #[.val (.ref a1), .val (.ref a2), .val (.int (0 : Int32)), .val (.int (3 : Int32))] [(.ref ca)])) _
      have Vo_ := V_ca
      obtain ⟨cl_, Ar_, q_, S_, N_, H_, G_⟩ := Vo_
      refine Go.by (X.arraylength hx (by rw [eT]; exact Ar_.1) (State.isArrayOf_alike hZ.alike Ar_.2.1) (g := (mkF m 49 #[.val (.ref a1), .val (.ref a2), .val (.int (0 : Int32)), .val (.int (3 : Int32))] [(.ref ca)])) rfl rfl (hb hby d7_49)) ?_
      rw [len_of S_ N_]
      show Go p.tables e below (T.setTop (mkF m 50 #[.val (.ref a1), .val (.ref a2), .val (.int (0 : Int32)), .val (.int (3 : Int32))] [(.int (3 : Int32))])) _
      obtain ⟨T, h7, k_b7, X, eT, E_, A_, st⟩ := newP X hx hZ (hw _ (List.mem_of_getElem? (i := 2) rfl)) eT (g := (mkF m 50 #[.val (.ref a1), .val (.ref a2), .val (.int (0 : Int32)), .val (.int (3 : Int32))] [(.int (3 : Int32))])) rfl (hb hby d7_50) rfl (by decide) (cap := 3) (by decide) (by decide) (by decide) (by decide)
      obtain ⟨b7, g_b7'⟩ : ∃ z, z = h0.size := ⟨_, rfl⟩
      rw [← g_b7'] at A_ st
      have ne_ca_b7 : ca ≠ b7 := Nat.ne_of_lt (Nat.lt_of_lt_of_le V_ca.lt (Nat.le_of_eq g_b7'.symm))
      have ne_b7_ca : b7 ≠ ca := Ne.symm ne_ca_b7
      have ne_a2_b7 : a2 ≠ b7 := Nat.ne_of_lt (Nat.lt_of_lt_of_le V_a2.lt (Nat.le_of_eq g_b7'.symm))
      have ne_b7_a2 : b7 ≠ a2 := Ne.symm ne_a2_b7
      have ne_a1_b7 : a1 ≠ b7 := Nat.ne_of_lt (Nat.lt_of_lt_of_le F_costs_a1.lt (Nat.le_of_eq g_b7'.symm))
      have ne_b7_a1 : b7 ≠ a1 := Ne.symm ne_a1_b7
      have g_b7 : n0 ≤ b7 := Nat.le_trans Z0 (Nat.le_trans K.1 (Nat.le_of_eq g_b7'.symm))
      have sz_b7 : h0.size ≤ b7 := Nat.le_trans K.1 (Nat.le_of_eq g_b7'.symm)
      have K := K.ext E_
      have V_ca := Arv.ext V_ca E_
      have V_a2 := Arv.ext V_a2 E_
      have F_costs_a1 := Fld.ext E_ F_costs_a1
      have F_limit_a1 := Fld.ext E_ F_limit_a1
      have V_b7 := Arv.new A_ (by decide)
      refine Go.by st ?_
      show Go p.tables e below (T.setTop (mkF m 52 #[.val (.ref a1), .val (.ref a2), .val (.int (0 : Int32)), .val (.int (3 : Int32))] [(.ref b7)])) _
      have V_b7 : Arv Z h7 b7 k_b7 .double (3 : Int32) [(.double (0 : UInt64)), (.double (0 : UInt64)), (.double (0 : UInt64))] (.double (0 : UInt64)) := V_b7.pad (pad_rep [] (.double (0 : UInt64)) 3)
      refine Go.by (fun tt_ kk_ => XS.astoreN X.here hx rfl (hb hby d7_52) rfl rfl (l' := #[.val (.ref a1), .val (.ref a2), .val (.int (0 : Int32)), .val (.ref b7)]) rfl kk_) ?_
      show Go p.tables e below (T.setTop (mkF m 53 #[.val (.ref a1), .val (.ref a2), .val (.int (0 : Int32)), .val (.ref b7)] [])) _
      refine Go.by (fun tt_ kk_ => XS.aloadN X.here hx rfl (hb hby d7_53) rfl rfl kk_) ?_
      show Go p.tables e below (T.setTop (mkF m 54 #[.val (.ref a1), .val (.ref a2), .val (.int (0 : Int32)), .val (.ref b7)] [(.ref b7)])) _
      refine Go.by (fun tt_ kk_ => XS.iloadN X.here hx rfl (hb hby d7_54) rfl kk_) ?_
      show Go p.tables e below (T.setTop (mkF m 55 #[.val (.ref a1), .val (.ref a2), .val (.int (0 : Int32)), .val (.ref b7)] [(.int (0 : Int32)), (.ref b7)])) _
      refine Go.by (fun tt_ kk_ => XS.aloadN X.here hx rfl (hb hby d7_55) rfl rfl kk_) ?_
      show Go p.tables e below (T.setTop (mkF m 56 #[.val (.ref a1), .val (.ref a2), .val (.int (0 : Int32)), .val (.ref b7)] [(.ref a1), (.int (0 : Int32)), (.ref b7)])) _
      obtain ⟨T, X, eT, st⟩ := getF X hx hZ hown (host := "") (Or.inl (hw _ (List.mem_of_getElem? (i := 48) rfl))) Via.refl eT F_limit_a1 (g := (mkF m 56 #[.val (.ref a1), .val (.ref a2), .val (.int (0 : Int32)), .val (.ref b7)] [(.ref a1), (.int (0 : Int32)), (.ref b7)])) rfl rfl (hb hby d7_56)
      refine Go.by st ?_
      show Go p.tables e below (T.setTop (mkF m 59 #[.val (.ref a1), .val (.ref a2), .val (.int (0 : Int32)), .val (.ref b7)] [(.double lm), (.int (0 : Int32)), (.ref b7)])) _
      refine Go.by (fun tt_ kk_ => XS.aloadN X.here hx rfl (hb hby d7_59) rfl rfl kk_) ?_
      show Go p.tables e below (T.setTop (mkF m 60 #[.val (.ref a1), .val (.ref a2), .val (.int (0 : Int32)), .val (.ref b7)] [(.ref a1), (.double lm), (.int (0 : Int32)), (.ref b7)])) _
      obtain ⟨T, X, eT, st⟩ := getF X hx hZ hown (host := "") (Or.inl (hw _ (List.mem_of_getElem? (i := 45) rfl))) Via.refl eT F_costs_a1 (g := (mkF m 60 #[.val (.ref a1), .val (.ref a2), .val (.int (0 : Int32)), .val (.ref b7)] [(.ref a1), (.double lm), (.int (0 : Int32)), (.ref b7)])) rfl rfl (hb hby d7_60)
      refine Go.by st ?_
      show Go p.tables e below (T.setTop (mkF m 63 #[.val (.ref a1), .val (.ref a2), .val (.int (0 : Int32)), .val (.ref b7)] [(.ref ca), (.double lm), (.int (0 : Int32)), (.ref b7)])) _
      refine Go.by (fun tt_ kk_ => XS.iloadN X.here hx rfl (hb hby d7_63) rfl kk_) ?_
      show Go p.tables e below (T.setTop (mkF m 64 #[.val (.ref a1), .val (.ref a2), .val (.int (0 : Int32)), .val (.ref b7)] [(.int (0 : Int32)), (.ref ca), (.double lm), (.int (0 : Int32)), (.ref b7)])) _
      have Vo_ := V_ca
      obtain ⟨cl_, Ar_, q_, S_, N_, H_, G_⟩ := Vo_
      refine Go.by (X.daload hx (j := (0 : Int32)) (v := (.double y0)) (by rw [eT]; exact Ar_.1) (State.isArrayOf_alike hZ.alike Ar_.2.1) Ar_.2.2 (inb_of S_ ⟨by decide, by decide⟩) (Has.at H_ (inb_of S_ ⟨by decide, by decide⟩) rfl) (g := (mkF m 64 #[.val (.ref a1), .val (.ref a2), .val (.int (0 : Int32)), .val (.ref b7)] [(.int (0 : Int32)), (.ref ca), (.double lm), (.int (0 : Int32)), (.ref b7)])) rfl rfl (hb hby d7_64)) ?_
      show Go p.tables e below (T.setTop (mkF m 65 #[.val (.ref a1), .val (.ref a2), .val (.int (0 : Int32)), .val (.ref b7)] [(.double y0), (.double lm), (.int (0 : Int32)), (.ref b7)])) _
      refine Go.by (fun tt_ kk_ => XS.ddivS X.here hx rfl (hb hby d7_65) rfl (own_divnn2 fl.noNaN dy0 (by omega)) rfl kk_) ?_
      show Go p.tables e below (T.setTop (mkF m 66 #[.val (.ref a1), .val (.ref a2), .val (.int (0 : Int32)), .val (.ref b7)] [(.double (FP.ddiv lm y0)), (.int (0 : Int32)), (.ref b7)])) _
      have Vo_ := V_b7
      obtain ⟨cl_, Ar_, q_, S_, N_, H_, G_⟩ := Vo_
      obtain ⟨T, h8, X, eT, Wh8, st⟩ := stD X hx hZ eT Ar_ (j := (0 : Int32)) (inb_of S_ ⟨by decide, by decide⟩) (g := (mkF m 66 #[.val (.ref a1), .val (.ref a2), .val (.int (0 : Int32)), .val (.ref b7)] [(.double (FP.ddiv lm y0)), (.int (0 : Int32)), (.ref b7)])) rfl rfl (hb hby d7_66)
      have V_b7 := Arv.set Ar_ q_ S_ N_ H_ G_ rfl Wh8 0 rfl (Nat.le_of_ble_eq_true rfl)
      have V_ca := Arv.other V_ca Wh8 ne_ca_b7
      have V_a2 := Arv.other V_a2 Wh8 ne_a2_b7
      have F_costs_a1 := Fld.other Wh8 F_costs_a1 (Or.inl ne_a1_b7)
      have F_limit_a1 := Fld.other Wh8 F_limit_a1 (Or.inl ne_a1_b7)
      have N := Fr.snoc X N g_b7
      have K := K.wr Wh8 (Or.inr sz_b7)
      refine Go.by st ?_
      show Go p.tables e below (T.setTop (mkF m 67 #[.val (.ref a1), .val (.ref a2), .val (.int (0 : Int32)), .val (.ref b7)] [])) _
      refine Go.by (fun tt_ kk_ => XS.aloadN X.here hx rfl (hb hby d7_67) rfl rfl kk_) ?_
      show Go p.tables e below (T.setTop (mkF m 68 #[.val (.ref a1), .val (.ref a2), .val (.int (0 : Int32)), .val (.ref b7)] [(.ref b7)])) _
      have Vq : Arv Z h8 b7 k_b7 .double (3 : Int32) (own_bc3 w0 c0 w1 c1 w2 c2 lm y0 y1 y2) (.double (0 : UInt64)) := by
        unfold own_bc3
        rw [if_neg hg0]
        rw [if_neg hg1]
        exact V_b7
      exact Go.done X  (v := some (.ref b7)) (fun h => by rw [Bd.returns] at h; cases h) Bd.notSynchronized (fun fs hr => retOut X hx Bd.returns rfl (by simp [Value.isRef, FieldType.isReference]) (hb hby d7_68) hr) (by rw [eT]; exact ⟨b7, k_b7, g_b7, sz_b7, rfl, N, K, Vq⟩) (by decide) (by decide)
theorem own_gt1 {q1 q2 q3 q4 : Int64} {wj cj wb cb : Int} (h : (0 : Int32) < lcmpW (q1 * q4) (q3 * q2)) (e1 : q1.toInt = wj) (e2 : q2.toInt = cj) (e3 : q3.toInt = wb) (e4 : q4.toInt = cb) (m1 : -9223372036854775808 ≤ wj * cb ∧ wj * cb < 9223372036854775808) (m2 : -9223372036854775808 ≤ wb * cj ∧ wb * cj < 9223372036854775808) : wb * cj < wj * cb := by
  rw [lcW, lc_gt, Int64.lt_iff_toInt_lt] at h
  subst e1 e2 e3 e4
  rwa [Core.int64_mul m2.1 m2.2, Core.int64_mul m1.1 m1.2] at h
theorem own_gt2 {q1 q2 q3 q4 : Int64} {wj cj wb cb : Int} (h : ¬ (0 : Int32) < lcmpW (q1 * q4) (q3 * q2)) (e1 : q1.toInt = wj) (e2 : q2.toInt = cj) (e3 : q3.toInt = wb) (e4 : q4.toInt = cb) (m1 : -9223372036854775808 ≤ wj * cb ∧ wj * cb < 9223372036854775808) (m2 : -9223372036854775808 ≤ wb * cj ∧ wb * cj < 9223372036854775808) : ¬ wb * cj < wj * cb := fun q => h (by
  rw [lcW, lc_gt, Int64.lt_iff_toInt_lt]
  subst e1 e2 e3 e4
  rwa [Core.int64_mul m2.1 m2.2, Core.int64_mul m1.1 m1.2])
theorem d8_0 : decode method_2_code 0 = .ok (.lload_n 0, 1) := by decide +kernel
theorem d8_1 : decode method_2_code 1 = .ok (.lload 6, 2) := by decide +kernel
theorem d8_3 : decode method_2_code 3 = .ok (.lmul, 1) := by decide +kernel
theorem d8_4 : decode method_2_code 4 = .ok (.lload 4, 2) := by decide +kernel
theorem d8_6 : decode method_2_code 6 = .ok (.lload_n 2, 1) := by decide +kernel
theorem d8_7 : decode method_2_code 7 = .ok (.lmul, 1) := by decide +kernel
theorem d8_8 : decode method_2_code 8 = .ok (.lcmp, 1) := by decide +kernel
theorem d8_9 : decode method_2_code 9 = .ok (.ifCond .le 7, 3) := by decide +kernel
theorem d8_12 : decode method_2_code 12 = .ok (.iconst 1, 1) := by decide +kernel
theorem d8_13 : decode method_2_code 13 = .ok (.goto 4, 3) := by decide +kernel
theorem d8_16 : decode method_2_code 16 = .ok (.iconst 0, 1) := by decide +kernel
theorem d8_17 : decode method_2_code 17 = .ok (.ireturn, 1) := by decide +kernel
theorem pn_3 : plainName "com/example/pareto_helm/paretohelm/engine/BudgetBestCornerPinLaw" = true := by first | (simp [plainName, overriddenIn]; done) | decide +kernel
theorem ef_8 (m : MethodId) (x0 : Int64) (x1 : Int64) (x2 : Int64) (x3 : Int64) : entryFrame m #[(.long x0), (.long x1), (.long x2), (.long x3)] 8 = mkF m 0 #[.val (.long x0), .second, .val (.long x1), .second, .val (.long x2), .second, .val (.long x3), .second] [] := by first | (simp [entryFrame, mkF, argsToLocals, Value.category]; done) | rfl
def Q8 (Z : State) (q1 : Int64) (q2 : Int64) (q3 : Int64) (q4 : Int64) (wj : Int) (cj : Int) (wb : Int) (cb : Int) (h0 : Heap) (n0 : Nat) (v : Option Value) (h : Heap) (L : List Loc) : Prop := v = some (.int (if wb * cj < wj * cb then 1 else 0)) ∧ Fr n0 L ∧ h = h0
set_option maxRecDepth 65536 in
set_option maxHeartbeats 40000000 in
theorem rm8 (l : Launch) (Z : State) (a0 : Array Value) (hw : ∀ d ∈ tables_1, d.before a0 Z = true) (ws : List Jvm.Cond) (q1 : Int64) (q2 : Int64) (q3 : Int64) (q4 : Int64) (wj : Int) (cj : Int) (wb : Int) (cb : Int) (h0 : Heap) (n0 : Nat) (Z0 : n0 ≤ h0.size) (e1 : q1.toInt = wj) (e2 : q2.toInt = cj) (e3 : q3.toInt = wb) (e4 : q4.toInt = cb) (m1 : -9223372036854775808 ≤ wj * cb ∧ wj * cb < 9223372036854775808) (m2 : -9223372036854775808 ≤ wb * cj ∧ wb * cj < 9223372036854775808) :
    MetFree l (⟨"com/example/pareto_helm/paretohelm/engine/BudgetBestCornerPinLaw", "greater", "(JJJJ)Z"⟩ : MethodName) (head1 (Jvm.Cond.code (⟨"com/example/pareto_helm/paretohelm/engine/BudgetBestCornerPinLaw", "greater", "(JJJJ)Z"⟩ : MethodName) method_2_code 8 (some .boolean) :: ws) ({ frames := 0, cells := 0, slots := 0, locals := 0 } : Room)) (fun a U => a = #[(.long q1), (.long q2), (.long q3), (.long q4)] ∧ Z.Warmed39 U.vm ∧ U.heap = h0) (fun _ _ _ _ _ => True) (fun _ U o U' => ∃ v L, o = .returned v ∧ Q8 Z q1 q2 q3 q4 wj cj wb cb h0 n0 v U'.heap L ∧ FrameEnd U o U' L ({ frames := 0, cells := 0, slots := 0, locals := 0 } : Room).cells ({ frames := 0, cells := 0, slots := 0, locals := 0 } : Room).slots) := by
  refine MetFree.of_bodySF (plainFor_of_name pn_3) hisR ?_
  intro p e s m args below meth c s₁ Bd hml0 hP hK
  obtain ⟨rfl, hZ, hh⟩ := hP
  have hx := Bd.exec
  have hby := Bd.bytes
  have hml : c.maxLocals = 8 := hml0
  have hown : s.vm.findClass "com/example/pareto_helm/paretohelm/engine/BudgetBestCornerPinLaw" = some m.cls := findClass_of_methodNamed Bd.named
  have hnm := (name_of_methodNamed Bd.named Bd.method).1
  have X : Stand p l e ({ frames := 0, cells := 0, slots := 0, locals := 0 } : Room) s m #[(.long q1), (.long q2), (.long q3), (.long q4)] below meth c s₁ [] 0 0 := Stand.of_body Bd
  have eT : s₁.heap = h0 := by rw [← hh, Bd.state]; rfl
  have N := Fr.nil n0
  have K := Keep.refl h0 []
  refine Go.out ?_
  obtain ⟨T, eTT⟩ : ∃ z, z = s₁ := ⟨_, rfl⟩
  rw [← eTT] at X eT ⊢
  refine Go.by (fun tt_ kk_ => castTop (ef_8 m q1 q2 q3 q4) kk_) ?_
  show Go p.tables e below (T.setTop (mkF m 0 #[.val (.long q1), .second, .val (.long q2), .second, .val (.long q3), .second, .val (.long q4), .second] [])) _
  refine Go.by (fun tt_ kk_ => XS.lloadN X.here hx rfl (hb hby d8_0) rfl kk_) ?_
  show Go p.tables e below (T.setTop (mkF m 1 #[.val (.long q1), .second, .val (.long q2), .second, .val (.long q3), .second, .val (.long q4), .second] [(.long q1)])) _
  refine Go.by (fun tt_ kk_ => XS.lload X.here hx rfl (hb hby d8_1) rfl kk_) ?_
  show Go p.tables e below (T.setTop (mkF m 3 #[.val (.long q1), .second, .val (.long q2), .second, .val (.long q3), .second, .val (.long q4), .second] [(.long q4), (.long q1)])) _
  refine Go.by (fun tt_ kk_ => XS.lmul X.here hx rfl (hb hby d8_3) rfl kk_) ?_
  show Go p.tables e below (T.setTop (mkF m 4 #[.val (.long q1), .second, .val (.long q2), .second, .val (.long q3), .second, .val (.long q4), .second] [(.long (q1 * q4))])) _
  refine Go.by (fun tt_ kk_ => XS.lload X.here hx rfl (hb hby d8_4) rfl kk_) ?_
  show Go p.tables e below (T.setTop (mkF m 6 #[.val (.long q1), .second, .val (.long q2), .second, .val (.long q3), .second, .val (.long q4), .second] [(.long q3), (.long (q1 * q4))])) _
  refine Go.by (fun tt_ kk_ => XS.lloadN X.here hx rfl (hb hby d8_6) rfl kk_) ?_
  show Go p.tables e below (T.setTop (mkF m 7 #[.val (.long q1), .second, .val (.long q2), .second, .val (.long q3), .second, .val (.long q4), .second] [(.long q2), (.long q3), (.long (q1 * q4))])) _
  refine Go.by (fun tt_ kk_ => XS.lmul X.here hx rfl (hb hby d8_7) rfl kk_) ?_
  show Go p.tables e below (T.setTop (mkF m 8 #[.val (.long q1), .second, .val (.long q2), .second, .val (.long q3), .second, .val (.long q4), .second] [(.long (q3 * q2)), (.long (q1 * q4))])) _
  refine Go.by (fun tt_ kk_ => XS.lcmp X.here hx rfl (hb hby d8_8) rfl kk_) ?_
  show Go p.tables e below (T.setTop (mkF m 9 #[.val (.long q1), .second, .val (.long q2), .second, .val (.long q3), .second, .val (.long q4), .second] [(.int (lcmpW (q1 * q4) (q3 * q2)))])) _
  by_cases hc9 : (0 : Int32) < (lcmpW (q1 * q4) (q3 * q2))
  · refine Go.by (fun tt_ kk_ => XS.ifNo X.here hx rfl (hb hby d8_9) rfl ((if0 _ _).trans (tlt hc9).2.2.2) kk_) ?_
    show Go p.tables e below (T.setTop (mkF m 12 #[.val (.long q1), .second, .val (.long q2), .second, .val (.long q3), .second, .val (.long q4), .second] [])) _
    refine Go.by (fun tt_ kk_ => XS.iconst X.here hx rfl (hb hby d8_12) kk_) ?_
    show Go p.tables e below (T.setTop (mkF m 13 #[.val (.long q1), .second, .val (.long q2), .second, .val (.long q3), .second, .val (.long q4), .second] [(.int (1 : Int32))])) _
    refine Go.by (fun tt_ kk_ => XS.goto X.here hx rfl (pc0 := 13) (pc' := 17) rfl (hb hby d8_13) (by decide) (by decide) kk_) ?_
    show Go p.tables e below (T.setTop (mkF m 17 #[.val (.long q1), .second, .val (.long q2), .second, .val (.long q3), .second, .val (.long q4), .second] [(.int (1 : Int32))])) _
    exact Go.done X  (v := some (.int (1 : Int32))) (fun h => by rw [Bd.returns] at h; cases h) Bd.notSynchronized (fun fs hr => retN X hx (z := (1 : Int32)) (t := .boolean) Bd.returns (by simp) (hb hby d8_17) hr) (by rw [eT]; exact ⟨by rw [if_pos (own_gt1 hc9 e1 e2 e3 e4 m1 m2)], N, rfl⟩) (by decide) (by decide)
  · refine Go.by (fun tt_ kk_ => XS.ifYes X.here hx rfl (pc0 := 9) (pc' := 16) rfl (hb hby d8_9) rfl ((if0 _ _).trans (flt hc9).2.2.2) (by decide) (by decide) kk_) ?_
    show Go p.tables e below (T.setTop (mkF m 16 #[.val (.long q1), .second, .val (.long q2), .second, .val (.long q3), .second, .val (.long q4), .second] [])) _
    refine Go.by (fun tt_ kk_ => XS.iconst X.here hx rfl (hb hby d8_16) kk_) ?_
    show Go p.tables e below (T.setTop (mkF m 17 #[.val (.long q1), .second, .val (.long q2), .second, .val (.long q3), .second, .val (.long q4), .second] [(.int (0 : Int32))])) _
    exact Go.done X  (v := some (.int (0 : Int32))) (fun h => by rw [Bd.returns] at h; cases h) Bd.notSynchronized (fun fs hr => retN X hx (z := (0 : Int32)) (t := .boolean) Bd.returns (by simp) (hb hby d8_17) hr) (by rw [eT]; exact ⟨by rw [if_neg (own_gt2 hc9 e1 e2 e3 e4 m1 m2)], N, rfl⟩) (by decide) (by decide)
theorem d9_0 : decode method_3_code 0 = .ok (.iload_n 1, 1) := by decide +kernel
theorem d9_1 : decode method_3_code 1 = .ok (.iload_n 2, 1) := by decide +kernel
theorem d9_2 : decode method_3_code 2 = .ok (.if_icmp .lt 5, 3) := by decide +kernel
theorem d9_5 : decode method_3_code 5 = .ok (.iconst 1, 1) := by decide +kernel
theorem d9_6 : decode method_3_code 6 = .ok (.ireturn, 1) := by decide +kernel
theorem d9_7 : decode method_3_code 7 = .ok (.iload_n 1, 1) := by decide +kernel
theorem d9_8 : decode method_3_code 8 = .ok (.iload_n 3, 1) := by decide +kernel
theorem d9_9 : decode method_3_code 9 = .ok (.if_icmp .ne 12, 3) := by decide +kernel
theorem d9_12 : decode method_3_code 12 = .ok (.dload 4, 2) := by decide +kernel
theorem d9_14 : decode method_3_code 14 = .ok (.iload 6, 2) := by decide +kernel
theorem d9_16 : decode method_3_code 16 = .ok (.i2d, 1) := by decide +kernel
theorem d9_17 : decode method_3_code 17 = .ok (.ddiv, 1) := by decide +kernel
theorem d9_18 : decode method_3_code 18 = .ok (.goto 4, 3) := by decide +kernel
theorem d9_21 : decode method_3_code 21 = .ok (.dconst 0, 1) := by decide +kernel
theorem d9_22 : decode method_3_code 22 = .ok (.dstore 7, 2) := by decide +kernel
theorem d9_24 : decode method_3_code 24 = .ok (.aload_n 0, 1) := by decide +kernel
theorem d9_25 : decode method_3_code 25 = .ok (.iload_n 1, 1) := by decide +kernel
theorem d9_26 : decode method_3_code 26 = .ok (.daload, 1) := by decide +kernel
theorem d9_27 : decode method_3_code 27 = .ok (.dload 7, 2) := by decide +kernel
theorem d9_29 : decode method_3_code 29 = .ok (.dcmp .l, 1) := by decide +kernel
theorem d9_30 : decode method_3_code 30 = .ok (.ifCond .ne 7, 3) := by decide +kernel
theorem d9_33 : decode method_3_code 33 = .ok (.iconst 1, 1) := by decide +kernel
theorem d9_34 : decode method_3_code 34 = .ok (.goto 4, 3) := by decide +kernel
theorem d9_37 : decode method_3_code 37 = .ok (.iconst 0, 1) := by decide +kernel
theorem d9_38 : decode method_3_code 38 = .ok (.ireturn, 1) := by decide +kernel
theorem ef_9 (m : MethodId) (x0 : Addr) (x1 : Int32) (x2 : Int32) (x3 : Int32) (x4 : UInt64) (x5 : Int32) : entryFrame m #[(.ref x0), (.int x1), (.int x2), (.int x3), (.double x4), (.int x5)] 9 = mkF m 0 #[.val (.ref x0), .val (.int x1), .val (.int x2), .val (.int x3), .val (.double x4), .second, .val (.int x5), .unset, .unset] [] := by first | (simp [entryFrame, mkF, argsToLocals, Value.category]; done) | rfl
def Q9a (Z : State) (a1 : Addr) (j : Int32) (nn : Int32) (bb : Int32) (x5 : UInt64) (p6 : Int32) (vs : List Value) (kv : ClassId) (h0 : Heap) (n0 : Nat) (v : Option Value) (h : Heap) (L : List Loc) : Prop := v = some (.int 1) ∧ Fr n0 L ∧ h = h0
set_option maxRecDepth 65536 in
set_option maxHeartbeats 40000000 in
theorem rm9a (l : Launch) (Z : State) (a0 : Array Value) (hw : ∀ d ∈ tables_1, d.before a0 Z = true) (ws : List Jvm.Cond) (a1 : Addr) (j : Int32) (nn : Int32) (bb : Int32) (x5 : UInt64) (p6 : Int32) (vs : List Value) (kv : ClassId) (h0 : Heap) (n0 : Nat) (Z0 : n0 ≤ h0.size) (V_a1 : Arv Z h0 a1 kv .double nn vs (.double (0 : UInt64))) (hj0 : ¬ j < 0) (hjn : j < nn) (hjb : j = bb) (hn : NoNaN64 (FP.ddiv x5 (FP.i2d p6))) (hat : vs.getD j.toNatClampNeg (.double (0 : UInt64)) = .double (FP.ddiv x5 (FP.i2d p6))) :
    MetFree l (⟨"com/example/pareto_helm/paretohelm/engine/BudgetBestCornerPinLaw", "check", "([DIIIDI)Z"⟩ : MethodName) (head1 (Jvm.Cond.code (⟨"com/example/pareto_helm/paretohelm/engine/BudgetBestCornerPinLaw", "check", "([DIIIDI)Z"⟩ : MethodName) method_3_code 9 (some .boolean) :: ws) ({ frames := 0, cells := 0, slots := 0, locals := 0 } : Room)) (fun a U => a = #[(.ref a1), (.int j), (.int nn), (.int bb), (.double x5), (.int p6)] ∧ Z.Warmed39 U.vm ∧ U.heap = h0) (fun _ _ _ _ _ => True) (fun _ U o U' => ∃ v L, o = .returned v ∧ Q9a Z a1 j nn bb x5 p6 vs kv h0 n0 v U'.heap L ∧ FrameEnd U o U' L ({ frames := 0, cells := 0, slots := 0, locals := 0 } : Room).cells ({ frames := 0, cells := 0, slots := 0, locals := 0 } : Room).slots) := by
  refine MetFree.of_bodySF (plainFor_of_name pn_3) hisR ?_
  intro p e s m args below meth c s₁ Bd hml0 hP hK
  obtain ⟨rfl, hZ, hh⟩ := hP
  have hx := Bd.exec
  have hby := Bd.bytes
  have hml : c.maxLocals = 9 := hml0
  have hown : s.vm.findClass "com/example/pareto_helm/paretohelm/engine/BudgetBestCornerPinLaw" = some m.cls := findClass_of_methodNamed Bd.named
  have hnm := (name_of_methodNamed Bd.named Bd.method).1
  have X : Stand p l e ({ frames := 0, cells := 0, slots := 0, locals := 0 } : Room) s m #[(.ref a1), (.int j), (.int nn), (.int bb), (.double x5), (.int p6)] below meth c s₁ [] 0 0 := Stand.of_body Bd
  have eT : s₁.heap = h0 := by rw [← hh, Bd.state]; rfl
  have N := Fr.nil n0
  have K := Keep.refl h0 []
  refine Go.out ?_
  obtain ⟨T, eTT⟩ : ∃ z, z = s₁ := ⟨_, rfl⟩
  rw [← eTT] at X eT ⊢
  refine Go.by (fun tt_ kk_ => castTop (ef_9 m a1 j nn bb x5 p6) kk_) ?_
  show Go p.tables e below (T.setTop (mkF m 0 #[.val (.ref a1), .val (.int j), .val (.int nn), .val (.int bb), .val (.double x5), .second, .val (.int p6), .unset, .unset] [])) _
  refine Go.by (fun tt_ kk_ => XS.iloadN X.here hx rfl (hb hby d9_0) rfl kk_) ?_
  show Go p.tables e below (T.setTop (mkF m 1 #[.val (.ref a1), .val (.int j), .val (.int nn), .val (.int bb), .val (.double x5), .second, .val (.int p6), .unset, .unset] [(.int j)])) _
  refine Go.by (fun tt_ kk_ => XS.iloadN X.here hx rfl (hb hby d9_1) rfl kk_) ?_
  show Go p.tables e below (T.setTop (mkF m 2 #[.val (.ref a1), .val (.int j), .val (.int nn), .val (.int bb), .val (.double x5), .second, .val (.int p6), .unset, .unset] [(.int nn), (.int j)])) _
  refine Go.by (fun tt_ kk_ => XS.icmpYes X.here hx rfl (pc0 := 2) (pc' := 7) rfl (hb hby d9_2) rfl (tlt hjn).1 (by decide) (by decide) kk_) ?_
  show Go p.tables e below (T.setTop (mkF m 7 #[.val (.ref a1), .val (.int j), .val (.int nn), .val (.int bb), .val (.double x5), .second, .val (.int p6), .unset, .unset] [])) _
  refine Go.by (fun tt_ kk_ => XS.iloadN X.here hx rfl (hb hby d9_7) rfl kk_) ?_
  show Go p.tables e below (T.setTop (mkF m 8 #[.val (.ref a1), .val (.int j), .val (.int nn), .val (.int bb), .val (.double x5), .second, .val (.int p6), .unset, .unset] [(.int j)])) _
  refine Go.by (fun tt_ kk_ => XS.iloadN X.here hx rfl (hb hby d9_8) rfl kk_) ?_
  show Go p.tables e below (T.setTop (mkF m 9 #[.val (.ref a1), .val (.int j), .val (.int nn), .val (.int bb), .val (.double x5), .second, .val (.int p6), .unset, .unset] [(.int bb), (.int j)])) _
  refine Go.by (fun tt_ kk_ => XS.icmpNo X.here hx rfl (hb hby d9_9) rfl (teq hjb).2 kk_) ?_
  show Go p.tables e below (T.setTop (mkF m 12 #[.val (.ref a1), .val (.int j), .val (.int nn), .val (.int bb), .val (.double x5), .second, .val (.int p6), .unset, .unset] [])) _
  refine Go.by (fun tt_ kk_ => XS.dload X.here hx rfl (hb hby d9_12) rfl kk_) ?_
  show Go p.tables e below (T.setTop (mkF m 14 #[.val (.ref a1), .val (.int j), .val (.int nn), .val (.int bb), .val (.double x5), .second, .val (.int p6), .unset, .unset] [(.double x5)])) _
  refine Go.by (fun tt_ kk_ => XS.iload X.here hx rfl (hb hby d9_14) rfl kk_) ?_
  show Go p.tables e below (T.setTop (mkF m 16 #[.val (.ref a1), .val (.int j), .val (.int nn), .val (.int bb), .val (.double x5), .second, .val (.int p6), .unset, .unset] [(.int p6), (.double x5)])) _
  refine Go.by (fun tt_ kk_ => XS.i2dS X.here hx rfl (hb hby d9_16) rfl rfl kk_) ?_
  show Go p.tables e below (T.setTop (mkF m 17 #[.val (.ref a1), .val (.int j), .val (.int nn), .val (.int bb), .val (.double x5), .second, .val (.int p6), .unset, .unset] [(.double (FP.i2d p6)), (.double x5)])) _
  refine Go.by (fun tt_ kk_ => XS.ddivS X.here hx rfl (hb hby d9_17) rfl hn rfl kk_) ?_
  show Go p.tables e below (T.setTop (mkF m 18 #[.val (.ref a1), .val (.int j), .val (.int nn), .val (.int bb), .val (.double x5), .second, .val (.int p6), .unset, .unset] [(.double (FP.ddiv x5 (FP.i2d p6)))])) _
  refine Go.by (fun tt_ kk_ => XS.goto X.here hx rfl (pc0 := 18) (pc' := 22) rfl (hb hby d9_18) (by decide) (by decide) kk_) ?_
  show Go p.tables e below (T.setTop (mkF m 22 #[.val (.ref a1), .val (.int j), .val (.int nn), .val (.int bb), .val (.double x5), .second, .val (.int p6), .unset, .unset] [(.double (FP.ddiv x5 (FP.i2d p6)))])) _
  refine Go.by (fun tt_ kk_ => XS.dstore X.here hx rfl (hb hby d9_22) rfl (l' := #[.val (.ref a1), .val (.int j), .val (.int nn), .val (.int bb), .val (.double x5), .second, .val (.int p6), .val (.double (FP.ddiv x5 (FP.i2d p6))), .second]) rfl kk_) ?_
  show Go p.tables e below (T.setTop (mkF m 24 #[.val (.ref a1), .val (.int j), .val (.int nn), .val (.int bb), .val (.double x5), .second, .val (.int p6), .val (.double (FP.ddiv x5 (FP.i2d p6))), .second] [])) _
  refine Go.by (fun tt_ kk_ => XS.aloadN X.here hx rfl (hb hby d9_24) rfl rfl kk_) ?_
  show Go p.tables e below (T.setTop (mkF m 25 #[.val (.ref a1), .val (.int j), .val (.int nn), .val (.int bb), .val (.double x5), .second, .val (.int p6), .val (.double (FP.ddiv x5 (FP.i2d p6))), .second] [(.ref a1)])) _
  refine Go.by (fun tt_ kk_ => XS.iloadN X.here hx rfl (hb hby d9_25) rfl kk_) ?_
  show Go p.tables e below (T.setTop (mkF m 26 #[.val (.ref a1), .val (.int j), .val (.int nn), .val (.int bb), .val (.double x5), .second, .val (.int p6), .val (.double (FP.ddiv x5 (FP.i2d p6))), .second] [(.int j), (.ref a1)])) _
  have Vo_ := V_a1
  obtain ⟨cl_, Ar_, q_, S_, N_, H_, G_⟩ := Vo_
  refine Go.by (X.daload hx (j := j) (v := (.double (FP.ddiv x5 (FP.i2d p6)))) (by rw [eT]; exact Ar_.1) (State.isArrayOf_alike hZ.alike Ar_.2.1) Ar_.2.2 (inb_of S_ ⟨hj0, hjn⟩) (Has.at H_ (inb_of S_ ⟨hj0, hjn⟩) hat) (g := (mkF m 26 #[.val (.ref a1), .val (.int j), .val (.int nn), .val (.int bb), .val (.double x5), .second, .val (.int p6), .val (.double (FP.ddiv x5 (FP.i2d p6))), .second] [(.int j), (.ref a1)])) rfl rfl (hb hby d9_26)) ?_
  show Go p.tables e below (T.setTop (mkF m 27 #[.val (.ref a1), .val (.int j), .val (.int nn), .val (.int bb), .val (.double x5), .second, .val (.int p6), .val (.double (FP.ddiv x5 (FP.i2d p6))), .second] [(.double (FP.ddiv x5 (FP.i2d p6)))])) _
  refine Go.by (fun tt_ kk_ => XS.dload X.here hx rfl (hb hby d9_27) rfl kk_) ?_
  show Go p.tables e below (T.setTop (mkF m 29 #[.val (.ref a1), .val (.int j), .val (.int nn), .val (.int bb), .val (.double x5), .second, .val (.int p6), .val (.double (FP.ddiv x5 (FP.i2d p6))), .second] [(.double (FP.ddiv x5 (FP.i2d p6))), (.double (FP.ddiv x5 (FP.i2d p6)))])) _
  refine Go.by (fun tt_ kk_ => XS.dcmpS X.here hx rfl (hb hby d9_29) rfl (dcmpV_self hn .l) kk_) ?_
  show Go p.tables e below (T.setTop (mkF m 30 #[.val (.ref a1), .val (.int j), .val (.int nn), .val (.int bb), .val (.double x5), .second, .val (.int p6), .val (.double (FP.ddiv x5 (FP.i2d p6))), .second] [(.int (0 : Int32))])) _
  refine Go.by (fun tt_ kk_ => XS.ifNo X.here hx rfl (hb hby d9_30) rfl ((if0 _ _).trans (teq (rfl : (0 : Int32) = (0 : Int32))).2) kk_) ?_
  show Go p.tables e below (T.setTop (mkF m 33 #[.val (.ref a1), .val (.int j), .val (.int nn), .val (.int bb), .val (.double x5), .second, .val (.int p6), .val (.double (FP.ddiv x5 (FP.i2d p6))), .second] [])) _
  refine Go.by (fun tt_ kk_ => XS.iconst X.here hx rfl (hb hby d9_33) kk_) ?_
  show Go p.tables e below (T.setTop (mkF m 34 #[.val (.ref a1), .val (.int j), .val (.int nn), .val (.int bb), .val (.double x5), .second, .val (.int p6), .val (.double (FP.ddiv x5 (FP.i2d p6))), .second] [(.int (1 : Int32))])) _
  refine Go.by (fun tt_ kk_ => XS.goto X.here hx rfl (pc0 := 34) (pc' := 38) rfl (hb hby d9_34) (by decide) (by decide) kk_) ?_
  show Go p.tables e below (T.setTop (mkF m 38 #[.val (.ref a1), .val (.int j), .val (.int nn), .val (.int bb), .val (.double x5), .second, .val (.int p6), .val (.double (FP.ddiv x5 (FP.i2d p6))), .second] [(.int (1 : Int32))])) _
  exact Go.done X  (v := some (.int (1 : Int32))) (fun h => by rw [Bd.returns] at h; cases h) Bd.notSynchronized (fun fs hr => retN X hx (z := (1 : Int32)) (t := .boolean) Bd.returns (by simp) (hb hby d9_38) hr) (by rw [eT]; exact ⟨rfl, N, rfl⟩) (by decide) (by decide)
def Q9b (Z : State) (a1 : Addr) (j : Int32) (nn : Int32) (bb : Int32) (x5 : UInt64) (p6 : Int32) (vs : List Value) (kv : ClassId) (h0 : Heap) (n0 : Nat) (v : Option Value) (h : Heap) (L : List Loc) : Prop := v = some (.int 1) ∧ Fr n0 L ∧ h = h0
set_option maxRecDepth 65536 in
set_option maxHeartbeats 40000000 in
theorem rm9b (l : Launch) (Z : State) (a0 : Array Value) (hw : ∀ d ∈ tables_1, d.before a0 Z = true) (ws : List Jvm.Cond) (a1 : Addr) (j : Int32) (nn : Int32) (bb : Int32) (x5 : UInt64) (p6 : Int32) (vs : List Value) (kv : ClassId) (h0 : Heap) (n0 : Nat) (Z0 : n0 ≤ h0.size) (V_a1 : Arv Z h0 a1 kv .double nn vs (.double (0 : UInt64))) (hj0 : ¬ j < 0) (hjn : j < nn) (hjb : ¬ j = bb) (hat : vs.getD j.toNatClampNeg (.double (0 : UInt64)) = .double (0 : UInt64)) :
    MetFree l (⟨"com/example/pareto_helm/paretohelm/engine/BudgetBestCornerPinLaw", "check", "([DIIIDI)Z"⟩ : MethodName) (head1 (Jvm.Cond.code (⟨"com/example/pareto_helm/paretohelm/engine/BudgetBestCornerPinLaw", "check", "([DIIIDI)Z"⟩ : MethodName) method_3_code 9 (some .boolean) :: ws) ({ frames := 0, cells := 0, slots := 0, locals := 0 } : Room)) (fun a U => a = #[(.ref a1), (.int j), (.int nn), (.int bb), (.double x5), (.int p6)] ∧ Z.Warmed39 U.vm ∧ U.heap = h0) (fun _ _ _ _ _ => True) (fun _ U o U' => ∃ v L, o = .returned v ∧ Q9b Z a1 j nn bb x5 p6 vs kv h0 n0 v U'.heap L ∧ FrameEnd U o U' L ({ frames := 0, cells := 0, slots := 0, locals := 0 } : Room).cells ({ frames := 0, cells := 0, slots := 0, locals := 0 } : Room).slots) := by
  refine MetFree.of_bodySF (plainFor_of_name pn_3) hisR ?_
  intro p e s m args below meth c s₁ Bd hml0 hP hK
  obtain ⟨rfl, hZ, hh⟩ := hP
  have hx := Bd.exec
  have hby := Bd.bytes
  have hml : c.maxLocals = 9 := hml0
  have hown : s.vm.findClass "com/example/pareto_helm/paretohelm/engine/BudgetBestCornerPinLaw" = some m.cls := findClass_of_methodNamed Bd.named
  have hnm := (name_of_methodNamed Bd.named Bd.method).1
  have X : Stand p l e ({ frames := 0, cells := 0, slots := 0, locals := 0 } : Room) s m #[(.ref a1), (.int j), (.int nn), (.int bb), (.double x5), (.int p6)] below meth c s₁ [] 0 0 := Stand.of_body Bd
  have eT : s₁.heap = h0 := by rw [← hh, Bd.state]; rfl
  have N := Fr.nil n0
  have K := Keep.refl h0 []
  refine Go.out ?_
  obtain ⟨T, eTT⟩ : ∃ z, z = s₁ := ⟨_, rfl⟩
  rw [← eTT] at X eT ⊢
  refine Go.by (fun tt_ kk_ => castTop (ef_9 m a1 j nn bb x5 p6) kk_) ?_
  show Go p.tables e below (T.setTop (mkF m 0 #[.val (.ref a1), .val (.int j), .val (.int nn), .val (.int bb), .val (.double x5), .second, .val (.int p6), .unset, .unset] [])) _
  refine Go.by (fun tt_ kk_ => XS.iloadN X.here hx rfl (hb hby d9_0) rfl kk_) ?_
  show Go p.tables e below (T.setTop (mkF m 1 #[.val (.ref a1), .val (.int j), .val (.int nn), .val (.int bb), .val (.double x5), .second, .val (.int p6), .unset, .unset] [(.int j)])) _
  refine Go.by (fun tt_ kk_ => XS.iloadN X.here hx rfl (hb hby d9_1) rfl kk_) ?_
  show Go p.tables e below (T.setTop (mkF m 2 #[.val (.ref a1), .val (.int j), .val (.int nn), .val (.int bb), .val (.double x5), .second, .val (.int p6), .unset, .unset] [(.int nn), (.int j)])) _
  refine Go.by (fun tt_ kk_ => XS.icmpYes X.here hx rfl (pc0 := 2) (pc' := 7) rfl (hb hby d9_2) rfl (tlt hjn).1 (by decide) (by decide) kk_) ?_
  show Go p.tables e below (T.setTop (mkF m 7 #[.val (.ref a1), .val (.int j), .val (.int nn), .val (.int bb), .val (.double x5), .second, .val (.int p6), .unset, .unset] [])) _
  refine Go.by (fun tt_ kk_ => XS.iloadN X.here hx rfl (hb hby d9_7) rfl kk_) ?_
  show Go p.tables e below (T.setTop (mkF m 8 #[.val (.ref a1), .val (.int j), .val (.int nn), .val (.int bb), .val (.double x5), .second, .val (.int p6), .unset, .unset] [(.int j)])) _
  refine Go.by (fun tt_ kk_ => XS.iloadN X.here hx rfl (hb hby d9_8) rfl kk_) ?_
  show Go p.tables e below (T.setTop (mkF m 9 #[.val (.ref a1), .val (.int j), .val (.int nn), .val (.int bb), .val (.double x5), .second, .val (.int p6), .unset, .unset] [(.int bb), (.int j)])) _
  refine Go.by (fun tt_ kk_ => XS.icmpYes X.here hx rfl (pc0 := 9) (pc' := 21) rfl (hb hby d9_9) rfl (feq hjb).2 (by decide) (by decide) kk_) ?_
  show Go p.tables e below (T.setTop (mkF m 21 #[.val (.ref a1), .val (.int j), .val (.int nn), .val (.int bb), .val (.double x5), .second, .val (.int p6), .unset, .unset] [])) _
  refine Go.by (fun tt_ kk_ => XS.dconst0 X.here hx rfl (hb hby d9_21) (v := (0 : UInt64)) rfl kk_) ?_
  show Go p.tables e below (T.setTop (mkF m 22 #[.val (.ref a1), .val (.int j), .val (.int nn), .val (.int bb), .val (.double x5), .second, .val (.int p6), .unset, .unset] [(.double (0 : UInt64))])) _
  refine Go.by (fun tt_ kk_ => XS.dstore X.here hx rfl (hb hby d9_22) rfl (l' := #[.val (.ref a1), .val (.int j), .val (.int nn), .val (.int bb), .val (.double x5), .second, .val (.int p6), .val (.double (0 : UInt64)), .second]) rfl kk_) ?_
  show Go p.tables e below (T.setTop (mkF m 24 #[.val (.ref a1), .val (.int j), .val (.int nn), .val (.int bb), .val (.double x5), .second, .val (.int p6), .val (.double (0 : UInt64)), .second] [])) _
  refine Go.by (fun tt_ kk_ => XS.aloadN X.here hx rfl (hb hby d9_24) rfl rfl kk_) ?_
  show Go p.tables e below (T.setTop (mkF m 25 #[.val (.ref a1), .val (.int j), .val (.int nn), .val (.int bb), .val (.double x5), .second, .val (.int p6), .val (.double (0 : UInt64)), .second] [(.ref a1)])) _
  refine Go.by (fun tt_ kk_ => XS.iloadN X.here hx rfl (hb hby d9_25) rfl kk_) ?_
  show Go p.tables e below (T.setTop (mkF m 26 #[.val (.ref a1), .val (.int j), .val (.int nn), .val (.int bb), .val (.double x5), .second, .val (.int p6), .val (.double (0 : UInt64)), .second] [(.int j), (.ref a1)])) _
  have Vo_ := V_a1
  obtain ⟨cl_, Ar_, q_, S_, N_, H_, G_⟩ := Vo_
  refine Go.by (X.daload hx (j := j) (v := (.double (0 : UInt64))) (by rw [eT]; exact Ar_.1) (State.isArrayOf_alike hZ.alike Ar_.2.1) Ar_.2.2 (inb_of S_ ⟨hj0, hjn⟩) (Has.at H_ (inb_of S_ ⟨hj0, hjn⟩) hat) (g := (mkF m 26 #[.val (.ref a1), .val (.int j), .val (.int nn), .val (.int bb), .val (.double x5), .second, .val (.int p6), .val (.double (0 : UInt64)), .second] [(.int j), (.ref a1)])) rfl rfl (hb hby d9_26)) ?_
  show Go p.tables e below (T.setTop (mkF m 27 #[.val (.ref a1), .val (.int j), .val (.int nn), .val (.int bb), .val (.double x5), .second, .val (.int p6), .val (.double (0 : UInt64)), .second] [(.double (0 : UInt64))])) _
  refine Go.by (fun tt_ kk_ => XS.dload X.here hx rfl (hb hby d9_27) rfl kk_) ?_
  show Go p.tables e below (T.setTop (mkF m 29 #[.val (.ref a1), .val (.int j), .val (.int nn), .val (.int bb), .val (.double x5), .second, .val (.int p6), .val (.double (0 : UInt64)), .second] [(.double (0 : UInt64)), (.double (0 : UInt64))])) _
  refine Go.by (fun tt_ kk_ => XS.dcmpS X.here hx rfl (hb hby d9_29) rfl (show cmpValue (FP.dcmp (0 : UInt64) (0 : UInt64)) .l = (0 : Int32) by decide +kernel) kk_) ?_
  show Go p.tables e below (T.setTop (mkF m 30 #[.val (.ref a1), .val (.int j), .val (.int nn), .val (.int bb), .val (.double x5), .second, .val (.int p6), .val (.double (0 : UInt64)), .second] [(.int (0 : Int32))])) _
  refine Go.by (fun tt_ kk_ => XS.ifNo X.here hx rfl (hb hby d9_30) rfl ((if0 _ _).trans (teq (rfl : (0 : Int32) = (0 : Int32))).2) kk_) ?_
  show Go p.tables e below (T.setTop (mkF m 33 #[.val (.ref a1), .val (.int j), .val (.int nn), .val (.int bb), .val (.double x5), .second, .val (.int p6), .val (.double (0 : UInt64)), .second] [])) _
  refine Go.by (fun tt_ kk_ => XS.iconst X.here hx rfl (hb hby d9_33) kk_) ?_
  show Go p.tables e below (T.setTop (mkF m 34 #[.val (.ref a1), .val (.int j), .val (.int nn), .val (.int bb), .val (.double x5), .second, .val (.int p6), .val (.double (0 : UInt64)), .second] [(.int (1 : Int32))])) _
  refine Go.by (fun tt_ kk_ => XS.goto X.here hx rfl (pc0 := 34) (pc' := 38) rfl (hb hby d9_34) (by decide) (by decide) kk_) ?_
  show Go p.tables e below (T.setTop (mkF m 38 #[.val (.ref a1), .val (.int j), .val (.int nn), .val (.int bb), .val (.double x5), .second, .val (.int p6), .val (.double (0 : UInt64)), .second] [(.int (1 : Int32))])) _
  exact Go.done X  (v := some (.int (1 : Int32))) (fun h => by rw [Bd.returns] at h; cases h) Bd.notSynchronized (fun fs hr => retN X hx (z := (1 : Int32)) (t := .boolean) Bd.returns (by simp) (hb hby d9_38) hr) (by rw [eT]; exact ⟨rfl, N, rfl⟩) (by decide) (by decide)
def Q9c (Z : State) (a1 : Addr) (j : Int32) (nn : Int32) (bb : Int32) (x5 : UInt64) (p6 : Int32)  (h0 : Heap) (n0 : Nat) (v : Option Value) (h : Heap) (L : List Loc) : Prop := v = some (.int 1) ∧ Fr n0 L ∧ h = h0
set_option maxRecDepth 65536 in
set_option maxHeartbeats 40000000 in
theorem rm9c (l : Launch) (Z : State) (a0 : Array Value) (hw : ∀ d ∈ tables_1, d.before a0 Z = true) (ws : List Jvm.Cond) (a1 : Addr) (j : Int32) (nn : Int32) (bb : Int32) (x5 : UInt64) (p6 : Int32)  (h0 : Heap) (n0 : Nat) (Z0 : n0 ≤ h0.size) (hjn : ¬ j < nn) :
    MetFree l (⟨"com/example/pareto_helm/paretohelm/engine/BudgetBestCornerPinLaw", "check", "([DIIIDI)Z"⟩ : MethodName) (head1 (Jvm.Cond.code (⟨"com/example/pareto_helm/paretohelm/engine/BudgetBestCornerPinLaw", "check", "([DIIIDI)Z"⟩ : MethodName) method_3_code 9 (some .boolean) :: ws) ({ frames := 0, cells := 0, slots := 0, locals := 0 } : Room)) (fun a U => a = #[(.ref a1), (.int j), (.int nn), (.int bb), (.double x5), (.int p6)] ∧ Z.Warmed39 U.vm ∧ U.heap = h0) (fun _ _ _ _ _ => True) (fun _ U o U' => ∃ v L, o = .returned v ∧ Q9c Z a1 j nn bb x5 p6 h0 n0 v U'.heap L ∧ FrameEnd U o U' L ({ frames := 0, cells := 0, slots := 0, locals := 0 } : Room).cells ({ frames := 0, cells := 0, slots := 0, locals := 0 } : Room).slots) := by
  refine MetFree.of_bodySF (plainFor_of_name pn_3) hisR ?_
  intro p e s m args below meth c s₁ Bd hml0 hP hK
  obtain ⟨rfl, hZ, hh⟩ := hP
  have hx := Bd.exec
  have hby := Bd.bytes
  have hml : c.maxLocals = 9 := hml0
  have hown : s.vm.findClass "com/example/pareto_helm/paretohelm/engine/BudgetBestCornerPinLaw" = some m.cls := findClass_of_methodNamed Bd.named
  have hnm := (name_of_methodNamed Bd.named Bd.method).1
  have X : Stand p l e ({ frames := 0, cells := 0, slots := 0, locals := 0 } : Room) s m #[(.ref a1), (.int j), (.int nn), (.int bb), (.double x5), (.int p6)] below meth c s₁ [] 0 0 := Stand.of_body Bd
  have eT : s₁.heap = h0 := by rw [← hh, Bd.state]; rfl
  have N := Fr.nil n0
  have K := Keep.refl h0 []
  refine Go.out ?_
  obtain ⟨T, eTT⟩ : ∃ z, z = s₁ := ⟨_, rfl⟩
  rw [← eTT] at X eT ⊢
  refine Go.by (fun tt_ kk_ => castTop (ef_9 m a1 j nn bb x5 p6) kk_) ?_
  show Go p.tables e below (T.setTop (mkF m 0 #[.val (.ref a1), .val (.int j), .val (.int nn), .val (.int bb), .val (.double x5), .second, .val (.int p6), .unset, .unset] [])) _
  refine Go.by (fun tt_ kk_ => XS.iloadN X.here hx rfl (hb hby d9_0) rfl kk_) ?_
  show Go p.tables e below (T.setTop (mkF m 1 #[.val (.ref a1), .val (.int j), .val (.int nn), .val (.int bb), .val (.double x5), .second, .val (.int p6), .unset, .unset] [(.int j)])) _
  refine Go.by (fun tt_ kk_ => XS.iloadN X.here hx rfl (hb hby d9_1) rfl kk_) ?_
  show Go p.tables e below (T.setTop (mkF m 2 #[.val (.ref a1), .val (.int j), .val (.int nn), .val (.int bb), .val (.double x5), .second, .val (.int p6), .unset, .unset] [(.int nn), (.int j)])) _
  refine Go.by (fun tt_ kk_ => XS.icmpNo X.here hx rfl (hb hby d9_2) rfl (flt hjn).1 kk_) ?_
  show Go p.tables e below (T.setTop (mkF m 5 #[.val (.ref a1), .val (.int j), .val (.int nn), .val (.int bb), .val (.double x5), .second, .val (.int p6), .unset, .unset] [])) _
  refine Go.by (fun tt_ kk_ => XS.iconst X.here hx rfl (hb hby d9_5) kk_) ?_
  show Go p.tables e below (T.setTop (mkF m 6 #[.val (.ref a1), .val (.int j), .val (.int nn), .val (.int bb), .val (.double x5), .second, .val (.int p6), .unset, .unset] [(.int (1 : Int32))])) _
  exact Go.done X  (v := some (.int (1 : Int32))) (fun h => by rw [Bd.returns] at h; cases h) Bd.notSynchronized (fun fs hr => retN X hx (z := (1 : Int32)) (t := .boolean) Bd.returns (by simp) (hb hby d9_6) hr) (by rw [eT]; exact ⟨rfl, N, rfl⟩) (by decide) (by decide)
theorem pd_3 : parseMethodDescriptor "([DD)V" = some ⟨[(.array .double), .double], none⟩ := by decide +kernel
theorem pd_4 : parseMethodDescriptor "([D)[D" = some ⟨[(.array .double)], some (.array .double)⟩ := by decide +kernel
theorem pd_5 : parseMethodDescriptor "([DIIIDI)Z" = some ⟨[(.array .double), .int, .int, .int, .double, .int], some .boolean⟩ := by decide +kernel
theorem pd_6 : parseMethodDescriptor "(JJJJ)Z" = some ⟨[.long, .long, .long, .long], some .boolean⟩ := by decide +kernel
theorem ef_0 (m : MethodId) (x0 : Int32) (x1 : Int32) (x2 : Int32) (x3 : Int32) (x4 : Int64) (x5 : Int32) : entryFrame m #[(.int x0), (.int x1), (.int x2), (.int x3), (.long x4), (.int x5)] maxLocals = mkF m 0 #[.val (.int x0), .val (.int x1), .val (.int x2), .val (.int x3), .val (.long x4), .second, .val (.int x5), .unset, .unset, .unset, .unset, .unset, .unset, .unset, .unset, .unset, .unset, .unset, .unset, .unset, .unset, .unset, .unset] [] := by first | (simp [entryFrame, mkF, argsToLocals, Value.category, maxLocals]; done) | rfl
def Q0 (Z : State) (p0 : Int32) (p1 : Int32) (p2 : Int32) (p3 : Int32) (q4 : Int64) (p5 : Int32)  (h0 : Heap) (n0 : Nat) (v : Option Value) (h : Heap) (L : List Loc) : Prop := v = some (.int 1) ∧ Fr n0 L
set_option maxRecDepth 65536 in
set_option maxHeartbeats 40000000 in
theorem rm0 (l : Launch) (Z : State) (a0 : Array Value) (hw : ∀ d ∈ tables_1, d.before a0 Z = true) (ws : List Jvm.Cond) (p0 : Int32) (p1 : Int32) (p2 : Int32) (p3 : Int32) (q4 : Int64) (p5 : Int32)  (h0 : Heap) (n0 : Nat) (Z0 : n0 ≤ h0.size)  :
    MetFree l x (head1 (Jvm.Cond.code x code maxLocals ret :: ws) room_1) (fun a U => a = #[(.int p0), (.int p1), (.int p2), (.int p3), (.long q4), (.int p5)] ∧ Z.Warmed39 U.vm ∧ U.heap = h0) (fun _ _ _ _ _ => True) (fun _ U o U' => ∃ v L, o = .returned v ∧ Q0 Z p0 p1 p2 p3 q4 p5 h0 n0 v U'.heap L ∧ ReturnedEndW U o U' L 24 1152) := by
  refine MetFree.of_bodySF (plainFor_of_name pn_3) hisR ?_
  intro p e s m args below meth c s₁ Bd hml0 hP hK
  obtain ⟨rfl, hZ, hh⟩ := hP
  have hx := Bd.exec
  have hby := Bd.bytes
  have hml : c.maxLocals = 23 := hml0
  have hown : s.vm.findClass "com/example/pareto_helm/paretohelm/engine/BudgetBestCornerPinLaw" = some m.cls := findClass_of_methodNamed Bd.named
  have hnm := (name_of_methodNamed Bd.named Bd.method).1
  have X : Stand p l e room_1 s m #[(.int p0), (.int p1), (.int p2), (.int p3), (.long q4), (.int p5)] below meth c s₁ [] 0 0 := Stand.of_body Bd
  have eT : s₁.heap = h0 := by rw [← hh, Bd.state]; rfl
  have N := Fr.nil n0
  have K := Keep.refl h0 []
  have X : Stand p l e room_1 (s.setVm s.vm) m #[(.int p0), (.int p1), (.int p2), (.int p3), (.long q4), (.int p5)] below meth c s₁ [] 0 0 := X
  have hS : s.Since s.vm h0.size := (State.WarmedH.refl s).since _
  have hk : h0.size ≤ h0.size := Nat.le_refl _
  have hZ : Z.Warmed39 (s.setVm s.vm).vm := hZ
  have hown : (s.setVm s.vm).vm.findClass "com/example/pareto_helm/paretohelm/engine/BudgetBestCornerPinLaw" = some m.cls := hown
  have wS : ∀ a ∈ Bundle.stringAtoms, a.before a0 Z = true := fun a ha => by
    simp only [Bundle.stringAtoms, List.mem_cons, List.not_mem_nil, or_false] at ha
    rcases ha with rfl | rfl | rfl | rfl | rfl | rfl | rfl
    · exact (hw _ (List.mem_of_getElem? (i := 13) rfl))
    · exact (hw _ (List.mem_of_getElem? (i := 14) rfl))
    · exact (hw _ (List.mem_of_getElem? (i := 15) rfl))
    · exact (hw _ (List.mem_of_getElem? (i := 16) rfl))
    · exact (hw _ (List.mem_of_getElem? (i := 17) rfl))
    · exact (hw _ (List.mem_of_getElem? (i := 18) rfl))
    · exact (hw _ (List.mem_of_getElem? (i := 19) rfl))
  refine Go.out ?_
  obtain ⟨T, eTT⟩ : ∃ z, z = s₁ := ⟨_, rfl⟩
  rw [← eTT] at X eT ⊢
  refine Go.by (fun tt_ kk_ => castTop (ef_0 m p0 p1 p2 p3 q4 p5) kk_) ?_
  show Go p.tables e below (T.setTop (mkF m 0 #[.val (.int p0), .val (.int p1), .val (.int p2), .val (.int p3), .val (.long q4), .second, .val (.int p5), .unset, .unset, .unset, .unset, .unset, .unset, .unset, .unset, .unset, .unset, .unset, .unset, .unset, .unset, .unset, .unset] [])) _
  refine Go.by (fun tt_ kk_ => XS.iconst X.here hx rfl (hb hby at_0) kk_) ?_
  show Go p.tables e below (T.setTop (mkF m 1 #[.val (.int p0), .val (.int p1), .val (.int p2), .val (.int p3), .val (.long q4), .second, .val (.int p5), .unset, .unset, .unset, .unset, .unset, .unset, .unset, .unset, .unset, .unset, .unset, .unset, .unset, .unset, .unset, .unset] [(.int (1 : Int32))])) _
  refine Go.by (fun tt_ kk_ => XS.iload X.here hx rfl (hb hby at_1) rfl kk_) ?_
  show Go p.tables e below (T.setTop (mkF m 3 #[.val (.int p0), .val (.int p1), .val (.int p2), .val (.int p3), .val (.long q4), .second, .val (.int p5), .unset, .unset, .unset, .unset, .unset, .unset, .unset, .unset, .unset, .unset, .unset, .unset, .unset, .unset, .unset, .unset] [(.int p5), (.int (1 : Int32))])) _
  refine Go.by (X.ldcInt hx hown (mvT hZ (hw _ (List.mem_of_getElem? (i := 0) rfl))) (g := (mkF m 3 #[.val (.int p0), .val (.int p1), .val (.int p2), .val (.int p3), .val (.long q4), .second, .val (.int p5), .unset, .unset, .unset, .unset, .unset, .unset, .unset, .unset, .unset, .unset, .unset, .unset, .unset, .unset, .unset, .unset] [(.int p5), (.int (1 : Int32))])) rfl (hb hby at_3)) ?_
  show Go p.tables e below (T.setTop (mkF m 5 #[.val (.int p0), .val (.int p1), .val (.int p2), .val (.int p3), .val (.long q4), .second, .val (.int p5), .unset, .unset, .unset, .unset, .unset, .unset, .unset, .unset, .unset, .unset, .unset, .unset, .unset, .unset, .unset, .unset] [(.int (2147483647 : Int32)), (.int p5), (.int (1 : Int32))])) _
  refine Go.by (fun tt_ kk_ => XS.iand X.here hx rfl (hb hby at_5) rfl kk_) ?_
  show Go p.tables e below (T.setTop (mkF m 6 #[.val (.int p0), .val (.int p1), .val (.int p2), .val (.int p3), .val (.long q4), .second, .val (.int p5), .unset, .unset, .unset, .unset, .unset, .unset, .unset, .unset, .unset, .unset, .unset, .unset, .unset, .unset, .unset, .unset] [(.int (p5 &&& (2147483647 : Int32))), (.int (1 : Int32))])) _
  refine Go.by (fun tt_ kk_ => XS.iconst X.here hx rfl (hb hby at_6) kk_) ?_
  show Go p.tables e below (T.setTop (mkF m 7 #[.val (.int p0), .val (.int p1), .val (.int p2), .val (.int p3), .val (.long q4), .second, .val (.int p5), .unset, .unset, .unset, .unset, .unset, .unset, .unset, .unset, .unset, .unset, .unset, .unset, .unset, .unset, .unset, .unset] [(.int (3 : Int32)), (.int (p5 &&& (2147483647 : Int32))), (.int (1 : Int32))])) _
  refine Go.by (fun tt_ kk_ => iremM X hx rfl (hb hby at_7) rfl (by decide) kk_) ?_
  show Go p.tables e below (T.setTop (mkF m 8 #[.val (.int p0), .val (.int p1), .val (.int p2), .val (.int p3), .val (.long q4), .second, .val (.int p5), .unset, .unset, .unset, .unset, .unset, .unset, .unset, .unset, .unset, .unset, .unset, .unset, .unset, .unset, .unset, .unset] [(.int ((p5 &&& (2147483647 : Int32)) % (3 : Int32))), (.int (1 : Int32))])) _
  refine Go.by (fun tt_ kk_ => XS.iadd X.here hx rfl (hb hby at_8) rfl kk_) ?_
  show Go p.tables e below (T.setTop (mkF m 9 #[.val (.int p0), .val (.int p1), .val (.int p2), .val (.int p3), .val (.long q4), .second, .val (.int p5), .unset, .unset, .unset, .unset, .unset, .unset, .unset, .unset, .unset, .unset, .unset, .unset, .unset, .unset, .unset, .unset] [(.int ((1 : Int32) + ((p5 &&& (2147483647 : Int32)) % (3 : Int32))))])) _
  have hcs := own_n3 p5
  rcases hcs with hcs | hcs | hcs
  · rw [hcs]
    show Go p.tables e below (T.setTop (mkF m 9 #[.val (.int p0), .val (.int p1), .val (.int p2), .val (.int p3), .val (.long q4), .second, .val (.int p5), .unset, .unset, .unset, .unset, .unset, .unset, .unset, .unset, .unset, .unset, .unset, .unset, .unset, .unset, .unset, .unset] [(.int (1 : Int32))])) _
    refine Go.by (fun tt_ kk_ => XS.istore X.here hx rfl (hb hby at_9) rfl (l' := #[.val (.int p0), .val (.int p1), .val (.int p2), .val (.int p3), .val (.long q4), .second, .val (.int p5), .val (.int (1 : Int32)), .unset, .unset, .unset, .unset, .unset, .unset, .unset, .unset, .unset, .unset, .unset, .unset, .unset, .unset, .unset]) rfl kk_) ?_
    show Go p.tables e below (T.setTop (mkF m 11 #[.val (.int p0), .val (.int p1), .val (.int p2), .val (.int p3), .val (.long q4), .second, .val (.int p5), .val (.int (1 : Int32)), .unset, .unset, .unset, .unset, .unset, .unset, .unset, .unset, .unset, .unset, .unset, .unset, .unset, .unset, .unset] [])) _
    refine Go.by (fun tt_ kk_ => XS.iconst X.here hx rfl (hb hby at_11) kk_) ?_
    show Go p.tables e below (T.setTop (mkF m 12 #[.val (.int p0), .val (.int p1), .val (.int p2), .val (.int p3), .val (.long q4), .second, .val (.int p5), .val (.int (1 : Int32)), .unset, .unset, .unset, .unset, .unset, .unset, .unset, .unset, .unset, .unset, .unset, .unset, .unset, .unset, .unset] [(.int (1 : Int32))])) _
    refine Go.by (fun tt_ kk_ => XS.iloadN X.here hx rfl (hb hby at_12) rfl kk_) ?_
    show Go p.tables e below (T.setTop (mkF m 13 #[.val (.int p0), .val (.int p1), .val (.int p2), .val (.int p3), .val (.long q4), .second, .val (.int p5), .val (.int (1 : Int32)), .unset, .unset, .unset, .unset, .unset, .unset, .unset, .unset, .unset, .unset, .unset, .unset, .unset, .unset, .unset] [(.int p0), (.int (1 : Int32))])) _
    refine Go.by (fun tt_ kk_ => XS.sipush X.here hx rfl (hb hby at_13) kk_) ?_
    show Go p.tables e below (T.setTop (mkF m 16 #[.val (.int p0), .val (.int p1), .val (.int p2), .val (.int p3), .val (.long q4), .second, .val (.int p5), .val (.int (1 : Int32)), .unset, .unset, .unset, .unset, .unset, .unset, .unset, .unset, .unset, .unset, .unset, .unset, .unset, .unset, .unset] [(.int (1023 : Int32)), (.int p0), (.int (1 : Int32))])) _
    refine Go.by (fun tt_ kk_ => XS.iand X.here hx rfl (hb hby at_16) rfl kk_) ?_
    show Go p.tables e below (T.setTop (mkF m 17 #[.val (.int p0), .val (.int p1), .val (.int p2), .val (.int p3), .val (.long q4), .second, .val (.int p5), .val (.int (1 : Int32)), .unset, .unset, .unset, .unset, .unset, .unset, .unset, .unset, .unset, .unset, .unset, .unset, .unset, .unset, .unset] [(.int (p0 &&& (1023 : Int32))), (.int (1 : Int32))])) _
    refine Go.by (fun tt_ kk_ => XS.iadd X.here hx rfl (hb hby at_17) rfl kk_) ?_
    show Go p.tables e below (T.setTop (mkF m 18 #[.val (.int p0), .val (.int p1), .val (.int p2), .val (.int p3), .val (.long q4), .second, .val (.int p5), .val (.int (1 : Int32)), .unset, .unset, .unset, .unset, .unset, .unset, .unset, .unset, .unset, .unset, .unset, .unset, .unset, .unset, .unset] [(.int ((1 : Int32) + (p0 &&& (1023 : Int32))))])) _
    obtain ⟨c0, e_c0⟩ : ∃ z, z = ((1 : Int32) + (p0 &&& (1023 : Int32))) := ⟨_, rfl⟩
    rw [← e_c0]
    show Go p.tables e below (T.setTop (mkF m 18 #[.val (.int p0), .val (.int p1), .val (.int p2), .val (.int p3), .val (.long q4), .second, .val (.int p5), .val (.int (1 : Int32)), .unset, .unset, .unset, .unset, .unset, .unset, .unset, .unset, .unset, .unset, .unset, .unset, .unset, .unset, .unset] [(.int c0)])) _
    have b_c0 : 1 ≤ c0.toInt ∧ c0.toInt ≤ 1024 := by
      have q := own_and (x := p0) (k := 1023) (K := 1023) (by decide) (by decide)
      have h1 : (1 : Int32).toInt = 1 := by decide
      rw [e_c0, own_add32 (by rw [h1]; omega) (by rw [h1]; omega), h1]; omega
    refine Go.by (fun tt_ kk_ => XS.istore X.here hx rfl (hb hby at_18) rfl (l' := #[.val (.int p0), .val (.int p1), .val (.int p2), .val (.int p3), .val (.long q4), .second, .val (.int p5), .val (.int (1 : Int32)), .val (.int c0), .unset, .unset, .unset, .unset, .unset, .unset, .unset, .unset, .unset, .unset, .unset, .unset, .unset, .unset]) rfl kk_) ?_
    show Go p.tables e below (T.setTop (mkF m 20 #[.val (.int p0), .val (.int p1), .val (.int p2), .val (.int p3), .val (.long q4), .second, .val (.int p5), .val (.int (1 : Int32)), .val (.int c0), .unset, .unset, .unset, .unset, .unset, .unset, .unset, .unset, .unset, .unset, .unset, .unset, .unset, .unset] [])) _
    refine Go.by (fun tt_ kk_ => XS.iconst X.here hx rfl (hb hby at_20) kk_) ?_
    show Go p.tables e below (T.setTop (mkF m 21 #[.val (.int p0), .val (.int p1), .val (.int p2), .val (.int p3), .val (.long q4), .second, .val (.int p5), .val (.int (1 : Int32)), .val (.int c0), .unset, .unset, .unset, .unset, .unset, .unset, .unset, .unset, .unset, .unset, .unset, .unset, .unset, .unset] [(.int (1 : Int32))])) _
    refine Go.by (fun tt_ kk_ => XS.iloadN X.here hx rfl (hb hby at_21) rfl kk_) ?_
    show Go p.tables e below (T.setTop (mkF m 22 #[.val (.int p0), .val (.int p1), .val (.int p2), .val (.int p3), .val (.long q4), .second, .val (.int p5), .val (.int (1 : Int32)), .val (.int c0), .unset, .unset, .unset, .unset, .unset, .unset, .unset, .unset, .unset, .unset, .unset, .unset, .unset, .unset] [(.int p0), (.int (1 : Int32))])) _
    refine Go.by (fun tt_ kk_ => XS.bipush X.here hx rfl (hb hby at_22) kk_) ?_
    show Go p.tables e below (T.setTop (mkF m 24 #[.val (.int p0), .val (.int p1), .val (.int p2), .val (.int p3), .val (.long q4), .second, .val (.int p5), .val (.int (1 : Int32)), .val (.int c0), .unset, .unset, .unset, .unset, .unset, .unset, .unset, .unset, .unset, .unset, .unset, .unset, .unset, .unset] [(.int (10 : Int32)), (.int p0), (.int (1 : Int32))])) _
    refine Go.by (fun tt_ kk_ => XS.iushr X.here hx rfl (hb hby at_24) rfl kk_) ?_
    show Go p.tables e below (T.setTop (mkF m 25 #[.val (.int p0), .val (.int p1), .val (.int p2), .val (.int p3), .val (.long q4), .second, .val (.int p5), .val (.int (1 : Int32)), .val (.int c0), .unset, .unset, .unset, .unset, .unset, .unset, .unset, .unset, .unset, .unset, .unset, .unset, .unset, .unset] [(.int ((p0.toUInt32 >>> ((10 : Int32) &&& 31).toUInt32).toInt32)), (.int (1 : Int32))])) _
    refine Go.by (fun tt_ kk_ => XS.sipush X.here hx rfl (hb hby at_25) kk_) ?_
    show Go p.tables e below (T.setTop (mkF m 28 #[.val (.int p0), .val (.int p1), .val (.int p2), .val (.int p3), .val (.long q4), .second, .val (.int p5), .val (.int (1 : Int32)), .val (.int c0), .unset, .unset, .unset, .unset, .unset, .unset, .unset, .unset, .unset, .unset, .unset, .unset, .unset, .unset] [(.int (1023 : Int32)), (.int ((p0.toUInt32 >>> ((10 : Int32) &&& 31).toUInt32).toInt32)), (.int (1 : Int32))])) _
    refine Go.by (fun tt_ kk_ => XS.iand X.here hx rfl (hb hby at_28) rfl kk_) ?_
    show Go p.tables e below (T.setTop (mkF m 29 #[.val (.int p0), .val (.int p1), .val (.int p2), .val (.int p3), .val (.long q4), .second, .val (.int p5), .val (.int (1 : Int32)), .val (.int c0), .unset, .unset, .unset, .unset, .unset, .unset, .unset, .unset, .unset, .unset, .unset, .unset, .unset, .unset] [(.int (((p0.toUInt32 >>> ((10 : Int32) &&& 31).toUInt32).toInt32) &&& (1023 : Int32))), (.int (1 : Int32))])) _
    refine Go.by (fun tt_ kk_ => XS.iadd X.here hx rfl (hb hby at_29) rfl kk_) ?_
    show Go p.tables e below (T.setTop (mkF m 30 #[.val (.int p0), .val (.int p1), .val (.int p2), .val (.int p3), .val (.long q4), .second, .val (.int p5), .val (.int (1 : Int32)), .val (.int c0), .unset, .unset, .unset, .unset, .unset, .unset, .unset, .unset, .unset, .unset, .unset, .unset, .unset, .unset] [(.int ((1 : Int32) + (((p0.toUInt32 >>> ((10 : Int32) &&& 31).toUInt32).toInt32) &&& (1023 : Int32))))])) _
    obtain ⟨c1, e_c1⟩ : ∃ z, z = ((1 : Int32) + (((p0.toUInt32 >>> ((10 : Int32) &&& 31).toUInt32).toInt32) &&& (1023 : Int32))) := ⟨_, rfl⟩
    rw [← e_c1]
    show Go p.tables e below (T.setTop (mkF m 30 #[.val (.int p0), .val (.int p1), .val (.int p2), .val (.int p3), .val (.long q4), .second, .val (.int p5), .val (.int (1 : Int32)), .val (.int c0), .unset, .unset, .unset, .unset, .unset, .unset, .unset, .unset, .unset, .unset, .unset, .unset, .unset, .unset] [(.int c1)])) _
    have b_c1 : 1 ≤ c1.toInt ∧ c1.toInt ≤ 1024 := by
      have q := own_and (x := ((p0.toUInt32 >>> ((10 : Int32) &&& 31).toUInt32).toInt32)) (k := 1023) (K := 1023) (by decide) (by decide)
      have h1 : (1 : Int32).toInt = 1 := by decide
      rw [e_c1, own_add32 (by rw [h1]; omega) (by rw [h1]; omega), h1]; omega
    refine Go.by (fun tt_ kk_ => XS.istore X.here hx rfl (hb hby at_30) rfl (l' := #[.val (.int p0), .val (.int p1), .val (.int p2), .val (.int p3), .val (.long q4), .second, .val (.int p5), .val (.int (1 : Int32)), .val (.int c0), .val (.int c1), .unset, .unset, .unset, .unset, .unset, .unset, .unset, .unset, .unset, .unset, .unset, .unset, .unset]) rfl kk_) ?_
    show Go p.tables e below (T.setTop (mkF m 32 #[.val (.int p0), .val (.int p1), .val (.int p2), .val (.int p3), .val (.long q4), .second, .val (.int p5), .val (.int (1 : Int32)), .val (.int c0), .val (.int c1), .unset, .unset, .unset, .unset, .unset, .unset, .unset, .unset, .unset, .unset, .unset, .unset, .unset] [])) _
    refine Go.by (fun tt_ kk_ => XS.iconst X.here hx rfl (hb hby at_32) kk_) ?_
    show Go p.tables e below (T.setTop (mkF m 33 #[.val (.int p0), .val (.int p1), .val (.int p2), .val (.int p3), .val (.long q4), .second, .val (.int p5), .val (.int (1 : Int32)), .val (.int c0), .val (.int c1), .unset, .unset, .unset, .unset, .unset, .unset, .unset, .unset, .unset, .unset, .unset, .unset, .unset] [(.int (1 : Int32))])) _
    refine Go.by (fun tt_ kk_ => XS.iloadN X.here hx rfl (hb hby at_33) rfl kk_) ?_
    show Go p.tables e below (T.setTop (mkF m 34 #[.val (.int p0), .val (.int p1), .val (.int p2), .val (.int p3), .val (.long q4), .second, .val (.int p5), .val (.int (1 : Int32)), .val (.int c0), .val (.int c1), .unset, .unset, .unset, .unset, .unset, .unset, .unset, .unset, .unset, .unset, .unset, .unset, .unset] [(.int p0), (.int (1 : Int32))])) _
    refine Go.by (fun tt_ kk_ => XS.bipush X.here hx rfl (hb hby at_34) kk_) ?_
    show Go p.tables e below (T.setTop (mkF m 36 #[.val (.int p0), .val (.int p1), .val (.int p2), .val (.int p3), .val (.long q4), .second, .val (.int p5), .val (.int (1 : Int32)), .val (.int c0), .val (.int c1), .unset, .unset, .unset, .unset, .unset, .unset, .unset, .unset, .unset, .unset, .unset, .unset, .unset] [(.int (20 : Int32)), (.int p0), (.int (1 : Int32))])) _
    refine Go.by (fun tt_ kk_ => XS.iushr X.here hx rfl (hb hby at_36) rfl kk_) ?_
    show Go p.tables e below (T.setTop (mkF m 37 #[.val (.int p0), .val (.int p1), .val (.int p2), .val (.int p3), .val (.long q4), .second, .val (.int p5), .val (.int (1 : Int32)), .val (.int c0), .val (.int c1), .unset, .unset, .unset, .unset, .unset, .unset, .unset, .unset, .unset, .unset, .unset, .unset, .unset] [(.int ((p0.toUInt32 >>> ((20 : Int32) &&& 31).toUInt32).toInt32)), (.int (1 : Int32))])) _
    refine Go.by (fun tt_ kk_ => XS.sipush X.here hx rfl (hb hby at_37) kk_) ?_
    show Go p.tables e below (T.setTop (mkF m 40 #[.val (.int p0), .val (.int p1), .val (.int p2), .val (.int p3), .val (.long q4), .second, .val (.int p5), .val (.int (1 : Int32)), .val (.int c0), .val (.int c1), .unset, .unset, .unset, .unset, .unset, .unset, .unset, .unset, .unset, .unset, .unset, .unset, .unset] [(.int (1023 : Int32)), (.int ((p0.toUInt32 >>> ((20 : Int32) &&& 31).toUInt32).toInt32)), (.int (1 : Int32))])) _
    refine Go.by (fun tt_ kk_ => XS.iand X.here hx rfl (hb hby at_40) rfl kk_) ?_
    show Go p.tables e below (T.setTop (mkF m 41 #[.val (.int p0), .val (.int p1), .val (.int p2), .val (.int p3), .val (.long q4), .second, .val (.int p5), .val (.int (1 : Int32)), .val (.int c0), .val (.int c1), .unset, .unset, .unset, .unset, .unset, .unset, .unset, .unset, .unset, .unset, .unset, .unset, .unset] [(.int (((p0.toUInt32 >>> ((20 : Int32) &&& 31).toUInt32).toInt32) &&& (1023 : Int32))), (.int (1 : Int32))])) _
    refine Go.by (fun tt_ kk_ => XS.iadd X.here hx rfl (hb hby at_41) rfl kk_) ?_
    show Go p.tables e below (T.setTop (mkF m 42 #[.val (.int p0), .val (.int p1), .val (.int p2), .val (.int p3), .val (.long q4), .second, .val (.int p5), .val (.int (1 : Int32)), .val (.int c0), .val (.int c1), .unset, .unset, .unset, .unset, .unset, .unset, .unset, .unset, .unset, .unset, .unset, .unset, .unset] [(.int ((1 : Int32) + (((p0.toUInt32 >>> ((20 : Int32) &&& 31).toUInt32).toInt32) &&& (1023 : Int32))))])) _
    obtain ⟨c2, e_c2⟩ : ∃ z, z = ((1 : Int32) + (((p0.toUInt32 >>> ((20 : Int32) &&& 31).toUInt32).toInt32) &&& (1023 : Int32))) := ⟨_, rfl⟩
    rw [← e_c2]
    show Go p.tables e below (T.setTop (mkF m 42 #[.val (.int p0), .val (.int p1), .val (.int p2), .val (.int p3), .val (.long q4), .second, .val (.int p5), .val (.int (1 : Int32)), .val (.int c0), .val (.int c1), .unset, .unset, .unset, .unset, .unset, .unset, .unset, .unset, .unset, .unset, .unset, .unset, .unset] [(.int c2)])) _
    have b_c2 : 1 ≤ c2.toInt ∧ c2.toInt ≤ 1024 := by
      have q := own_and (x := ((p0.toUInt32 >>> ((20 : Int32) &&& 31).toUInt32).toInt32)) (k := 1023) (K := 1023) (by decide) (by decide)
      have h1 : (1 : Int32).toInt = 1 := by decide
      rw [e_c2, own_add32 (by rw [h1]; omega) (by rw [h1]; omega), h1]; omega
    refine Go.by (fun tt_ kk_ => XS.istore X.here hx rfl (hb hby at_42) rfl (l' := #[.val (.int p0), .val (.int p1), .val (.int p2), .val (.int p3), .val (.long q4), .second, .val (.int p5), .val (.int (1 : Int32)), .val (.int c0), .val (.int c1), .val (.int c2), .unset, .unset, .unset, .unset, .unset, .unset, .unset, .unset, .unset, .unset, .unset, .unset]) rfl kk_) ?_
    show Go p.tables e below (T.setTop (mkF m 44 #[.val (.int p0), .val (.int p1), .val (.int p2), .val (.int p3), .val (.long q4), .second, .val (.int p5), .val (.int (1 : Int32)), .val (.int c0), .val (.int c1), .val (.int c2), .unset, .unset, .unset, .unset, .unset, .unset, .unset, .unset, .unset, .unset, .unset, .unset] [])) _
    refine Go.by (fun tt_ kk_ => XS.lconst X.here hx rfl (hb hby at_44) kk_) ?_
    show Go p.tables e below (T.setTop (mkF m 45 #[.val (.int p0), .val (.int p1), .val (.int p2), .val (.int p3), .val (.long q4), .second, .val (.int p5), .val (.int (1 : Int32)), .val (.int c0), .val (.int c1), .val (.int c2), .unset, .unset, .unset, .unset, .unset, .unset, .unset, .unset, .unset, .unset, .unset, .unset] [(.long (1 : Int64))])) _
    refine Go.by (fun tt_ kk_ => XS.lload X.here hx rfl (hb hby at_45) rfl kk_) ?_
    show Go p.tables e below (T.setTop (mkF m 47 #[.val (.int p0), .val (.int p1), .val (.int p2), .val (.int p3), .val (.long q4), .second, .val (.int p5), .val (.int (1 : Int32)), .val (.int c0), .val (.int c1), .val (.int c2), .unset, .unset, .unset, .unset, .unset, .unset, .unset, .unset, .unset, .unset, .unset, .unset] [(.long q4), (.long (1 : Int64))])) _
    refine Go.by (X.ldc2Long hx hown (mvT hZ (hw _ (List.mem_of_getElem? (i := 1) rfl))) (g := (mkF m 47 #[.val (.int p0), .val (.int p1), .val (.int p2), .val (.int p3), .val (.long q4), .second, .val (.int p5), .val (.int (1 : Int32)), .val (.int c0), .val (.int c1), .val (.int c2), .unset, .unset, .unset, .unset, .unset, .unset, .unset, .unset, .unset, .unset, .unset, .unset] [(.long q4), (.long (1 : Int64))])) rfl (hb hby at_47)) ?_
    show Go p.tables e below (T.setTop (mkF m 50 #[.val (.int p0), .val (.int p1), .val (.int p2), .val (.int p3), .val (.long q4), .second, .val (.int p5), .val (.int (1 : Int32)), .val (.int c0), .val (.int c1), .val (.int c2), .unset, .unset, .unset, .unset, .unset, .unset, .unset, .unset, .unset, .unset, .unset, .unset] [(.long (4611686018427387903 : Int64)), (.long q4), (.long (1 : Int64))])) _
    refine Go.by (fun tt_ kk_ => XS.land X.here hx rfl (hb hby at_50) rfl kk_) ?_
    show Go p.tables e below (T.setTop (mkF m 51 #[.val (.int p0), .val (.int p1), .val (.int p2), .val (.int p3), .val (.long q4), .second, .val (.int p5), .val (.int (1 : Int32)), .val (.int c0), .val (.int c1), .val (.int c2), .unset, .unset, .unset, .unset, .unset, .unset, .unset, .unset, .unset, .unset, .unset, .unset] [(.long (q4 &&& (4611686018427387903 : Int64))), (.long (1 : Int64))])) _
    refine Go.by (fun tt_ kk_ => XS.ladd X.here hx rfl (hb hby at_51) rfl kk_) ?_
    show Go p.tables e below (T.setTop (mkF m 52 #[.val (.int p0), .val (.int p1), .val (.int p2), .val (.int p3), .val (.long q4), .second, .val (.int p5), .val (.int (1 : Int32)), .val (.int c0), .val (.int c1), .val (.int c2), .unset, .unset, .unset, .unset, .unset, .unset, .unset, .unset, .unset, .unset, .unset, .unset] [(.long ((1 : Int64) + (q4 &&& (4611686018427387903 : Int64))))])) _
    obtain ⟨li, e_li⟩ : ∃ z, z = ((1 : Int64) + (q4 &&& (4611686018427387903 : Int64))) := ⟨_, rfl⟩
    rw [← e_li]
    show Go p.tables e below (T.setTop (mkF m 52 #[.val (.int p0), .val (.int p1), .val (.int p2), .val (.int p3), .val (.long q4), .second, .val (.int p5), .val (.int (1 : Int32)), .val (.int c0), .val (.int c1), .val (.int c2), .unset, .unset, .unset, .unset, .unset, .unset, .unset, .unset, .unset, .unset, .unset, .unset] [(.long li)])) _
    have b_li : 0 < li.toInt := by
      have m1 : (q4 &&& (4611686018427387903 : Int64)).toInt = q4.toInt % 2 ^ 62 := Jvm.Kit.i64_mask _ _ (by decide) (by decide)
      have h1 : (1 : Int64).toInt = 1 := by decide
      rw [e_li, FP.Core.int64_add (by rw [m1, h1]; omega) (by rw [m1, h1]; omega), m1, h1]; omega
    have b_w0 : -2147483648 ≤ p1.toInt ∧ p1.toInt ≤ 2147483648 := by have := Int32.toInt_lt p1; have := Int32.le_toInt p1; omega
    have b_w1 : -2147483648 ≤ p2.toInt ∧ p2.toInt ≤ 2147483648 := by have := Int32.toInt_lt p2; have := Int32.le_toInt p2; omega
    have b_w2 : -2147483648 ≤ p3.toInt ∧ p3.toInt ≤ 2147483648 := by have := Int32.toInt_lt p3; have := Int32.le_toInt p3; omega
    refine Go.by (fun tt_ kk_ => XS.l2dS X.here hx rfl (hb hby at_52) rfl rfl kk_) ?_
    show Go p.tables e below (T.setTop (mkF m 53 #[.val (.int p0), .val (.int p1), .val (.int p2), .val (.int p3), .val (.long q4), .second, .val (.int p5), .val (.int (1 : Int32)), .val (.int c0), .val (.int c1), .val (.int c2), .unset, .unset, .unset, .unset, .unset, .unset, .unset, .unset, .unset, .unset, .unset, .unset] [(.double (FP.l2d li))])) _
    refine Go.by (fun tt_ kk_ => XS.dstore X.here hx rfl (hb hby at_53) rfl (l' := #[.val (.int p0), .val (.int p1), .val (.int p2), .val (.int p3), .val (.long q4), .second, .val (.int p5), .val (.int (1 : Int32)), .val (.int c0), .val (.int c1), .val (.int c2), .val (.double (FP.l2d li)), .second, .unset, .unset, .unset, .unset, .unset, .unset, .unset, .unset, .unset, .unset]) rfl kk_) ?_
    show Go p.tables e below (T.setTop (mkF m 55 #[.val (.int p0), .val (.int p1), .val (.int p2), .val (.int p3), .val (.long q4), .second, .val (.int p5), .val (.int (1 : Int32)), .val (.int c0), .val (.int c1), .val (.int c2), .val (.double (FP.l2d li)), .second, .unset, .unset, .unset, .unset, .unset, .unset, .unset, .unset, .unset, .unset] [])) _
    refine Go.by (fun tt_ kk_ => XS.iload X.here hx rfl (hb hby at_55) rfl kk_) ?_
    show Go p.tables e below (T.setTop (mkF m 57 #[.val (.int p0), .val (.int p1), .val (.int p2), .val (.int p3), .val (.long q4), .second, .val (.int p5), .val (.int (1 : Int32)), .val (.int c0), .val (.int c1), .val (.int c2), .val (.double (FP.l2d li)), .second, .unset, .unset, .unset, .unset, .unset, .unset, .unset, .unset, .unset, .unset] [(.int (1 : Int32))])) _
    refine Go.by (fun tt_ kk_ => XS.iconst X.here hx rfl (hb hby at_57) kk_) ?_
    show Go p.tables e below (T.setTop (mkF m 58 #[.val (.int p0), .val (.int p1), .val (.int p2), .val (.int p3), .val (.long q4), .second, .val (.int p5), .val (.int (1 : Int32)), .val (.int c0), .val (.int c1), .val (.int c2), .val (.double (FP.l2d li)), .second, .unset, .unset, .unset, .unset, .unset, .unset, .unset, .unset, .unset, .unset] [(.int (1 : Int32)), (.int (1 : Int32))])) _
    refine Go.by (fun tt_ kk_ => XS.icmpNo X.here hx rfl (hb hby at_58) rfl (teq (rfl : (1 : Int32) = (1 : Int32))).2 kk_) ?_
    show Go p.tables e below (T.setTop (mkF m 61 #[.val (.int p0), .val (.int p1), .val (.int p2), .val (.int p3), .val (.long q4), .second, .val (.int p5), .val (.int (1 : Int32)), .val (.int c0), .val (.int c1), .val (.int c2), .val (.double (FP.l2d li)), .second, .unset, .unset, .unset, .unset, .unset, .unset, .unset, .unset, .unset, .unset] [])) _
    refine Go.by (fun tt_ kk_ => XS.iconst X.here hx rfl (hb hby at_61) kk_) ?_
    show Go p.tables e below (T.setTop (mkF m 62 #[.val (.int p0), .val (.int p1), .val (.int p2), .val (.int p3), .val (.long q4), .second, .val (.int p5), .val (.int (1 : Int32)), .val (.int c0), .val (.int c1), .val (.int c2), .val (.double (FP.l2d li)), .second, .unset, .unset, .unset, .unset, .unset, .unset, .unset, .unset, .unset, .unset] [(.int (1 : Int32))])) _
    obtain ⟨T, h1, k_b1, X, eT, E_, A_, Ea_, st⟩ := newPE X hx hZ (hw _ (List.mem_of_getElem? (i := 2) rfl)) eT (g := (mkF m 62 #[.val (.int p0), .val (.int p1), .val (.int p2), .val (.int p3), .val (.long q4), .second, .val (.int p5), .val (.int (1 : Int32)), .val (.int c0), .val (.int c1), .val (.int c2), .val (.double (FP.l2d li)), .second, .unset, .unset, .unset, .unset, .unset, .unset, .unset, .unset, .unset, .unset] [(.int (1 : Int32))])) rfl (hb hby at_62) rfl (by decide) (cap := 1) (by decide) (by decide) (by decide) (by decide) (ad := "[D") (by decide)
    obtain ⟨b1, g_b1'⟩ : ∃ z, z = h0.size := ⟨_, rfl⟩
    rw [← g_b1'] at A_ st Ea_
    have g_b1 : n0 ≤ b1 := Nat.le_trans Z0 (Nat.le_trans K.1 (Nat.le_of_eq g_b1'.symm))
    have sz_b1 : h0.size ≤ b1 := Nat.le_trans K.1 (Nat.le_of_eq g_b1'.symm)
    have K := K.ext E_
    have hk := Nat.le_trans hk E_.1
    have V_b1 := Arv.new A_ (by decide)
    have E_b1 := Ea_
    refine Go.by st ?_
    show Go p.tables e below (T.setTop (mkF m 64 #[.val (.int p0), .val (.int p1), .val (.int p2), .val (.int p3), .val (.long q4), .second, .val (.int p5), .val (.int (1 : Int32)), .val (.int c0), .val (.int c1), .val (.int c2), .val (.double (FP.l2d li)), .second, .unset, .unset, .unset, .unset, .unset, .unset, .unset, .unset, .unset, .unset] [(.ref b1)])) _
    have V_b1 : Arv Z h1 b1 k_b1 .double (1 : Int32) [(.double (0 : UInt64))] (.double (0 : UInt64)) := V_b1.pad (pad_rep [] (.double (0 : UInt64)) 1)
    refine Go.by (fun tt_ kk_ => XS.dup X.here hx rfl (hb hby at_64) rfl rfl kk_) ?_
    show Go p.tables e below (T.setTop (mkF m 65 #[.val (.int p0), .val (.int p1), .val (.int p2), .val (.int p3), .val (.long q4), .second, .val (.int p5), .val (.int (1 : Int32)), .val (.int c0), .val (.int c1), .val (.int c2), .val (.double (FP.l2d li)), .second, .unset, .unset, .unset, .unset, .unset, .unset, .unset, .unset, .unset, .unset] [(.ref b1), (.ref b1)])) _
    refine Go.by (fun tt_ kk_ => XS.iconst X.here hx rfl (hb hby at_65) kk_) ?_
    show Go p.tables e below (T.setTop (mkF m 66 #[.val (.int p0), .val (.int p1), .val (.int p2), .val (.int p3), .val (.long q4), .second, .val (.int p5), .val (.int (1 : Int32)), .val (.int c0), .val (.int c1), .val (.int c2), .val (.double (FP.l2d li)), .second, .unset, .unset, .unset, .unset, .unset, .unset, .unset, .unset, .unset, .unset] [(.int (0 : Int32)), (.ref b1), (.ref b1)])) _
    refine Go.by (fun tt_ kk_ => XS.iload X.here hx rfl (hb hby at_66) rfl kk_) ?_
    show Go p.tables e below (T.setTop (mkF m 68 #[.val (.int p0), .val (.int p1), .val (.int p2), .val (.int p3), .val (.long q4), .second, .val (.int p5), .val (.int (1 : Int32)), .val (.int c0), .val (.int c1), .val (.int c2), .val (.double (FP.l2d li)), .second, .unset, .unset, .unset, .unset, .unset, .unset, .unset, .unset, .unset, .unset] [(.int c0), (.int (0 : Int32)), (.ref b1), (.ref b1)])) _
    refine Go.by (fun tt_ kk_ => XS.i2dS X.here hx rfl (hb hby at_68) rfl rfl kk_) ?_
    show Go p.tables e below (T.setTop (mkF m 69 #[.val (.int p0), .val (.int p1), .val (.int p2), .val (.int p3), .val (.long q4), .second, .val (.int p5), .val (.int (1 : Int32)), .val (.int c0), .val (.int c1), .val (.int c2), .val (.double (FP.l2d li)), .second, .unset, .unset, .unset, .unset, .unset, .unset, .unset, .unset, .unset, .unset] [(.double (FP.i2d c0)), (.int (0 : Int32)), (.ref b1), (.ref b1)])) _
    have Vo_ := V_b1
    obtain ⟨cl_, Ar_, q_, S_, N_, H_, G_⟩ := Vo_
    obtain ⟨T, h2, X, eT, Wh2, st⟩ := stD X hx hZ eT Ar_ (j := (0 : Int32)) (inb_of S_ ⟨by decide, by decide⟩) (g := (mkF m 69 #[.val (.int p0), .val (.int p1), .val (.int p2), .val (.int p3), .val (.long q4), .second, .val (.int p5), .val (.int (1 : Int32)), .val (.int c0), .val (.int c1), .val (.int c2), .val (.double (FP.l2d li)), .second, .unset, .unset, .unset, .unset, .unset, .unset, .unset, .unset, .unset, .unset] [(.double (FP.i2d c0)), (.int (0 : Int32)), (.ref b1), (.ref b1)])) rfl rfl (hb hby at_69)
    have V_b1 := Arv.set Ar_ q_ S_ N_ H_ G_ rfl Wh2 0 rfl (Nat.le_of_ble_eq_true rfl)
    have E_b1 := Exa.wr Wh2 E_b1
    have N := Fr.snoc X N g_b1
    have K := K.wr Wh2 (Or.inr sz_b1)
    have hk := Nat.le_trans hk (Nat.le_of_eq (Wr.size Wh2).symm)
    refine Go.by st ?_
    show Go p.tables e below (T.setTop (mkF m 70 #[.val (.int p0), .val (.int p1), .val (.int p2), .val (.int p3), .val (.long q4), .second, .val (.int p5), .val (.int (1 : Int32)), .val (.int c0), .val (.int c1), .val (.int c2), .val (.double (FP.l2d li)), .second, .unset, .unset, .unset, .unset, .unset, .unset, .unset, .unset, .unset, .unset] [(.ref b1)])) _
    refine Go.by (fun tt_ kk_ => XS.astore X.here hx rfl (hb hby at_70) rfl rfl (l' := #[.val (.int p0), .val (.int p1), .val (.int p2), .val (.int p3), .val (.long q4), .second, .val (.int p5), .val (.int (1 : Int32)), .val (.int c0), .val (.int c1), .val (.int c2), .val (.double (FP.l2d li)), .second, .val (.ref b1), .unset, .unset, .unset, .unset, .unset, .unset, .unset, .unset, .unset]) rfl kk_) ?_
    show Go p.tables e below (T.setTop (mkF m 72 #[.val (.int p0), .val (.int p1), .val (.int p2), .val (.int p3), .val (.long q4), .second, .val (.int p5), .val (.int (1 : Int32)), .val (.int c0), .val (.int c1), .val (.int c2), .val (.double (FP.l2d li)), .second, .val (.ref b1), .unset, .unset, .unset, .unset, .unset, .unset, .unset, .unset, .unset] [])) _
    refine Go.by (fun tt_ kk_ => XS.iconst X.here hx rfl (hb hby at_72) kk_) ?_
    show Go p.tables e below (T.setTop (mkF m 73 #[.val (.int p0), .val (.int p1), .val (.int p2), .val (.int p3), .val (.long q4), .second, .val (.int p5), .val (.int (1 : Int32)), .val (.int c0), .val (.int c1), .val (.int c2), .val (.double (FP.l2d li)), .second, .val (.ref b1), .unset, .unset, .unset, .unset, .unset, .unset, .unset, .unset, .unset] [(.int (1 : Int32))])) _
    obtain ⟨T, h3, k_b3, X, eT, E_, A_, Ea_, st⟩ := newPE X hx hZ (hw _ (List.mem_of_getElem? (i := 2) rfl)) eT (g := (mkF m 73 #[.val (.int p0), .val (.int p1), .val (.int p2), .val (.int p3), .val (.long q4), .second, .val (.int p5), .val (.int (1 : Int32)), .val (.int c0), .val (.int c1), .val (.int c2), .val (.double (FP.l2d li)), .second, .val (.ref b1), .unset, .unset, .unset, .unset, .unset, .unset, .unset, .unset, .unset] [(.int (1 : Int32))])) rfl (hb hby at_73) rfl (by decide) (cap := 1) (by decide) (by decide) (by decide) (by decide) (ad := "[D") (by decide)
    obtain ⟨b3, g_b3'⟩ : ∃ z, z = h2.size := ⟨_, rfl⟩
    rw [← g_b3'] at A_ st Ea_
    have ne_b1_b3 : b1 ≠ b3 := Nat.ne_of_lt (Nat.lt_of_lt_of_le E_b1.lt (Nat.le_of_eq g_b3'.symm))
    have ne_b3_b1 : b3 ≠ b1 := Ne.symm ne_b1_b3
    have g_b3 : n0 ≤ b3 := Nat.le_trans Z0 (Nat.le_trans K.1 (Nat.le_of_eq g_b3'.symm))
    have sz_b3 : h0.size ≤ b3 := Nat.le_trans K.1 (Nat.le_of_eq g_b3'.symm)
    have K := K.ext E_
    have hk := Nat.le_trans hk E_.1
    have E_b1 := Exa.ext E_ E_b1
    have V_b1 := Arv.ext V_b1 E_
    have V_b3 := Arv.new A_ (by decide)
    have E_b3 := Ea_
    refine Go.by st ?_
    show Go p.tables e below (T.setTop (mkF m 75 #[.val (.int p0), .val (.int p1), .val (.int p2), .val (.int p3), .val (.long q4), .second, .val (.int p5), .val (.int (1 : Int32)), .val (.int c0), .val (.int c1), .val (.int c2), .val (.double (FP.l2d li)), .second, .val (.ref b1), .unset, .unset, .unset, .unset, .unset, .unset, .unset, .unset, .unset] [(.ref b3)])) _
    have V_b3 : Arv Z h3 b3 k_b3 .double (1 : Int32) [(.double (0 : UInt64))] (.double (0 : UInt64)) := V_b3.pad (pad_rep [] (.double (0 : UInt64)) 1)
    refine Go.by (fun tt_ kk_ => XS.dup X.here hx rfl (hb hby at_75) rfl rfl kk_) ?_
    show Go p.tables e below (T.setTop (mkF m 76 #[.val (.int p0), .val (.int p1), .val (.int p2), .val (.int p3), .val (.long q4), .second, .val (.int p5), .val (.int (1 : Int32)), .val (.int c0), .val (.int c1), .val (.int c2), .val (.double (FP.l2d li)), .second, .val (.ref b1), .unset, .unset, .unset, .unset, .unset, .unset, .unset, .unset, .unset] [(.ref b3), (.ref b3)])) _
    refine Go.by (fun tt_ kk_ => XS.iconst X.here hx rfl (hb hby at_76) kk_) ?_
    show Go p.tables e below (T.setTop (mkF m 77 #[.val (.int p0), .val (.int p1), .val (.int p2), .val (.int p3), .val (.long q4), .second, .val (.int p5), .val (.int (1 : Int32)), .val (.int c0), .val (.int c1), .val (.int c2), .val (.double (FP.l2d li)), .second, .val (.ref b1), .unset, .unset, .unset, .unset, .unset, .unset, .unset, .unset, .unset] [(.int (0 : Int32)), (.ref b3), (.ref b3)])) _
    refine Go.by (fun tt_ kk_ => XS.iloadN X.here hx rfl (hb hby at_77) rfl kk_) ?_
    show Go p.tables e below (T.setTop (mkF m 78 #[.val (.int p0), .val (.int p1), .val (.int p2), .val (.int p3), .val (.long q4), .second, .val (.int p5), .val (.int (1 : Int32)), .val (.int c0), .val (.int c1), .val (.int c2), .val (.double (FP.l2d li)), .second, .val (.ref b1), .unset, .unset, .unset, .unset, .unset, .unset, .unset, .unset, .unset] [(.int p1), (.int (0 : Int32)), (.ref b3), (.ref b3)])) _
    refine Go.by (fun tt_ kk_ => XS.i2dS X.here hx rfl (hb hby at_78) rfl rfl kk_) ?_
    show Go p.tables e below (T.setTop (mkF m 79 #[.val (.int p0), .val (.int p1), .val (.int p2), .val (.int p3), .val (.long q4), .second, .val (.int p5), .val (.int (1 : Int32)), .val (.int c0), .val (.int c1), .val (.int c2), .val (.double (FP.l2d li)), .second, .val (.ref b1), .unset, .unset, .unset, .unset, .unset, .unset, .unset, .unset, .unset] [(.double (FP.i2d p1)), (.int (0 : Int32)), (.ref b3), (.ref b3)])) _
    have Vo_ := V_b3
    obtain ⟨cl_, Ar_, q_, S_, N_, H_, G_⟩ := Vo_
    obtain ⟨T, h4, X, eT, Wh4, st⟩ := stD X hx hZ eT Ar_ (j := (0 : Int32)) (inb_of S_ ⟨by decide, by decide⟩) (g := (mkF m 79 #[.val (.int p0), .val (.int p1), .val (.int p2), .val (.int p3), .val (.long q4), .second, .val (.int p5), .val (.int (1 : Int32)), .val (.int c0), .val (.int c1), .val (.int c2), .val (.double (FP.l2d li)), .second, .val (.ref b1), .unset, .unset, .unset, .unset, .unset, .unset, .unset, .unset, .unset] [(.double (FP.i2d p1)), (.int (0 : Int32)), (.ref b3), (.ref b3)])) rfl rfl (hb hby at_79)
    have V_b3 := Arv.set Ar_ q_ S_ N_ H_ G_ rfl Wh4 0 rfl (Nat.le_of_ble_eq_true rfl)
    have E_b1 := Exa.wr Wh4 E_b1
    have V_b1 := Arv.other V_b1 Wh4 ne_b1_b3
    have E_b3 := Exa.wr Wh4 E_b3
    have N := Fr.snoc X N g_b3
    have K := K.wr Wh4 (Or.inr sz_b3)
    have hk := Nat.le_trans hk (Nat.le_of_eq (Wr.size Wh4).symm)
    refine Go.by st ?_
    show Go p.tables e below (T.setTop (mkF m 80 #[.val (.int p0), .val (.int p1), .val (.int p2), .val (.int p3), .val (.long q4), .second, .val (.int p5), .val (.int (1 : Int32)), .val (.int c0), .val (.int c1), .val (.int c2), .val (.double (FP.l2d li)), .second, .val (.ref b1), .unset, .unset, .unset, .unset, .unset, .unset, .unset, .unset, .unset] [(.ref b3)])) _
    refine Go.by (fun tt_ kk_ => XS.astore X.here hx rfl (hb hby at_80) rfl rfl (l' := #[.val (.int p0), .val (.int p1), .val (.int p2), .val (.int p3), .val (.long q4), .second, .val (.int p5), .val (.int (1 : Int32)), .val (.int c0), .val (.int c1), .val (.int c2), .val (.double (FP.l2d li)), .second, .val (.ref b1), .val (.ref b3), .unset, .unset, .unset, .unset, .unset, .unset, .unset, .unset]) rfl kk_) ?_
    show Go p.tables e below (T.setTop (mkF m 82 #[.val (.int p0), .val (.int p1), .val (.int p2), .val (.int p3), .val (.long q4), .second, .val (.int p5), .val (.int (1 : Int32)), .val (.int c0), .val (.int c1), .val (.int c2), .val (.double (FP.l2d li)), .second, .val (.ref b1), .val (.ref b3), .unset, .unset, .unset, .unset, .unset, .unset, .unset, .unset] [])) _
    refine Go.by (fun tt_ kk_ => XS.goto X.here hx rfl (pc0 := 82) (pc' := 169) rfl (hb hby at_82) (by decide) (by decide) kk_) ?_
    show Go p.tables e below (T.setTop (mkF m 169 #[.val (.int p0), .val (.int p1), .val (.int p2), .val (.int p3), .val (.long q4), .second, .val (.int p5), .val (.int (1 : Int32)), .val (.int c0), .val (.int c1), .val (.int c2), .val (.double (FP.l2d li)), .second, .val (.ref b1), .val (.ref b3), .unset, .unset, .unset, .unset, .unset, .unset, .unset, .unset] [])) _
    obtain ⟨T, h5, X, eT, E_, A_, D_, -, st⟩ := newO X hx hZ hown (hw _ (List.mem_of_getElem? (i := 3) rfl)) (hw _ (List.mem_of_getElem? (i := 4) rfl)) (hw _ (List.mem_of_getElem? (i := 5) rfl)) eT (g := (mkF m 169 #[.val (.int p0), .val (.int p1), .val (.int p2), .val (.int p3), .val (.long q4), .second, .val (.int p5), .val (.int (1 : Int32)), .val (.int c0), .val (.int c1), .val (.int c2), .val (.double (FP.l2d li)), .second, .val (.ref b1), .val (.ref b3), .unset, .unset, .unset, .unset, .unset, .unset, .unset, .unset] [])) rfl (hb hby at_169) (by decide) (by decide)
    obtain ⟨b5, g_b5'⟩ : ∃ z, z = h4.size := ⟨_, rfl⟩
    rw [← g_b5'] at A_ D_ st
    have ne_b1_b5 : b1 ≠ b5 := Nat.ne_of_lt (Nat.lt_of_lt_of_le E_b1.lt (Nat.le_of_eq g_b5'.symm))
    have ne_b5_b1 : b5 ≠ b1 := Ne.symm ne_b1_b5
    have ne_b3_b5 : b3 ≠ b5 := Nat.ne_of_lt (Nat.lt_of_lt_of_le E_b3.lt (Nat.le_of_eq g_b5'.symm))
    have ne_b5_b3 : b5 ≠ b3 := Ne.symm ne_b3_b5
    have g_b5 : n0 ≤ b5 := Nat.le_trans Z0 (Nat.le_trans K.1 (Nat.le_of_eq g_b5'.symm))
    have sz_b5 : h0.size ≤ b5 := Nat.le_trans K.1 (Nat.le_of_eq g_b5'.symm)
    have K := K.ext E_
    have hk := Nat.le_trans hk E_.1
    have E_b1 := Exa.ext E_ E_b1
    have V_b1 := Arv.ext V_b1 E_
    have E_b3 := Exa.ext E_ E_b3
    have V_b3 := Arv.ext V_b3 E_
    have E_b5 := A_
    have F_costs_b5 : Fld Z h5 b5 "com/example/pareto_helm/paretohelm/engine/Budget" "costs" "[D" .null := D_ (Or.inr (hw _ (List.mem_of_getElem? (i := 46) rfl))) (ty := (.array .double)) (by decide)
    have F_limit_b5 : Fld Z h5 b5 "com/example/pareto_helm/paretohelm/engine/Budget" "limit" "D" (.double (0 : UInt64)) := D_ (Or.inr (hw _ (List.mem_of_getElem? (i := 49) rfl))) (ty := .double) (by decide)
    refine Go.by st ?_
    show Go p.tables e below (T.setTop (mkF m 172 #[.val (.int p0), .val (.int p1), .val (.int p2), .val (.int p3), .val (.long q4), .second, .val (.int p5), .val (.int (1 : Int32)), .val (.int c0), .val (.int c1), .val (.int c2), .val (.double (FP.l2d li)), .second, .val (.ref b1), .val (.ref b3), .unset, .unset, .unset, .unset, .unset, .unset, .unset, .unset] [(.ref b5)])) _
    refine Go.by (fun tt_ kk_ => XS.dup X.here hx rfl (hb hby at_172) rfl rfl kk_) ?_
    show Go p.tables e below (T.setTop (mkF m 173 #[.val (.int p0), .val (.int p1), .val (.int p2), .val (.int p3), .val (.long q4), .second, .val (.int p5), .val (.int (1 : Int32)), .val (.int c0), .val (.int c1), .val (.int c2), .val (.double (FP.l2d li)), .second, .val (.ref b1), .val (.ref b3), .unset, .unset, .unset, .unset, .unset, .unset, .unset, .unset] [(.ref b5), (.ref b5)])) _
    refine Go.by (fun tt_ kk_ => XS.aload X.here hx rfl (hb hby at_173) rfl rfl kk_) ?_
    show Go p.tables e below (T.setTop (mkF m 175 #[.val (.int p0), .val (.int p1), .val (.int p2), .val (.int p3), .val (.long q4), .second, .val (.int p5), .val (.int (1 : Int32)), .val (.int c0), .val (.int c1), .val (.int c2), .val (.double (FP.l2d li)), .second, .val (.ref b1), .val (.ref b3), .unset, .unset, .unset, .unset, .unset, .unset, .unset, .unset] [(.ref b1), (.ref b5), (.ref b5)])) _
    refine Go.by (fun tt_ kk_ => XS.dload X.here hx rfl (hb hby at_175) rfl kk_) ?_
    show Go p.tables e below (T.setTop (mkF m 177 #[.val (.int p0), .val (.int p1), .val (.int p2), .val (.int p3), .val (.long q4), .second, .val (.int p5), .val (.int (1 : Int32)), .val (.int c0), .val (.int c1), .val (.int c2), .val (.double (FP.l2d li)), .second, .val (.ref b1), .val (.ref b3), .unset, .unset, .unset, .unset, .unset, .unset, .unset, .unset] [(.double (FP.l2d li)), (.ref b1), (.ref b5), (.ref b5)])) _
    have hk0 := hk
    rw [← eT] at hk0
    obtain ⟨_, _, ⟨T, L_, k_, n_⟩, -, X, h2_, gr_, ⟨Lc_, hQ, l_, y_, z_⟩, st⟩ := Jvm.OwnHand.own_specialSH X hx (y := (⟨"com/example/pareto_helm/paretohelm/engine/Budget", "<init>", "([DD)V"⟩ : MethodName)) rfl hown (mvT hZ (hw _ (List.mem_of_getElem? (i := 6) rfl))) (mvT hZ (hw _ (List.mem_of_getElem? (i := 7) rfl))) (mvT hZ (hw _ (List.mem_of_getElem? (i := 8) rfl))) (by decide) (Jvm.OwnHand.own_backSH (W := 1) (rm1_1 l Z a0 hw [] b5 b1 (FP.l2d li) (FP.i2d c0) k_b1 h5 n0 (Nat.le_trans Z0 K.1) E_b5 g_b5 F_costs_b5 F_limit_b5 ne_b1_b5 V_b1 E_b1 (own_lfin li) (own_lpos b_li) (Dy.i2d c0).fin (own_pos (Dy.i2d c0) (by omega))) hZ (hw _ (List.mem_of_getElem? (i := 8) rfl)) (hw _ (List.mem_of_getElem? (i := 5) rfl)) (by decide) (by decide)) (g := (mkF m 177 #[.val (.int p0), .val (.int p1), .val (.int p2), .val (.int p3), .val (.long q4), .second, .val (.int p5), .val (.int (1 : Int32)), .val (.int c0), .val (.int c1), .val (.int c2), .val (.double (FP.l2d li)), .second, .val (.ref b1), .val (.ref b3), .unset, .unset, .unset, .unset, .unset, .unset, .unset, .unset] [(.double (FP.l2d li)), (.ref b1), (.ref b5), (.ref b5)])) rfl (by rw [hml]; rfl) (Steps.refl _) (a := b5) (argsL := [(.ref b1), (.double (FP.l2d li))]) (rest := [(.ref b5)]) (lenOf pd_3 rfl) rfl (by show 2 * 0 + _ ≤ _; exact Nat.le_of_eq rfl) (hb hby at_177) (fun _ _ => ⟨rfl, eT, (by decide : 3 + 3 ≤ _), (by decide : 4 + 21 ≤ _)⟩)
    dsimp only [Pt.U, Pt.locs, Pt.cells, Pt.slots] at X l_ y_ z_ st hQ h2_ gr_
    subst l_ y_ z_
    obtain ⟨X, hS, hZ, hown⟩ := rebS hS hk0 X h2_ gr_ hZ hown
    have hk : T.heap.size ≤ T.heap.size := Nat.le_refl _
    obtain ⟨h6, eT⟩ : ∃ z, T.heap = z := ⟨_, rfl⟩
    rw [eT] at hQ
    obtain ⟨rfl, Nq, Kq, Eq_, cr, Fq1, Fq2, Vq_⟩ := hQ
    have N := Fr.app N Nq
    have E_b1 := Exa.keep E_b1 Kq
    have V_b1 := Arv.keep V_b1 Kq (ninS ne_b1_b5 nin0)
    have E_b3 := Exa.keep E_b3 Kq
    have V_b3 := Arv.keep V_b3 Kq (ninS ne_b3_b5 nin0)
    have E_b5 := Eq_
    have F_costs_b5 := Fq1
    have F_limit_b5 := Fq2
    have V_cr := Vq_
    have K := K.trans Kq (allS (Or.inr sz_b5) all0)
    rw [eT] at hk hS
    refine Go.tr st ?_
    show Go p.tables e below (T.setTop (mkF m 180 #[.val (.int p0), .val (.int p1), .val (.int p2), .val (.int p3), .val (.long q4), .second, .val (.int p5), .val (.int (1 : Int32)), .val (.int c0), .val (.int c1), .val (.int c2), .val (.double (FP.l2d li)), .second, .val (.ref b1), .val (.ref b3), .unset, .unset, .unset, .unset, .unset, .unset, .unset, .unset] [(.ref b5)])) _
    refine Go.by (fun tt_ kk_ => XS.astore X.here hx rfl (hb hby at_180) rfl rfl (l' := #[.val (.int p0), .val (.int p1), .val (.int p2), .val (.int p3), .val (.long q4), .second, .val (.int p5), .val (.int (1 : Int32)), .val (.int c0), .val (.int c1), .val (.int c2), .val (.double (FP.l2d li)), .second, .val (.ref b1), .val (.ref b3), .val (.ref b5), .unset, .unset, .unset, .unset, .unset, .unset, .unset]) rfl kk_) ?_
    show Go p.tables e below (T.setTop (mkF m 182 #[.val (.int p0), .val (.int p1), .val (.int p2), .val (.int p3), .val (.long q4), .second, .val (.int p5), .val (.int (1 : Int32)), .val (.int c0), .val (.int c1), .val (.int c2), .val (.double (FP.l2d li)), .second, .val (.ref b1), .val (.ref b3), .val (.ref b5), .unset, .unset, .unset, .unset, .unset, .unset, .unset] [])) _
    refine Go.by (fun tt_ kk_ => XS.aload X.here hx rfl (hb hby at_182) rfl rfl kk_) ?_
    show Go p.tables e below (T.setTop (mkF m 184 #[.val (.int p0), .val (.int p1), .val (.int p2), .val (.int p3), .val (.long q4), .second, .val (.int p5), .val (.int (1 : Int32)), .val (.int c0), .val (.int c1), .val (.int c2), .val (.double (FP.l2d li)), .second, .val (.ref b1), .val (.ref b3), .val (.ref b5), .unset, .unset, .unset, .unset, .unset, .unset, .unset] [(.ref b5)])) _
    refine Go.by (fun tt_ kk_ => XS.aload X.here hx rfl (hb hby at_184) rfl rfl kk_) ?_
    show Go p.tables e below (T.setTop (mkF m 186 #[.val (.int p0), .val (.int p1), .val (.int p2), .val (.int p3), .val (.long q4), .second, .val (.int p5), .val (.int (1 : Int32)), .val (.int c0), .val (.int c1), .val (.int c2), .val (.double (FP.l2d li)), .second, .val (.ref b1), .val (.ref b3), .val (.ref b5), .unset, .unset, .unset, .unset, .unset, .unset, .unset] [(.ref b3), (.ref b5)])) _
    obtain ⟨cq_, kq_, qa_, qb_, qc_⟩ := isOf hZ eT E_b5
    obtain ⟨_, _, ⟨T, L_, k_, n_⟩, -, X, ⟨Lc_, hQ, l_, y_, z_⟩, st⟩ := X.virtualBack hx (y := (⟨"com/example/pareto_helm/paretohelm/engine/Budget", "bestCorner", "([D)[D"⟩ : MethodName)) (z := (⟨"com/example/pareto_helm/paretohelm/engine/Budget", "bestCorner", "([D)[D"⟩ : MethodName)) hown (mvT hZ (hw _ (List.mem_of_getElem? (i := 50) rfl))) (mvT hZ (hw _ (List.mem_of_getElem? (i := 51) rfl))) (notFace_of_selects (args := #[]) (mvT hZ (hw _ (List.mem_of_getElem? (i := 53) rfl)))) (mvT hZ (hw _ (List.mem_of_getElem? (i := 53) rfl))) (mvT hZ (hw _ (List.mem_of_getElem? (i := 52) rfl))) (by decide) (backOf (W := 0) (rm7_1 l Z a0 hw [] b5 b3 (FP.i2d p1) (FP.i2d c0) p1.toInt c0.toInt k_b1 k_b3 cr (FP.l2d li) h6 n0 (Nat.le_trans Z0 K.1) F_costs_b5 F_limit_b5 V_cr V_b3 (own_lfin li) (Dy.i2d p1) (Dy.i2d c0) b_w0 b_c0) hZ (hw _ (List.mem_of_getElem? (i := 54) rfl)) (hw _ (List.mem_of_getElem? (i := 5) rfl)) (by decide) (by decide)) qa_ qc_ (g := (mkF m 186 #[.val (.int p0), .val (.int p1), .val (.int p2), .val (.int p3), .val (.long q4), .second, .val (.int p5), .val (.int (1 : Int32)), .val (.int c0), .val (.int c1), .val (.int c2), .val (.double (FP.l2d li)), .second, .val (.ref b1), .val (.ref b3), .val (.ref b5), .unset, .unset, .unset, .unset, .unset, .unset, .unset] [(.ref b3), (.ref b5)])) rfl (by rw [hml]; rfl) (Steps.refl _) (argsL := [(.ref b3)]) (rest := []) (lenOf pd_4 rfl) rfl (by show 2 * 0 + _ ≤ _; exact Nat.le_of_eq rfl) (hb hby at_186) (fun _ _ => ⟨rfl, eT, (by decide : 6 + 1 ≤ _), (by decide : 25 + 1 ≤ _)⟩)
    dsimp only [Pt.U, Pt.locs, Pt.cells, Pt.slots] at X l_ y_ z_ st hQ
    subst l_ y_ z_
    obtain ⟨h7, eT⟩ : ∃ z, T.heap = z := ⟨_, rfl⟩
    rw [eT] at hQ
    obtain ⟨rr, k_rr, g_rr, sq_rr, rfl, Nq, Kq, V_rr⟩ := hQ
    have N := Fr.app N Nq
    have E_b1 := Exa.keep E_b1 Kq
    have V_b1 := Arv.keep V_b1 Kq nin0
    have E_b3 := Exa.keep E_b3 Kq
    have V_b3 := Arv.keep V_b3 Kq nin0
    have E_b5 := Exa.keep E_b5 Kq
    have F_costs_b5 := Fld.keep F_costs_b5 Kq nin0
    have F_limit_b5 := Fld.keep F_limit_b5 Kq nin0
    have V_cr := Arv.keep V_cr Kq nin0
    have K := K.trans Kq all0
    unfold own_bc1 at V_rr
    have hk := Nat.le_trans hk Kq.1
    refine Go.tr st ?_
    show Go p.tables e below (T.setTop (mkF m 189 #[.val (.int p0), .val (.int p1), .val (.int p2), .val (.int p3), .val (.long q4), .second, .val (.int p5), .val (.int (1 : Int32)), .val (.int c0), .val (.int c1), .val (.int c2), .val (.double (FP.l2d li)), .second, .val (.ref b1), .val (.ref b3), .val (.ref b5), .unset, .unset, .unset, .unset, .unset, .unset, .unset] [(.ref rr)])) _
    refine Go.by (fun tt_ kk_ => XS.astore X.here hx rfl (hb hby at_189) rfl rfl (l' := #[.val (.int p0), .val (.int p1), .val (.int p2), .val (.int p3), .val (.long q4), .second, .val (.int p5), .val (.int (1 : Int32)), .val (.int c0), .val (.int c1), .val (.int c2), .val (.double (FP.l2d li)), .second, .val (.ref b1), .val (.ref b3), .val (.ref b5), .val (.ref rr), .unset, .unset, .unset, .unset, .unset, .unset]) rfl kk_) ?_
    show Go p.tables e below (T.setTop (mkF m 191 #[.val (.int p0), .val (.int p1), .val (.int p2), .val (.int p3), .val (.long q4), .second, .val (.int p5), .val (.int (1 : Int32)), .val (.int c0), .val (.int c1), .val (.int c2), .val (.double (FP.l2d li)), .second, .val (.ref b1), .val (.ref b3), .val (.ref b5), .val (.ref rr), .unset, .unset, .unset, .unset, .unset, .unset] [])) _
    refine Go.by (fun tt_ kk_ => XS.iconst X.here hx rfl (hb hby at_191) kk_) ?_
    show Go p.tables e below (T.setTop (mkF m 192 #[.val (.int p0), .val (.int p1), .val (.int p2), .val (.int p3), .val (.long q4), .second, .val (.int p5), .val (.int (1 : Int32)), .val (.int c0), .val (.int c1), .val (.int c2), .val (.double (FP.l2d li)), .second, .val (.ref b1), .val (.ref b3), .val (.ref b5), .val (.ref rr), .unset, .unset, .unset, .unset, .unset, .unset] [(.int (0 : Int32))])) _
    refine Go.by (fun tt_ kk_ => XS.istore X.here hx rfl (hb hby at_192) rfl (l' := #[.val (.int p0), .val (.int p1), .val (.int p2), .val (.int p3), .val (.long q4), .second, .val (.int p5), .val (.int (1 : Int32)), .val (.int c0), .val (.int c1), .val (.int c2), .val (.double (FP.l2d li)), .second, .val (.ref b1), .val (.ref b3), .val (.ref b5), .val (.ref rr), .val (.int (0 : Int32)), .unset, .unset, .unset, .unset, .unset]) rfl kk_) ?_
    show Go p.tables e below (T.setTop (mkF m 194 #[.val (.int p0), .val (.int p1), .val (.int p2), .val (.int p3), .val (.long q4), .second, .val (.int p5), .val (.int (1 : Int32)), .val (.int c0), .val (.int c1), .val (.int c2), .val (.double (FP.l2d li)), .second, .val (.ref b1), .val (.ref b3), .val (.ref b5), .val (.ref rr), .val (.int (0 : Int32)), .unset, .unset, .unset, .unset, .unset] [])) _
    refine Go.by (fun tt_ kk_ => XS.iloadN X.here hx rfl (hb hby at_194) rfl kk_) ?_
    show Go p.tables e below (T.setTop (mkF m 195 #[.val (.int p0), .val (.int p1), .val (.int p2), .val (.int p3), .val (.long q4), .second, .val (.int p5), .val (.int (1 : Int32)), .val (.int c0), .val (.int c1), .val (.int c2), .val (.double (FP.l2d li)), .second, .val (.ref b1), .val (.ref b3), .val (.ref b5), .val (.ref rr), .val (.int (0 : Int32)), .unset, .unset, .unset, .unset, .unset] [(.int p1)])) _
    refine Go.by (fun tt_ kk_ => XS.i2l X.here hx rfl (hb hby at_195) rfl kk_) ?_
    show Go p.tables e below (T.setTop (mkF m 196 #[.val (.int p0), .val (.int p1), .val (.int p2), .val (.int p3), .val (.long q4), .second, .val (.int p5), .val (.int (1 : Int32)), .val (.int c0), .val (.int c1), .val (.int c2), .val (.double (FP.l2d li)), .second, .val (.ref b1), .val (.ref b3), .val (.ref b5), .val (.ref rr), .val (.int (0 : Int32)), .unset, .unset, .unset, .unset, .unset] [(.long (p1.toInt64))])) _
    refine Go.by (fun tt_ kk_ => XS.lstore X.here hx rfl (hb hby at_196) rfl (l' := #[.val (.int p0), .val (.int p1), .val (.int p2), .val (.int p3), .val (.long q4), .second, .val (.int p5), .val (.int (1 : Int32)), .val (.int c0), .val (.int c1), .val (.int c2), .val (.double (FP.l2d li)), .second, .val (.ref b1), .val (.ref b3), .val (.ref b5), .val (.ref rr), .val (.int (0 : Int32)), .val (.long (p1.toInt64)), .second, .unset, .unset, .unset]) rfl kk_) ?_
    show Go p.tables e below (T.setTop (mkF m 198 #[.val (.int p0), .val (.int p1), .val (.int p2), .val (.int p3), .val (.long q4), .second, .val (.int p5), .val (.int (1 : Int32)), .val (.int c0), .val (.int c1), .val (.int c2), .val (.double (FP.l2d li)), .second, .val (.ref b1), .val (.ref b3), .val (.ref b5), .val (.ref rr), .val (.int (0 : Int32)), .val (.long (p1.toInt64)), .second, .unset, .unset, .unset] [])) _
    refine Go.by (fun tt_ kk_ => XS.iload X.here hx rfl (hb hby at_198) rfl kk_) ?_
    show Go p.tables e below (T.setTop (mkF m 200 #[.val (.int p0), .val (.int p1), .val (.int p2), .val (.int p3), .val (.long q4), .second, .val (.int p5), .val (.int (1 : Int32)), .val (.int c0), .val (.int c1), .val (.int c2), .val (.double (FP.l2d li)), .second, .val (.ref b1), .val (.ref b3), .val (.ref b5), .val (.ref rr), .val (.int (0 : Int32)), .val (.long (p1.toInt64)), .second, .unset, .unset, .unset] [(.int c0)])) _
    refine Go.by (fun tt_ kk_ => XS.i2l X.here hx rfl (hb hby at_200) rfl kk_) ?_
    show Go p.tables e below (T.setTop (mkF m 201 #[.val (.int p0), .val (.int p1), .val (.int p2), .val (.int p3), .val (.long q4), .second, .val (.int p5), .val (.int (1 : Int32)), .val (.int c0), .val (.int c1), .val (.int c2), .val (.double (FP.l2d li)), .second, .val (.ref b1), .val (.ref b3), .val (.ref b5), .val (.ref rr), .val (.int (0 : Int32)), .val (.long (p1.toInt64)), .second, .unset, .unset, .unset] [(.long (c0.toInt64))])) _
    refine Go.by (fun tt_ kk_ => XS.lstore X.here hx rfl (hb hby at_201) rfl (l' := #[.val (.int p0), .val (.int p1), .val (.int p2), .val (.int p3), .val (.long q4), .second, .val (.int p5), .val (.int (1 : Int32)), .val (.int c0), .val (.int c1), .val (.int c2), .val (.double (FP.l2d li)), .second, .val (.ref b1), .val (.ref b3), .val (.ref b5), .val (.ref rr), .val (.int (0 : Int32)), .val (.long (p1.toInt64)), .second, .val (.long (c0.toInt64)), .second, .unset]) rfl kk_) ?_
    show Go p.tables e below (T.setTop (mkF m 203 #[.val (.int p0), .val (.int p1), .val (.int p2), .val (.int p3), .val (.long q4), .second, .val (.int p5), .val (.int (1 : Int32)), .val (.int c0), .val (.int c1), .val (.int c2), .val (.double (FP.l2d li)), .second, .val (.ref b1), .val (.ref b3), .val (.ref b5), .val (.ref rr), .val (.int (0 : Int32)), .val (.long (p1.toInt64)), .second, .val (.long (c0.toInt64)), .second, .unset] [])) _
    refine Go.by (fun tt_ kk_ => XS.iload X.here hx rfl (hb hby at_203) rfl kk_) ?_
    show Go p.tables e below (T.setTop (mkF m 205 #[.val (.int p0), .val (.int p1), .val (.int p2), .val (.int p3), .val (.long q4), .second, .val (.int p5), .val (.int (1 : Int32)), .val (.int c0), .val (.int c1), .val (.int c2), .val (.double (FP.l2d li)), .second, .val (.ref b1), .val (.ref b3), .val (.ref b5), .val (.ref rr), .val (.int (0 : Int32)), .val (.long (p1.toInt64)), .second, .val (.long (c0.toInt64)), .second, .unset] [(.int (1 : Int32))])) _
    refine Go.by (fun tt_ kk_ => XS.iconst X.here hx rfl (hb hby at_205) kk_) ?_
    show Go p.tables e below (T.setTop (mkF m 206 #[.val (.int p0), .val (.int p1), .val (.int p2), .val (.int p3), .val (.long q4), .second, .val (.int p5), .val (.int (1 : Int32)), .val (.int c0), .val (.int c1), .val (.int c2), .val (.double (FP.l2d li)), .second, .val (.ref b1), .val (.ref b3), .val (.ref b5), .val (.ref rr), .val (.int (0 : Int32)), .val (.long (p1.toInt64)), .second, .val (.long (c0.toInt64)), .second, .unset] [(.int (2 : Int32)), (.int (1 : Int32))])) _
    refine Go.by (fun tt_ kk_ => XS.icmpYes X.here hx rfl (pc0 := 206) (pc' := 236) rfl (hb hby at_206) rfl (tlt (by decide : (1 : Int32) < (2 : Int32))).1 (by decide) (by decide) kk_) ?_
    show Go p.tables e below (T.setTop (mkF m 236 #[.val (.int p0), .val (.int p1), .val (.int p2), .val (.int p3), .val (.long q4), .second, .val (.int p5), .val (.int (1 : Int32)), .val (.int c0), .val (.int c1), .val (.int c2), .val (.double (FP.l2d li)), .second, .val (.ref b1), .val (.ref b3), .val (.ref b5), .val (.ref rr), .val (.int (0 : Int32)), .val (.long (p1.toInt64)), .second, .val (.long (c0.toInt64)), .second, .unset] [])) _
    refine Go.by (fun tt_ kk_ => XS.iload X.here hx rfl (hb hby at_236) rfl kk_) ?_
    show Go p.tables e below (T.setTop (mkF m 238 #[.val (.int p0), .val (.int p1), .val (.int p2), .val (.int p3), .val (.long q4), .second, .val (.int p5), .val (.int (1 : Int32)), .val (.int c0), .val (.int c1), .val (.int c2), .val (.double (FP.l2d li)), .second, .val (.ref b1), .val (.ref b3), .val (.ref b5), .val (.ref rr), .val (.int (0 : Int32)), .val (.long (p1.toInt64)), .second, .val (.long (c0.toInt64)), .second, .unset] [(.int (1 : Int32))])) _
    refine Go.by (fun tt_ kk_ => XS.iconst X.here hx rfl (hb hby at_238) kk_) ?_
    show Go p.tables e below (T.setTop (mkF m 239 #[.val (.int p0), .val (.int p1), .val (.int p2), .val (.int p3), .val (.long q4), .second, .val (.int p5), .val (.int (1 : Int32)), .val (.int c0), .val (.int c1), .val (.int c2), .val (.double (FP.l2d li)), .second, .val (.ref b1), .val (.ref b3), .val (.ref b5), .val (.ref rr), .val (.int (0 : Int32)), .val (.long (p1.toInt64)), .second, .val (.long (c0.toInt64)), .second, .unset] [(.int (3 : Int32)), (.int (1 : Int32))])) _
    refine Go.by (fun tt_ kk_ => XS.icmpYes X.here hx rfl (pc0 := 239) (pc' := 260) rfl (hb hby at_239) rfl (tlt (by decide : (1 : Int32) < (3 : Int32))).1 (by decide) (by decide) kk_) ?_
    show Go p.tables e below (T.setTop (mkF m 260 #[.val (.int p0), .val (.int p1), .val (.int p2), .val (.int p3), .val (.long q4), .second, .val (.int p5), .val (.int (1 : Int32)), .val (.int c0), .val (.int c1), .val (.int c2), .val (.double (FP.l2d li)), .second, .val (.ref b1), .val (.ref b3), .val (.ref b5), .val (.ref rr), .val (.int (0 : Int32)), .val (.long (p1.toInt64)), .second, .val (.long (c0.toInt64)), .second, .unset] [])) _
    refine Go.by (fun tt_ kk_ => XS.aload X.here hx rfl (hb hby at_260) rfl rfl kk_) ?_
    show Go p.tables e below (T.setTop (mkF m 262 #[.val (.int p0), .val (.int p1), .val (.int p2), .val (.int p3), .val (.long q4), .second, .val (.int p5), .val (.int (1 : Int32)), .val (.int c0), .val (.int c1), .val (.int c2), .val (.double (FP.l2d li)), .second, .val (.ref b1), .val (.ref b3), .val (.ref b5), .val (.ref rr), .val (.int (0 : Int32)), .val (.long (p1.toInt64)), .second, .val (.long (c0.toInt64)), .second, .unset] [(.ref rr)])) _
    have Vo_ := V_rr
    obtain ⟨cl_, Ar_, q_, S_, N_, H_, G_⟩ := Vo_
    refine Go.by (X.arraylength hx (by rw [eT]; exact Ar_.1) (State.isArrayOf_alike hZ.alike Ar_.2.1) (g := (mkF m 262 #[.val (.int p0), .val (.int p1), .val (.int p2), .val (.int p3), .val (.long q4), .second, .val (.int p5), .val (.int (1 : Int32)), .val (.int c0), .val (.int c1), .val (.int c2), .val (.double (FP.l2d li)), .second, .val (.ref b1), .val (.ref b3), .val (.ref b5), .val (.ref rr), .val (.int (0 : Int32)), .val (.long (p1.toInt64)), .second, .val (.long (c0.toInt64)), .second, .unset] [(.ref rr)])) rfl rfl (hb hby at_262)) ?_
    rw [len_of S_ N_]
    show Go p.tables e below (T.setTop (mkF m 263 #[.val (.int p0), .val (.int p1), .val (.int p2), .val (.int p3), .val (.long q4), .second, .val (.int p5), .val (.int (1 : Int32)), .val (.int c0), .val (.int c1), .val (.int c2), .val (.double (FP.l2d li)), .second, .val (.ref b1), .val (.ref b3), .val (.ref b5), .val (.ref rr), .val (.int (0 : Int32)), .val (.long (p1.toInt64)), .second, .val (.long (c0.toInt64)), .second, .unset] [(.int (1 : Int32))])) _
    refine Go.by (fun tt_ kk_ => XS.iload X.here hx rfl (hb hby at_263) rfl kk_) ?_
    show Go p.tables e below (T.setTop (mkF m 265 #[.val (.int p0), .val (.int p1), .val (.int p2), .val (.int p3), .val (.long q4), .second, .val (.int p5), .val (.int (1 : Int32)), .val (.int c0), .val (.int c1), .val (.int c2), .val (.double (FP.l2d li)), .second, .val (.ref b1), .val (.ref b3), .val (.ref b5), .val (.ref rr), .val (.int (0 : Int32)), .val (.long (p1.toInt64)), .second, .val (.long (c0.toInt64)), .second, .unset] [(.int (1 : Int32)), (.int (1 : Int32))])) _
    refine Go.by (fun tt_ kk_ => XS.icmpYes X.here hx rfl (pc0 := 265) (pc' := 270) rfl (hb hby at_265) rfl (teq (rfl : (1 : Int32) = (1 : Int32))).1 (by decide) (by decide) kk_) ?_
    show Go p.tables e below (T.setTop (mkF m 270 #[.val (.int p0), .val (.int p1), .val (.int p2), .val (.int p3), .val (.long q4), .second, .val (.int p5), .val (.int (1 : Int32)), .val (.int c0), .val (.int c1), .val (.int c2), .val (.double (FP.l2d li)), .second, .val (.ref b1), .val (.ref b3), .val (.ref b5), .val (.ref rr), .val (.int (0 : Int32)), .val (.long (p1.toInt64)), .second, .val (.long (c0.toInt64)), .second, .unset] [])) _
    refine Go.by (fun tt_ kk_ => XS.iload X.here hx rfl (hb hby at_270) rfl kk_) ?_
    show Go p.tables e below (T.setTop (mkF m 272 #[.val (.int p0), .val (.int p1), .val (.int p2), .val (.int p3), .val (.long q4), .second, .val (.int p5), .val (.int (1 : Int32)), .val (.int c0), .val (.int c1), .val (.int c2), .val (.double (FP.l2d li)), .second, .val (.ref b1), .val (.ref b3), .val (.ref b5), .val (.ref rr), .val (.int (0 : Int32)), .val (.long (p1.toInt64)), .second, .val (.long (c0.toInt64)), .second, .unset] [(.int (0 : Int32))])) _
    refine Go.by (fun tt_ kk_ => XS.ifNo X.here hx rfl (hb hby at_272) rfl ((if0 _ _).trans (teq (rfl : (0 : Int32) = (0 : Int32))).2) kk_) ?_
    show Go p.tables e below (T.setTop (mkF m 275 #[.val (.int p0), .val (.int p1), .val (.int p2), .val (.int p3), .val (.long q4), .second, .val (.int p5), .val (.int (1 : Int32)), .val (.int c0), .val (.int c1), .val (.int c2), .val (.double (FP.l2d li)), .second, .val (.ref b1), .val (.ref b3), .val (.ref b5), .val (.ref rr), .val (.int (0 : Int32)), .val (.long (p1.toInt64)), .second, .val (.long (c0.toInt64)), .second, .unset] [])) _
    refine Go.by (fun tt_ kk_ => XS.iload X.here hx rfl (hb hby at_275) rfl kk_) ?_
    show Go p.tables e below (T.setTop (mkF m 277 #[.val (.int p0), .val (.int p1), .val (.int p2), .val (.int p3), .val (.long q4), .second, .val (.int p5), .val (.int (1 : Int32)), .val (.int c0), .val (.int c1), .val (.int c2), .val (.double (FP.l2d li)), .second, .val (.ref b1), .val (.ref b3), .val (.ref b5), .val (.ref rr), .val (.int (0 : Int32)), .val (.long (p1.toInt64)), .second, .val (.long (c0.toInt64)), .second, .unset] [(.int c0)])) _
    refine Go.by (fun tt_ kk_ => XS.goto X.here hx rfl (pc0 := 277) (pc' := 293) rfl (hb hby at_277) (by decide) (by decide) kk_) ?_
    show Go p.tables e below (T.setTop (mkF m 293 #[.val (.int p0), .val (.int p1), .val (.int p2), .val (.int p3), .val (.long q4), .second, .val (.int p5), .val (.int (1 : Int32)), .val (.int c0), .val (.int c1), .val (.int c2), .val (.double (FP.l2d li)), .second, .val (.ref b1), .val (.ref b3), .val (.ref b5), .val (.ref rr), .val (.int (0 : Int32)), .val (.long (p1.toInt64)), .second, .val (.long (c0.toInt64)), .second, .unset] [(.int c0)])) _
    refine Go.by (fun tt_ kk_ => XS.istore X.here hx rfl (hb hby at_293) rfl (l' := #[.val (.int p0), .val (.int p1), .val (.int p2), .val (.int p3), .val (.long q4), .second, .val (.int p5), .val (.int (1 : Int32)), .val (.int c0), .val (.int c1), .val (.int c2), .val (.double (FP.l2d li)), .second, .val (.ref b1), .val (.ref b3), .val (.ref b5), .val (.ref rr), .val (.int (0 : Int32)), .val (.long (p1.toInt64)), .second, .val (.long (c0.toInt64)), .second, .val (.int c0)]) rfl kk_) ?_
    show Go p.tables e below (T.setTop (mkF m 295 #[.val (.int p0), .val (.int p1), .val (.int p2), .val (.int p3), .val (.long q4), .second, .val (.int p5), .val (.int (1 : Int32)), .val (.int c0), .val (.int c1), .val (.int c2), .val (.double (FP.l2d li)), .second, .val (.ref b1), .val (.ref b3), .val (.ref b5), .val (.ref rr), .val (.int (0 : Int32)), .val (.long (p1.toInt64)), .second, .val (.long (c0.toInt64)), .second, .val (.int c0)] [])) _
    refine Go.by (fun tt_ kk_ => XS.aload X.here hx rfl (hb hby at_295) rfl rfl kk_) ?_
    show Go p.tables e below (T.setTop (mkF m 297 #[.val (.int p0), .val (.int p1), .val (.int p2), .val (.int p3), .val (.long q4), .second, .val (.int p5), .val (.int (1 : Int32)), .val (.int c0), .val (.int c1), .val (.int c2), .val (.double (FP.l2d li)), .second, .val (.ref b1), .val (.ref b3), .val (.ref b5), .val (.ref rr), .val (.int (0 : Int32)), .val (.long (p1.toInt64)), .second, .val (.long (c0.toInt64)), .second, .val (.int c0)] [(.ref rr)])) _
    refine Go.by (fun tt_ kk_ => XS.iconst X.here hx rfl (hb hby at_297) kk_) ?_
    show Go p.tables e below (T.setTop (mkF m 298 #[.val (.int p0), .val (.int p1), .val (.int p2), .val (.int p3), .val (.long q4), .second, .val (.int p5), .val (.int (1 : Int32)), .val (.int c0), .val (.int c1), .val (.int c2), .val (.double (FP.l2d li)), .second, .val (.ref b1), .val (.ref b3), .val (.ref b5), .val (.ref rr), .val (.int (0 : Int32)), .val (.long (p1.toInt64)), .second, .val (.long (c0.toInt64)), .second, .val (.int c0)] [(.int (0 : Int32)), (.ref rr)])) _
    refine Go.by (fun tt_ kk_ => XS.iload X.here hx rfl (hb hby at_298) rfl kk_) ?_
    show Go p.tables e below (T.setTop (mkF m 300 #[.val (.int p0), .val (.int p1), .val (.int p2), .val (.int p3), .val (.long q4), .second, .val (.int p5), .val (.int (1 : Int32)), .val (.int c0), .val (.int c1), .val (.int c2), .val (.double (FP.l2d li)), .second, .val (.ref b1), .val (.ref b3), .val (.ref b5), .val (.ref rr), .val (.int (0 : Int32)), .val (.long (p1.toInt64)), .second, .val (.long (c0.toInt64)), .second, .val (.int c0)] [(.int (1 : Int32)), (.int (0 : Int32)), (.ref rr)])) _
    refine Go.by (fun tt_ kk_ => XS.iload X.here hx rfl (hb hby at_300) rfl kk_) ?_
    show Go p.tables e below (T.setTop (mkF m 302 #[.val (.int p0), .val (.int p1), .val (.int p2), .val (.int p3), .val (.long q4), .second, .val (.int p5), .val (.int (1 : Int32)), .val (.int c0), .val (.int c1), .val (.int c2), .val (.double (FP.l2d li)), .second, .val (.ref b1), .val (.ref b3), .val (.ref b5), .val (.ref rr), .val (.int (0 : Int32)), .val (.long (p1.toInt64)), .second, .val (.long (c0.toInt64)), .second, .val (.int c0)] [(.int (0 : Int32)), (.int (1 : Int32)), (.int (0 : Int32)), (.ref rr)])) _
    refine Go.by (fun tt_ kk_ => XS.dload X.here hx rfl (hb hby at_302) rfl kk_) ?_
    show Go p.tables e below (T.setTop (mkF m 304 #[.val (.int p0), .val (.int p1), .val (.int p2), .val (.int p3), .val (.long q4), .second, .val (.int p5), .val (.int (1 : Int32)), .val (.int c0), .val (.int c1), .val (.int c2), .val (.double (FP.l2d li)), .second, .val (.ref b1), .val (.ref b3), .val (.ref b5), .val (.ref rr), .val (.int (0 : Int32)), .val (.long (p1.toInt64)), .second, .val (.long (c0.toInt64)), .second, .val (.int c0)] [(.double (FP.l2d li)), (.int (0 : Int32)), (.int (1 : Int32)), (.int (0 : Int32)), (.ref rr)])) _
    refine Go.by (fun tt_ kk_ => XS.iload X.here hx rfl (hb hby at_304) rfl kk_) ?_
    show Go p.tables e below (T.setTop (mkF m 306 #[.val (.int p0), .val (.int p1), .val (.int p2), .val (.int p3), .val (.long q4), .second, .val (.int p5), .val (.int (1 : Int32)), .val (.int c0), .val (.int c1), .val (.int c2), .val (.double (FP.l2d li)), .second, .val (.ref b1), .val (.ref b3), .val (.ref b5), .val (.ref rr), .val (.int (0 : Int32)), .val (.long (p1.toInt64)), .second, .val (.long (c0.toInt64)), .second, .val (.int c0)] [(.int c0), (.double (FP.l2d li)), (.int (0 : Int32)), (.int (1 : Int32)), (.int (0 : Int32)), (.ref rr)])) _
    obtain ⟨_, _, ⟨T, L_, k_, n_⟩, -, X, ⟨Lc_, hQ, l_, y_, z_⟩, st⟩ := Jvm.LawKit.callS X hx (y := (⟨"com/example/pareto_helm/paretohelm/engine/BudgetBestCornerPinLaw", "check", "([DIIIDI)Z"⟩ : MethodName)) hown (mvT hZ (hw _ (List.mem_of_getElem? (i := 59) rfl))) (mvT hZ (hw _ (List.mem_of_getElem? (i := 60) rfl))) (mvT hZ (hw _ (List.mem_of_getElem? (i := 57) rfl))) (mvT hZ (hw _ (List.mem_of_getElem? (i := 61) rfl))) (by decide) (backOf (W := 0) (rm9a l Z a0 hw [] rr (0 : Int32) (1 : Int32) (0 : Int32) (FP.l2d li) c0 _ _ h7 n0 (Nat.le_trans Z0 K.1) V_rr (by decide) (by decide) rfl (own_divnn2 (own_lfin li).noNaN (Dy.i2d c0) (by omega)) rfl) hZ (hw _ (List.mem_of_getElem? (i := 61) rfl)) (hw _ (List.mem_of_getElem? (i := 57) rfl)) (by decide) (by decide)) (g := (mkF m 306 #[.val (.int p0), .val (.int p1), .val (.int p2), .val (.int p3), .val (.long q4), .second, .val (.int p5), .val (.int (1 : Int32)), .val (.int c0), .val (.int c1), .val (.int c2), .val (.double (FP.l2d li)), .second, .val (.ref b1), .val (.ref b3), .val (.ref b5), .val (.ref rr), .val (.int (0 : Int32)), .val (.long (p1.toInt64)), .second, .val (.long (c0.toInt64)), .second, .val (.int c0)] [(.int c0), (.double (FP.l2d li)), (.int (0 : Int32)), (.int (1 : Int32)), (.int (0 : Int32)), (.ref rr)])) rfl (by rw [hml]; rfl) (argsL := [(.ref rr), (.int (0 : Int32)), (.int (1 : Int32)), (.int (0 : Int32)), (.double (FP.l2d li)), (.int c0)]) (rest := []) (lenOf pd_5 rfl) rfl (by show 2 * 0 + _ ≤ _; exact Nat.le_of_eq rfl) (hb hby at_306) (fun _ _ => ⟨rfl, eT, (by decide : 7 + 0 ≤ _), (by decide : 26 + 0 ≤ _)⟩)
    dsimp only [Pt.U, Pt.locs, Pt.cells, Pt.slots] at X l_ y_ z_ st hQ
    subst l_ y_ z_
    obtain ⟨rfl, Nq, eh⟩ := hQ
    have N := Fr.app N Nq
    have eT := eh
    refine Go.by st ?_
    show Go p.tables e below (T.setTop (mkF m 309 #[.val (.int p0), .val (.int p1), .val (.int p2), .val (.int p3), .val (.long q4), .second, .val (.int p5), .val (.int (1 : Int32)), .val (.int c0), .val (.int c1), .val (.int c2), .val (.double (FP.l2d li)), .second, .val (.ref b1), .val (.ref b3), .val (.ref b5), .val (.ref rr), .val (.int (0 : Int32)), .val (.long (p1.toInt64)), .second, .val (.long (c0.toInt64)), .second, .val (.int c0)] [(.int (1 : Int32))])) _
    refine Go.by (fun tt_ kk_ => XS.ifNo X.here hx rfl (hb hby at_309) rfl ((if0 _ _).trans (feq (by decide : ¬ ((1 : Int32) = (0 : Int32)))).1) kk_) ?_
    show Go p.tables e below (T.setTop (mkF m 312 #[.val (.int p0), .val (.int p1), .val (.int p2), .val (.int p3), .val (.long q4), .second, .val (.int p5), .val (.int (1 : Int32)), .val (.int c0), .val (.int c1), .val (.int c2), .val (.double (FP.l2d li)), .second, .val (.ref b1), .val (.ref b3), .val (.ref b5), .val (.ref rr), .val (.int (0 : Int32)), .val (.long (p1.toInt64)), .second, .val (.long (c0.toInt64)), .second, .val (.int c0)] [])) _
    refine Go.by (fun tt_ kk_ => XS.aload X.here hx rfl (hb hby at_312) rfl rfl kk_) ?_
    show Go p.tables e below (T.setTop (mkF m 314 #[.val (.int p0), .val (.int p1), .val (.int p2), .val (.int p3), .val (.long q4), .second, .val (.int p5), .val (.int (1 : Int32)), .val (.int c0), .val (.int c1), .val (.int c2), .val (.double (FP.l2d li)), .second, .val (.ref b1), .val (.ref b3), .val (.ref b5), .val (.ref rr), .val (.int (0 : Int32)), .val (.long (p1.toInt64)), .second, .val (.long (c0.toInt64)), .second, .val (.int c0)] [(.ref rr)])) _
    refine Go.by (fun tt_ kk_ => XS.iconst X.here hx rfl (hb hby at_314) kk_) ?_
    show Go p.tables e below (T.setTop (mkF m 315 #[.val (.int p0), .val (.int p1), .val (.int p2), .val (.int p3), .val (.long q4), .second, .val (.int p5), .val (.int (1 : Int32)), .val (.int c0), .val (.int c1), .val (.int c2), .val (.double (FP.l2d li)), .second, .val (.ref b1), .val (.ref b3), .val (.ref b5), .val (.ref rr), .val (.int (0 : Int32)), .val (.long (p1.toInt64)), .second, .val (.long (c0.toInt64)), .second, .val (.int c0)] [(.int (1 : Int32)), (.ref rr)])) _
    refine Go.by (fun tt_ kk_ => XS.iload X.here hx rfl (hb hby at_315) rfl kk_) ?_
    show Go p.tables e below (T.setTop (mkF m 317 #[.val (.int p0), .val (.int p1), .val (.int p2), .val (.int p3), .val (.long q4), .second, .val (.int p5), .val (.int (1 : Int32)), .val (.int c0), .val (.int c1), .val (.int c2), .val (.double (FP.l2d li)), .second, .val (.ref b1), .val (.ref b3), .val (.ref b5), .val (.ref rr), .val (.int (0 : Int32)), .val (.long (p1.toInt64)), .second, .val (.long (c0.toInt64)), .second, .val (.int c0)] [(.int (1 : Int32)), (.int (1 : Int32)), (.ref rr)])) _
    refine Go.by (fun tt_ kk_ => XS.iload X.here hx rfl (hb hby at_317) rfl kk_) ?_
    show Go p.tables e below (T.setTop (mkF m 319 #[.val (.int p0), .val (.int p1), .val (.int p2), .val (.int p3), .val (.long q4), .second, .val (.int p5), .val (.int (1 : Int32)), .val (.int c0), .val (.int c1), .val (.int c2), .val (.double (FP.l2d li)), .second, .val (.ref b1), .val (.ref b3), .val (.ref b5), .val (.ref rr), .val (.int (0 : Int32)), .val (.long (p1.toInt64)), .second, .val (.long (c0.toInt64)), .second, .val (.int c0)] [(.int (0 : Int32)), (.int (1 : Int32)), (.int (1 : Int32)), (.ref rr)])) _
    refine Go.by (fun tt_ kk_ => XS.dload X.here hx rfl (hb hby at_319) rfl kk_) ?_
    show Go p.tables e below (T.setTop (mkF m 321 #[.val (.int p0), .val (.int p1), .val (.int p2), .val (.int p3), .val (.long q4), .second, .val (.int p5), .val (.int (1 : Int32)), .val (.int c0), .val (.int c1), .val (.int c2), .val (.double (FP.l2d li)), .second, .val (.ref b1), .val (.ref b3), .val (.ref b5), .val (.ref rr), .val (.int (0 : Int32)), .val (.long (p1.toInt64)), .second, .val (.long (c0.toInt64)), .second, .val (.int c0)] [(.double (FP.l2d li)), (.int (0 : Int32)), (.int (1 : Int32)), (.int (1 : Int32)), (.ref rr)])) _
    refine Go.by (fun tt_ kk_ => XS.iload X.here hx rfl (hb hby at_321) rfl kk_) ?_
    show Go p.tables e below (T.setTop (mkF m 323 #[.val (.int p0), .val (.int p1), .val (.int p2), .val (.int p3), .val (.long q4), .second, .val (.int p5), .val (.int (1 : Int32)), .val (.int c0), .val (.int c1), .val (.int c2), .val (.double (FP.l2d li)), .second, .val (.ref b1), .val (.ref b3), .val (.ref b5), .val (.ref rr), .val (.int (0 : Int32)), .val (.long (p1.toInt64)), .second, .val (.long (c0.toInt64)), .second, .val (.int c0)] [(.int c0), (.double (FP.l2d li)), (.int (0 : Int32)), (.int (1 : Int32)), (.int (1 : Int32)), (.ref rr)])) _
    obtain ⟨_, _, ⟨T, L_, k_, n_⟩, -, X, ⟨Lc_, hQ, l_, y_, z_⟩, st⟩ := Jvm.LawKit.callS X hx (y := (⟨"com/example/pareto_helm/paretohelm/engine/BudgetBestCornerPinLaw", "check", "([DIIIDI)Z"⟩ : MethodName)) hown (mvT hZ (hw _ (List.mem_of_getElem? (i := 59) rfl))) (mvT hZ (hw _ (List.mem_of_getElem? (i := 60) rfl))) (mvT hZ (hw _ (List.mem_of_getElem? (i := 57) rfl))) (mvT hZ (hw _ (List.mem_of_getElem? (i := 61) rfl))) (by decide) (backOf (W := 0) (rm9c l Z a0 hw [] rr (1 : Int32) (1 : Int32) (0 : Int32) (FP.l2d li) c0 h7 n0 (Nat.le_trans Z0 K.1) (by decide)) hZ (hw _ (List.mem_of_getElem? (i := 61) rfl)) (hw _ (List.mem_of_getElem? (i := 57) rfl)) (by decide) (by decide)) (g := (mkF m 323 #[.val (.int p0), .val (.int p1), .val (.int p2), .val (.int p3), .val (.long q4), .second, .val (.int p5), .val (.int (1 : Int32)), .val (.int c0), .val (.int c1), .val (.int c2), .val (.double (FP.l2d li)), .second, .val (.ref b1), .val (.ref b3), .val (.ref b5), .val (.ref rr), .val (.int (0 : Int32)), .val (.long (p1.toInt64)), .second, .val (.long (c0.toInt64)), .second, .val (.int c0)] [(.int c0), (.double (FP.l2d li)), (.int (0 : Int32)), (.int (1 : Int32)), (.int (1 : Int32)), (.ref rr)])) rfl (by rw [hml]; rfl) (argsL := [(.ref rr), (.int (1 : Int32)), (.int (1 : Int32)), (.int (0 : Int32)), (.double (FP.l2d li)), (.int c0)]) (rest := []) (lenOf pd_5 rfl) rfl (by show 2 * 0 + _ ≤ _; exact Nat.le_of_eq rfl) (hb hby at_323) (fun _ _ => ⟨rfl, eT, (by decide : 7 + 0 ≤ _), (by decide : 26 + 0 ≤ _)⟩)
    dsimp only [Pt.U, Pt.locs, Pt.cells, Pt.slots] at X l_ y_ z_ st hQ
    subst l_ y_ z_
    obtain ⟨rfl, Nq, eh⟩ := hQ
    have N := Fr.app N Nq
    have eT := eh
    refine Go.by st ?_
    show Go p.tables e below (T.setTop (mkF m 326 #[.val (.int p0), .val (.int p1), .val (.int p2), .val (.int p3), .val (.long q4), .second, .val (.int p5), .val (.int (1 : Int32)), .val (.int c0), .val (.int c1), .val (.int c2), .val (.double (FP.l2d li)), .second, .val (.ref b1), .val (.ref b3), .val (.ref b5), .val (.ref rr), .val (.int (0 : Int32)), .val (.long (p1.toInt64)), .second, .val (.long (c0.toInt64)), .second, .val (.int c0)] [(.int (1 : Int32))])) _
    refine Go.by (fun tt_ kk_ => XS.ifNo X.here hx rfl (hb hby at_326) rfl ((if0 _ _).trans (feq (by decide : ¬ ((1 : Int32) = (0 : Int32)))).1) kk_) ?_
    show Go p.tables e below (T.setTop (mkF m 329 #[.val (.int p0), .val (.int p1), .val (.int p2), .val (.int p3), .val (.long q4), .second, .val (.int p5), .val (.int (1 : Int32)), .val (.int c0), .val (.int c1), .val (.int c2), .val (.double (FP.l2d li)), .second, .val (.ref b1), .val (.ref b3), .val (.ref b5), .val (.ref rr), .val (.int (0 : Int32)), .val (.long (p1.toInt64)), .second, .val (.long (c0.toInt64)), .second, .val (.int c0)] [])) _
    refine Go.by (fun tt_ kk_ => XS.aload X.here hx rfl (hb hby at_329) rfl rfl kk_) ?_
    show Go p.tables e below (T.setTop (mkF m 331 #[.val (.int p0), .val (.int p1), .val (.int p2), .val (.int p3), .val (.long q4), .second, .val (.int p5), .val (.int (1 : Int32)), .val (.int c0), .val (.int c1), .val (.int c2), .val (.double (FP.l2d li)), .second, .val (.ref b1), .val (.ref b3), .val (.ref b5), .val (.ref rr), .val (.int (0 : Int32)), .val (.long (p1.toInt64)), .second, .val (.long (c0.toInt64)), .second, .val (.int c0)] [(.ref rr)])) _
    refine Go.by (fun tt_ kk_ => XS.iconst X.here hx rfl (hb hby at_331) kk_) ?_
    show Go p.tables e below (T.setTop (mkF m 332 #[.val (.int p0), .val (.int p1), .val (.int p2), .val (.int p3), .val (.long q4), .second, .val (.int p5), .val (.int (1 : Int32)), .val (.int c0), .val (.int c1), .val (.int c2), .val (.double (FP.l2d li)), .second, .val (.ref b1), .val (.ref b3), .val (.ref b5), .val (.ref rr), .val (.int (0 : Int32)), .val (.long (p1.toInt64)), .second, .val (.long (c0.toInt64)), .second, .val (.int c0)] [(.int (2 : Int32)), (.ref rr)])) _
    refine Go.by (fun tt_ kk_ => XS.iload X.here hx rfl (hb hby at_332) rfl kk_) ?_
    show Go p.tables e below (T.setTop (mkF m 334 #[.val (.int p0), .val (.int p1), .val (.int p2), .val (.int p3), .val (.long q4), .second, .val (.int p5), .val (.int (1 : Int32)), .val (.int c0), .val (.int c1), .val (.int c2), .val (.double (FP.l2d li)), .second, .val (.ref b1), .val (.ref b3), .val (.ref b5), .val (.ref rr), .val (.int (0 : Int32)), .val (.long (p1.toInt64)), .second, .val (.long (c0.toInt64)), .second, .val (.int c0)] [(.int (1 : Int32)), (.int (2 : Int32)), (.ref rr)])) _
    refine Go.by (fun tt_ kk_ => XS.iload X.here hx rfl (hb hby at_334) rfl kk_) ?_
    show Go p.tables e below (T.setTop (mkF m 336 #[.val (.int p0), .val (.int p1), .val (.int p2), .val (.int p3), .val (.long q4), .second, .val (.int p5), .val (.int (1 : Int32)), .val (.int c0), .val (.int c1), .val (.int c2), .val (.double (FP.l2d li)), .second, .val (.ref b1), .val (.ref b3), .val (.ref b5), .val (.ref rr), .val (.int (0 : Int32)), .val (.long (p1.toInt64)), .second, .val (.long (c0.toInt64)), .second, .val (.int c0)] [(.int (0 : Int32)), (.int (1 : Int32)), (.int (2 : Int32)), (.ref rr)])) _
    refine Go.by (fun tt_ kk_ => XS.dload X.here hx rfl (hb hby at_336) rfl kk_) ?_
    show Go p.tables e below (T.setTop (mkF m 338 #[.val (.int p0), .val (.int p1), .val (.int p2), .val (.int p3), .val (.long q4), .second, .val (.int p5), .val (.int (1 : Int32)), .val (.int c0), .val (.int c1), .val (.int c2), .val (.double (FP.l2d li)), .second, .val (.ref b1), .val (.ref b3), .val (.ref b5), .val (.ref rr), .val (.int (0 : Int32)), .val (.long (p1.toInt64)), .second, .val (.long (c0.toInt64)), .second, .val (.int c0)] [(.double (FP.l2d li)), (.int (0 : Int32)), (.int (1 : Int32)), (.int (2 : Int32)), (.ref rr)])) _
    refine Go.by (fun tt_ kk_ => XS.iload X.here hx rfl (hb hby at_338) rfl kk_) ?_
    show Go p.tables e below (T.setTop (mkF m 340 #[.val (.int p0), .val (.int p1), .val (.int p2), .val (.int p3), .val (.long q4), .second, .val (.int p5), .val (.int (1 : Int32)), .val (.int c0), .val (.int c1), .val (.int c2), .val (.double (FP.l2d li)), .second, .val (.ref b1), .val (.ref b3), .val (.ref b5), .val (.ref rr), .val (.int (0 : Int32)), .val (.long (p1.toInt64)), .second, .val (.long (c0.toInt64)), .second, .val (.int c0)] [(.int c0), (.double (FP.l2d li)), (.int (0 : Int32)), (.int (1 : Int32)), (.int (2 : Int32)), (.ref rr)])) _
    obtain ⟨_, _, ⟨T, L_, k_, n_⟩, -, X, ⟨Lc_, hQ, l_, y_, z_⟩, st⟩ := Jvm.LawKit.callS X hx (y := (⟨"com/example/pareto_helm/paretohelm/engine/BudgetBestCornerPinLaw", "check", "([DIIIDI)Z"⟩ : MethodName)) hown (mvT hZ (hw _ (List.mem_of_getElem? (i := 59) rfl))) (mvT hZ (hw _ (List.mem_of_getElem? (i := 60) rfl))) (mvT hZ (hw _ (List.mem_of_getElem? (i := 57) rfl))) (mvT hZ (hw _ (List.mem_of_getElem? (i := 61) rfl))) (by decide) (backOf (W := 0) (rm9c l Z a0 hw [] rr (2 : Int32) (1 : Int32) (0 : Int32) (FP.l2d li) c0 h7 n0 (Nat.le_trans Z0 K.1) (by decide)) hZ (hw _ (List.mem_of_getElem? (i := 61) rfl)) (hw _ (List.mem_of_getElem? (i := 57) rfl)) (by decide) (by decide)) (g := (mkF m 340 #[.val (.int p0), .val (.int p1), .val (.int p2), .val (.int p3), .val (.long q4), .second, .val (.int p5), .val (.int (1 : Int32)), .val (.int c0), .val (.int c1), .val (.int c2), .val (.double (FP.l2d li)), .second, .val (.ref b1), .val (.ref b3), .val (.ref b5), .val (.ref rr), .val (.int (0 : Int32)), .val (.long (p1.toInt64)), .second, .val (.long (c0.toInt64)), .second, .val (.int c0)] [(.int c0), (.double (FP.l2d li)), (.int (0 : Int32)), (.int (1 : Int32)), (.int (2 : Int32)), (.ref rr)])) rfl (by rw [hml]; rfl) (argsL := [(.ref rr), (.int (2 : Int32)), (.int (1 : Int32)), (.int (0 : Int32)), (.double (FP.l2d li)), (.int c0)]) (rest := []) (lenOf pd_5 rfl) rfl (by show 2 * 0 + _ ≤ _; exact Nat.le_of_eq rfl) (hb hby at_340) (fun _ _ => ⟨rfl, eT, (by decide : 7 + 0 ≤ _), (by decide : 26 + 0 ≤ _)⟩)
    dsimp only [Pt.U, Pt.locs, Pt.cells, Pt.slots] at X l_ y_ z_ st hQ
    subst l_ y_ z_
    obtain ⟨rfl, Nq, eh⟩ := hQ
    have N := Fr.app N Nq
    have eT := eh
    refine Go.by st ?_
    show Go p.tables e below (T.setTop (mkF m 343 #[.val (.int p0), .val (.int p1), .val (.int p2), .val (.int p3), .val (.long q4), .second, .val (.int p5), .val (.int (1 : Int32)), .val (.int c0), .val (.int c1), .val (.int c2), .val (.double (FP.l2d li)), .second, .val (.ref b1), .val (.ref b3), .val (.ref b5), .val (.ref rr), .val (.int (0 : Int32)), .val (.long (p1.toInt64)), .second, .val (.long (c0.toInt64)), .second, .val (.int c0)] [(.int (1 : Int32))])) _
    refine Go.by (fun tt_ kk_ => XS.ifNo X.here hx rfl (hb hby at_343) rfl ((if0 _ _).trans (feq (by decide : ¬ ((1 : Int32) = (0 : Int32)))).1) kk_) ?_
    show Go p.tables e below (T.setTop (mkF m 346 #[.val (.int p0), .val (.int p1), .val (.int p2), .val (.int p3), .val (.long q4), .second, .val (.int p5), .val (.int (1 : Int32)), .val (.int c0), .val (.int c1), .val (.int c2), .val (.double (FP.l2d li)), .second, .val (.ref b1), .val (.ref b3), .val (.ref b5), .val (.ref rr), .val (.int (0 : Int32)), .val (.long (p1.toInt64)), .second, .val (.long (c0.toInt64)), .second, .val (.int c0)] [])) _
    refine Go.by (fun tt_ kk_ => XS.iconst X.here hx rfl (hb hby at_346) kk_) ?_
    show Go p.tables e below (T.setTop (mkF m 347 #[.val (.int p0), .val (.int p1), .val (.int p2), .val (.int p3), .val (.long q4), .second, .val (.int p5), .val (.int (1 : Int32)), .val (.int c0), .val (.int c1), .val (.int c2), .val (.double (FP.l2d li)), .second, .val (.ref b1), .val (.ref b3), .val (.ref b5), .val (.ref rr), .val (.int (0 : Int32)), .val (.long (p1.toInt64)), .second, .val (.long (c0.toInt64)), .second, .val (.int c0)] [(.int (1 : Int32))])) _
    refine Go.by (fun tt_ kk_ => XS.goto X.here hx rfl (pc0 := 347) (pc' := 351) rfl (hb hby at_347) (by decide) (by decide) kk_) ?_
    show Go p.tables e below (T.setTop (mkF m 351 #[.val (.int p0), .val (.int p1), .val (.int p2), .val (.int p3), .val (.long q4), .second, .val (.int p5), .val (.int (1 : Int32)), .val (.int c0), .val (.int c1), .val (.int c2), .val (.double (FP.l2d li)), .second, .val (.ref b1), .val (.ref b3), .val (.ref b5), .val (.ref rr), .val (.int (0 : Int32)), .val (.long (p1.toInt64)), .second, .val (.long (c0.toInt64)), .second, .val (.int c0)] [(.int (1 : Int32))])) _
    exact Go.doneW X hS (by rw [eT]; exact hk) (v := some (.int (1 : Int32))) (fun h => by rw [Bd.returns] at h; cases h) Bd.notSynchronized (fun fs hr => retN X hx (z := (1 : Int32)) (t := .boolean) Bd.returns (by simp) (hb hby at_351) hr) (by rw [eT]; exact ⟨rfl, N⟩) (by decide) (by decide)
  · rw [hcs]
    show Go p.tables e below (T.setTop (mkF m 9 #[.val (.int p0), .val (.int p1), .val (.int p2), .val (.int p3), .val (.long q4), .second, .val (.int p5), .unset, .unset, .unset, .unset, .unset, .unset, .unset, .unset, .unset, .unset, .unset, .unset, .unset, .unset, .unset, .unset] [(.int (2 : Int32))])) _
    refine Go.by (fun tt_ kk_ => XS.istore X.here hx rfl (hb hby at_9) rfl (l' := #[.val (.int p0), .val (.int p1), .val (.int p2), .val (.int p3), .val (.long q4), .second, .val (.int p5), .val (.int (2 : Int32)), .unset, .unset, .unset, .unset, .unset, .unset, .unset, .unset, .unset, .unset, .unset, .unset, .unset, .unset, .unset]) rfl kk_) ?_
    show Go p.tables e below (T.setTop (mkF m 11 #[.val (.int p0), .val (.int p1), .val (.int p2), .val (.int p3), .val (.long q4), .second, .val (.int p5), .val (.int (2 : Int32)), .unset, .unset, .unset, .unset, .unset, .unset, .unset, .unset, .unset, .unset, .unset, .unset, .unset, .unset, .unset] [])) _
    refine Go.by (fun tt_ kk_ => XS.iconst X.here hx rfl (hb hby at_11) kk_) ?_
    show Go p.tables e below (T.setTop (mkF m 12 #[.val (.int p0), .val (.int p1), .val (.int p2), .val (.int p3), .val (.long q4), .second, .val (.int p5), .val (.int (2 : Int32)), .unset, .unset, .unset, .unset, .unset, .unset, .unset, .unset, .unset, .unset, .unset, .unset, .unset, .unset, .unset] [(.int (1 : Int32))])) _
    refine Go.by (fun tt_ kk_ => XS.iloadN X.here hx rfl (hb hby at_12) rfl kk_) ?_
    show Go p.tables e below (T.setTop (mkF m 13 #[.val (.int p0), .val (.int p1), .val (.int p2), .val (.int p3), .val (.long q4), .second, .val (.int p5), .val (.int (2 : Int32)), .unset, .unset, .unset, .unset, .unset, .unset, .unset, .unset, .unset, .unset, .unset, .unset, .unset, .unset, .unset] [(.int p0), (.int (1 : Int32))])) _
    refine Go.by (fun tt_ kk_ => XS.sipush X.here hx rfl (hb hby at_13) kk_) ?_
    show Go p.tables e below (T.setTop (mkF m 16 #[.val (.int p0), .val (.int p1), .val (.int p2), .val (.int p3), .val (.long q4), .second, .val (.int p5), .val (.int (2 : Int32)), .unset, .unset, .unset, .unset, .unset, .unset, .unset, .unset, .unset, .unset, .unset, .unset, .unset, .unset, .unset] [(.int (1023 : Int32)), (.int p0), (.int (1 : Int32))])) _
    refine Go.by (fun tt_ kk_ => XS.iand X.here hx rfl (hb hby at_16) rfl kk_) ?_
    show Go p.tables e below (T.setTop (mkF m 17 #[.val (.int p0), .val (.int p1), .val (.int p2), .val (.int p3), .val (.long q4), .second, .val (.int p5), .val (.int (2 : Int32)), .unset, .unset, .unset, .unset, .unset, .unset, .unset, .unset, .unset, .unset, .unset, .unset, .unset, .unset, .unset] [(.int (p0 &&& (1023 : Int32))), (.int (1 : Int32))])) _
    refine Go.by (fun tt_ kk_ => XS.iadd X.here hx rfl (hb hby at_17) rfl kk_) ?_
    show Go p.tables e below (T.setTop (mkF m 18 #[.val (.int p0), .val (.int p1), .val (.int p2), .val (.int p3), .val (.long q4), .second, .val (.int p5), .val (.int (2 : Int32)), .unset, .unset, .unset, .unset, .unset, .unset, .unset, .unset, .unset, .unset, .unset, .unset, .unset, .unset, .unset] [(.int ((1 : Int32) + (p0 &&& (1023 : Int32))))])) _
    obtain ⟨c0, e_c0⟩ : ∃ z, z = ((1 : Int32) + (p0 &&& (1023 : Int32))) := ⟨_, rfl⟩
    rw [← e_c0]
    show Go p.tables e below (T.setTop (mkF m 18 #[.val (.int p0), .val (.int p1), .val (.int p2), .val (.int p3), .val (.long q4), .second, .val (.int p5), .val (.int (2 : Int32)), .unset, .unset, .unset, .unset, .unset, .unset, .unset, .unset, .unset, .unset, .unset, .unset, .unset, .unset, .unset] [(.int c0)])) _
    have b_c0 : 1 ≤ c0.toInt ∧ c0.toInt ≤ 1024 := by
      have q := own_and (x := p0) (k := 1023) (K := 1023) (by decide) (by decide)
      have h1 : (1 : Int32).toInt = 1 := by decide
      rw [e_c0, own_add32 (by rw [h1]; omega) (by rw [h1]; omega), h1]; omega
    refine Go.by (fun tt_ kk_ => XS.istore X.here hx rfl (hb hby at_18) rfl (l' := #[.val (.int p0), .val (.int p1), .val (.int p2), .val (.int p3), .val (.long q4), .second, .val (.int p5), .val (.int (2 : Int32)), .val (.int c0), .unset, .unset, .unset, .unset, .unset, .unset, .unset, .unset, .unset, .unset, .unset, .unset, .unset, .unset]) rfl kk_) ?_
    show Go p.tables e below (T.setTop (mkF m 20 #[.val (.int p0), .val (.int p1), .val (.int p2), .val (.int p3), .val (.long q4), .second, .val (.int p5), .val (.int (2 : Int32)), .val (.int c0), .unset, .unset, .unset, .unset, .unset, .unset, .unset, .unset, .unset, .unset, .unset, .unset, .unset, .unset] [])) _
    refine Go.by (fun tt_ kk_ => XS.iconst X.here hx rfl (hb hby at_20) kk_) ?_
    show Go p.tables e below (T.setTop (mkF m 21 #[.val (.int p0), .val (.int p1), .val (.int p2), .val (.int p3), .val (.long q4), .second, .val (.int p5), .val (.int (2 : Int32)), .val (.int c0), .unset, .unset, .unset, .unset, .unset, .unset, .unset, .unset, .unset, .unset, .unset, .unset, .unset, .unset] [(.int (1 : Int32))])) _
    refine Go.by (fun tt_ kk_ => XS.iloadN X.here hx rfl (hb hby at_21) rfl kk_) ?_
    show Go p.tables e below (T.setTop (mkF m 22 #[.val (.int p0), .val (.int p1), .val (.int p2), .val (.int p3), .val (.long q4), .second, .val (.int p5), .val (.int (2 : Int32)), .val (.int c0), .unset, .unset, .unset, .unset, .unset, .unset, .unset, .unset, .unset, .unset, .unset, .unset, .unset, .unset] [(.int p0), (.int (1 : Int32))])) _
    refine Go.by (fun tt_ kk_ => XS.bipush X.here hx rfl (hb hby at_22) kk_) ?_
    show Go p.tables e below (T.setTop (mkF m 24 #[.val (.int p0), .val (.int p1), .val (.int p2), .val (.int p3), .val (.long q4), .second, .val (.int p5), .val (.int (2 : Int32)), .val (.int c0), .unset, .unset, .unset, .unset, .unset, .unset, .unset, .unset, .unset, .unset, .unset, .unset, .unset, .unset] [(.int (10 : Int32)), (.int p0), (.int (1 : Int32))])) _
    refine Go.by (fun tt_ kk_ => XS.iushr X.here hx rfl (hb hby at_24) rfl kk_) ?_
    show Go p.tables e below (T.setTop (mkF m 25 #[.val (.int p0), .val (.int p1), .val (.int p2), .val (.int p3), .val (.long q4), .second, .val (.int p5), .val (.int (2 : Int32)), .val (.int c0), .unset, .unset, .unset, .unset, .unset, .unset, .unset, .unset, .unset, .unset, .unset, .unset, .unset, .unset] [(.int ((p0.toUInt32 >>> ((10 : Int32) &&& 31).toUInt32).toInt32)), (.int (1 : Int32))])) _
    refine Go.by (fun tt_ kk_ => XS.sipush X.here hx rfl (hb hby at_25) kk_) ?_
    show Go p.tables e below (T.setTop (mkF m 28 #[.val (.int p0), .val (.int p1), .val (.int p2), .val (.int p3), .val (.long q4), .second, .val (.int p5), .val (.int (2 : Int32)), .val (.int c0), .unset, .unset, .unset, .unset, .unset, .unset, .unset, .unset, .unset, .unset, .unset, .unset, .unset, .unset] [(.int (1023 : Int32)), (.int ((p0.toUInt32 >>> ((10 : Int32) &&& 31).toUInt32).toInt32)), (.int (1 : Int32))])) _
    refine Go.by (fun tt_ kk_ => XS.iand X.here hx rfl (hb hby at_28) rfl kk_) ?_
    show Go p.tables e below (T.setTop (mkF m 29 #[.val (.int p0), .val (.int p1), .val (.int p2), .val (.int p3), .val (.long q4), .second, .val (.int p5), .val (.int (2 : Int32)), .val (.int c0), .unset, .unset, .unset, .unset, .unset, .unset, .unset, .unset, .unset, .unset, .unset, .unset, .unset, .unset] [(.int (((p0.toUInt32 >>> ((10 : Int32) &&& 31).toUInt32).toInt32) &&& (1023 : Int32))), (.int (1 : Int32))])) _
    refine Go.by (fun tt_ kk_ => XS.iadd X.here hx rfl (hb hby at_29) rfl kk_) ?_
    show Go p.tables e below (T.setTop (mkF m 30 #[.val (.int p0), .val (.int p1), .val (.int p2), .val (.int p3), .val (.long q4), .second, .val (.int p5), .val (.int (2 : Int32)), .val (.int c0), .unset, .unset, .unset, .unset, .unset, .unset, .unset, .unset, .unset, .unset, .unset, .unset, .unset, .unset] [(.int ((1 : Int32) + (((p0.toUInt32 >>> ((10 : Int32) &&& 31).toUInt32).toInt32) &&& (1023 : Int32))))])) _
    obtain ⟨c1, e_c1⟩ : ∃ z, z = ((1 : Int32) + (((p0.toUInt32 >>> ((10 : Int32) &&& 31).toUInt32).toInt32) &&& (1023 : Int32))) := ⟨_, rfl⟩
    rw [← e_c1]
    show Go p.tables e below (T.setTop (mkF m 30 #[.val (.int p0), .val (.int p1), .val (.int p2), .val (.int p3), .val (.long q4), .second, .val (.int p5), .val (.int (2 : Int32)), .val (.int c0), .unset, .unset, .unset, .unset, .unset, .unset, .unset, .unset, .unset, .unset, .unset, .unset, .unset, .unset] [(.int c1)])) _
    have b_c1 : 1 ≤ c1.toInt ∧ c1.toInt ≤ 1024 := by
      have q := own_and (x := ((p0.toUInt32 >>> ((10 : Int32) &&& 31).toUInt32).toInt32)) (k := 1023) (K := 1023) (by decide) (by decide)
      have h1 : (1 : Int32).toInt = 1 := by decide
      rw [e_c1, own_add32 (by rw [h1]; omega) (by rw [h1]; omega), h1]; omega
    refine Go.by (fun tt_ kk_ => XS.istore X.here hx rfl (hb hby at_30) rfl (l' := #[.val (.int p0), .val (.int p1), .val (.int p2), .val (.int p3), .val (.long q4), .second, .val (.int p5), .val (.int (2 : Int32)), .val (.int c0), .val (.int c1), .unset, .unset, .unset, .unset, .unset, .unset, .unset, .unset, .unset, .unset, .unset, .unset, .unset]) rfl kk_) ?_
    show Go p.tables e below (T.setTop (mkF m 32 #[.val (.int p0), .val (.int p1), .val (.int p2), .val (.int p3), .val (.long q4), .second, .val (.int p5), .val (.int (2 : Int32)), .val (.int c0), .val (.int c1), .unset, .unset, .unset, .unset, .unset, .unset, .unset, .unset, .unset, .unset, .unset, .unset, .unset] [])) _
    refine Go.by (fun tt_ kk_ => XS.iconst X.here hx rfl (hb hby at_32) kk_) ?_
    show Go p.tables e below (T.setTop (mkF m 33 #[.val (.int p0), .val (.int p1), .val (.int p2), .val (.int p3), .val (.long q4), .second, .val (.int p5), .val (.int (2 : Int32)), .val (.int c0), .val (.int c1), .unset, .unset, .unset, .unset, .unset, .unset, .unset, .unset, .unset, .unset, .unset, .unset, .unset] [(.int (1 : Int32))])) _
    refine Go.by (fun tt_ kk_ => XS.iloadN X.here hx rfl (hb hby at_33) rfl kk_) ?_
    show Go p.tables e below (T.setTop (mkF m 34 #[.val (.int p0), .val (.int p1), .val (.int p2), .val (.int p3), .val (.long q4), .second, .val (.int p5), .val (.int (2 : Int32)), .val (.int c0), .val (.int c1), .unset, .unset, .unset, .unset, .unset, .unset, .unset, .unset, .unset, .unset, .unset, .unset, .unset] [(.int p0), (.int (1 : Int32))])) _
    refine Go.by (fun tt_ kk_ => XS.bipush X.here hx rfl (hb hby at_34) kk_) ?_
    show Go p.tables e below (T.setTop (mkF m 36 #[.val (.int p0), .val (.int p1), .val (.int p2), .val (.int p3), .val (.long q4), .second, .val (.int p5), .val (.int (2 : Int32)), .val (.int c0), .val (.int c1), .unset, .unset, .unset, .unset, .unset, .unset, .unset, .unset, .unset, .unset, .unset, .unset, .unset] [(.int (20 : Int32)), (.int p0), (.int (1 : Int32))])) _
    refine Go.by (fun tt_ kk_ => XS.iushr X.here hx rfl (hb hby at_36) rfl kk_) ?_
    show Go p.tables e below (T.setTop (mkF m 37 #[.val (.int p0), .val (.int p1), .val (.int p2), .val (.int p3), .val (.long q4), .second, .val (.int p5), .val (.int (2 : Int32)), .val (.int c0), .val (.int c1), .unset, .unset, .unset, .unset, .unset, .unset, .unset, .unset, .unset, .unset, .unset, .unset, .unset] [(.int ((p0.toUInt32 >>> ((20 : Int32) &&& 31).toUInt32).toInt32)), (.int (1 : Int32))])) _
    refine Go.by (fun tt_ kk_ => XS.sipush X.here hx rfl (hb hby at_37) kk_) ?_
    show Go p.tables e below (T.setTop (mkF m 40 #[.val (.int p0), .val (.int p1), .val (.int p2), .val (.int p3), .val (.long q4), .second, .val (.int p5), .val (.int (2 : Int32)), .val (.int c0), .val (.int c1), .unset, .unset, .unset, .unset, .unset, .unset, .unset, .unset, .unset, .unset, .unset, .unset, .unset] [(.int (1023 : Int32)), (.int ((p0.toUInt32 >>> ((20 : Int32) &&& 31).toUInt32).toInt32)), (.int (1 : Int32))])) _
    refine Go.by (fun tt_ kk_ => XS.iand X.here hx rfl (hb hby at_40) rfl kk_) ?_
    show Go p.tables e below (T.setTop (mkF m 41 #[.val (.int p0), .val (.int p1), .val (.int p2), .val (.int p3), .val (.long q4), .second, .val (.int p5), .val (.int (2 : Int32)), .val (.int c0), .val (.int c1), .unset, .unset, .unset, .unset, .unset, .unset, .unset, .unset, .unset, .unset, .unset, .unset, .unset] [(.int (((p0.toUInt32 >>> ((20 : Int32) &&& 31).toUInt32).toInt32) &&& (1023 : Int32))), (.int (1 : Int32))])) _
    refine Go.by (fun tt_ kk_ => XS.iadd X.here hx rfl (hb hby at_41) rfl kk_) ?_
    show Go p.tables e below (T.setTop (mkF m 42 #[.val (.int p0), .val (.int p1), .val (.int p2), .val (.int p3), .val (.long q4), .second, .val (.int p5), .val (.int (2 : Int32)), .val (.int c0), .val (.int c1), .unset, .unset, .unset, .unset, .unset, .unset, .unset, .unset, .unset, .unset, .unset, .unset, .unset] [(.int ((1 : Int32) + (((p0.toUInt32 >>> ((20 : Int32) &&& 31).toUInt32).toInt32) &&& (1023 : Int32))))])) _
    obtain ⟨c2, e_c2⟩ : ∃ z, z = ((1 : Int32) + (((p0.toUInt32 >>> ((20 : Int32) &&& 31).toUInt32).toInt32) &&& (1023 : Int32))) := ⟨_, rfl⟩
    rw [← e_c2]
    show Go p.tables e below (T.setTop (mkF m 42 #[.val (.int p0), .val (.int p1), .val (.int p2), .val (.int p3), .val (.long q4), .second, .val (.int p5), .val (.int (2 : Int32)), .val (.int c0), .val (.int c1), .unset, .unset, .unset, .unset, .unset, .unset, .unset, .unset, .unset, .unset, .unset, .unset, .unset] [(.int c2)])) _
    have b_c2 : 1 ≤ c2.toInt ∧ c2.toInt ≤ 1024 := by
      have q := own_and (x := ((p0.toUInt32 >>> ((20 : Int32) &&& 31).toUInt32).toInt32)) (k := 1023) (K := 1023) (by decide) (by decide)
      have h1 : (1 : Int32).toInt = 1 := by decide
      rw [e_c2, own_add32 (by rw [h1]; omega) (by rw [h1]; omega), h1]; omega
    refine Go.by (fun tt_ kk_ => XS.istore X.here hx rfl (hb hby at_42) rfl (l' := #[.val (.int p0), .val (.int p1), .val (.int p2), .val (.int p3), .val (.long q4), .second, .val (.int p5), .val (.int (2 : Int32)), .val (.int c0), .val (.int c1), .val (.int c2), .unset, .unset, .unset, .unset, .unset, .unset, .unset, .unset, .unset, .unset, .unset, .unset]) rfl kk_) ?_
    show Go p.tables e below (T.setTop (mkF m 44 #[.val (.int p0), .val (.int p1), .val (.int p2), .val (.int p3), .val (.long q4), .second, .val (.int p5), .val (.int (2 : Int32)), .val (.int c0), .val (.int c1), .val (.int c2), .unset, .unset, .unset, .unset, .unset, .unset, .unset, .unset, .unset, .unset, .unset, .unset] [])) _
    refine Go.by (fun tt_ kk_ => XS.lconst X.here hx rfl (hb hby at_44) kk_) ?_
    show Go p.tables e below (T.setTop (mkF m 45 #[.val (.int p0), .val (.int p1), .val (.int p2), .val (.int p3), .val (.long q4), .second, .val (.int p5), .val (.int (2 : Int32)), .val (.int c0), .val (.int c1), .val (.int c2), .unset, .unset, .unset, .unset, .unset, .unset, .unset, .unset, .unset, .unset, .unset, .unset] [(.long (1 : Int64))])) _
    refine Go.by (fun tt_ kk_ => XS.lload X.here hx rfl (hb hby at_45) rfl kk_) ?_
    show Go p.tables e below (T.setTop (mkF m 47 #[.val (.int p0), .val (.int p1), .val (.int p2), .val (.int p3), .val (.long q4), .second, .val (.int p5), .val (.int (2 : Int32)), .val (.int c0), .val (.int c1), .val (.int c2), .unset, .unset, .unset, .unset, .unset, .unset, .unset, .unset, .unset, .unset, .unset, .unset] [(.long q4), (.long (1 : Int64))])) _
    refine Go.by (X.ldc2Long hx hown (mvT hZ (hw _ (List.mem_of_getElem? (i := 1) rfl))) (g := (mkF m 47 #[.val (.int p0), .val (.int p1), .val (.int p2), .val (.int p3), .val (.long q4), .second, .val (.int p5), .val (.int (2 : Int32)), .val (.int c0), .val (.int c1), .val (.int c2), .unset, .unset, .unset, .unset, .unset, .unset, .unset, .unset, .unset, .unset, .unset, .unset] [(.long q4), (.long (1 : Int64))])) rfl (hb hby at_47)) ?_
    show Go p.tables e below (T.setTop (mkF m 50 #[.val (.int p0), .val (.int p1), .val (.int p2), .val (.int p3), .val (.long q4), .second, .val (.int p5), .val (.int (2 : Int32)), .val (.int c0), .val (.int c1), .val (.int c2), .unset, .unset, .unset, .unset, .unset, .unset, .unset, .unset, .unset, .unset, .unset, .unset] [(.long (4611686018427387903 : Int64)), (.long q4), (.long (1 : Int64))])) _
    refine Go.by (fun tt_ kk_ => XS.land X.here hx rfl (hb hby at_50) rfl kk_) ?_
    show Go p.tables e below (T.setTop (mkF m 51 #[.val (.int p0), .val (.int p1), .val (.int p2), .val (.int p3), .val (.long q4), .second, .val (.int p5), .val (.int (2 : Int32)), .val (.int c0), .val (.int c1), .val (.int c2), .unset, .unset, .unset, .unset, .unset, .unset, .unset, .unset, .unset, .unset, .unset, .unset] [(.long (q4 &&& (4611686018427387903 : Int64))), (.long (1 : Int64))])) _
    refine Go.by (fun tt_ kk_ => XS.ladd X.here hx rfl (hb hby at_51) rfl kk_) ?_
    show Go p.tables e below (T.setTop (mkF m 52 #[.val (.int p0), .val (.int p1), .val (.int p2), .val (.int p3), .val (.long q4), .second, .val (.int p5), .val (.int (2 : Int32)), .val (.int c0), .val (.int c1), .val (.int c2), .unset, .unset, .unset, .unset, .unset, .unset, .unset, .unset, .unset, .unset, .unset, .unset] [(.long ((1 : Int64) + (q4 &&& (4611686018427387903 : Int64))))])) _
    obtain ⟨li, e_li⟩ : ∃ z, z = ((1 : Int64) + (q4 &&& (4611686018427387903 : Int64))) := ⟨_, rfl⟩
    rw [← e_li]
    show Go p.tables e below (T.setTop (mkF m 52 #[.val (.int p0), .val (.int p1), .val (.int p2), .val (.int p3), .val (.long q4), .second, .val (.int p5), .val (.int (2 : Int32)), .val (.int c0), .val (.int c1), .val (.int c2), .unset, .unset, .unset, .unset, .unset, .unset, .unset, .unset, .unset, .unset, .unset, .unset] [(.long li)])) _
    have b_li : 0 < li.toInt := by
      have m1 : (q4 &&& (4611686018427387903 : Int64)).toInt = q4.toInt % 2 ^ 62 := Jvm.Kit.i64_mask _ _ (by decide) (by decide)
      have h1 : (1 : Int64).toInt = 1 := by decide
      rw [e_li, FP.Core.int64_add (by rw [m1, h1]; omega) (by rw [m1, h1]; omega), m1, h1]; omega
    have b_w0 : -2147483648 ≤ p1.toInt ∧ p1.toInt ≤ 2147483648 := by have := Int32.toInt_lt p1; have := Int32.le_toInt p1; omega
    have b_w1 : -2147483648 ≤ p2.toInt ∧ p2.toInt ≤ 2147483648 := by have := Int32.toInt_lt p2; have := Int32.le_toInt p2; omega
    have b_w2 : -2147483648 ≤ p3.toInt ∧ p3.toInt ≤ 2147483648 := by have := Int32.toInt_lt p3; have := Int32.le_toInt p3; omega
    refine Go.by (fun tt_ kk_ => XS.l2dS X.here hx rfl (hb hby at_52) rfl rfl kk_) ?_
    show Go p.tables e below (T.setTop (mkF m 53 #[.val (.int p0), .val (.int p1), .val (.int p2), .val (.int p3), .val (.long q4), .second, .val (.int p5), .val (.int (2 : Int32)), .val (.int c0), .val (.int c1), .val (.int c2), .unset, .unset, .unset, .unset, .unset, .unset, .unset, .unset, .unset, .unset, .unset, .unset] [(.double (FP.l2d li))])) _
    refine Go.by (fun tt_ kk_ => XS.dstore X.here hx rfl (hb hby at_53) rfl (l' := #[.val (.int p0), .val (.int p1), .val (.int p2), .val (.int p3), .val (.long q4), .second, .val (.int p5), .val (.int (2 : Int32)), .val (.int c0), .val (.int c1), .val (.int c2), .val (.double (FP.l2d li)), .second, .unset, .unset, .unset, .unset, .unset, .unset, .unset, .unset, .unset, .unset]) rfl kk_) ?_
    show Go p.tables e below (T.setTop (mkF m 55 #[.val (.int p0), .val (.int p1), .val (.int p2), .val (.int p3), .val (.long q4), .second, .val (.int p5), .val (.int (2 : Int32)), .val (.int c0), .val (.int c1), .val (.int c2), .val (.double (FP.l2d li)), .second, .unset, .unset, .unset, .unset, .unset, .unset, .unset, .unset, .unset, .unset] [])) _
    refine Go.by (fun tt_ kk_ => XS.iload X.here hx rfl (hb hby at_55) rfl kk_) ?_
    show Go p.tables e below (T.setTop (mkF m 57 #[.val (.int p0), .val (.int p1), .val (.int p2), .val (.int p3), .val (.long q4), .second, .val (.int p5), .val (.int (2 : Int32)), .val (.int c0), .val (.int c1), .val (.int c2), .val (.double (FP.l2d li)), .second, .unset, .unset, .unset, .unset, .unset, .unset, .unset, .unset, .unset, .unset] [(.int (2 : Int32))])) _
    refine Go.by (fun tt_ kk_ => XS.iconst X.here hx rfl (hb hby at_57) kk_) ?_
    show Go p.tables e below (T.setTop (mkF m 58 #[.val (.int p0), .val (.int p1), .val (.int p2), .val (.int p3), .val (.long q4), .second, .val (.int p5), .val (.int (2 : Int32)), .val (.int c0), .val (.int c1), .val (.int c2), .val (.double (FP.l2d li)), .second, .unset, .unset, .unset, .unset, .unset, .unset, .unset, .unset, .unset, .unset] [(.int (1 : Int32)), (.int (2 : Int32))])) _
    refine Go.by (fun tt_ kk_ => XS.icmpYes X.here hx rfl (pc0 := 58) (pc' := 85) rfl (hb hby at_58) rfl (feq (by decide : ¬ ((2 : Int32) = (1 : Int32)))).2 (by decide) (by decide) kk_) ?_
    show Go p.tables e below (T.setTop (mkF m 85 #[.val (.int p0), .val (.int p1), .val (.int p2), .val (.int p3), .val (.long q4), .second, .val (.int p5), .val (.int (2 : Int32)), .val (.int c0), .val (.int c1), .val (.int c2), .val (.double (FP.l2d li)), .second, .unset, .unset, .unset, .unset, .unset, .unset, .unset, .unset, .unset, .unset] [])) _
    refine Go.by (fun tt_ kk_ => XS.iload X.here hx rfl (hb hby at_85) rfl kk_) ?_
    show Go p.tables e below (T.setTop (mkF m 87 #[.val (.int p0), .val (.int p1), .val (.int p2), .val (.int p3), .val (.long q4), .second, .val (.int p5), .val (.int (2 : Int32)), .val (.int c0), .val (.int c1), .val (.int c2), .val (.double (FP.l2d li)), .second, .unset, .unset, .unset, .unset, .unset, .unset, .unset, .unset, .unset, .unset] [(.int (2 : Int32))])) _
    refine Go.by (fun tt_ kk_ => XS.iconst X.here hx rfl (hb hby at_87) kk_) ?_
    show Go p.tables e below (T.setTop (mkF m 88 #[.val (.int p0), .val (.int p1), .val (.int p2), .val (.int p3), .val (.long q4), .second, .val (.int p5), .val (.int (2 : Int32)), .val (.int c0), .val (.int c1), .val (.int c2), .val (.double (FP.l2d li)), .second, .unset, .unset, .unset, .unset, .unset, .unset, .unset, .unset, .unset, .unset] [(.int (2 : Int32)), (.int (2 : Int32))])) _
    refine Go.by (fun tt_ kk_ => XS.icmpNo X.here hx rfl (hb hby at_88) rfl (teq (rfl : (2 : Int32) = (2 : Int32))).2 kk_) ?_
    show Go p.tables e below (T.setTop (mkF m 91 #[.val (.int p0), .val (.int p1), .val (.int p2), .val (.int p3), .val (.long q4), .second, .val (.int p5), .val (.int (2 : Int32)), .val (.int c0), .val (.int c1), .val (.int c2), .val (.double (FP.l2d li)), .second, .unset, .unset, .unset, .unset, .unset, .unset, .unset, .unset, .unset, .unset] [])) _
    refine Go.by (fun tt_ kk_ => XS.iconst X.here hx rfl (hb hby at_91) kk_) ?_
    show Go p.tables e below (T.setTop (mkF m 92 #[.val (.int p0), .val (.int p1), .val (.int p2), .val (.int p3), .val (.long q4), .second, .val (.int p5), .val (.int (2 : Int32)), .val (.int c0), .val (.int c1), .val (.int c2), .val (.double (FP.l2d li)), .second, .unset, .unset, .unset, .unset, .unset, .unset, .unset, .unset, .unset, .unset] [(.int (2 : Int32))])) _
    obtain ⟨T, h11, k_b11, X, eT, E_, A_, Ea_, st⟩ := newPE X hx hZ (hw _ (List.mem_of_getElem? (i := 2) rfl)) eT (g := (mkF m 92 #[.val (.int p0), .val (.int p1), .val (.int p2), .val (.int p3), .val (.long q4), .second, .val (.int p5), .val (.int (2 : Int32)), .val (.int c0), .val (.int c1), .val (.int c2), .val (.double (FP.l2d li)), .second, .unset, .unset, .unset, .unset, .unset, .unset, .unset, .unset, .unset, .unset] [(.int (2 : Int32))])) rfl (hb hby at_92) rfl (by decide) (cap := 2) (by decide) (by decide) (by decide) (by decide) (ad := "[D") (by decide)
    obtain ⟨b11, g_b11'⟩ : ∃ z, z = h0.size := ⟨_, rfl⟩
    rw [← g_b11'] at A_ st Ea_
    have g_b11 : n0 ≤ b11 := Nat.le_trans Z0 (Nat.le_trans K.1 (Nat.le_of_eq g_b11'.symm))
    have sz_b11 : h0.size ≤ b11 := Nat.le_trans K.1 (Nat.le_of_eq g_b11'.symm)
    have K := K.ext E_
    have hk := Nat.le_trans hk E_.1
    have V_b11 := Arv.new A_ (by decide)
    have E_b11 := Ea_
    refine Go.by st ?_
    show Go p.tables e below (T.setTop (mkF m 94 #[.val (.int p0), .val (.int p1), .val (.int p2), .val (.int p3), .val (.long q4), .second, .val (.int p5), .val (.int (2 : Int32)), .val (.int c0), .val (.int c1), .val (.int c2), .val (.double (FP.l2d li)), .second, .unset, .unset, .unset, .unset, .unset, .unset, .unset, .unset, .unset, .unset] [(.ref b11)])) _
    have V_b11 : Arv Z h11 b11 k_b11 .double (2 : Int32) [(.double (0 : UInt64)), (.double (0 : UInt64))] (.double (0 : UInt64)) := V_b11.pad (pad_rep [] (.double (0 : UInt64)) 2)
    refine Go.by (fun tt_ kk_ => XS.dup X.here hx rfl (hb hby at_94) rfl rfl kk_) ?_
    show Go p.tables e below (T.setTop (mkF m 95 #[.val (.int p0), .val (.int p1), .val (.int p2), .val (.int p3), .val (.long q4), .second, .val (.int p5), .val (.int (2 : Int32)), .val (.int c0), .val (.int c1), .val (.int c2), .val (.double (FP.l2d li)), .second, .unset, .unset, .unset, .unset, .unset, .unset, .unset, .unset, .unset, .unset] [(.ref b11), (.ref b11)])) _
    refine Go.by (fun tt_ kk_ => XS.iconst X.here hx rfl (hb hby at_95) kk_) ?_
    show Go p.tables e below (T.setTop (mkF m 96 #[.val (.int p0), .val (.int p1), .val (.int p2), .val (.int p3), .val (.long q4), .second, .val (.int p5), .val (.int (2 : Int32)), .val (.int c0), .val (.int c1), .val (.int c2), .val (.double (FP.l2d li)), .second, .unset, .unset, .unset, .unset, .unset, .unset, .unset, .unset, .unset, .unset] [(.int (0 : Int32)), (.ref b11), (.ref b11)])) _
    refine Go.by (fun tt_ kk_ => XS.iload X.here hx rfl (hb hby at_96) rfl kk_) ?_
    show Go p.tables e below (T.setTop (mkF m 98 #[.val (.int p0), .val (.int p1), .val (.int p2), .val (.int p3), .val (.long q4), .second, .val (.int p5), .val (.int (2 : Int32)), .val (.int c0), .val (.int c1), .val (.int c2), .val (.double (FP.l2d li)), .second, .unset, .unset, .unset, .unset, .unset, .unset, .unset, .unset, .unset, .unset] [(.int c0), (.int (0 : Int32)), (.ref b11), (.ref b11)])) _
    refine Go.by (fun tt_ kk_ => XS.i2dS X.here hx rfl (hb hby at_98) rfl rfl kk_) ?_
    show Go p.tables e below (T.setTop (mkF m 99 #[.val (.int p0), .val (.int p1), .val (.int p2), .val (.int p3), .val (.long q4), .second, .val (.int p5), .val (.int (2 : Int32)), .val (.int c0), .val (.int c1), .val (.int c2), .val (.double (FP.l2d li)), .second, .unset, .unset, .unset, .unset, .unset, .unset, .unset, .unset, .unset, .unset] [(.double (FP.i2d c0)), (.int (0 : Int32)), (.ref b11), (.ref b11)])) _
    have Vo_ := V_b11
    obtain ⟨cl_, Ar_, q_, S_, N_, H_, G_⟩ := Vo_
    obtain ⟨T, h12, X, eT, Wh12, st⟩ := stD X hx hZ eT Ar_ (j := (0 : Int32)) (inb_of S_ ⟨by decide, by decide⟩) (g := (mkF m 99 #[.val (.int p0), .val (.int p1), .val (.int p2), .val (.int p3), .val (.long q4), .second, .val (.int p5), .val (.int (2 : Int32)), .val (.int c0), .val (.int c1), .val (.int c2), .val (.double (FP.l2d li)), .second, .unset, .unset, .unset, .unset, .unset, .unset, .unset, .unset, .unset, .unset] [(.double (FP.i2d c0)), (.int (0 : Int32)), (.ref b11), (.ref b11)])) rfl rfl (hb hby at_99)
    have V_b11 := Arv.set Ar_ q_ S_ N_ H_ G_ rfl Wh12 0 rfl (Nat.le_of_ble_eq_true rfl)
    have E_b11 := Exa.wr Wh12 E_b11
    have N := Fr.snoc X N g_b11
    have K := K.wr Wh12 (Or.inr sz_b11)
    have hk := Nat.le_trans hk (Nat.le_of_eq (Wr.size Wh12).symm)
    refine Go.by st ?_
    show Go p.tables e below (T.setTop (mkF m 100 #[.val (.int p0), .val (.int p1), .val (.int p2), .val (.int p3), .val (.long q4), .second, .val (.int p5), .val (.int (2 : Int32)), .val (.int c0), .val (.int c1), .val (.int c2), .val (.double (FP.l2d li)), .second, .unset, .unset, .unset, .unset, .unset, .unset, .unset, .unset, .unset, .unset] [(.ref b11)])) _
    refine Go.by (fun tt_ kk_ => XS.dup X.here hx rfl (hb hby at_100) rfl rfl kk_) ?_
    show Go p.tables e below (T.setTop (mkF m 101 #[.val (.int p0), .val (.int p1), .val (.int p2), .val (.int p3), .val (.long q4), .second, .val (.int p5), .val (.int (2 : Int32)), .val (.int c0), .val (.int c1), .val (.int c2), .val (.double (FP.l2d li)), .second, .unset, .unset, .unset, .unset, .unset, .unset, .unset, .unset, .unset, .unset] [(.ref b11), (.ref b11)])) _
    refine Go.by (fun tt_ kk_ => XS.iconst X.here hx rfl (hb hby at_101) kk_) ?_
    show Go p.tables e below (T.setTop (mkF m 102 #[.val (.int p0), .val (.int p1), .val (.int p2), .val (.int p3), .val (.long q4), .second, .val (.int p5), .val (.int (2 : Int32)), .val (.int c0), .val (.int c1), .val (.int c2), .val (.double (FP.l2d li)), .second, .unset, .unset, .unset, .unset, .unset, .unset, .unset, .unset, .unset, .unset] [(.int (1 : Int32)), (.ref b11), (.ref b11)])) _
    refine Go.by (fun tt_ kk_ => XS.iload X.here hx rfl (hb hby at_102) rfl kk_) ?_
    show Go p.tables e below (T.setTop (mkF m 104 #[.val (.int p0), .val (.int p1), .val (.int p2), .val (.int p3), .val (.long q4), .second, .val (.int p5), .val (.int (2 : Int32)), .val (.int c0), .val (.int c1), .val (.int c2), .val (.double (FP.l2d li)), .second, .unset, .unset, .unset, .unset, .unset, .unset, .unset, .unset, .unset, .unset] [(.int c1), (.int (1 : Int32)), (.ref b11), (.ref b11)])) _
    refine Go.by (fun tt_ kk_ => XS.i2dS X.here hx rfl (hb hby at_104) rfl rfl kk_) ?_
    show Go p.tables e below (T.setTop (mkF m 105 #[.val (.int p0), .val (.int p1), .val (.int p2), .val (.int p3), .val (.long q4), .second, .val (.int p5), .val (.int (2 : Int32)), .val (.int c0), .val (.int c1), .val (.int c2), .val (.double (FP.l2d li)), .second, .unset, .unset, .unset, .unset, .unset, .unset, .unset, .unset, .unset, .unset] [(.double (FP.i2d c1)), (.int (1 : Int32)), (.ref b11), (.ref b11)])) _
    have Vo_ := V_b11
    obtain ⟨cl_, Ar_, q_, S_, N_, H_, G_⟩ := Vo_
    obtain ⟨T, h13, X, eT, Wh13, st⟩ := stD X hx hZ eT Ar_ (j := (1 : Int32)) (inb_of S_ ⟨by decide, by decide⟩) (g := (mkF m 105 #[.val (.int p0), .val (.int p1), .val (.int p2), .val (.int p3), .val (.long q4), .second, .val (.int p5), .val (.int (2 : Int32)), .val (.int c0), .val (.int c1), .val (.int c2), .val (.double (FP.l2d li)), .second, .unset, .unset, .unset, .unset, .unset, .unset, .unset, .unset, .unset, .unset] [(.double (FP.i2d c1)), (.int (1 : Int32)), (.ref b11), (.ref b11)])) rfl rfl (hb hby at_105)
    have V_b11 := Arv.set Ar_ q_ S_ N_ H_ G_ rfl Wh13 1 rfl (Nat.le_of_ble_eq_true rfl)
    have E_b11 := Exa.wr Wh13 E_b11
    have N := Fr.snoc X N g_b11
    have K := K.wr Wh13 (Or.inr sz_b11)
    have hk := Nat.le_trans hk (Nat.le_of_eq (Wr.size Wh13).symm)
    refine Go.by st ?_
    show Go p.tables e below (T.setTop (mkF m 106 #[.val (.int p0), .val (.int p1), .val (.int p2), .val (.int p3), .val (.long q4), .second, .val (.int p5), .val (.int (2 : Int32)), .val (.int c0), .val (.int c1), .val (.int c2), .val (.double (FP.l2d li)), .second, .unset, .unset, .unset, .unset, .unset, .unset, .unset, .unset, .unset, .unset] [(.ref b11)])) _
    refine Go.by (fun tt_ kk_ => XS.astore X.here hx rfl (hb hby at_106) rfl rfl (l' := #[.val (.int p0), .val (.int p1), .val (.int p2), .val (.int p3), .val (.long q4), .second, .val (.int p5), .val (.int (2 : Int32)), .val (.int c0), .val (.int c1), .val (.int c2), .val (.double (FP.l2d li)), .second, .val (.ref b11), .unset, .unset, .unset, .unset, .unset, .unset, .unset, .unset, .unset]) rfl kk_) ?_
    show Go p.tables e below (T.setTop (mkF m 108 #[.val (.int p0), .val (.int p1), .val (.int p2), .val (.int p3), .val (.long q4), .second, .val (.int p5), .val (.int (2 : Int32)), .val (.int c0), .val (.int c1), .val (.int c2), .val (.double (FP.l2d li)), .second, .val (.ref b11), .unset, .unset, .unset, .unset, .unset, .unset, .unset, .unset, .unset] [])) _
    refine Go.by (fun tt_ kk_ => XS.iconst X.here hx rfl (hb hby at_108) kk_) ?_
    show Go p.tables e below (T.setTop (mkF m 109 #[.val (.int p0), .val (.int p1), .val (.int p2), .val (.int p3), .val (.long q4), .second, .val (.int p5), .val (.int (2 : Int32)), .val (.int c0), .val (.int c1), .val (.int c2), .val (.double (FP.l2d li)), .second, .val (.ref b11), .unset, .unset, .unset, .unset, .unset, .unset, .unset, .unset, .unset] [(.int (2 : Int32))])) _
    obtain ⟨T, h14, k_b14, X, eT, E_, A_, Ea_, st⟩ := newPE X hx hZ (hw _ (List.mem_of_getElem? (i := 2) rfl)) eT (g := (mkF m 109 #[.val (.int p0), .val (.int p1), .val (.int p2), .val (.int p3), .val (.long q4), .second, .val (.int p5), .val (.int (2 : Int32)), .val (.int c0), .val (.int c1), .val (.int c2), .val (.double (FP.l2d li)), .second, .val (.ref b11), .unset, .unset, .unset, .unset, .unset, .unset, .unset, .unset, .unset] [(.int (2 : Int32))])) rfl (hb hby at_109) rfl (by decide) (cap := 2) (by decide) (by decide) (by decide) (by decide) (ad := "[D") (by decide)
    obtain ⟨b14, g_b14'⟩ : ∃ z, z = h13.size := ⟨_, rfl⟩
    rw [← g_b14'] at A_ st Ea_
    have ne_b11_b14 : b11 ≠ b14 := Nat.ne_of_lt (Nat.lt_of_lt_of_le E_b11.lt (Nat.le_of_eq g_b14'.symm))
    have ne_b14_b11 : b14 ≠ b11 := Ne.symm ne_b11_b14
    have g_b14 : n0 ≤ b14 := Nat.le_trans Z0 (Nat.le_trans K.1 (Nat.le_of_eq g_b14'.symm))
    have sz_b14 : h0.size ≤ b14 := Nat.le_trans K.1 (Nat.le_of_eq g_b14'.symm)
    have K := K.ext E_
    have hk := Nat.le_trans hk E_.1
    have E_b11 := Exa.ext E_ E_b11
    have V_b11 := Arv.ext V_b11 E_
    have V_b14 := Arv.new A_ (by decide)
    have E_b14 := Ea_
    refine Go.by st ?_
    show Go p.tables e below (T.setTop (mkF m 111 #[.val (.int p0), .val (.int p1), .val (.int p2), .val (.int p3), .val (.long q4), .second, .val (.int p5), .val (.int (2 : Int32)), .val (.int c0), .val (.int c1), .val (.int c2), .val (.double (FP.l2d li)), .second, .val (.ref b11), .unset, .unset, .unset, .unset, .unset, .unset, .unset, .unset, .unset] [(.ref b14)])) _
    have V_b14 : Arv Z h14 b14 k_b14 .double (2 : Int32) [(.double (0 : UInt64)), (.double (0 : UInt64))] (.double (0 : UInt64)) := V_b14.pad (pad_rep [] (.double (0 : UInt64)) 2)
    refine Go.by (fun tt_ kk_ => XS.dup X.here hx rfl (hb hby at_111) rfl rfl kk_) ?_
    show Go p.tables e below (T.setTop (mkF m 112 #[.val (.int p0), .val (.int p1), .val (.int p2), .val (.int p3), .val (.long q4), .second, .val (.int p5), .val (.int (2 : Int32)), .val (.int c0), .val (.int c1), .val (.int c2), .val (.double (FP.l2d li)), .second, .val (.ref b11), .unset, .unset, .unset, .unset, .unset, .unset, .unset, .unset, .unset] [(.ref b14), (.ref b14)])) _
    refine Go.by (fun tt_ kk_ => XS.iconst X.here hx rfl (hb hby at_112) kk_) ?_
    show Go p.tables e below (T.setTop (mkF m 113 #[.val (.int p0), .val (.int p1), .val (.int p2), .val (.int p3), .val (.long q4), .second, .val (.int p5), .val (.int (2 : Int32)), .val (.int c0), .val (.int c1), .val (.int c2), .val (.double (FP.l2d li)), .second, .val (.ref b11), .unset, .unset, .unset, .unset, .unset, .unset, .unset, .unset, .unset] [(.int (0 : Int32)), (.ref b14), (.ref b14)])) _
    refine Go.by (fun tt_ kk_ => XS.iloadN X.here hx rfl (hb hby at_113) rfl kk_) ?_
    show Go p.tables e below (T.setTop (mkF m 114 #[.val (.int p0), .val (.int p1), .val (.int p2), .val (.int p3), .val (.long q4), .second, .val (.int p5), .val (.int (2 : Int32)), .val (.int c0), .val (.int c1), .val (.int c2), .val (.double (FP.l2d li)), .second, .val (.ref b11), .unset, .unset, .unset, .unset, .unset, .unset, .unset, .unset, .unset] [(.int p1), (.int (0 : Int32)), (.ref b14), (.ref b14)])) _
    refine Go.by (fun tt_ kk_ => XS.i2dS X.here hx rfl (hb hby at_114) rfl rfl kk_) ?_
    show Go p.tables e below (T.setTop (mkF m 115 #[.val (.int p0), .val (.int p1), .val (.int p2), .val (.int p3), .val (.long q4), .second, .val (.int p5), .val (.int (2 : Int32)), .val (.int c0), .val (.int c1), .val (.int c2), .val (.double (FP.l2d li)), .second, .val (.ref b11), .unset, .unset, .unset, .unset, .unset, .unset, .unset, .unset, .unset] [(.double (FP.i2d p1)), (.int (0 : Int32)), (.ref b14), (.ref b14)])) _
    have Vo_ := V_b14
    obtain ⟨cl_, Ar_, q_, S_, N_, H_, G_⟩ := Vo_
    obtain ⟨T, h15, X, eT, Wh15, st⟩ := stD X hx hZ eT Ar_ (j := (0 : Int32)) (inb_of S_ ⟨by decide, by decide⟩) (g := (mkF m 115 #[.val (.int p0), .val (.int p1), .val (.int p2), .val (.int p3), .val (.long q4), .second, .val (.int p5), .val (.int (2 : Int32)), .val (.int c0), .val (.int c1), .val (.int c2), .val (.double (FP.l2d li)), .second, .val (.ref b11), .unset, .unset, .unset, .unset, .unset, .unset, .unset, .unset, .unset] [(.double (FP.i2d p1)), (.int (0 : Int32)), (.ref b14), (.ref b14)])) rfl rfl (hb hby at_115)
    have V_b14 := Arv.set Ar_ q_ S_ N_ H_ G_ rfl Wh15 0 rfl (Nat.le_of_ble_eq_true rfl)
    have E_b11 := Exa.wr Wh15 E_b11
    have V_b11 := Arv.other V_b11 Wh15 ne_b11_b14
    have E_b14 := Exa.wr Wh15 E_b14
    have N := Fr.snoc X N g_b14
    have K := K.wr Wh15 (Or.inr sz_b14)
    have hk := Nat.le_trans hk (Nat.le_of_eq (Wr.size Wh15).symm)
    refine Go.by st ?_
    show Go p.tables e below (T.setTop (mkF m 116 #[.val (.int p0), .val (.int p1), .val (.int p2), .val (.int p3), .val (.long q4), .second, .val (.int p5), .val (.int (2 : Int32)), .val (.int c0), .val (.int c1), .val (.int c2), .val (.double (FP.l2d li)), .second, .val (.ref b11), .unset, .unset, .unset, .unset, .unset, .unset, .unset, .unset, .unset] [(.ref b14)])) _
    refine Go.by (fun tt_ kk_ => XS.dup X.here hx rfl (hb hby at_116) rfl rfl kk_) ?_
    show Go p.tables e below (T.setTop (mkF m 117 #[.val (.int p0), .val (.int p1), .val (.int p2), .val (.int p3), .val (.long q4), .second, .val (.int p5), .val (.int (2 : Int32)), .val (.int c0), .val (.int c1), .val (.int c2), .val (.double (FP.l2d li)), .second, .val (.ref b11), .unset, .unset, .unset, .unset, .unset, .unset, .unset, .unset, .unset] [(.ref b14), (.ref b14)])) _
    refine Go.by (fun tt_ kk_ => XS.iconst X.here hx rfl (hb hby at_117) kk_) ?_
    show Go p.tables e below (T.setTop (mkF m 118 #[.val (.int p0), .val (.int p1), .val (.int p2), .val (.int p3), .val (.long q4), .second, .val (.int p5), .val (.int (2 : Int32)), .val (.int c0), .val (.int c1), .val (.int c2), .val (.double (FP.l2d li)), .second, .val (.ref b11), .unset, .unset, .unset, .unset, .unset, .unset, .unset, .unset, .unset] [(.int (1 : Int32)), (.ref b14), (.ref b14)])) _
    refine Go.by (fun tt_ kk_ => XS.iloadN X.here hx rfl (hb hby at_118) rfl kk_) ?_
    show Go p.tables e below (T.setTop (mkF m 119 #[.val (.int p0), .val (.int p1), .val (.int p2), .val (.int p3), .val (.long q4), .second, .val (.int p5), .val (.int (2 : Int32)), .val (.int c0), .val (.int c1), .val (.int c2), .val (.double (FP.l2d li)), .second, .val (.ref b11), .unset, .unset, .unset, .unset, .unset, .unset, .unset, .unset, .unset] [(.int p2), (.int (1 : Int32)), (.ref b14), (.ref b14)])) _
    refine Go.by (fun tt_ kk_ => XS.i2dS X.here hx rfl (hb hby at_119) rfl rfl kk_) ?_
    show Go p.tables e below (T.setTop (mkF m 120 #[.val (.int p0), .val (.int p1), .val (.int p2), .val (.int p3), .val (.long q4), .second, .val (.int p5), .val (.int (2 : Int32)), .val (.int c0), .val (.int c1), .val (.int c2), .val (.double (FP.l2d li)), .second, .val (.ref b11), .unset, .unset, .unset, .unset, .unset, .unset, .unset, .unset, .unset] [(.double (FP.i2d p2)), (.int (1 : Int32)), (.ref b14), (.ref b14)])) _
    have Vo_ := V_b14
    obtain ⟨cl_, Ar_, q_, S_, N_, H_, G_⟩ := Vo_
    obtain ⟨T, h16, X, eT, Wh16, st⟩ := stD X hx hZ eT Ar_ (j := (1 : Int32)) (inb_of S_ ⟨by decide, by decide⟩) (g := (mkF m 120 #[.val (.int p0), .val (.int p1), .val (.int p2), .val (.int p3), .val (.long q4), .second, .val (.int p5), .val (.int (2 : Int32)), .val (.int c0), .val (.int c1), .val (.int c2), .val (.double (FP.l2d li)), .second, .val (.ref b11), .unset, .unset, .unset, .unset, .unset, .unset, .unset, .unset, .unset] [(.double (FP.i2d p2)), (.int (1 : Int32)), (.ref b14), (.ref b14)])) rfl rfl (hb hby at_120)
    have V_b14 := Arv.set Ar_ q_ S_ N_ H_ G_ rfl Wh16 1 rfl (Nat.le_of_ble_eq_true rfl)
    have E_b11 := Exa.wr Wh16 E_b11
    have V_b11 := Arv.other V_b11 Wh16 ne_b11_b14
    have E_b14 := Exa.wr Wh16 E_b14
    have N := Fr.snoc X N g_b14
    have K := K.wr Wh16 (Or.inr sz_b14)
    have hk := Nat.le_trans hk (Nat.le_of_eq (Wr.size Wh16).symm)
    refine Go.by st ?_
    show Go p.tables e below (T.setTop (mkF m 121 #[.val (.int p0), .val (.int p1), .val (.int p2), .val (.int p3), .val (.long q4), .second, .val (.int p5), .val (.int (2 : Int32)), .val (.int c0), .val (.int c1), .val (.int c2), .val (.double (FP.l2d li)), .second, .val (.ref b11), .unset, .unset, .unset, .unset, .unset, .unset, .unset, .unset, .unset] [(.ref b14)])) _
    refine Go.by (fun tt_ kk_ => XS.astore X.here hx rfl (hb hby at_121) rfl rfl (l' := #[.val (.int p0), .val (.int p1), .val (.int p2), .val (.int p3), .val (.long q4), .second, .val (.int p5), .val (.int (2 : Int32)), .val (.int c0), .val (.int c1), .val (.int c2), .val (.double (FP.l2d li)), .second, .val (.ref b11), .val (.ref b14), .unset, .unset, .unset, .unset, .unset, .unset, .unset, .unset]) rfl kk_) ?_
    show Go p.tables e below (T.setTop (mkF m 123 #[.val (.int p0), .val (.int p1), .val (.int p2), .val (.int p3), .val (.long q4), .second, .val (.int p5), .val (.int (2 : Int32)), .val (.int c0), .val (.int c1), .val (.int c2), .val (.double (FP.l2d li)), .second, .val (.ref b11), .val (.ref b14), .unset, .unset, .unset, .unset, .unset, .unset, .unset, .unset] [])) _
    refine Go.by (fun tt_ kk_ => XS.goto X.here hx rfl (pc0 := 123) (pc' := 169) rfl (hb hby at_123) (by decide) (by decide) kk_) ?_
    show Go p.tables e below (T.setTop (mkF m 169 #[.val (.int p0), .val (.int p1), .val (.int p2), .val (.int p3), .val (.long q4), .second, .val (.int p5), .val (.int (2 : Int32)), .val (.int c0), .val (.int c1), .val (.int c2), .val (.double (FP.l2d li)), .second, .val (.ref b11), .val (.ref b14), .unset, .unset, .unset, .unset, .unset, .unset, .unset, .unset] [])) _
    obtain ⟨T, h17, X, eT, E_, A_, D_, -, st⟩ := newO X hx hZ hown (hw _ (List.mem_of_getElem? (i := 3) rfl)) (hw _ (List.mem_of_getElem? (i := 4) rfl)) (hw _ (List.mem_of_getElem? (i := 5) rfl)) eT (g := (mkF m 169 #[.val (.int p0), .val (.int p1), .val (.int p2), .val (.int p3), .val (.long q4), .second, .val (.int p5), .val (.int (2 : Int32)), .val (.int c0), .val (.int c1), .val (.int c2), .val (.double (FP.l2d li)), .second, .val (.ref b11), .val (.ref b14), .unset, .unset, .unset, .unset, .unset, .unset, .unset, .unset] [])) rfl (hb hby at_169) (by decide) (by decide)
    obtain ⟨b17, g_b17'⟩ : ∃ z, z = h16.size := ⟨_, rfl⟩
    rw [← g_b17'] at A_ D_ st
    have ne_b11_b17 : b11 ≠ b17 := Nat.ne_of_lt (Nat.lt_of_lt_of_le E_b11.lt (Nat.le_of_eq g_b17'.symm))
    have ne_b17_b11 : b17 ≠ b11 := Ne.symm ne_b11_b17
    have ne_b14_b17 : b14 ≠ b17 := Nat.ne_of_lt (Nat.lt_of_lt_of_le E_b14.lt (Nat.le_of_eq g_b17'.symm))
    have ne_b17_b14 : b17 ≠ b14 := Ne.symm ne_b14_b17
    have g_b17 : n0 ≤ b17 := Nat.le_trans Z0 (Nat.le_trans K.1 (Nat.le_of_eq g_b17'.symm))
    have sz_b17 : h0.size ≤ b17 := Nat.le_trans K.1 (Nat.le_of_eq g_b17'.symm)
    have K := K.ext E_
    have hk := Nat.le_trans hk E_.1
    have E_b11 := Exa.ext E_ E_b11
    have V_b11 := Arv.ext V_b11 E_
    have E_b14 := Exa.ext E_ E_b14
    have V_b14 := Arv.ext V_b14 E_
    have E_b17 := A_
    have F_costs_b17 : Fld Z h17 b17 "com/example/pareto_helm/paretohelm/engine/Budget" "costs" "[D" .null := D_ (Or.inr (hw _ (List.mem_of_getElem? (i := 46) rfl))) (ty := (.array .double)) (by decide)
    have F_limit_b17 : Fld Z h17 b17 "com/example/pareto_helm/paretohelm/engine/Budget" "limit" "D" (.double (0 : UInt64)) := D_ (Or.inr (hw _ (List.mem_of_getElem? (i := 49) rfl))) (ty := .double) (by decide)
    refine Go.by st ?_
    show Go p.tables e below (T.setTop (mkF m 172 #[.val (.int p0), .val (.int p1), .val (.int p2), .val (.int p3), .val (.long q4), .second, .val (.int p5), .val (.int (2 : Int32)), .val (.int c0), .val (.int c1), .val (.int c2), .val (.double (FP.l2d li)), .second, .val (.ref b11), .val (.ref b14), .unset, .unset, .unset, .unset, .unset, .unset, .unset, .unset] [(.ref b17)])) _
    refine Go.by (fun tt_ kk_ => XS.dup X.here hx rfl (hb hby at_172) rfl rfl kk_) ?_
    show Go p.tables e below (T.setTop (mkF m 173 #[.val (.int p0), .val (.int p1), .val (.int p2), .val (.int p3), .val (.long q4), .second, .val (.int p5), .val (.int (2 : Int32)), .val (.int c0), .val (.int c1), .val (.int c2), .val (.double (FP.l2d li)), .second, .val (.ref b11), .val (.ref b14), .unset, .unset, .unset, .unset, .unset, .unset, .unset, .unset] [(.ref b17), (.ref b17)])) _
    refine Go.by (fun tt_ kk_ => XS.aload X.here hx rfl (hb hby at_173) rfl rfl kk_) ?_
    show Go p.tables e below (T.setTop (mkF m 175 #[.val (.int p0), .val (.int p1), .val (.int p2), .val (.int p3), .val (.long q4), .second, .val (.int p5), .val (.int (2 : Int32)), .val (.int c0), .val (.int c1), .val (.int c2), .val (.double (FP.l2d li)), .second, .val (.ref b11), .val (.ref b14), .unset, .unset, .unset, .unset, .unset, .unset, .unset, .unset] [(.ref b11), (.ref b17), (.ref b17)])) _
    refine Go.by (fun tt_ kk_ => XS.dload X.here hx rfl (hb hby at_175) rfl kk_) ?_
    show Go p.tables e below (T.setTop (mkF m 177 #[.val (.int p0), .val (.int p1), .val (.int p2), .val (.int p3), .val (.long q4), .second, .val (.int p5), .val (.int (2 : Int32)), .val (.int c0), .val (.int c1), .val (.int c2), .val (.double (FP.l2d li)), .second, .val (.ref b11), .val (.ref b14), .unset, .unset, .unset, .unset, .unset, .unset, .unset, .unset] [(.double (FP.l2d li)), (.ref b11), (.ref b17), (.ref b17)])) _
    have hk0 := hk
    rw [← eT] at hk0
    obtain ⟨_, _, ⟨T, L_, k_, n_⟩, -, X, h2_, gr_, ⟨Lc_, hQ, l_, y_, z_⟩, st⟩ := Jvm.OwnHand.own_specialSH X hx (y := (⟨"com/example/pareto_helm/paretohelm/engine/Budget", "<init>", "([DD)V"⟩ : MethodName)) rfl hown (mvT hZ (hw _ (List.mem_of_getElem? (i := 6) rfl))) (mvT hZ (hw _ (List.mem_of_getElem? (i := 7) rfl))) (mvT hZ (hw _ (List.mem_of_getElem? (i := 8) rfl))) (by decide) (Jvm.OwnHand.own_backSH (W := 1) (rm1_2 l Z a0 hw [] b17 b11 (FP.l2d li) (FP.i2d c0) (FP.i2d c1) k_b11 h17 n0 (Nat.le_trans Z0 K.1) E_b17 g_b17 F_costs_b17 F_limit_b17 ne_b11_b17 V_b11 E_b11 (own_lfin li) (own_lpos b_li) (Dy.i2d c0).fin (own_pos (Dy.i2d c0) (by omega)) (Dy.i2d c1).fin (own_pos (Dy.i2d c1) (by omega))) hZ (hw _ (List.mem_of_getElem? (i := 8) rfl)) (hw _ (List.mem_of_getElem? (i := 5) rfl)) (by decide) (by decide)) (g := (mkF m 177 #[.val (.int p0), .val (.int p1), .val (.int p2), .val (.int p3), .val (.long q4), .second, .val (.int p5), .val (.int (2 : Int32)), .val (.int c0), .val (.int c1), .val (.int c2), .val (.double (FP.l2d li)), .second, .val (.ref b11), .val (.ref b14), .unset, .unset, .unset, .unset, .unset, .unset, .unset, .unset] [(.double (FP.l2d li)), (.ref b11), (.ref b17), (.ref b17)])) rfl (by rw [hml]; rfl) (Steps.refl _) (a := b17) (argsL := [(.ref b11), (.double (FP.l2d li))]) (rest := [(.ref b17)]) (lenOf pd_3 rfl) rfl (by show 2 * 0 + _ ≤ _; exact Nat.le_of_eq rfl) (hb hby at_177) (fun _ _ => ⟨rfl, eT, (by decide : 3 + 3 ≤ _), (by decide : 6 + 22 ≤ _)⟩)
    dsimp only [Pt.U, Pt.locs, Pt.cells, Pt.slots] at X l_ y_ z_ st hQ h2_ gr_
    subst l_ y_ z_
    obtain ⟨X, hS, hZ, hown⟩ := rebS hS hk0 X h2_ gr_ hZ hown
    have hk : T.heap.size ≤ T.heap.size := Nat.le_refl _
    obtain ⟨h18, eT⟩ : ∃ z, T.heap = z := ⟨_, rfl⟩
    rw [eT] at hQ
    obtain ⟨rfl, Nq, Kq, Eq_, cr, Fq1, Fq2, Vq_⟩ := hQ
    have N := Fr.app N Nq
    have E_b11 := Exa.keep E_b11 Kq
    have V_b11 := Arv.keep V_b11 Kq (ninS ne_b11_b17 nin0)
    have E_b14 := Exa.keep E_b14 Kq
    have V_b14 := Arv.keep V_b14 Kq (ninS ne_b14_b17 nin0)
    have E_b17 := Eq_
    have F_costs_b17 := Fq1
    have F_limit_b17 := Fq2
    have V_cr := Vq_
    have K := K.trans Kq (allS (Or.inr sz_b17) all0)
    rw [eT] at hk hS
    refine Go.tr st ?_
    show Go p.tables e below (T.setTop (mkF m 180 #[.val (.int p0), .val (.int p1), .val (.int p2), .val (.int p3), .val (.long q4), .second, .val (.int p5), .val (.int (2 : Int32)), .val (.int c0), .val (.int c1), .val (.int c2), .val (.double (FP.l2d li)), .second, .val (.ref b11), .val (.ref b14), .unset, .unset, .unset, .unset, .unset, .unset, .unset, .unset] [(.ref b17)])) _
    refine Go.by (fun tt_ kk_ => XS.astore X.here hx rfl (hb hby at_180) rfl rfl (l' := #[.val (.int p0), .val (.int p1), .val (.int p2), .val (.int p3), .val (.long q4), .second, .val (.int p5), .val (.int (2 : Int32)), .val (.int c0), .val (.int c1), .val (.int c2), .val (.double (FP.l2d li)), .second, .val (.ref b11), .val (.ref b14), .val (.ref b17), .unset, .unset, .unset, .unset, .unset, .unset, .unset]) rfl kk_) ?_
    show Go p.tables e below (T.setTop (mkF m 182 #[.val (.int p0), .val (.int p1), .val (.int p2), .val (.int p3), .val (.long q4), .second, .val (.int p5), .val (.int (2 : Int32)), .val (.int c0), .val (.int c1), .val (.int c2), .val (.double (FP.l2d li)), .second, .val (.ref b11), .val (.ref b14), .val (.ref b17), .unset, .unset, .unset, .unset, .unset, .unset, .unset] [])) _
    refine Go.by (fun tt_ kk_ => XS.aload X.here hx rfl (hb hby at_182) rfl rfl kk_) ?_
    show Go p.tables e below (T.setTop (mkF m 184 #[.val (.int p0), .val (.int p1), .val (.int p2), .val (.int p3), .val (.long q4), .second, .val (.int p5), .val (.int (2 : Int32)), .val (.int c0), .val (.int c1), .val (.int c2), .val (.double (FP.l2d li)), .second, .val (.ref b11), .val (.ref b14), .val (.ref b17), .unset, .unset, .unset, .unset, .unset, .unset, .unset] [(.ref b17)])) _
    refine Go.by (fun tt_ kk_ => XS.aload X.here hx rfl (hb hby at_184) rfl rfl kk_) ?_
    show Go p.tables e below (T.setTop (mkF m 186 #[.val (.int p0), .val (.int p1), .val (.int p2), .val (.int p3), .val (.long q4), .second, .val (.int p5), .val (.int (2 : Int32)), .val (.int c0), .val (.int c1), .val (.int c2), .val (.double (FP.l2d li)), .second, .val (.ref b11), .val (.ref b14), .val (.ref b17), .unset, .unset, .unset, .unset, .unset, .unset, .unset] [(.ref b14), (.ref b17)])) _
    obtain ⟨cq_, kq_, qa_, qb_, qc_⟩ := isOf hZ eT E_b17
    obtain ⟨_, _, ⟨T, L_, k_, n_⟩, -, X, ⟨Lc_, hQ, l_, y_, z_⟩, st⟩ := X.virtualBack hx (y := (⟨"com/example/pareto_helm/paretohelm/engine/Budget", "bestCorner", "([D)[D"⟩ : MethodName)) (z := (⟨"com/example/pareto_helm/paretohelm/engine/Budget", "bestCorner", "([D)[D"⟩ : MethodName)) hown (mvT hZ (hw _ (List.mem_of_getElem? (i := 50) rfl))) (mvT hZ (hw _ (List.mem_of_getElem? (i := 51) rfl))) (notFace_of_selects (args := #[]) (mvT hZ (hw _ (List.mem_of_getElem? (i := 53) rfl)))) (mvT hZ (hw _ (List.mem_of_getElem? (i := 53) rfl))) (mvT hZ (hw _ (List.mem_of_getElem? (i := 52) rfl))) (by decide) (backOf (W := 0) (rm7_2 l Z a0 hw [] b17 b14 (FP.i2d p1) (FP.i2d c0) p1.toInt c0.toInt (FP.i2d p2) (FP.i2d c1) p2.toInt c1.toInt k_b11 k_b14 cr (FP.l2d li) h18 n0 (Nat.le_trans Z0 K.1) F_costs_b17 F_limit_b17 V_cr V_b14 (own_lfin li) (Dy.i2d p1) (Dy.i2d c0) b_w0 b_c0 (Dy.i2d p2) (Dy.i2d c1) b_w1 b_c1) hZ (hw _ (List.mem_of_getElem? (i := 54) rfl)) (hw _ (List.mem_of_getElem? (i := 5) rfl)) (by decide) (by decide)) qa_ qc_ (g := (mkF m 186 #[.val (.int p0), .val (.int p1), .val (.int p2), .val (.int p3), .val (.long q4), .second, .val (.int p5), .val (.int (2 : Int32)), .val (.int c0), .val (.int c1), .val (.int c2), .val (.double (FP.l2d li)), .second, .val (.ref b11), .val (.ref b14), .val (.ref b17), .unset, .unset, .unset, .unset, .unset, .unset, .unset] [(.ref b14), (.ref b17)])) rfl (by rw [hml]; rfl) (Steps.refl _) (argsL := [(.ref b14)]) (rest := []) (lenOf pd_4 rfl) rfl (by show 2 * 0 + _ ≤ _; exact Nat.le_of_eq rfl) (hb hby at_186) (fun _ _ => ⟨rfl, eT, (by decide : 6 + 1 ≤ _), (by decide : 28 + 2 ≤ _)⟩)
    dsimp only [Pt.U, Pt.locs, Pt.cells, Pt.slots] at X l_ y_ z_ st hQ
    subst l_ y_ z_
    obtain ⟨h19, eT⟩ : ∃ z, T.heap = z := ⟨_, rfl⟩
    rw [eT] at hQ
    obtain ⟨rr, k_rr, g_rr, sq_rr, rfl, Nq, Kq, V_rr⟩ := hQ
    have N := Fr.app N Nq
    have E_b11 := Exa.keep E_b11 Kq
    have V_b11 := Arv.keep V_b11 Kq nin0
    have E_b14 := Exa.keep E_b14 Kq
    have V_b14 := Arv.keep V_b14 Kq nin0
    have E_b17 := Exa.keep E_b17 Kq
    have F_costs_b17 := Fld.keep F_costs_b17 Kq nin0
    have F_limit_b17 := Fld.keep F_limit_b17 Kq nin0
    have V_cr := Arv.keep V_cr Kq nin0
    have K := K.trans Kq all0
    unfold own_bc2 at V_rr
    have hk := Nat.le_trans hk Kq.1
    refine Go.tr st ?_
    show Go p.tables e below (T.setTop (mkF m 189 #[.val (.int p0), .val (.int p1), .val (.int p2), .val (.int p3), .val (.long q4), .second, .val (.int p5), .val (.int (2 : Int32)), .val (.int c0), .val (.int c1), .val (.int c2), .val (.double (FP.l2d li)), .second, .val (.ref b11), .val (.ref b14), .val (.ref b17), .unset, .unset, .unset, .unset, .unset, .unset, .unset] [(.ref rr)])) _
    refine Go.by (fun tt_ kk_ => XS.astore X.here hx rfl (hb hby at_189) rfl rfl (l' := #[.val (.int p0), .val (.int p1), .val (.int p2), .val (.int p3), .val (.long q4), .second, .val (.int p5), .val (.int (2 : Int32)), .val (.int c0), .val (.int c1), .val (.int c2), .val (.double (FP.l2d li)), .second, .val (.ref b11), .val (.ref b14), .val (.ref b17), .val (.ref rr), .unset, .unset, .unset, .unset, .unset, .unset]) rfl kk_) ?_
    show Go p.tables e below (T.setTop (mkF m 191 #[.val (.int p0), .val (.int p1), .val (.int p2), .val (.int p3), .val (.long q4), .second, .val (.int p5), .val (.int (2 : Int32)), .val (.int c0), .val (.int c1), .val (.int c2), .val (.double (FP.l2d li)), .second, .val (.ref b11), .val (.ref b14), .val (.ref b17), .val (.ref rr), .unset, .unset, .unset, .unset, .unset, .unset] [])) _
    refine Go.by (fun tt_ kk_ => XS.iconst X.here hx rfl (hb hby at_191) kk_) ?_
    show Go p.tables e below (T.setTop (mkF m 192 #[.val (.int p0), .val (.int p1), .val (.int p2), .val (.int p3), .val (.long q4), .second, .val (.int p5), .val (.int (2 : Int32)), .val (.int c0), .val (.int c1), .val (.int c2), .val (.double (FP.l2d li)), .second, .val (.ref b11), .val (.ref b14), .val (.ref b17), .val (.ref rr), .unset, .unset, .unset, .unset, .unset, .unset] [(.int (0 : Int32))])) _
    refine Go.by (fun tt_ kk_ => XS.istore X.here hx rfl (hb hby at_192) rfl (l' := #[.val (.int p0), .val (.int p1), .val (.int p2), .val (.int p3), .val (.long q4), .second, .val (.int p5), .val (.int (2 : Int32)), .val (.int c0), .val (.int c1), .val (.int c2), .val (.double (FP.l2d li)), .second, .val (.ref b11), .val (.ref b14), .val (.ref b17), .val (.ref rr), .val (.int (0 : Int32)), .unset, .unset, .unset, .unset, .unset]) rfl kk_) ?_
    show Go p.tables e below (T.setTop (mkF m 194 #[.val (.int p0), .val (.int p1), .val (.int p2), .val (.int p3), .val (.long q4), .second, .val (.int p5), .val (.int (2 : Int32)), .val (.int c0), .val (.int c1), .val (.int c2), .val (.double (FP.l2d li)), .second, .val (.ref b11), .val (.ref b14), .val (.ref b17), .val (.ref rr), .val (.int (0 : Int32)), .unset, .unset, .unset, .unset, .unset] [])) _
    refine Go.by (fun tt_ kk_ => XS.iloadN X.here hx rfl (hb hby at_194) rfl kk_) ?_
    show Go p.tables e below (T.setTop (mkF m 195 #[.val (.int p0), .val (.int p1), .val (.int p2), .val (.int p3), .val (.long q4), .second, .val (.int p5), .val (.int (2 : Int32)), .val (.int c0), .val (.int c1), .val (.int c2), .val (.double (FP.l2d li)), .second, .val (.ref b11), .val (.ref b14), .val (.ref b17), .val (.ref rr), .val (.int (0 : Int32)), .unset, .unset, .unset, .unset, .unset] [(.int p1)])) _
    refine Go.by (fun tt_ kk_ => XS.i2l X.here hx rfl (hb hby at_195) rfl kk_) ?_
    show Go p.tables e below (T.setTop (mkF m 196 #[.val (.int p0), .val (.int p1), .val (.int p2), .val (.int p3), .val (.long q4), .second, .val (.int p5), .val (.int (2 : Int32)), .val (.int c0), .val (.int c1), .val (.int c2), .val (.double (FP.l2d li)), .second, .val (.ref b11), .val (.ref b14), .val (.ref b17), .val (.ref rr), .val (.int (0 : Int32)), .unset, .unset, .unset, .unset, .unset] [(.long (p1.toInt64))])) _
    refine Go.by (fun tt_ kk_ => XS.lstore X.here hx rfl (hb hby at_196) rfl (l' := #[.val (.int p0), .val (.int p1), .val (.int p2), .val (.int p3), .val (.long q4), .second, .val (.int p5), .val (.int (2 : Int32)), .val (.int c0), .val (.int c1), .val (.int c2), .val (.double (FP.l2d li)), .second, .val (.ref b11), .val (.ref b14), .val (.ref b17), .val (.ref rr), .val (.int (0 : Int32)), .val (.long (p1.toInt64)), .second, .unset, .unset, .unset]) rfl kk_) ?_
    show Go p.tables e below (T.setTop (mkF m 198 #[.val (.int p0), .val (.int p1), .val (.int p2), .val (.int p3), .val (.long q4), .second, .val (.int p5), .val (.int (2 : Int32)), .val (.int c0), .val (.int c1), .val (.int c2), .val (.double (FP.l2d li)), .second, .val (.ref b11), .val (.ref b14), .val (.ref b17), .val (.ref rr), .val (.int (0 : Int32)), .val (.long (p1.toInt64)), .second, .unset, .unset, .unset] [])) _
    refine Go.by (fun tt_ kk_ => XS.iload X.here hx rfl (hb hby at_198) rfl kk_) ?_
    show Go p.tables e below (T.setTop (mkF m 200 #[.val (.int p0), .val (.int p1), .val (.int p2), .val (.int p3), .val (.long q4), .second, .val (.int p5), .val (.int (2 : Int32)), .val (.int c0), .val (.int c1), .val (.int c2), .val (.double (FP.l2d li)), .second, .val (.ref b11), .val (.ref b14), .val (.ref b17), .val (.ref rr), .val (.int (0 : Int32)), .val (.long (p1.toInt64)), .second, .unset, .unset, .unset] [(.int c0)])) _
    refine Go.by (fun tt_ kk_ => XS.i2l X.here hx rfl (hb hby at_200) rfl kk_) ?_
    show Go p.tables e below (T.setTop (mkF m 201 #[.val (.int p0), .val (.int p1), .val (.int p2), .val (.int p3), .val (.long q4), .second, .val (.int p5), .val (.int (2 : Int32)), .val (.int c0), .val (.int c1), .val (.int c2), .val (.double (FP.l2d li)), .second, .val (.ref b11), .val (.ref b14), .val (.ref b17), .val (.ref rr), .val (.int (0 : Int32)), .val (.long (p1.toInt64)), .second, .unset, .unset, .unset] [(.long (c0.toInt64))])) _
    refine Go.by (fun tt_ kk_ => XS.lstore X.here hx rfl (hb hby at_201) rfl (l' := #[.val (.int p0), .val (.int p1), .val (.int p2), .val (.int p3), .val (.long q4), .second, .val (.int p5), .val (.int (2 : Int32)), .val (.int c0), .val (.int c1), .val (.int c2), .val (.double (FP.l2d li)), .second, .val (.ref b11), .val (.ref b14), .val (.ref b17), .val (.ref rr), .val (.int (0 : Int32)), .val (.long (p1.toInt64)), .second, .val (.long (c0.toInt64)), .second, .unset]) rfl kk_) ?_
    show Go p.tables e below (T.setTop (mkF m 203 #[.val (.int p0), .val (.int p1), .val (.int p2), .val (.int p3), .val (.long q4), .second, .val (.int p5), .val (.int (2 : Int32)), .val (.int c0), .val (.int c1), .val (.int c2), .val (.double (FP.l2d li)), .second, .val (.ref b11), .val (.ref b14), .val (.ref b17), .val (.ref rr), .val (.int (0 : Int32)), .val (.long (p1.toInt64)), .second, .val (.long (c0.toInt64)), .second, .unset] [])) _
    refine Go.by (fun tt_ kk_ => XS.iload X.here hx rfl (hb hby at_203) rfl kk_) ?_
    show Go p.tables e below (T.setTop (mkF m 205 #[.val (.int p0), .val (.int p1), .val (.int p2), .val (.int p3), .val (.long q4), .second, .val (.int p5), .val (.int (2 : Int32)), .val (.int c0), .val (.int c1), .val (.int c2), .val (.double (FP.l2d li)), .second, .val (.ref b11), .val (.ref b14), .val (.ref b17), .val (.ref rr), .val (.int (0 : Int32)), .val (.long (p1.toInt64)), .second, .val (.long (c0.toInt64)), .second, .unset] [(.int (2 : Int32))])) _
    refine Go.by (fun tt_ kk_ => XS.iconst X.here hx rfl (hb hby at_205) kk_) ?_
    show Go p.tables e below (T.setTop (mkF m 206 #[.val (.int p0), .val (.int p1), .val (.int p2), .val (.int p3), .val (.long q4), .second, .val (.int p5), .val (.int (2 : Int32)), .val (.int c0), .val (.int c1), .val (.int c2), .val (.double (FP.l2d li)), .second, .val (.ref b11), .val (.ref b14), .val (.ref b17), .val (.ref rr), .val (.int (0 : Int32)), .val (.long (p1.toInt64)), .second, .val (.long (c0.toInt64)), .second, .unset] [(.int (2 : Int32)), (.int (2 : Int32))])) _
    refine Go.by (fun tt_ kk_ => XS.icmpNo X.here hx rfl (hb hby at_206) rfl (flt (by decide : ¬ ((2 : Int32) < (2 : Int32)))).1 kk_) ?_
    show Go p.tables e below (T.setTop (mkF m 209 #[.val (.int p0), .val (.int p1), .val (.int p2), .val (.int p3), .val (.long q4), .second, .val (.int p5), .val (.int (2 : Int32)), .val (.int c0), .val (.int c1), .val (.int c2), .val (.double (FP.l2d li)), .second, .val (.ref b11), .val (.ref b14), .val (.ref b17), .val (.ref rr), .val (.int (0 : Int32)), .val (.long (p1.toInt64)), .second, .val (.long (c0.toInt64)), .second, .unset] [])) _
    refine Go.by (fun tt_ kk_ => XS.iloadN X.here hx rfl (hb hby at_209) rfl kk_) ?_
    show Go p.tables e below (T.setTop (mkF m 210 #[.val (.int p0), .val (.int p1), .val (.int p2), .val (.int p3), .val (.long q4), .second, .val (.int p5), .val (.int (2 : Int32)), .val (.int c0), .val (.int c1), .val (.int c2), .val (.double (FP.l2d li)), .second, .val (.ref b11), .val (.ref b14), .val (.ref b17), .val (.ref rr), .val (.int (0 : Int32)), .val (.long (p1.toInt64)), .second, .val (.long (c0.toInt64)), .second, .unset] [(.int p2)])) _
    refine Go.by (fun tt_ kk_ => XS.i2l X.here hx rfl (hb hby at_210) rfl kk_) ?_
    show Go p.tables e below (T.setTop (mkF m 211 #[.val (.int p0), .val (.int p1), .val (.int p2), .val (.int p3), .val (.long q4), .second, .val (.int p5), .val (.int (2 : Int32)), .val (.int c0), .val (.int c1), .val (.int c2), .val (.double (FP.l2d li)), .second, .val (.ref b11), .val (.ref b14), .val (.ref b17), .val (.ref rr), .val (.int (0 : Int32)), .val (.long (p1.toInt64)), .second, .val (.long (c0.toInt64)), .second, .unset] [(.long (p2.toInt64))])) _
    refine Go.by (fun tt_ kk_ => XS.iload X.here hx rfl (hb hby at_211) rfl kk_) ?_
    show Go p.tables e below (T.setTop (mkF m 213 #[.val (.int p0), .val (.int p1), .val (.int p2), .val (.int p3), .val (.long q4), .second, .val (.int p5), .val (.int (2 : Int32)), .val (.int c0), .val (.int c1), .val (.int c2), .val (.double (FP.l2d li)), .second, .val (.ref b11), .val (.ref b14), .val (.ref b17), .val (.ref rr), .val (.int (0 : Int32)), .val (.long (p1.toInt64)), .second, .val (.long (c0.toInt64)), .second, .unset] [(.int c1), (.long (p2.toInt64))])) _
    refine Go.by (fun tt_ kk_ => XS.i2l X.here hx rfl (hb hby at_213) rfl kk_) ?_
    show Go p.tables e below (T.setTop (mkF m 214 #[.val (.int p0), .val (.int p1), .val (.int p2), .val (.int p3), .val (.long q4), .second, .val (.int p5), .val (.int (2 : Int32)), .val (.int c0), .val (.int c1), .val (.int c2), .val (.double (FP.l2d li)), .second, .val (.ref b11), .val (.ref b14), .val (.ref b17), .val (.ref rr), .val (.int (0 : Int32)), .val (.long (p1.toInt64)), .second, .val (.long (c0.toInt64)), .second, .unset] [(.long (c1.toInt64)), (.long (p2.toInt64))])) _
    refine Go.by (fun tt_ kk_ => XS.lload X.here hx rfl (hb hby at_214) rfl kk_) ?_
    show Go p.tables e below (T.setTop (mkF m 216 #[.val (.int p0), .val (.int p1), .val (.int p2), .val (.int p3), .val (.long q4), .second, .val (.int p5), .val (.int (2 : Int32)), .val (.int c0), .val (.int c1), .val (.int c2), .val (.double (FP.l2d li)), .second, .val (.ref b11), .val (.ref b14), .val (.ref b17), .val (.ref rr), .val (.int (0 : Int32)), .val (.long (p1.toInt64)), .second, .val (.long (c0.toInt64)), .second, .unset] [(.long (p1.toInt64)), (.long (c1.toInt64)), (.long (p2.toInt64))])) _
    refine Go.by (fun tt_ kk_ => XS.lload X.here hx rfl (hb hby at_216) rfl kk_) ?_
    show Go p.tables e below (T.setTop (mkF m 218 #[.val (.int p0), .val (.int p1), .val (.int p2), .val (.int p3), .val (.long q4), .second, .val (.int p5), .val (.int (2 : Int32)), .val (.int c0), .val (.int c1), .val (.int c2), .val (.double (FP.l2d li)), .second, .val (.ref b11), .val (.ref b14), .val (.ref b17), .val (.ref rr), .val (.int (0 : Int32)), .val (.long (p1.toInt64)), .second, .val (.long (c0.toInt64)), .second, .unset] [(.long (c0.toInt64)), (.long (p1.toInt64)), (.long (c1.toInt64)), (.long (p2.toInt64))])) _
    by_cases hg1 : p1.toInt * c1.toInt < p2.toInt * c0.toInt
    · rw [if_pos hg1] at V_rr
      have hz : (if p1.toInt * c1.toInt < p2.toInt * c0.toInt then (1 : Int32) else 0) = (1 : Int32) := if_pos hg1
      have mA := own_mulb (A := 2147483648) (B := 1024) b_w1.1 b_w1.2 (show -1024 ≤ c0.toInt by omega) (by omega)
      have mB := own_mulb (A := 2147483648) (B := 1024) b_w0.1 b_w0.2 (show -1024 ≤ c1.toInt by omega) (by omega)
      obtain ⟨_, _, ⟨T, L_, k_, n_⟩, -, X, ⟨Lc_, hQ, l_, y_, z_⟩, st⟩ := Jvm.LawKit.callS X hx (y := (⟨"com/example/pareto_helm/paretohelm/engine/BudgetBestCornerPinLaw", "greater", "(JJJJ)Z"⟩ : MethodName)) hown (mvT hZ (hw _ (List.mem_of_getElem? (i := 55) rfl))) (mvT hZ (hw _ (List.mem_of_getElem? (i := 56) rfl))) (mvT hZ (hw _ (List.mem_of_getElem? (i := 57) rfl))) (mvT hZ (hw _ (List.mem_of_getElem? (i := 58) rfl))) (by decide) (backOf (W := 0) (rm8 l Z a0 hw [] (p2.toInt64) (c1.toInt64) (p1.toInt64) (c0.toInt64) p2.toInt c1.toInt p1.toInt c0.toInt h19 n0 (Nat.le_trans Z0 K.1) (own_i2l _) (own_i2l _) (own_i2l _) (own_i2l _) (by omega) (by omega)) hZ (hw _ (List.mem_of_getElem? (i := 58) rfl)) (hw _ (List.mem_of_getElem? (i := 57) rfl)) (by decide) (by decide)) (g := (mkF m 218 #[.val (.int p0), .val (.int p1), .val (.int p2), .val (.int p3), .val (.long q4), .second, .val (.int p5), .val (.int (2 : Int32)), .val (.int c0), .val (.int c1), .val (.int c2), .val (.double (FP.l2d li)), .second, .val (.ref b11), .val (.ref b14), .val (.ref b17), .val (.ref rr), .val (.int (0 : Int32)), .val (.long (p1.toInt64)), .second, .val (.long (c0.toInt64)), .second, .unset] [(.long (c0.toInt64)), (.long (p1.toInt64)), (.long (c1.toInt64)), (.long (p2.toInt64))])) rfl (by rw [hml]; rfl) (argsL := [(.long (p2.toInt64)), (.long (c1.toInt64)), (.long (p1.toInt64)), (.long (c0.toInt64))]) (rest := []) (lenOf pd_6 rfl) rfl (by show 2 * 0 + _ ≤ _; exact Nat.le_of_eq rfl) (hb hby at_218) (fun _ _ => ⟨rfl, eT, (by decide : 7 + 0 ≤ _), (by decide : 30 + 0 ≤ _)⟩)
      dsimp only [Pt.U, Pt.locs, Pt.cells, Pt.slots] at X l_ y_ z_ st hQ
      subst l_ y_ z_
      obtain ⟨e_v, Nq, eh⟩ := hQ
      rw [hz] at e_v
      subst e_v
      have N := Fr.app N Nq
      have eT := eh
      refine Go.by st ?_
      show Go p.tables e below (T.setTop (mkF m 221 #[.val (.int p0), .val (.int p1), .val (.int p2), .val (.int p3), .val (.long q4), .second, .val (.int p5), .val (.int (2 : Int32)), .val (.int c0), .val (.int c1), .val (.int c2), .val (.double (FP.l2d li)), .second, .val (.ref b11), .val (.ref b14), .val (.ref b17), .val (.ref rr), .val (.int (0 : Int32)), .val (.long (p1.toInt64)), .second, .val (.long (c0.toInt64)), .second, .unset] [(.int (1 : Int32))])) _
      refine Go.by (fun tt_ kk_ => XS.ifNo X.here hx rfl (hb hby at_221) rfl ((if0 _ _).trans (feq (by decide : ¬ ((1 : Int32) = (0 : Int32)))).1) kk_) ?_
      show Go p.tables e below (T.setTop (mkF m 224 #[.val (.int p0), .val (.int p1), .val (.int p2), .val (.int p3), .val (.long q4), .second, .val (.int p5), .val (.int (2 : Int32)), .val (.int c0), .val (.int c1), .val (.int c2), .val (.double (FP.l2d li)), .second, .val (.ref b11), .val (.ref b14), .val (.ref b17), .val (.ref rr), .val (.int (0 : Int32)), .val (.long (p1.toInt64)), .second, .val (.long (c0.toInt64)), .second, .unset] [])) _
      refine Go.by (fun tt_ kk_ => XS.iconst X.here hx rfl (hb hby at_224) kk_) ?_
      show Go p.tables e below (T.setTop (mkF m 225 #[.val (.int p0), .val (.int p1), .val (.int p2), .val (.int p3), .val (.long q4), .second, .val (.int p5), .val (.int (2 : Int32)), .val (.int c0), .val (.int c1), .val (.int c2), .val (.double (FP.l2d li)), .second, .val (.ref b11), .val (.ref b14), .val (.ref b17), .val (.ref rr), .val (.int (0 : Int32)), .val (.long (p1.toInt64)), .second, .val (.long (c0.toInt64)), .second, .unset] [(.int (1 : Int32))])) _
      refine Go.by (fun tt_ kk_ => XS.istore X.here hx rfl (hb hby at_225) rfl (l' := #[.val (.int p0), .val (.int p1), .val (.int p2), .val (.int p3), .val (.long q4), .second, .val (.int p5), .val (.int (2 : Int32)), .val (.int c0), .val (.int c1), .val (.int c2), .val (.double (FP.l2d li)), .second, .val (.ref b11), .val (.ref b14), .val (.ref b17), .val (.ref rr), .val (.int (1 : Int32)), .val (.long (p1.toInt64)), .second, .val (.long (c0.toInt64)), .second, .unset]) rfl kk_) ?_
      show Go p.tables e below (T.setTop (mkF m 227 #[.val (.int p0), .val (.int p1), .val (.int p2), .val (.int p3), .val (.long q4), .second, .val (.int p5), .val (.int (2 : Int32)), .val (.int c0), .val (.int c1), .val (.int c2), .val (.double (FP.l2d li)), .second, .val (.ref b11), .val (.ref b14), .val (.ref b17), .val (.ref rr), .val (.int (1 : Int32)), .val (.long (p1.toInt64)), .second, .val (.long (c0.toInt64)), .second, .unset] [])) _
      refine Go.by (fun tt_ kk_ => XS.iloadN X.here hx rfl (hb hby at_227) rfl kk_) ?_
      show Go p.tables e below (T.setTop (mkF m 228 #[.val (.int p0), .val (.int p1), .val (.int p2), .val (.int p3), .val (.long q4), .second, .val (.int p5), .val (.int (2 : Int32)), .val (.int c0), .val (.int c1), .val (.int c2), .val (.double (FP.l2d li)), .second, .val (.ref b11), .val (.ref b14), .val (.ref b17), .val (.ref rr), .val (.int (1 : Int32)), .val (.long (p1.toInt64)), .second, .val (.long (c0.toInt64)), .second, .unset] [(.int p2)])) _
      refine Go.by (fun tt_ kk_ => XS.i2l X.here hx rfl (hb hby at_228) rfl kk_) ?_
      show Go p.tables e below (T.setTop (mkF m 229 #[.val (.int p0), .val (.int p1), .val (.int p2), .val (.int p3), .val (.long q4), .second, .val (.int p5), .val (.int (2 : Int32)), .val (.int c0), .val (.int c1), .val (.int c2), .val (.double (FP.l2d li)), .second, .val (.ref b11), .val (.ref b14), .val (.ref b17), .val (.ref rr), .val (.int (1 : Int32)), .val (.long (p1.toInt64)), .second, .val (.long (c0.toInt64)), .second, .unset] [(.long (p2.toInt64))])) _
      refine Go.by (fun tt_ kk_ => XS.lstore X.here hx rfl (hb hby at_229) rfl (l' := #[.val (.int p0), .val (.int p1), .val (.int p2), .val (.int p3), .val (.long q4), .second, .val (.int p5), .val (.int (2 : Int32)), .val (.int c0), .val (.int c1), .val (.int c2), .val (.double (FP.l2d li)), .second, .val (.ref b11), .val (.ref b14), .val (.ref b17), .val (.ref rr), .val (.int (1 : Int32)), .val (.long (p2.toInt64)), .second, .val (.long (c0.toInt64)), .second, .unset]) rfl kk_) ?_
      show Go p.tables e below (T.setTop (mkF m 231 #[.val (.int p0), .val (.int p1), .val (.int p2), .val (.int p3), .val (.long q4), .second, .val (.int p5), .val (.int (2 : Int32)), .val (.int c0), .val (.int c1), .val (.int c2), .val (.double (FP.l2d li)), .second, .val (.ref b11), .val (.ref b14), .val (.ref b17), .val (.ref rr), .val (.int (1 : Int32)), .val (.long (p2.toInt64)), .second, .val (.long (c0.toInt64)), .second, .unset] [])) _
      refine Go.by (fun tt_ kk_ => XS.iload X.here hx rfl (hb hby at_231) rfl kk_) ?_
      show Go p.tables e below (T.setTop (mkF m 233 #[.val (.int p0), .val (.int p1), .val (.int p2), .val (.int p3), .val (.long q4), .second, .val (.int p5), .val (.int (2 : Int32)), .val (.int c0), .val (.int c1), .val (.int c2), .val (.double (FP.l2d li)), .second, .val (.ref b11), .val (.ref b14), .val (.ref b17), .val (.ref rr), .val (.int (1 : Int32)), .val (.long (p2.toInt64)), .second, .val (.long (c0.toInt64)), .second, .unset] [(.int c1)])) _
      refine Go.by (fun tt_ kk_ => XS.i2l X.here hx rfl (hb hby at_233) rfl kk_) ?_
      show Go p.tables e below (T.setTop (mkF m 234 #[.val (.int p0), .val (.int p1), .val (.int p2), .val (.int p3), .val (.long q4), .second, .val (.int p5), .val (.int (2 : Int32)), .val (.int c0), .val (.int c1), .val (.int c2), .val (.double (FP.l2d li)), .second, .val (.ref b11), .val (.ref b14), .val (.ref b17), .val (.ref rr), .val (.int (1 : Int32)), .val (.long (p2.toInt64)), .second, .val (.long (c0.toInt64)), .second, .unset] [(.long (c1.toInt64))])) _
      refine Go.by (fun tt_ kk_ => XS.lstore X.here hx rfl (hb hby at_234) rfl (l' := #[.val (.int p0), .val (.int p1), .val (.int p2), .val (.int p3), .val (.long q4), .second, .val (.int p5), .val (.int (2 : Int32)), .val (.int c0), .val (.int c1), .val (.int c2), .val (.double (FP.l2d li)), .second, .val (.ref b11), .val (.ref b14), .val (.ref b17), .val (.ref rr), .val (.int (1 : Int32)), .val (.long (p2.toInt64)), .second, .val (.long (c1.toInt64)), .second, .unset]) rfl kk_) ?_
      show Go p.tables e below (T.setTop (mkF m 236 #[.val (.int p0), .val (.int p1), .val (.int p2), .val (.int p3), .val (.long q4), .second, .val (.int p5), .val (.int (2 : Int32)), .val (.int c0), .val (.int c1), .val (.int c2), .val (.double (FP.l2d li)), .second, .val (.ref b11), .val (.ref b14), .val (.ref b17), .val (.ref rr), .val (.int (1 : Int32)), .val (.long (p2.toInt64)), .second, .val (.long (c1.toInt64)), .second, .unset] [])) _
      refine Go.by (fun tt_ kk_ => XS.iload X.here hx rfl (hb hby at_236) rfl kk_) ?_
      show Go p.tables e below (T.setTop (mkF m 238 #[.val (.int p0), .val (.int p1), .val (.int p2), .val (.int p3), .val (.long q4), .second, .val (.int p5), .val (.int (2 : Int32)), .val (.int c0), .val (.int c1), .val (.int c2), .val (.double (FP.l2d li)), .second, .val (.ref b11), .val (.ref b14), .val (.ref b17), .val (.ref rr), .val (.int (1 : Int32)), .val (.long (p2.toInt64)), .second, .val (.long (c1.toInt64)), .second, .unset] [(.int (2 : Int32))])) _
      refine Go.by (fun tt_ kk_ => XS.iconst X.here hx rfl (hb hby at_238) kk_) ?_
      show Go p.tables e below (T.setTop (mkF m 239 #[.val (.int p0), .val (.int p1), .val (.int p2), .val (.int p3), .val (.long q4), .second, .val (.int p5), .val (.int (2 : Int32)), .val (.int c0), .val (.int c1), .val (.int c2), .val (.double (FP.l2d li)), .second, .val (.ref b11), .val (.ref b14), .val (.ref b17), .val (.ref rr), .val (.int (1 : Int32)), .val (.long (p2.toInt64)), .second, .val (.long (c1.toInt64)), .second, .unset] [(.int (3 : Int32)), (.int (2 : Int32))])) _
      refine Go.by (fun tt_ kk_ => XS.icmpYes X.here hx rfl (pc0 := 239) (pc' := 260) rfl (hb hby at_239) rfl (tlt (by decide : (2 : Int32) < (3 : Int32))).1 (by decide) (by decide) kk_) ?_
      show Go p.tables e below (T.setTop (mkF m 260 #[.val (.int p0), .val (.int p1), .val (.int p2), .val (.int p3), .val (.long q4), .second, .val (.int p5), .val (.int (2 : Int32)), .val (.int c0), .val (.int c1), .val (.int c2), .val (.double (FP.l2d li)), .second, .val (.ref b11), .val (.ref b14), .val (.ref b17), .val (.ref rr), .val (.int (1 : Int32)), .val (.long (p2.toInt64)), .second, .val (.long (c1.toInt64)), .second, .unset] [])) _
      refine Go.by (fun tt_ kk_ => XS.aload X.here hx rfl (hb hby at_260) rfl rfl kk_) ?_
      show Go p.tables e below (T.setTop (mkF m 262 #[.val (.int p0), .val (.int p1), .val (.int p2), .val (.int p3), .val (.long q4), .second, .val (.int p5), .val (.int (2 : Int32)), .val (.int c0), .val (.int c1), .val (.int c2), .val (.double (FP.l2d li)), .second, .val (.ref b11), .val (.ref b14), .val (.ref b17), .val (.ref rr), .val (.int (1 : Int32)), .val (.long (p2.toInt64)), .second, .val (.long (c1.toInt64)), .second, .unset] [(.ref rr)])) _
      have Vo_ := V_rr
      obtain ⟨cl_, Ar_, q_, S_, N_, H_, G_⟩ := Vo_
      refine Go.by (X.arraylength hx (by rw [eT]; exact Ar_.1) (State.isArrayOf_alike hZ.alike Ar_.2.1) (g := (mkF m 262 #[.val (.int p0), .val (.int p1), .val (.int p2), .val (.int p3), .val (.long q4), .second, .val (.int p5), .val (.int (2 : Int32)), .val (.int c0), .val (.int c1), .val (.int c2), .val (.double (FP.l2d li)), .second, .val (.ref b11), .val (.ref b14), .val (.ref b17), .val (.ref rr), .val (.int (1 : Int32)), .val (.long (p2.toInt64)), .second, .val (.long (c1.toInt64)), .second, .unset] [(.ref rr)])) rfl rfl (hb hby at_262)) ?_
      rw [len_of S_ N_]
      show Go p.tables e below (T.setTop (mkF m 263 #[.val (.int p0), .val (.int p1), .val (.int p2), .val (.int p3), .val (.long q4), .second, .val (.int p5), .val (.int (2 : Int32)), .val (.int c0), .val (.int c1), .val (.int c2), .val (.double (FP.l2d li)), .second, .val (.ref b11), .val (.ref b14), .val (.ref b17), .val (.ref rr), .val (.int (1 : Int32)), .val (.long (p2.toInt64)), .second, .val (.long (c1.toInt64)), .second, .unset] [(.int (2 : Int32))])) _
      refine Go.by (fun tt_ kk_ => XS.iload X.here hx rfl (hb hby at_263) rfl kk_) ?_
      show Go p.tables e below (T.setTop (mkF m 265 #[.val (.int p0), .val (.int p1), .val (.int p2), .val (.int p3), .val (.long q4), .second, .val (.int p5), .val (.int (2 : Int32)), .val (.int c0), .val (.int c1), .val (.int c2), .val (.double (FP.l2d li)), .second, .val (.ref b11), .val (.ref b14), .val (.ref b17), .val (.ref rr), .val (.int (1 : Int32)), .val (.long (p2.toInt64)), .second, .val (.long (c1.toInt64)), .second, .unset] [(.int (2 : Int32)), (.int (2 : Int32))])) _
      refine Go.by (fun tt_ kk_ => XS.icmpYes X.here hx rfl (pc0 := 265) (pc' := 270) rfl (hb hby at_265) rfl (teq (rfl : (2 : Int32) = (2 : Int32))).1 (by decide) (by decide) kk_) ?_
      show Go p.tables e below (T.setTop (mkF m 270 #[.val (.int p0), .val (.int p1), .val (.int p2), .val (.int p3), .val (.long q4), .second, .val (.int p5), .val (.int (2 : Int32)), .val (.int c0), .val (.int c1), .val (.int c2), .val (.double (FP.l2d li)), .second, .val (.ref b11), .val (.ref b14), .val (.ref b17), .val (.ref rr), .val (.int (1 : Int32)), .val (.long (p2.toInt64)), .second, .val (.long (c1.toInt64)), .second, .unset] [])) _
      refine Go.by (fun tt_ kk_ => XS.iload X.here hx rfl (hb hby at_270) rfl kk_) ?_
      show Go p.tables e below (T.setTop (mkF m 272 #[.val (.int p0), .val (.int p1), .val (.int p2), .val (.int p3), .val (.long q4), .second, .val (.int p5), .val (.int (2 : Int32)), .val (.int c0), .val (.int c1), .val (.int c2), .val (.double (FP.l2d li)), .second, .val (.ref b11), .val (.ref b14), .val (.ref b17), .val (.ref rr), .val (.int (1 : Int32)), .val (.long (p2.toInt64)), .second, .val (.long (c1.toInt64)), .second, .unset] [(.int (1 : Int32))])) _
      refine Go.by (fun tt_ kk_ => XS.ifYes X.here hx rfl (pc0 := 272) (pc' := 280) rfl (hb hby at_272) rfl ((if0 _ _).trans (feq (by decide : ¬ ((1 : Int32) = (0 : Int32)))).2) (by decide) (by decide) kk_) ?_
      show Go p.tables e below (T.setTop (mkF m 280 #[.val (.int p0), .val (.int p1), .val (.int p2), .val (.int p3), .val (.long q4), .second, .val (.int p5), .val (.int (2 : Int32)), .val (.int c0), .val (.int c1), .val (.int c2), .val (.double (FP.l2d li)), .second, .val (.ref b11), .val (.ref b14), .val (.ref b17), .val (.ref rr), .val (.int (1 : Int32)), .val (.long (p2.toInt64)), .second, .val (.long (c1.toInt64)), .second, .unset] [])) _
      refine Go.by (fun tt_ kk_ => XS.iload X.here hx rfl (hb hby at_280) rfl kk_) ?_
      show Go p.tables e below (T.setTop (mkF m 282 #[.val (.int p0), .val (.int p1), .val (.int p2), .val (.int p3), .val (.long q4), .second, .val (.int p5), .val (.int (2 : Int32)), .val (.int c0), .val (.int c1), .val (.int c2), .val (.double (FP.l2d li)), .second, .val (.ref b11), .val (.ref b14), .val (.ref b17), .val (.ref rr), .val (.int (1 : Int32)), .val (.long (p2.toInt64)), .second, .val (.long (c1.toInt64)), .second, .unset] [(.int (1 : Int32))])) _
      refine Go.by (fun tt_ kk_ => XS.iconst X.here hx rfl (hb hby at_282) kk_) ?_
      show Go p.tables e below (T.setTop (mkF m 283 #[.val (.int p0), .val (.int p1), .val (.int p2), .val (.int p3), .val (.long q4), .second, .val (.int p5), .val (.int (2 : Int32)), .val (.int c0), .val (.int c1), .val (.int c2), .val (.double (FP.l2d li)), .second, .val (.ref b11), .val (.ref b14), .val (.ref b17), .val (.ref rr), .val (.int (1 : Int32)), .val (.long (p2.toInt64)), .second, .val (.long (c1.toInt64)), .second, .unset] [(.int (1 : Int32)), (.int (1 : Int32))])) _
      refine Go.by (fun tt_ kk_ => XS.icmpNo X.here hx rfl (hb hby at_283) rfl (teq (rfl : (1 : Int32) = (1 : Int32))).2 kk_) ?_
      show Go p.tables e below (T.setTop (mkF m 286 #[.val (.int p0), .val (.int p1), .val (.int p2), .val (.int p3), .val (.long q4), .second, .val (.int p5), .val (.int (2 : Int32)), .val (.int c0), .val (.int c1), .val (.int c2), .val (.double (FP.l2d li)), .second, .val (.ref b11), .val (.ref b14), .val (.ref b17), .val (.ref rr), .val (.int (1 : Int32)), .val (.long (p2.toInt64)), .second, .val (.long (c1.toInt64)), .second, .unset] [])) _
      refine Go.by (fun tt_ kk_ => XS.iload X.here hx rfl (hb hby at_286) rfl kk_) ?_
      show Go p.tables e below (T.setTop (mkF m 288 #[.val (.int p0), .val (.int p1), .val (.int p2), .val (.int p3), .val (.long q4), .second, .val (.int p5), .val (.int (2 : Int32)), .val (.int c0), .val (.int c1), .val (.int c2), .val (.double (FP.l2d li)), .second, .val (.ref b11), .val (.ref b14), .val (.ref b17), .val (.ref rr), .val (.int (1 : Int32)), .val (.long (p2.toInt64)), .second, .val (.long (c1.toInt64)), .second, .unset] [(.int c1)])) _
      refine Go.by (fun tt_ kk_ => XS.goto X.here hx rfl (pc0 := 288) (pc' := 293) rfl (hb hby at_288) (by decide) (by decide) kk_) ?_
      show Go p.tables e below (T.setTop (mkF m 293 #[.val (.int p0), .val (.int p1), .val (.int p2), .val (.int p3), .val (.long q4), .second, .val (.int p5), .val (.int (2 : Int32)), .val (.int c0), .val (.int c1), .val (.int c2), .val (.double (FP.l2d li)), .second, .val (.ref b11), .val (.ref b14), .val (.ref b17), .val (.ref rr), .val (.int (1 : Int32)), .val (.long (p2.toInt64)), .second, .val (.long (c1.toInt64)), .second, .unset] [(.int c1)])) _
      refine Go.by (fun tt_ kk_ => XS.istore X.here hx rfl (hb hby at_293) rfl (l' := #[.val (.int p0), .val (.int p1), .val (.int p2), .val (.int p3), .val (.long q4), .second, .val (.int p5), .val (.int (2 : Int32)), .val (.int c0), .val (.int c1), .val (.int c2), .val (.double (FP.l2d li)), .second, .val (.ref b11), .val (.ref b14), .val (.ref b17), .val (.ref rr), .val (.int (1 : Int32)), .val (.long (p2.toInt64)), .second, .val (.long (c1.toInt64)), .second, .val (.int c1)]) rfl kk_) ?_
      show Go p.tables e below (T.setTop (mkF m 295 #[.val (.int p0), .val (.int p1), .val (.int p2), .val (.int p3), .val (.long q4), .second, .val (.int p5), .val (.int (2 : Int32)), .val (.int c0), .val (.int c1), .val (.int c2), .val (.double (FP.l2d li)), .second, .val (.ref b11), .val (.ref b14), .val (.ref b17), .val (.ref rr), .val (.int (1 : Int32)), .val (.long (p2.toInt64)), .second, .val (.long (c1.toInt64)), .second, .val (.int c1)] [])) _
      refine Go.by (fun tt_ kk_ => XS.aload X.here hx rfl (hb hby at_295) rfl rfl kk_) ?_
      show Go p.tables e below (T.setTop (mkF m 297 #[.val (.int p0), .val (.int p1), .val (.int p2), .val (.int p3), .val (.long q4), .second, .val (.int p5), .val (.int (2 : Int32)), .val (.int c0), .val (.int c1), .val (.int c2), .val (.double (FP.l2d li)), .second, .val (.ref b11), .val (.ref b14), .val (.ref b17), .val (.ref rr), .val (.int (1 : Int32)), .val (.long (p2.toInt64)), .second, .val (.long (c1.toInt64)), .second, .val (.int c1)] [(.ref rr)])) _
      refine Go.by (fun tt_ kk_ => XS.iconst X.here hx rfl (hb hby at_297) kk_) ?_
      show Go p.tables e below (T.setTop (mkF m 298 #[.val (.int p0), .val (.int p1), .val (.int p2), .val (.int p3), .val (.long q4), .second, .val (.int p5), .val (.int (2 : Int32)), .val (.int c0), .val (.int c1), .val (.int c2), .val (.double (FP.l2d li)), .second, .val (.ref b11), .val (.ref b14), .val (.ref b17), .val (.ref rr), .val (.int (1 : Int32)), .val (.long (p2.toInt64)), .second, .val (.long (c1.toInt64)), .second, .val (.int c1)] [(.int (0 : Int32)), (.ref rr)])) _
      refine Go.by (fun tt_ kk_ => XS.iload X.here hx rfl (hb hby at_298) rfl kk_) ?_
      show Go p.tables e below (T.setTop (mkF m 300 #[.val (.int p0), .val (.int p1), .val (.int p2), .val (.int p3), .val (.long q4), .second, .val (.int p5), .val (.int (2 : Int32)), .val (.int c0), .val (.int c1), .val (.int c2), .val (.double (FP.l2d li)), .second, .val (.ref b11), .val (.ref b14), .val (.ref b17), .val (.ref rr), .val (.int (1 : Int32)), .val (.long (p2.toInt64)), .second, .val (.long (c1.toInt64)), .second, .val (.int c1)] [(.int (2 : Int32)), (.int (0 : Int32)), (.ref rr)])) _
      refine Go.by (fun tt_ kk_ => XS.iload X.here hx rfl (hb hby at_300) rfl kk_) ?_
      show Go p.tables e below (T.setTop (mkF m 302 #[.val (.int p0), .val (.int p1), .val (.int p2), .val (.int p3), .val (.long q4), .second, .val (.int p5), .val (.int (2 : Int32)), .val (.int c0), .val (.int c1), .val (.int c2), .val (.double (FP.l2d li)), .second, .val (.ref b11), .val (.ref b14), .val (.ref b17), .val (.ref rr), .val (.int (1 : Int32)), .val (.long (p2.toInt64)), .second, .val (.long (c1.toInt64)), .second, .val (.int c1)] [(.int (1 : Int32)), (.int (2 : Int32)), (.int (0 : Int32)), (.ref rr)])) _
      refine Go.by (fun tt_ kk_ => XS.dload X.here hx rfl (hb hby at_302) rfl kk_) ?_
      show Go p.tables e below (T.setTop (mkF m 304 #[.val (.int p0), .val (.int p1), .val (.int p2), .val (.int p3), .val (.long q4), .second, .val (.int p5), .val (.int (2 : Int32)), .val (.int c0), .val (.int c1), .val (.int c2), .val (.double (FP.l2d li)), .second, .val (.ref b11), .val (.ref b14), .val (.ref b17), .val (.ref rr), .val (.int (1 : Int32)), .val (.long (p2.toInt64)), .second, .val (.long (c1.toInt64)), .second, .val (.int c1)] [(.double (FP.l2d li)), (.int (1 : Int32)), (.int (2 : Int32)), (.int (0 : Int32)), (.ref rr)])) _
      refine Go.by (fun tt_ kk_ => XS.iload X.here hx rfl (hb hby at_304) rfl kk_) ?_
      show Go p.tables e below (T.setTop (mkF m 306 #[.val (.int p0), .val (.int p1), .val (.int p2), .val (.int p3), .val (.long q4), .second, .val (.int p5), .val (.int (2 : Int32)), .val (.int c0), .val (.int c1), .val (.int c2), .val (.double (FP.l2d li)), .second, .val (.ref b11), .val (.ref b14), .val (.ref b17), .val (.ref rr), .val (.int (1 : Int32)), .val (.long (p2.toInt64)), .second, .val (.long (c1.toInt64)), .second, .val (.int c1)] [(.int c1), (.double (FP.l2d li)), (.int (1 : Int32)), (.int (2 : Int32)), (.int (0 : Int32)), (.ref rr)])) _
      obtain ⟨_, _, ⟨T, L_, k_, n_⟩, -, X, ⟨Lc_, hQ, l_, y_, z_⟩, st⟩ := Jvm.LawKit.callS X hx (y := (⟨"com/example/pareto_helm/paretohelm/engine/BudgetBestCornerPinLaw", "check", "([DIIIDI)Z"⟩ : MethodName)) hown (mvT hZ (hw _ (List.mem_of_getElem? (i := 59) rfl))) (mvT hZ (hw _ (List.mem_of_getElem? (i := 60) rfl))) (mvT hZ (hw _ (List.mem_of_getElem? (i := 57) rfl))) (mvT hZ (hw _ (List.mem_of_getElem? (i := 61) rfl))) (by decide) (backOf (W := 0) (rm9b l Z a0 hw [] rr (0 : Int32) (2 : Int32) (1 : Int32) (FP.l2d li) c1 _ _ h19 n0 (Nat.le_trans Z0 K.1) V_rr (by decide) (by decide) (by decide) rfl) hZ (hw _ (List.mem_of_getElem? (i := 61) rfl)) (hw _ (List.mem_of_getElem? (i := 57) rfl)) (by decide) (by decide)) (g := (mkF m 306 #[.val (.int p0), .val (.int p1), .val (.int p2), .val (.int p3), .val (.long q4), .second, .val (.int p5), .val (.int (2 : Int32)), .val (.int c0), .val (.int c1), .val (.int c2), .val (.double (FP.l2d li)), .second, .val (.ref b11), .val (.ref b14), .val (.ref b17), .val (.ref rr), .val (.int (1 : Int32)), .val (.long (p2.toInt64)), .second, .val (.long (c1.toInt64)), .second, .val (.int c1)] [(.int c1), (.double (FP.l2d li)), (.int (1 : Int32)), (.int (2 : Int32)), (.int (0 : Int32)), (.ref rr)])) rfl (by rw [hml]; rfl) (argsL := [(.ref rr), (.int (0 : Int32)), (.int (2 : Int32)), (.int (1 : Int32)), (.double (FP.l2d li)), (.int c1)]) (rest := []) (lenOf pd_5 rfl) rfl (by show 2 * 0 + _ ≤ _; exact Nat.le_of_eq rfl) (hb hby at_306) (fun _ _ => ⟨rfl, eT, (by decide : 7 + 0 ≤ _), (by decide : 30 + 0 ≤ _)⟩)
      dsimp only [Pt.U, Pt.locs, Pt.cells, Pt.slots] at X l_ y_ z_ st hQ
      subst l_ y_ z_
      obtain ⟨rfl, Nq, eh⟩ := hQ
      have N := Fr.app N Nq
      have eT := eh
      refine Go.by st ?_
      show Go p.tables e below (T.setTop (mkF m 309 #[.val (.int p0), .val (.int p1), .val (.int p2), .val (.int p3), .val (.long q4), .second, .val (.int p5), .val (.int (2 : Int32)), .val (.int c0), .val (.int c1), .val (.int c2), .val (.double (FP.l2d li)), .second, .val (.ref b11), .val (.ref b14), .val (.ref b17), .val (.ref rr), .val (.int (1 : Int32)), .val (.long (p2.toInt64)), .second, .val (.long (c1.toInt64)), .second, .val (.int c1)] [(.int (1 : Int32))])) _
      refine Go.by (fun tt_ kk_ => XS.ifNo X.here hx rfl (hb hby at_309) rfl ((if0 _ _).trans (feq (by decide : ¬ ((1 : Int32) = (0 : Int32)))).1) kk_) ?_
      show Go p.tables e below (T.setTop (mkF m 312 #[.val (.int p0), .val (.int p1), .val (.int p2), .val (.int p3), .val (.long q4), .second, .val (.int p5), .val (.int (2 : Int32)), .val (.int c0), .val (.int c1), .val (.int c2), .val (.double (FP.l2d li)), .second, .val (.ref b11), .val (.ref b14), .val (.ref b17), .val (.ref rr), .val (.int (1 : Int32)), .val (.long (p2.toInt64)), .second, .val (.long (c1.toInt64)), .second, .val (.int c1)] [])) _
      refine Go.by (fun tt_ kk_ => XS.aload X.here hx rfl (hb hby at_312) rfl rfl kk_) ?_
      show Go p.tables e below (T.setTop (mkF m 314 #[.val (.int p0), .val (.int p1), .val (.int p2), .val (.int p3), .val (.long q4), .second, .val (.int p5), .val (.int (2 : Int32)), .val (.int c0), .val (.int c1), .val (.int c2), .val (.double (FP.l2d li)), .second, .val (.ref b11), .val (.ref b14), .val (.ref b17), .val (.ref rr), .val (.int (1 : Int32)), .val (.long (p2.toInt64)), .second, .val (.long (c1.toInt64)), .second, .val (.int c1)] [(.ref rr)])) _
      refine Go.by (fun tt_ kk_ => XS.iconst X.here hx rfl (hb hby at_314) kk_) ?_
      show Go p.tables e below (T.setTop (mkF m 315 #[.val (.int p0), .val (.int p1), .val (.int p2), .val (.int p3), .val (.long q4), .second, .val (.int p5), .val (.int (2 : Int32)), .val (.int c0), .val (.int c1), .val (.int c2), .val (.double (FP.l2d li)), .second, .val (.ref b11), .val (.ref b14), .val (.ref b17), .val (.ref rr), .val (.int (1 : Int32)), .val (.long (p2.toInt64)), .second, .val (.long (c1.toInt64)), .second, .val (.int c1)] [(.int (1 : Int32)), (.ref rr)])) _
      refine Go.by (fun tt_ kk_ => XS.iload X.here hx rfl (hb hby at_315) rfl kk_) ?_
      show Go p.tables e below (T.setTop (mkF m 317 #[.val (.int p0), .val (.int p1), .val (.int p2), .val (.int p3), .val (.long q4), .second, .val (.int p5), .val (.int (2 : Int32)), .val (.int c0), .val (.int c1), .val (.int c2), .val (.double (FP.l2d li)), .second, .val (.ref b11), .val (.ref b14), .val (.ref b17), .val (.ref rr), .val (.int (1 : Int32)), .val (.long (p2.toInt64)), .second, .val (.long (c1.toInt64)), .second, .val (.int c1)] [(.int (2 : Int32)), (.int (1 : Int32)), (.ref rr)])) _
      refine Go.by (fun tt_ kk_ => XS.iload X.here hx rfl (hb hby at_317) rfl kk_) ?_
      show Go p.tables e below (T.setTop (mkF m 319 #[.val (.int p0), .val (.int p1), .val (.int p2), .val (.int p3), .val (.long q4), .second, .val (.int p5), .val (.int (2 : Int32)), .val (.int c0), .val (.int c1), .val (.int c2), .val (.double (FP.l2d li)), .second, .val (.ref b11), .val (.ref b14), .val (.ref b17), .val (.ref rr), .val (.int (1 : Int32)), .val (.long (p2.toInt64)), .second, .val (.long (c1.toInt64)), .second, .val (.int c1)] [(.int (1 : Int32)), (.int (2 : Int32)), (.int (1 : Int32)), (.ref rr)])) _
      refine Go.by (fun tt_ kk_ => XS.dload X.here hx rfl (hb hby at_319) rfl kk_) ?_
      show Go p.tables e below (T.setTop (mkF m 321 #[.val (.int p0), .val (.int p1), .val (.int p2), .val (.int p3), .val (.long q4), .second, .val (.int p5), .val (.int (2 : Int32)), .val (.int c0), .val (.int c1), .val (.int c2), .val (.double (FP.l2d li)), .second, .val (.ref b11), .val (.ref b14), .val (.ref b17), .val (.ref rr), .val (.int (1 : Int32)), .val (.long (p2.toInt64)), .second, .val (.long (c1.toInt64)), .second, .val (.int c1)] [(.double (FP.l2d li)), (.int (1 : Int32)), (.int (2 : Int32)), (.int (1 : Int32)), (.ref rr)])) _
      refine Go.by (fun tt_ kk_ => XS.iload X.here hx rfl (hb hby at_321) rfl kk_) ?_
      show Go p.tables e below (T.setTop (mkF m 323 #[.val (.int p0), .val (.int p1), .val (.int p2), .val (.int p3), .val (.long q4), .second, .val (.int p5), .val (.int (2 : Int32)), .val (.int c0), .val (.int c1), .val (.int c2), .val (.double (FP.l2d li)), .second, .val (.ref b11), .val (.ref b14), .val (.ref b17), .val (.ref rr), .val (.int (1 : Int32)), .val (.long (p2.toInt64)), .second, .val (.long (c1.toInt64)), .second, .val (.int c1)] [(.int c1), (.double (FP.l2d li)), (.int (1 : Int32)), (.int (2 : Int32)), (.int (1 : Int32)), (.ref rr)])) _
      obtain ⟨_, _, ⟨T, L_, k_, n_⟩, -, X, ⟨Lc_, hQ, l_, y_, z_⟩, st⟩ := Jvm.LawKit.callS X hx (y := (⟨"com/example/pareto_helm/paretohelm/engine/BudgetBestCornerPinLaw", "check", "([DIIIDI)Z"⟩ : MethodName)) hown (mvT hZ (hw _ (List.mem_of_getElem? (i := 59) rfl))) (mvT hZ (hw _ (List.mem_of_getElem? (i := 60) rfl))) (mvT hZ (hw _ (List.mem_of_getElem? (i := 57) rfl))) (mvT hZ (hw _ (List.mem_of_getElem? (i := 61) rfl))) (by decide) (backOf (W := 0) (rm9a l Z a0 hw [] rr (1 : Int32) (2 : Int32) (1 : Int32) (FP.l2d li) c1 _ _ h19 n0 (Nat.le_trans Z0 K.1) V_rr (by decide) (by decide) rfl (own_divnn2 (own_lfin li).noNaN (Dy.i2d c1) (by omega)) rfl) hZ (hw _ (List.mem_of_getElem? (i := 61) rfl)) (hw _ (List.mem_of_getElem? (i := 57) rfl)) (by decide) (by decide)) (g := (mkF m 323 #[.val (.int p0), .val (.int p1), .val (.int p2), .val (.int p3), .val (.long q4), .second, .val (.int p5), .val (.int (2 : Int32)), .val (.int c0), .val (.int c1), .val (.int c2), .val (.double (FP.l2d li)), .second, .val (.ref b11), .val (.ref b14), .val (.ref b17), .val (.ref rr), .val (.int (1 : Int32)), .val (.long (p2.toInt64)), .second, .val (.long (c1.toInt64)), .second, .val (.int c1)] [(.int c1), (.double (FP.l2d li)), (.int (1 : Int32)), (.int (2 : Int32)), (.int (1 : Int32)), (.ref rr)])) rfl (by rw [hml]; rfl) (argsL := [(.ref rr), (.int (1 : Int32)), (.int (2 : Int32)), (.int (1 : Int32)), (.double (FP.l2d li)), (.int c1)]) (rest := []) (lenOf pd_5 rfl) rfl (by show 2 * 0 + _ ≤ _; exact Nat.le_of_eq rfl) (hb hby at_323) (fun _ _ => ⟨rfl, eT, (by decide : 7 + 0 ≤ _), (by decide : 30 + 0 ≤ _)⟩)
      dsimp only [Pt.U, Pt.locs, Pt.cells, Pt.slots] at X l_ y_ z_ st hQ
      subst l_ y_ z_
      obtain ⟨rfl, Nq, eh⟩ := hQ
      have N := Fr.app N Nq
      have eT := eh
      refine Go.by st ?_
      show Go p.tables e below (T.setTop (mkF m 326 #[.val (.int p0), .val (.int p1), .val (.int p2), .val (.int p3), .val (.long q4), .second, .val (.int p5), .val (.int (2 : Int32)), .val (.int c0), .val (.int c1), .val (.int c2), .val (.double (FP.l2d li)), .second, .val (.ref b11), .val (.ref b14), .val (.ref b17), .val (.ref rr), .val (.int (1 : Int32)), .val (.long (p2.toInt64)), .second, .val (.long (c1.toInt64)), .second, .val (.int c1)] [(.int (1 : Int32))])) _
      refine Go.by (fun tt_ kk_ => XS.ifNo X.here hx rfl (hb hby at_326) rfl ((if0 _ _).trans (feq (by decide : ¬ ((1 : Int32) = (0 : Int32)))).1) kk_) ?_
      show Go p.tables e below (T.setTop (mkF m 329 #[.val (.int p0), .val (.int p1), .val (.int p2), .val (.int p3), .val (.long q4), .second, .val (.int p5), .val (.int (2 : Int32)), .val (.int c0), .val (.int c1), .val (.int c2), .val (.double (FP.l2d li)), .second, .val (.ref b11), .val (.ref b14), .val (.ref b17), .val (.ref rr), .val (.int (1 : Int32)), .val (.long (p2.toInt64)), .second, .val (.long (c1.toInt64)), .second, .val (.int c1)] [])) _
      refine Go.by (fun tt_ kk_ => XS.aload X.here hx rfl (hb hby at_329) rfl rfl kk_) ?_
      show Go p.tables e below (T.setTop (mkF m 331 #[.val (.int p0), .val (.int p1), .val (.int p2), .val (.int p3), .val (.long q4), .second, .val (.int p5), .val (.int (2 : Int32)), .val (.int c0), .val (.int c1), .val (.int c2), .val (.double (FP.l2d li)), .second, .val (.ref b11), .val (.ref b14), .val (.ref b17), .val (.ref rr), .val (.int (1 : Int32)), .val (.long (p2.toInt64)), .second, .val (.long (c1.toInt64)), .second, .val (.int c1)] [(.ref rr)])) _
      refine Go.by (fun tt_ kk_ => XS.iconst X.here hx rfl (hb hby at_331) kk_) ?_
      show Go p.tables e below (T.setTop (mkF m 332 #[.val (.int p0), .val (.int p1), .val (.int p2), .val (.int p3), .val (.long q4), .second, .val (.int p5), .val (.int (2 : Int32)), .val (.int c0), .val (.int c1), .val (.int c2), .val (.double (FP.l2d li)), .second, .val (.ref b11), .val (.ref b14), .val (.ref b17), .val (.ref rr), .val (.int (1 : Int32)), .val (.long (p2.toInt64)), .second, .val (.long (c1.toInt64)), .second, .val (.int c1)] [(.int (2 : Int32)), (.ref rr)])) _
      refine Go.by (fun tt_ kk_ => XS.iload X.here hx rfl (hb hby at_332) rfl kk_) ?_
      show Go p.tables e below (T.setTop (mkF m 334 #[.val (.int p0), .val (.int p1), .val (.int p2), .val (.int p3), .val (.long q4), .second, .val (.int p5), .val (.int (2 : Int32)), .val (.int c0), .val (.int c1), .val (.int c2), .val (.double (FP.l2d li)), .second, .val (.ref b11), .val (.ref b14), .val (.ref b17), .val (.ref rr), .val (.int (1 : Int32)), .val (.long (p2.toInt64)), .second, .val (.long (c1.toInt64)), .second, .val (.int c1)] [(.int (2 : Int32)), (.int (2 : Int32)), (.ref rr)])) _
      refine Go.by (fun tt_ kk_ => XS.iload X.here hx rfl (hb hby at_334) rfl kk_) ?_
      show Go p.tables e below (T.setTop (mkF m 336 #[.val (.int p0), .val (.int p1), .val (.int p2), .val (.int p3), .val (.long q4), .second, .val (.int p5), .val (.int (2 : Int32)), .val (.int c0), .val (.int c1), .val (.int c2), .val (.double (FP.l2d li)), .second, .val (.ref b11), .val (.ref b14), .val (.ref b17), .val (.ref rr), .val (.int (1 : Int32)), .val (.long (p2.toInt64)), .second, .val (.long (c1.toInt64)), .second, .val (.int c1)] [(.int (1 : Int32)), (.int (2 : Int32)), (.int (2 : Int32)), (.ref rr)])) _
      refine Go.by (fun tt_ kk_ => XS.dload X.here hx rfl (hb hby at_336) rfl kk_) ?_
      show Go p.tables e below (T.setTop (mkF m 338 #[.val (.int p0), .val (.int p1), .val (.int p2), .val (.int p3), .val (.long q4), .second, .val (.int p5), .val (.int (2 : Int32)), .val (.int c0), .val (.int c1), .val (.int c2), .val (.double (FP.l2d li)), .second, .val (.ref b11), .val (.ref b14), .val (.ref b17), .val (.ref rr), .val (.int (1 : Int32)), .val (.long (p2.toInt64)), .second, .val (.long (c1.toInt64)), .second, .val (.int c1)] [(.double (FP.l2d li)), (.int (1 : Int32)), (.int (2 : Int32)), (.int (2 : Int32)), (.ref rr)])) _
      refine Go.by (fun tt_ kk_ => XS.iload X.here hx rfl (hb hby at_338) rfl kk_) ?_
      show Go p.tables e below (T.setTop (mkF m 340 #[.val (.int p0), .val (.int p1), .val (.int p2), .val (.int p3), .val (.long q4), .second, .val (.int p5), .val (.int (2 : Int32)), .val (.int c0), .val (.int c1), .val (.int c2), .val (.double (FP.l2d li)), .second, .val (.ref b11), .val (.ref b14), .val (.ref b17), .val (.ref rr), .val (.int (1 : Int32)), .val (.long (p2.toInt64)), .second, .val (.long (c1.toInt64)), .second, .val (.int c1)] [(.int c1), (.double (FP.l2d li)), (.int (1 : Int32)), (.int (2 : Int32)), (.int (2 : Int32)), (.ref rr)])) _
      obtain ⟨_, _, ⟨T, L_, k_, n_⟩, -, X, ⟨Lc_, hQ, l_, y_, z_⟩, st⟩ := Jvm.LawKit.callS X hx (y := (⟨"com/example/pareto_helm/paretohelm/engine/BudgetBestCornerPinLaw", "check", "([DIIIDI)Z"⟩ : MethodName)) hown (mvT hZ (hw _ (List.mem_of_getElem? (i := 59) rfl))) (mvT hZ (hw _ (List.mem_of_getElem? (i := 60) rfl))) (mvT hZ (hw _ (List.mem_of_getElem? (i := 57) rfl))) (mvT hZ (hw _ (List.mem_of_getElem? (i := 61) rfl))) (by decide) (backOf (W := 0) (rm9c l Z a0 hw [] rr (2 : Int32) (2 : Int32) (1 : Int32) (FP.l2d li) c1 h19 n0 (Nat.le_trans Z0 K.1) (by decide)) hZ (hw _ (List.mem_of_getElem? (i := 61) rfl)) (hw _ (List.mem_of_getElem? (i := 57) rfl)) (by decide) (by decide)) (g := (mkF m 340 #[.val (.int p0), .val (.int p1), .val (.int p2), .val (.int p3), .val (.long q4), .second, .val (.int p5), .val (.int (2 : Int32)), .val (.int c0), .val (.int c1), .val (.int c2), .val (.double (FP.l2d li)), .second, .val (.ref b11), .val (.ref b14), .val (.ref b17), .val (.ref rr), .val (.int (1 : Int32)), .val (.long (p2.toInt64)), .second, .val (.long (c1.toInt64)), .second, .val (.int c1)] [(.int c1), (.double (FP.l2d li)), (.int (1 : Int32)), (.int (2 : Int32)), (.int (2 : Int32)), (.ref rr)])) rfl (by rw [hml]; rfl) (argsL := [(.ref rr), (.int (2 : Int32)), (.int (2 : Int32)), (.int (1 : Int32)), (.double (FP.l2d li)), (.int c1)]) (rest := []) (lenOf pd_5 rfl) rfl (by show 2 * 0 + _ ≤ _; exact Nat.le_of_eq rfl) (hb hby at_340) (fun _ _ => ⟨rfl, eT, (by decide : 7 + 0 ≤ _), (by decide : 30 + 0 ≤ _)⟩)
      dsimp only [Pt.U, Pt.locs, Pt.cells, Pt.slots] at X l_ y_ z_ st hQ
      subst l_ y_ z_
      obtain ⟨rfl, Nq, eh⟩ := hQ
      have N := Fr.app N Nq
      have eT := eh
      refine Go.by st ?_
      show Go p.tables e below (T.setTop (mkF m 343 #[.val (.int p0), .val (.int p1), .val (.int p2), .val (.int p3), .val (.long q4), .second, .val (.int p5), .val (.int (2 : Int32)), .val (.int c0), .val (.int c1), .val (.int c2), .val (.double (FP.l2d li)), .second, .val (.ref b11), .val (.ref b14), .val (.ref b17), .val (.ref rr), .val (.int (1 : Int32)), .val (.long (p2.toInt64)), .second, .val (.long (c1.toInt64)), .second, .val (.int c1)] [(.int (1 : Int32))])) _
      refine Go.by (fun tt_ kk_ => XS.ifNo X.here hx rfl (hb hby at_343) rfl ((if0 _ _).trans (feq (by decide : ¬ ((1 : Int32) = (0 : Int32)))).1) kk_) ?_
      show Go p.tables e below (T.setTop (mkF m 346 #[.val (.int p0), .val (.int p1), .val (.int p2), .val (.int p3), .val (.long q4), .second, .val (.int p5), .val (.int (2 : Int32)), .val (.int c0), .val (.int c1), .val (.int c2), .val (.double (FP.l2d li)), .second, .val (.ref b11), .val (.ref b14), .val (.ref b17), .val (.ref rr), .val (.int (1 : Int32)), .val (.long (p2.toInt64)), .second, .val (.long (c1.toInt64)), .second, .val (.int c1)] [])) _
      refine Go.by (fun tt_ kk_ => XS.iconst X.here hx rfl (hb hby at_346) kk_) ?_
      show Go p.tables e below (T.setTop (mkF m 347 #[.val (.int p0), .val (.int p1), .val (.int p2), .val (.int p3), .val (.long q4), .second, .val (.int p5), .val (.int (2 : Int32)), .val (.int c0), .val (.int c1), .val (.int c2), .val (.double (FP.l2d li)), .second, .val (.ref b11), .val (.ref b14), .val (.ref b17), .val (.ref rr), .val (.int (1 : Int32)), .val (.long (p2.toInt64)), .second, .val (.long (c1.toInt64)), .second, .val (.int c1)] [(.int (1 : Int32))])) _
      refine Go.by (fun tt_ kk_ => XS.goto X.here hx rfl (pc0 := 347) (pc' := 351) rfl (hb hby at_347) (by decide) (by decide) kk_) ?_
      show Go p.tables e below (T.setTop (mkF m 351 #[.val (.int p0), .val (.int p1), .val (.int p2), .val (.int p3), .val (.long q4), .second, .val (.int p5), .val (.int (2 : Int32)), .val (.int c0), .val (.int c1), .val (.int c2), .val (.double (FP.l2d li)), .second, .val (.ref b11), .val (.ref b14), .val (.ref b17), .val (.ref rr), .val (.int (1 : Int32)), .val (.long (p2.toInt64)), .second, .val (.long (c1.toInt64)), .second, .val (.int c1)] [(.int (1 : Int32))])) _
      exact Go.doneW X hS (by rw [eT]; exact hk) (v := some (.int (1 : Int32))) (fun h => by rw [Bd.returns] at h; cases h) Bd.notSynchronized (fun fs hr => retN X hx (z := (1 : Int32)) (t := .boolean) Bd.returns (by simp) (hb hby at_351) hr) (by rw [eT]; exact ⟨rfl, N⟩) (by decide) (by decide)
    · rw [if_neg hg1] at V_rr
      have hz : (if p1.toInt * c1.toInt < p2.toInt * c0.toInt then (1 : Int32) else 0) = (0 : Int32) := if_neg hg1
      have mA := own_mulb (A := 2147483648) (B := 1024) b_w1.1 b_w1.2 (show -1024 ≤ c0.toInt by omega) (by omega)
      have mB := own_mulb (A := 2147483648) (B := 1024) b_w0.1 b_w0.2 (show -1024 ≤ c1.toInt by omega) (by omega)
      obtain ⟨_, _, ⟨T, L_, k_, n_⟩, -, X, ⟨Lc_, hQ, l_, y_, z_⟩, st⟩ := Jvm.LawKit.callS X hx (y := (⟨"com/example/pareto_helm/paretohelm/engine/BudgetBestCornerPinLaw", "greater", "(JJJJ)Z"⟩ : MethodName)) hown (mvT hZ (hw _ (List.mem_of_getElem? (i := 55) rfl))) (mvT hZ (hw _ (List.mem_of_getElem? (i := 56) rfl))) (mvT hZ (hw _ (List.mem_of_getElem? (i := 57) rfl))) (mvT hZ (hw _ (List.mem_of_getElem? (i := 58) rfl))) (by decide) (backOf (W := 0) (rm8 l Z a0 hw [] (p2.toInt64) (c1.toInt64) (p1.toInt64) (c0.toInt64) p2.toInt c1.toInt p1.toInt c0.toInt h19 n0 (Nat.le_trans Z0 K.1) (own_i2l _) (own_i2l _) (own_i2l _) (own_i2l _) (by omega) (by omega)) hZ (hw _ (List.mem_of_getElem? (i := 58) rfl)) (hw _ (List.mem_of_getElem? (i := 57) rfl)) (by decide) (by decide)) (g := (mkF m 218 #[.val (.int p0), .val (.int p1), .val (.int p2), .val (.int p3), .val (.long q4), .second, .val (.int p5), .val (.int (2 : Int32)), .val (.int c0), .val (.int c1), .val (.int c2), .val (.double (FP.l2d li)), .second, .val (.ref b11), .val (.ref b14), .val (.ref b17), .val (.ref rr), .val (.int (0 : Int32)), .val (.long (p1.toInt64)), .second, .val (.long (c0.toInt64)), .second, .unset] [(.long (c0.toInt64)), (.long (p1.toInt64)), (.long (c1.toInt64)), (.long (p2.toInt64))])) rfl (by rw [hml]; rfl) (argsL := [(.long (p2.toInt64)), (.long (c1.toInt64)), (.long (p1.toInt64)), (.long (c0.toInt64))]) (rest := []) (lenOf pd_6 rfl) rfl (by show 2 * 0 + _ ≤ _; exact Nat.le_of_eq rfl) (hb hby at_218) (fun _ _ => ⟨rfl, eT, (by decide : 7 + 0 ≤ _), (by decide : 30 + 0 ≤ _)⟩)
      dsimp only [Pt.U, Pt.locs, Pt.cells, Pt.slots] at X l_ y_ z_ st hQ
      subst l_ y_ z_
      obtain ⟨e_v, Nq, eh⟩ := hQ
      rw [hz] at e_v
      subst e_v
      have N := Fr.app N Nq
      have eT := eh
      refine Go.by st ?_
      show Go p.tables e below (T.setTop (mkF m 221 #[.val (.int p0), .val (.int p1), .val (.int p2), .val (.int p3), .val (.long q4), .second, .val (.int p5), .val (.int (2 : Int32)), .val (.int c0), .val (.int c1), .val (.int c2), .val (.double (FP.l2d li)), .second, .val (.ref b11), .val (.ref b14), .val (.ref b17), .val (.ref rr), .val (.int (0 : Int32)), .val (.long (p1.toInt64)), .second, .val (.long (c0.toInt64)), .second, .unset] [(.int (0 : Int32))])) _
      refine Go.by (fun tt_ kk_ => XS.ifYes X.here hx rfl (pc0 := 221) (pc' := 236) rfl (hb hby at_221) rfl ((if0 _ _).trans (teq (rfl : (0 : Int32) = (0 : Int32))).1) (by decide) (by decide) kk_) ?_
      show Go p.tables e below (T.setTop (mkF m 236 #[.val (.int p0), .val (.int p1), .val (.int p2), .val (.int p3), .val (.long q4), .second, .val (.int p5), .val (.int (2 : Int32)), .val (.int c0), .val (.int c1), .val (.int c2), .val (.double (FP.l2d li)), .second, .val (.ref b11), .val (.ref b14), .val (.ref b17), .val (.ref rr), .val (.int (0 : Int32)), .val (.long (p1.toInt64)), .second, .val (.long (c0.toInt64)), .second, .unset] [])) _
      refine Go.by (fun tt_ kk_ => XS.iload X.here hx rfl (hb hby at_236) rfl kk_) ?_
      show Go p.tables e below (T.setTop (mkF m 238 #[.val (.int p0), .val (.int p1), .val (.int p2), .val (.int p3), .val (.long q4), .second, .val (.int p5), .val (.int (2 : Int32)), .val (.int c0), .val (.int c1), .val (.int c2), .val (.double (FP.l2d li)), .second, .val (.ref b11), .val (.ref b14), .val (.ref b17), .val (.ref rr), .val (.int (0 : Int32)), .val (.long (p1.toInt64)), .second, .val (.long (c0.toInt64)), .second, .unset] [(.int (2 : Int32))])) _
      refine Go.by (fun tt_ kk_ => XS.iconst X.here hx rfl (hb hby at_238) kk_) ?_
      show Go p.tables e below (T.setTop (mkF m 239 #[.val (.int p0), .val (.int p1), .val (.int p2), .val (.int p3), .val (.long q4), .second, .val (.int p5), .val (.int (2 : Int32)), .val (.int c0), .val (.int c1), .val (.int c2), .val (.double (FP.l2d li)), .second, .val (.ref b11), .val (.ref b14), .val (.ref b17), .val (.ref rr), .val (.int (0 : Int32)), .val (.long (p1.toInt64)), .second, .val (.long (c0.toInt64)), .second, .unset] [(.int (3 : Int32)), (.int (2 : Int32))])) _
      refine Go.by (fun tt_ kk_ => XS.icmpYes X.here hx rfl (pc0 := 239) (pc' := 260) rfl (hb hby at_239) rfl (tlt (by decide : (2 : Int32) < (3 : Int32))).1 (by decide) (by decide) kk_) ?_
      show Go p.tables e below (T.setTop (mkF m 260 #[.val (.int p0), .val (.int p1), .val (.int p2), .val (.int p3), .val (.long q4), .second, .val (.int p5), .val (.int (2 : Int32)), .val (.int c0), .val (.int c1), .val (.int c2), .val (.double (FP.l2d li)), .second, .val (.ref b11), .val (.ref b14), .val (.ref b17), .val (.ref rr), .val (.int (0 : Int32)), .val (.long (p1.toInt64)), .second, .val (.long (c0.toInt64)), .second, .unset] [])) _
      refine Go.by (fun tt_ kk_ => XS.aload X.here hx rfl (hb hby at_260) rfl rfl kk_) ?_
      show Go p.tables e below (T.setTop (mkF m 262 #[.val (.int p0), .val (.int p1), .val (.int p2), .val (.int p3), .val (.long q4), .second, .val (.int p5), .val (.int (2 : Int32)), .val (.int c0), .val (.int c1), .val (.int c2), .val (.double (FP.l2d li)), .second, .val (.ref b11), .val (.ref b14), .val (.ref b17), .val (.ref rr), .val (.int (0 : Int32)), .val (.long (p1.toInt64)), .second, .val (.long (c0.toInt64)), .second, .unset] [(.ref rr)])) _
      have Vo_ := V_rr
      obtain ⟨cl_, Ar_, q_, S_, N_, H_, G_⟩ := Vo_
      refine Go.by (X.arraylength hx (by rw [eT]; exact Ar_.1) (State.isArrayOf_alike hZ.alike Ar_.2.1) (g := (mkF m 262 #[.val (.int p0), .val (.int p1), .val (.int p2), .val (.int p3), .val (.long q4), .second, .val (.int p5), .val (.int (2 : Int32)), .val (.int c0), .val (.int c1), .val (.int c2), .val (.double (FP.l2d li)), .second, .val (.ref b11), .val (.ref b14), .val (.ref b17), .val (.ref rr), .val (.int (0 : Int32)), .val (.long (p1.toInt64)), .second, .val (.long (c0.toInt64)), .second, .unset] [(.ref rr)])) rfl rfl (hb hby at_262)) ?_
      rw [len_of S_ N_]
      show Go p.tables e below (T.setTop (mkF m 263 #[.val (.int p0), .val (.int p1), .val (.int p2), .val (.int p3), .val (.long q4), .second, .val (.int p5), .val (.int (2 : Int32)), .val (.int c0), .val (.int c1), .val (.int c2), .val (.double (FP.l2d li)), .second, .val (.ref b11), .val (.ref b14), .val (.ref b17), .val (.ref rr), .val (.int (0 : Int32)), .val (.long (p1.toInt64)), .second, .val (.long (c0.toInt64)), .second, .unset] [(.int (2 : Int32))])) _
      refine Go.by (fun tt_ kk_ => XS.iload X.here hx rfl (hb hby at_263) rfl kk_) ?_
      show Go p.tables e below (T.setTop (mkF m 265 #[.val (.int p0), .val (.int p1), .val (.int p2), .val (.int p3), .val (.long q4), .second, .val (.int p5), .val (.int (2 : Int32)), .val (.int c0), .val (.int c1), .val (.int c2), .val (.double (FP.l2d li)), .second, .val (.ref b11), .val (.ref b14), .val (.ref b17), .val (.ref rr), .val (.int (0 : Int32)), .val (.long (p1.toInt64)), .second, .val (.long (c0.toInt64)), .second, .unset] [(.int (2 : Int32)), (.int (2 : Int32))])) _
      refine Go.by (fun tt_ kk_ => XS.icmpYes X.here hx rfl (pc0 := 265) (pc' := 270) rfl (hb hby at_265) rfl (teq (rfl : (2 : Int32) = (2 : Int32))).1 (by decide) (by decide) kk_) ?_
      show Go p.tables e below (T.setTop (mkF m 270 #[.val (.int p0), .val (.int p1), .val (.int p2), .val (.int p3), .val (.long q4), .second, .val (.int p5), .val (.int (2 : Int32)), .val (.int c0), .val (.int c1), .val (.int c2), .val (.double (FP.l2d li)), .second, .val (.ref b11), .val (.ref b14), .val (.ref b17), .val (.ref rr), .val (.int (0 : Int32)), .val (.long (p1.toInt64)), .second, .val (.long (c0.toInt64)), .second, .unset] [])) _
      refine Go.by (fun tt_ kk_ => XS.iload X.here hx rfl (hb hby at_270) rfl kk_) ?_
      show Go p.tables e below (T.setTop (mkF m 272 #[.val (.int p0), .val (.int p1), .val (.int p2), .val (.int p3), .val (.long q4), .second, .val (.int p5), .val (.int (2 : Int32)), .val (.int c0), .val (.int c1), .val (.int c2), .val (.double (FP.l2d li)), .second, .val (.ref b11), .val (.ref b14), .val (.ref b17), .val (.ref rr), .val (.int (0 : Int32)), .val (.long (p1.toInt64)), .second, .val (.long (c0.toInt64)), .second, .unset] [(.int (0 : Int32))])) _
      refine Go.by (fun tt_ kk_ => XS.ifNo X.here hx rfl (hb hby at_272) rfl ((if0 _ _).trans (teq (rfl : (0 : Int32) = (0 : Int32))).2) kk_) ?_
      show Go p.tables e below (T.setTop (mkF m 275 #[.val (.int p0), .val (.int p1), .val (.int p2), .val (.int p3), .val (.long q4), .second, .val (.int p5), .val (.int (2 : Int32)), .val (.int c0), .val (.int c1), .val (.int c2), .val (.double (FP.l2d li)), .second, .val (.ref b11), .val (.ref b14), .val (.ref b17), .val (.ref rr), .val (.int (0 : Int32)), .val (.long (p1.toInt64)), .second, .val (.long (c0.toInt64)), .second, .unset] [])) _
      refine Go.by (fun tt_ kk_ => XS.iload X.here hx rfl (hb hby at_275) rfl kk_) ?_
      show Go p.tables e below (T.setTop (mkF m 277 #[.val (.int p0), .val (.int p1), .val (.int p2), .val (.int p3), .val (.long q4), .second, .val (.int p5), .val (.int (2 : Int32)), .val (.int c0), .val (.int c1), .val (.int c2), .val (.double (FP.l2d li)), .second, .val (.ref b11), .val (.ref b14), .val (.ref b17), .val (.ref rr), .val (.int (0 : Int32)), .val (.long (p1.toInt64)), .second, .val (.long (c0.toInt64)), .second, .unset] [(.int c0)])) _
      refine Go.by (fun tt_ kk_ => XS.goto X.here hx rfl (pc0 := 277) (pc' := 293) rfl (hb hby at_277) (by decide) (by decide) kk_) ?_
      show Go p.tables e below (T.setTop (mkF m 293 #[.val (.int p0), .val (.int p1), .val (.int p2), .val (.int p3), .val (.long q4), .second, .val (.int p5), .val (.int (2 : Int32)), .val (.int c0), .val (.int c1), .val (.int c2), .val (.double (FP.l2d li)), .second, .val (.ref b11), .val (.ref b14), .val (.ref b17), .val (.ref rr), .val (.int (0 : Int32)), .val (.long (p1.toInt64)), .second, .val (.long (c0.toInt64)), .second, .unset] [(.int c0)])) _
      refine Go.by (fun tt_ kk_ => XS.istore X.here hx rfl (hb hby at_293) rfl (l' := #[.val (.int p0), .val (.int p1), .val (.int p2), .val (.int p3), .val (.long q4), .second, .val (.int p5), .val (.int (2 : Int32)), .val (.int c0), .val (.int c1), .val (.int c2), .val (.double (FP.l2d li)), .second, .val (.ref b11), .val (.ref b14), .val (.ref b17), .val (.ref rr), .val (.int (0 : Int32)), .val (.long (p1.toInt64)), .second, .val (.long (c0.toInt64)), .second, .val (.int c0)]) rfl kk_) ?_
      show Go p.tables e below (T.setTop (mkF m 295 #[.val (.int p0), .val (.int p1), .val (.int p2), .val (.int p3), .val (.long q4), .second, .val (.int p5), .val (.int (2 : Int32)), .val (.int c0), .val (.int c1), .val (.int c2), .val (.double (FP.l2d li)), .second, .val (.ref b11), .val (.ref b14), .val (.ref b17), .val (.ref rr), .val (.int (0 : Int32)), .val (.long (p1.toInt64)), .second, .val (.long (c0.toInt64)), .second, .val (.int c0)] [])) _
      refine Go.by (fun tt_ kk_ => XS.aload X.here hx rfl (hb hby at_295) rfl rfl kk_) ?_
      show Go p.tables e below (T.setTop (mkF m 297 #[.val (.int p0), .val (.int p1), .val (.int p2), .val (.int p3), .val (.long q4), .second, .val (.int p5), .val (.int (2 : Int32)), .val (.int c0), .val (.int c1), .val (.int c2), .val (.double (FP.l2d li)), .second, .val (.ref b11), .val (.ref b14), .val (.ref b17), .val (.ref rr), .val (.int (0 : Int32)), .val (.long (p1.toInt64)), .second, .val (.long (c0.toInt64)), .second, .val (.int c0)] [(.ref rr)])) _
      refine Go.by (fun tt_ kk_ => XS.iconst X.here hx rfl (hb hby at_297) kk_) ?_
      show Go p.tables e below (T.setTop (mkF m 298 #[.val (.int p0), .val (.int p1), .val (.int p2), .val (.int p3), .val (.long q4), .second, .val (.int p5), .val (.int (2 : Int32)), .val (.int c0), .val (.int c1), .val (.int c2), .val (.double (FP.l2d li)), .second, .val (.ref b11), .val (.ref b14), .val (.ref b17), .val (.ref rr), .val (.int (0 : Int32)), .val (.long (p1.toInt64)), .second, .val (.long (c0.toInt64)), .second, .val (.int c0)] [(.int (0 : Int32)), (.ref rr)])) _
      refine Go.by (fun tt_ kk_ => XS.iload X.here hx rfl (hb hby at_298) rfl kk_) ?_
      show Go p.tables e below (T.setTop (mkF m 300 #[.val (.int p0), .val (.int p1), .val (.int p2), .val (.int p3), .val (.long q4), .second, .val (.int p5), .val (.int (2 : Int32)), .val (.int c0), .val (.int c1), .val (.int c2), .val (.double (FP.l2d li)), .second, .val (.ref b11), .val (.ref b14), .val (.ref b17), .val (.ref rr), .val (.int (0 : Int32)), .val (.long (p1.toInt64)), .second, .val (.long (c0.toInt64)), .second, .val (.int c0)] [(.int (2 : Int32)), (.int (0 : Int32)), (.ref rr)])) _
      refine Go.by (fun tt_ kk_ => XS.iload X.here hx rfl (hb hby at_300) rfl kk_) ?_
      show Go p.tables e below (T.setTop (mkF m 302 #[.val (.int p0), .val (.int p1), .val (.int p2), .val (.int p3), .val (.long q4), .second, .val (.int p5), .val (.int (2 : Int32)), .val (.int c0), .val (.int c1), .val (.int c2), .val (.double (FP.l2d li)), .second, .val (.ref b11), .val (.ref b14), .val (.ref b17), .val (.ref rr), .val (.int (0 : Int32)), .val (.long (p1.toInt64)), .second, .val (.long (c0.toInt64)), .second, .val (.int c0)] [(.int (0 : Int32)), (.int (2 : Int32)), (.int (0 : Int32)), (.ref rr)])) _
      refine Go.by (fun tt_ kk_ => XS.dload X.here hx rfl (hb hby at_302) rfl kk_) ?_
      show Go p.tables e below (T.setTop (mkF m 304 #[.val (.int p0), .val (.int p1), .val (.int p2), .val (.int p3), .val (.long q4), .second, .val (.int p5), .val (.int (2 : Int32)), .val (.int c0), .val (.int c1), .val (.int c2), .val (.double (FP.l2d li)), .second, .val (.ref b11), .val (.ref b14), .val (.ref b17), .val (.ref rr), .val (.int (0 : Int32)), .val (.long (p1.toInt64)), .second, .val (.long (c0.toInt64)), .second, .val (.int c0)] [(.double (FP.l2d li)), (.int (0 : Int32)), (.int (2 : Int32)), (.int (0 : Int32)), (.ref rr)])) _
      refine Go.by (fun tt_ kk_ => XS.iload X.here hx rfl (hb hby at_304) rfl kk_) ?_
      show Go p.tables e below (T.setTop (mkF m 306 #[.val (.int p0), .val (.int p1), .val (.int p2), .val (.int p3), .val (.long q4), .second, .val (.int p5), .val (.int (2 : Int32)), .val (.int c0), .val (.int c1), .val (.int c2), .val (.double (FP.l2d li)), .second, .val (.ref b11), .val (.ref b14), .val (.ref b17), .val (.ref rr), .val (.int (0 : Int32)), .val (.long (p1.toInt64)), .second, .val (.long (c0.toInt64)), .second, .val (.int c0)] [(.int c0), (.double (FP.l2d li)), (.int (0 : Int32)), (.int (2 : Int32)), (.int (0 : Int32)), (.ref rr)])) _
      obtain ⟨_, _, ⟨T, L_, k_, n_⟩, -, X, ⟨Lc_, hQ, l_, y_, z_⟩, st⟩ := Jvm.LawKit.callS X hx (y := (⟨"com/example/pareto_helm/paretohelm/engine/BudgetBestCornerPinLaw", "check", "([DIIIDI)Z"⟩ : MethodName)) hown (mvT hZ (hw _ (List.mem_of_getElem? (i := 59) rfl))) (mvT hZ (hw _ (List.mem_of_getElem? (i := 60) rfl))) (mvT hZ (hw _ (List.mem_of_getElem? (i := 57) rfl))) (mvT hZ (hw _ (List.mem_of_getElem? (i := 61) rfl))) (by decide) (backOf (W := 0) (rm9a l Z a0 hw [] rr (0 : Int32) (2 : Int32) (0 : Int32) (FP.l2d li) c0 _ _ h19 n0 (Nat.le_trans Z0 K.1) V_rr (by decide) (by decide) rfl (own_divnn2 (own_lfin li).noNaN (Dy.i2d c0) (by omega)) rfl) hZ (hw _ (List.mem_of_getElem? (i := 61) rfl)) (hw _ (List.mem_of_getElem? (i := 57) rfl)) (by decide) (by decide)) (g := (mkF m 306 #[.val (.int p0), .val (.int p1), .val (.int p2), .val (.int p3), .val (.long q4), .second, .val (.int p5), .val (.int (2 : Int32)), .val (.int c0), .val (.int c1), .val (.int c2), .val (.double (FP.l2d li)), .second, .val (.ref b11), .val (.ref b14), .val (.ref b17), .val (.ref rr), .val (.int (0 : Int32)), .val (.long (p1.toInt64)), .second, .val (.long (c0.toInt64)), .second, .val (.int c0)] [(.int c0), (.double (FP.l2d li)), (.int (0 : Int32)), (.int (2 : Int32)), (.int (0 : Int32)), (.ref rr)])) rfl (by rw [hml]; rfl) (argsL := [(.ref rr), (.int (0 : Int32)), (.int (2 : Int32)), (.int (0 : Int32)), (.double (FP.l2d li)), (.int c0)]) (rest := []) (lenOf pd_5 rfl) rfl (by show 2 * 0 + _ ≤ _; exact Nat.le_of_eq rfl) (hb hby at_306) (fun _ _ => ⟨rfl, eT, (by decide : 7 + 0 ≤ _), (by decide : 30 + 0 ≤ _)⟩)
      dsimp only [Pt.U, Pt.locs, Pt.cells, Pt.slots] at X l_ y_ z_ st hQ
      subst l_ y_ z_
      obtain ⟨rfl, Nq, eh⟩ := hQ
      have N := Fr.app N Nq
      have eT := eh
      refine Go.by st ?_
      show Go p.tables e below (T.setTop (mkF m 309 #[.val (.int p0), .val (.int p1), .val (.int p2), .val (.int p3), .val (.long q4), .second, .val (.int p5), .val (.int (2 : Int32)), .val (.int c0), .val (.int c1), .val (.int c2), .val (.double (FP.l2d li)), .second, .val (.ref b11), .val (.ref b14), .val (.ref b17), .val (.ref rr), .val (.int (0 : Int32)), .val (.long (p1.toInt64)), .second, .val (.long (c0.toInt64)), .second, .val (.int c0)] [(.int (1 : Int32))])) _
      refine Go.by (fun tt_ kk_ => XS.ifNo X.here hx rfl (hb hby at_309) rfl ((if0 _ _).trans (feq (by decide : ¬ ((1 : Int32) = (0 : Int32)))).1) kk_) ?_
      show Go p.tables e below (T.setTop (mkF m 312 #[.val (.int p0), .val (.int p1), .val (.int p2), .val (.int p3), .val (.long q4), .second, .val (.int p5), .val (.int (2 : Int32)), .val (.int c0), .val (.int c1), .val (.int c2), .val (.double (FP.l2d li)), .second, .val (.ref b11), .val (.ref b14), .val (.ref b17), .val (.ref rr), .val (.int (0 : Int32)), .val (.long (p1.toInt64)), .second, .val (.long (c0.toInt64)), .second, .val (.int c0)] [])) _
      refine Go.by (fun tt_ kk_ => XS.aload X.here hx rfl (hb hby at_312) rfl rfl kk_) ?_
      show Go p.tables e below (T.setTop (mkF m 314 #[.val (.int p0), .val (.int p1), .val (.int p2), .val (.int p3), .val (.long q4), .second, .val (.int p5), .val (.int (2 : Int32)), .val (.int c0), .val (.int c1), .val (.int c2), .val (.double (FP.l2d li)), .second, .val (.ref b11), .val (.ref b14), .val (.ref b17), .val (.ref rr), .val (.int (0 : Int32)), .val (.long (p1.toInt64)), .second, .val (.long (c0.toInt64)), .second, .val (.int c0)] [(.ref rr)])) _
      refine Go.by (fun tt_ kk_ => XS.iconst X.here hx rfl (hb hby at_314) kk_) ?_
      show Go p.tables e below (T.setTop (mkF m 315 #[.val (.int p0), .val (.int p1), .val (.int p2), .val (.int p3), .val (.long q4), .second, .val (.int p5), .val (.int (2 : Int32)), .val (.int c0), .val (.int c1), .val (.int c2), .val (.double (FP.l2d li)), .second, .val (.ref b11), .val (.ref b14), .val (.ref b17), .val (.ref rr), .val (.int (0 : Int32)), .val (.long (p1.toInt64)), .second, .val (.long (c0.toInt64)), .second, .val (.int c0)] [(.int (1 : Int32)), (.ref rr)])) _
      refine Go.by (fun tt_ kk_ => XS.iload X.here hx rfl (hb hby at_315) rfl kk_) ?_
      show Go p.tables e below (T.setTop (mkF m 317 #[.val (.int p0), .val (.int p1), .val (.int p2), .val (.int p3), .val (.long q4), .second, .val (.int p5), .val (.int (2 : Int32)), .val (.int c0), .val (.int c1), .val (.int c2), .val (.double (FP.l2d li)), .second, .val (.ref b11), .val (.ref b14), .val (.ref b17), .val (.ref rr), .val (.int (0 : Int32)), .val (.long (p1.toInt64)), .second, .val (.long (c0.toInt64)), .second, .val (.int c0)] [(.int (2 : Int32)), (.int (1 : Int32)), (.ref rr)])) _
      refine Go.by (fun tt_ kk_ => XS.iload X.here hx rfl (hb hby at_317) rfl kk_) ?_
      show Go p.tables e below (T.setTop (mkF m 319 #[.val (.int p0), .val (.int p1), .val (.int p2), .val (.int p3), .val (.long q4), .second, .val (.int p5), .val (.int (2 : Int32)), .val (.int c0), .val (.int c1), .val (.int c2), .val (.double (FP.l2d li)), .second, .val (.ref b11), .val (.ref b14), .val (.ref b17), .val (.ref rr), .val (.int (0 : Int32)), .val (.long (p1.toInt64)), .second, .val (.long (c0.toInt64)), .second, .val (.int c0)] [(.int (0 : Int32)), (.int (2 : Int32)), (.int (1 : Int32)), (.ref rr)])) _
      refine Go.by (fun tt_ kk_ => XS.dload X.here hx rfl (hb hby at_319) rfl kk_) ?_
      show Go p.tables e below (T.setTop (mkF m 321 #[.val (.int p0), .val (.int p1), .val (.int p2), .val (.int p3), .val (.long q4), .second, .val (.int p5), .val (.int (2 : Int32)), .val (.int c0), .val (.int c1), .val (.int c2), .val (.double (FP.l2d li)), .second, .val (.ref b11), .val (.ref b14), .val (.ref b17), .val (.ref rr), .val (.int (0 : Int32)), .val (.long (p1.toInt64)), .second, .val (.long (c0.toInt64)), .second, .val (.int c0)] [(.double (FP.l2d li)), (.int (0 : Int32)), (.int (2 : Int32)), (.int (1 : Int32)), (.ref rr)])) _
      refine Go.by (fun tt_ kk_ => XS.iload X.here hx rfl (hb hby at_321) rfl kk_) ?_
      show Go p.tables e below (T.setTop (mkF m 323 #[.val (.int p0), .val (.int p1), .val (.int p2), .val (.int p3), .val (.long q4), .second, .val (.int p5), .val (.int (2 : Int32)), .val (.int c0), .val (.int c1), .val (.int c2), .val (.double (FP.l2d li)), .second, .val (.ref b11), .val (.ref b14), .val (.ref b17), .val (.ref rr), .val (.int (0 : Int32)), .val (.long (p1.toInt64)), .second, .val (.long (c0.toInt64)), .second, .val (.int c0)] [(.int c0), (.double (FP.l2d li)), (.int (0 : Int32)), (.int (2 : Int32)), (.int (1 : Int32)), (.ref rr)])) _
      obtain ⟨_, _, ⟨T, L_, k_, n_⟩, -, X, ⟨Lc_, hQ, l_, y_, z_⟩, st⟩ := Jvm.LawKit.callS X hx (y := (⟨"com/example/pareto_helm/paretohelm/engine/BudgetBestCornerPinLaw", "check", "([DIIIDI)Z"⟩ : MethodName)) hown (mvT hZ (hw _ (List.mem_of_getElem? (i := 59) rfl))) (mvT hZ (hw _ (List.mem_of_getElem? (i := 60) rfl))) (mvT hZ (hw _ (List.mem_of_getElem? (i := 57) rfl))) (mvT hZ (hw _ (List.mem_of_getElem? (i := 61) rfl))) (by decide) (backOf (W := 0) (rm9b l Z a0 hw [] rr (1 : Int32) (2 : Int32) (0 : Int32) (FP.l2d li) c0 _ _ h19 n0 (Nat.le_trans Z0 K.1) V_rr (by decide) (by decide) (by decide) rfl) hZ (hw _ (List.mem_of_getElem? (i := 61) rfl)) (hw _ (List.mem_of_getElem? (i := 57) rfl)) (by decide) (by decide)) (g := (mkF m 323 #[.val (.int p0), .val (.int p1), .val (.int p2), .val (.int p3), .val (.long q4), .second, .val (.int p5), .val (.int (2 : Int32)), .val (.int c0), .val (.int c1), .val (.int c2), .val (.double (FP.l2d li)), .second, .val (.ref b11), .val (.ref b14), .val (.ref b17), .val (.ref rr), .val (.int (0 : Int32)), .val (.long (p1.toInt64)), .second, .val (.long (c0.toInt64)), .second, .val (.int c0)] [(.int c0), (.double (FP.l2d li)), (.int (0 : Int32)), (.int (2 : Int32)), (.int (1 : Int32)), (.ref rr)])) rfl (by rw [hml]; rfl) (argsL := [(.ref rr), (.int (1 : Int32)), (.int (2 : Int32)), (.int (0 : Int32)), (.double (FP.l2d li)), (.int c0)]) (rest := []) (lenOf pd_5 rfl) rfl (by show 2 * 0 + _ ≤ _; exact Nat.le_of_eq rfl) (hb hby at_323) (fun _ _ => ⟨rfl, eT, (by decide : 7 + 0 ≤ _), (by decide : 30 + 0 ≤ _)⟩)
      dsimp only [Pt.U, Pt.locs, Pt.cells, Pt.slots] at X l_ y_ z_ st hQ
      subst l_ y_ z_
      obtain ⟨rfl, Nq, eh⟩ := hQ
      have N := Fr.app N Nq
      have eT := eh
      refine Go.by st ?_
      show Go p.tables e below (T.setTop (mkF m 326 #[.val (.int p0), .val (.int p1), .val (.int p2), .val (.int p3), .val (.long q4), .second, .val (.int p5), .val (.int (2 : Int32)), .val (.int c0), .val (.int c1), .val (.int c2), .val (.double (FP.l2d li)), .second, .val (.ref b11), .val (.ref b14), .val (.ref b17), .val (.ref rr), .val (.int (0 : Int32)), .val (.long (p1.toInt64)), .second, .val (.long (c0.toInt64)), .second, .val (.int c0)] [(.int (1 : Int32))])) _
      refine Go.by (fun tt_ kk_ => XS.ifNo X.here hx rfl (hb hby at_326) rfl ((if0 _ _).trans (feq (by decide : ¬ ((1 : Int32) = (0 : Int32)))).1) kk_) ?_
      show Go p.tables e below (T.setTop (mkF m 329 #[.val (.int p0), .val (.int p1), .val (.int p2), .val (.int p3), .val (.long q4), .second, .val (.int p5), .val (.int (2 : Int32)), .val (.int c0), .val (.int c1), .val (.int c2), .val (.double (FP.l2d li)), .second, .val (.ref b11), .val (.ref b14), .val (.ref b17), .val (.ref rr), .val (.int (0 : Int32)), .val (.long (p1.toInt64)), .second, .val (.long (c0.toInt64)), .second, .val (.int c0)] [])) _
      refine Go.by (fun tt_ kk_ => XS.aload X.here hx rfl (hb hby at_329) rfl rfl kk_) ?_
      show Go p.tables e below (T.setTop (mkF m 331 #[.val (.int p0), .val (.int p1), .val (.int p2), .val (.int p3), .val (.long q4), .second, .val (.int p5), .val (.int (2 : Int32)), .val (.int c0), .val (.int c1), .val (.int c2), .val (.double (FP.l2d li)), .second, .val (.ref b11), .val (.ref b14), .val (.ref b17), .val (.ref rr), .val (.int (0 : Int32)), .val (.long (p1.toInt64)), .second, .val (.long (c0.toInt64)), .second, .val (.int c0)] [(.ref rr)])) _
      refine Go.by (fun tt_ kk_ => XS.iconst X.here hx rfl (hb hby at_331) kk_) ?_
      show Go p.tables e below (T.setTop (mkF m 332 #[.val (.int p0), .val (.int p1), .val (.int p2), .val (.int p3), .val (.long q4), .second, .val (.int p5), .val (.int (2 : Int32)), .val (.int c0), .val (.int c1), .val (.int c2), .val (.double (FP.l2d li)), .second, .val (.ref b11), .val (.ref b14), .val (.ref b17), .val (.ref rr), .val (.int (0 : Int32)), .val (.long (p1.toInt64)), .second, .val (.long (c0.toInt64)), .second, .val (.int c0)] [(.int (2 : Int32)), (.ref rr)])) _
      refine Go.by (fun tt_ kk_ => XS.iload X.here hx rfl (hb hby at_332) rfl kk_) ?_
      show Go p.tables e below (T.setTop (mkF m 334 #[.val (.int p0), .val (.int p1), .val (.int p2), .val (.int p3), .val (.long q4), .second, .val (.int p5), .val (.int (2 : Int32)), .val (.int c0), .val (.int c1), .val (.int c2), .val (.double (FP.l2d li)), .second, .val (.ref b11), .val (.ref b14), .val (.ref b17), .val (.ref rr), .val (.int (0 : Int32)), .val (.long (p1.toInt64)), .second, .val (.long (c0.toInt64)), .second, .val (.int c0)] [(.int (2 : Int32)), (.int (2 : Int32)), (.ref rr)])) _
      refine Go.by (fun tt_ kk_ => XS.iload X.here hx rfl (hb hby at_334) rfl kk_) ?_
      show Go p.tables e below (T.setTop (mkF m 336 #[.val (.int p0), .val (.int p1), .val (.int p2), .val (.int p3), .val (.long q4), .second, .val (.int p5), .val (.int (2 : Int32)), .val (.int c0), .val (.int c1), .val (.int c2), .val (.double (FP.l2d li)), .second, .val (.ref b11), .val (.ref b14), .val (.ref b17), .val (.ref rr), .val (.int (0 : Int32)), .val (.long (p1.toInt64)), .second, .val (.long (c0.toInt64)), .second, .val (.int c0)] [(.int (0 : Int32)), (.int (2 : Int32)), (.int (2 : Int32)), (.ref rr)])) _
      refine Go.by (fun tt_ kk_ => XS.dload X.here hx rfl (hb hby at_336) rfl kk_) ?_
      show Go p.tables e below (T.setTop (mkF m 338 #[.val (.int p0), .val (.int p1), .val (.int p2), .val (.int p3), .val (.long q4), .second, .val (.int p5), .val (.int (2 : Int32)), .val (.int c0), .val (.int c1), .val (.int c2), .val (.double (FP.l2d li)), .second, .val (.ref b11), .val (.ref b14), .val (.ref b17), .val (.ref rr), .val (.int (0 : Int32)), .val (.long (p1.toInt64)), .second, .val (.long (c0.toInt64)), .second, .val (.int c0)] [(.double (FP.l2d li)), (.int (0 : Int32)), (.int (2 : Int32)), (.int (2 : Int32)), (.ref rr)])) _
      refine Go.by (fun tt_ kk_ => XS.iload X.here hx rfl (hb hby at_338) rfl kk_) ?_
      show Go p.tables e below (T.setTop (mkF m 340 #[.val (.int p0), .val (.int p1), .val (.int p2), .val (.int p3), .val (.long q4), .second, .val (.int p5), .val (.int (2 : Int32)), .val (.int c0), .val (.int c1), .val (.int c2), .val (.double (FP.l2d li)), .second, .val (.ref b11), .val (.ref b14), .val (.ref b17), .val (.ref rr), .val (.int (0 : Int32)), .val (.long (p1.toInt64)), .second, .val (.long (c0.toInt64)), .second, .val (.int c0)] [(.int c0), (.double (FP.l2d li)), (.int (0 : Int32)), (.int (2 : Int32)), (.int (2 : Int32)), (.ref rr)])) _
      obtain ⟨_, _, ⟨T, L_, k_, n_⟩, -, X, ⟨Lc_, hQ, l_, y_, z_⟩, st⟩ := Jvm.LawKit.callS X hx (y := (⟨"com/example/pareto_helm/paretohelm/engine/BudgetBestCornerPinLaw", "check", "([DIIIDI)Z"⟩ : MethodName)) hown (mvT hZ (hw _ (List.mem_of_getElem? (i := 59) rfl))) (mvT hZ (hw _ (List.mem_of_getElem? (i := 60) rfl))) (mvT hZ (hw _ (List.mem_of_getElem? (i := 57) rfl))) (mvT hZ (hw _ (List.mem_of_getElem? (i := 61) rfl))) (by decide) (backOf (W := 0) (rm9c l Z a0 hw [] rr (2 : Int32) (2 : Int32) (0 : Int32) (FP.l2d li) c0 h19 n0 (Nat.le_trans Z0 K.1) (by decide)) hZ (hw _ (List.mem_of_getElem? (i := 61) rfl)) (hw _ (List.mem_of_getElem? (i := 57) rfl)) (by decide) (by decide)) (g := (mkF m 340 #[.val (.int p0), .val (.int p1), .val (.int p2), .val (.int p3), .val (.long q4), .second, .val (.int p5), .val (.int (2 : Int32)), .val (.int c0), .val (.int c1), .val (.int c2), .val (.double (FP.l2d li)), .second, .val (.ref b11), .val (.ref b14), .val (.ref b17), .val (.ref rr), .val (.int (0 : Int32)), .val (.long (p1.toInt64)), .second, .val (.long (c0.toInt64)), .second, .val (.int c0)] [(.int c0), (.double (FP.l2d li)), (.int (0 : Int32)), (.int (2 : Int32)), (.int (2 : Int32)), (.ref rr)])) rfl (by rw [hml]; rfl) (argsL := [(.ref rr), (.int (2 : Int32)), (.int (2 : Int32)), (.int (0 : Int32)), (.double (FP.l2d li)), (.int c0)]) (rest := []) (lenOf pd_5 rfl) rfl (by show 2 * 0 + _ ≤ _; exact Nat.le_of_eq rfl) (hb hby at_340) (fun _ _ => ⟨rfl, eT, (by decide : 7 + 0 ≤ _), (by decide : 30 + 0 ≤ _)⟩)
      dsimp only [Pt.U, Pt.locs, Pt.cells, Pt.slots] at X l_ y_ z_ st hQ
      subst l_ y_ z_
      obtain ⟨rfl, Nq, eh⟩ := hQ
      have N := Fr.app N Nq
      have eT := eh
      refine Go.by st ?_
      show Go p.tables e below (T.setTop (mkF m 343 #[.val (.int p0), .val (.int p1), .val (.int p2), .val (.int p3), .val (.long q4), .second, .val (.int p5), .val (.int (2 : Int32)), .val (.int c0), .val (.int c1), .val (.int c2), .val (.double (FP.l2d li)), .second, .val (.ref b11), .val (.ref b14), .val (.ref b17), .val (.ref rr), .val (.int (0 : Int32)), .val (.long (p1.toInt64)), .second, .val (.long (c0.toInt64)), .second, .val (.int c0)] [(.int (1 : Int32))])) _
      refine Go.by (fun tt_ kk_ => XS.ifNo X.here hx rfl (hb hby at_343) rfl ((if0 _ _).trans (feq (by decide : ¬ ((1 : Int32) = (0 : Int32)))).1) kk_) ?_
      show Go p.tables e below (T.setTop (mkF m 346 #[.val (.int p0), .val (.int p1), .val (.int p2), .val (.int p3), .val (.long q4), .second, .val (.int p5), .val (.int (2 : Int32)), .val (.int c0), .val (.int c1), .val (.int c2), .val (.double (FP.l2d li)), .second, .val (.ref b11), .val (.ref b14), .val (.ref b17), .val (.ref rr), .val (.int (0 : Int32)), .val (.long (p1.toInt64)), .second, .val (.long (c0.toInt64)), .second, .val (.int c0)] [])) _
      refine Go.by (fun tt_ kk_ => XS.iconst X.here hx rfl (hb hby at_346) kk_) ?_
      show Go p.tables e below (T.setTop (mkF m 347 #[.val (.int p0), .val (.int p1), .val (.int p2), .val (.int p3), .val (.long q4), .second, .val (.int p5), .val (.int (2 : Int32)), .val (.int c0), .val (.int c1), .val (.int c2), .val (.double (FP.l2d li)), .second, .val (.ref b11), .val (.ref b14), .val (.ref b17), .val (.ref rr), .val (.int (0 : Int32)), .val (.long (p1.toInt64)), .second, .val (.long (c0.toInt64)), .second, .val (.int c0)] [(.int (1 : Int32))])) _
      refine Go.by (fun tt_ kk_ => XS.goto X.here hx rfl (pc0 := 347) (pc' := 351) rfl (hb hby at_347) (by decide) (by decide) kk_) ?_
      show Go p.tables e below (T.setTop (mkF m 351 #[.val (.int p0), .val (.int p1), .val (.int p2), .val (.int p3), .val (.long q4), .second, .val (.int p5), .val (.int (2 : Int32)), .val (.int c0), .val (.int c1), .val (.int c2), .val (.double (FP.l2d li)), .second, .val (.ref b11), .val (.ref b14), .val (.ref b17), .val (.ref rr), .val (.int (0 : Int32)), .val (.long (p1.toInt64)), .second, .val (.long (c0.toInt64)), .second, .val (.int c0)] [(.int (1 : Int32))])) _
      exact Go.doneW X hS (by rw [eT]; exact hk) (v := some (.int (1 : Int32))) (fun h => by rw [Bd.returns] at h; cases h) Bd.notSynchronized (fun fs hr => retN X hx (z := (1 : Int32)) (t := .boolean) Bd.returns (by simp) (hb hby at_351) hr) (by rw [eT]; exact ⟨rfl, N⟩) (by decide) (by decide)
  · rw [hcs]
    show Go p.tables e below (T.setTop (mkF m 9 #[.val (.int p0), .val (.int p1), .val (.int p2), .val (.int p3), .val (.long q4), .second, .val (.int p5), .unset, .unset, .unset, .unset, .unset, .unset, .unset, .unset, .unset, .unset, .unset, .unset, .unset, .unset, .unset, .unset] [(.int (3 : Int32))])) _
    refine Go.by (fun tt_ kk_ => XS.istore X.here hx rfl (hb hby at_9) rfl (l' := #[.val (.int p0), .val (.int p1), .val (.int p2), .val (.int p3), .val (.long q4), .second, .val (.int p5), .val (.int (3 : Int32)), .unset, .unset, .unset, .unset, .unset, .unset, .unset, .unset, .unset, .unset, .unset, .unset, .unset, .unset, .unset]) rfl kk_) ?_
    show Go p.tables e below (T.setTop (mkF m 11 #[.val (.int p0), .val (.int p1), .val (.int p2), .val (.int p3), .val (.long q4), .second, .val (.int p5), .val (.int (3 : Int32)), .unset, .unset, .unset, .unset, .unset, .unset, .unset, .unset, .unset, .unset, .unset, .unset, .unset, .unset, .unset] [])) _
    refine Go.by (fun tt_ kk_ => XS.iconst X.here hx rfl (hb hby at_11) kk_) ?_
    show Go p.tables e below (T.setTop (mkF m 12 #[.val (.int p0), .val (.int p1), .val (.int p2), .val (.int p3), .val (.long q4), .second, .val (.int p5), .val (.int (3 : Int32)), .unset, .unset, .unset, .unset, .unset, .unset, .unset, .unset, .unset, .unset, .unset, .unset, .unset, .unset, .unset] [(.int (1 : Int32))])) _
    refine Go.by (fun tt_ kk_ => XS.iloadN X.here hx rfl (hb hby at_12) rfl kk_) ?_
    show Go p.tables e below (T.setTop (mkF m 13 #[.val (.int p0), .val (.int p1), .val (.int p2), .val (.int p3), .val (.long q4), .second, .val (.int p5), .val (.int (3 : Int32)), .unset, .unset, .unset, .unset, .unset, .unset, .unset, .unset, .unset, .unset, .unset, .unset, .unset, .unset, .unset] [(.int p0), (.int (1 : Int32))])) _
    refine Go.by (fun tt_ kk_ => XS.sipush X.here hx rfl (hb hby at_13) kk_) ?_
    show Go p.tables e below (T.setTop (mkF m 16 #[.val (.int p0), .val (.int p1), .val (.int p2), .val (.int p3), .val (.long q4), .second, .val (.int p5), .val (.int (3 : Int32)), .unset, .unset, .unset, .unset, .unset, .unset, .unset, .unset, .unset, .unset, .unset, .unset, .unset, .unset, .unset] [(.int (1023 : Int32)), (.int p0), (.int (1 : Int32))])) _
    refine Go.by (fun tt_ kk_ => XS.iand X.here hx rfl (hb hby at_16) rfl kk_) ?_
    show Go p.tables e below (T.setTop (mkF m 17 #[.val (.int p0), .val (.int p1), .val (.int p2), .val (.int p3), .val (.long q4), .second, .val (.int p5), .val (.int (3 : Int32)), .unset, .unset, .unset, .unset, .unset, .unset, .unset, .unset, .unset, .unset, .unset, .unset, .unset, .unset, .unset] [(.int (p0 &&& (1023 : Int32))), (.int (1 : Int32))])) _
    refine Go.by (fun tt_ kk_ => XS.iadd X.here hx rfl (hb hby at_17) rfl kk_) ?_
    show Go p.tables e below (T.setTop (mkF m 18 #[.val (.int p0), .val (.int p1), .val (.int p2), .val (.int p3), .val (.long q4), .second, .val (.int p5), .val (.int (3 : Int32)), .unset, .unset, .unset, .unset, .unset, .unset, .unset, .unset, .unset, .unset, .unset, .unset, .unset, .unset, .unset] [(.int ((1 : Int32) + (p0 &&& (1023 : Int32))))])) _
    obtain ⟨c0, e_c0⟩ : ∃ z, z = ((1 : Int32) + (p0 &&& (1023 : Int32))) := ⟨_, rfl⟩
    rw [← e_c0]
    show Go p.tables e below (T.setTop (mkF m 18 #[.val (.int p0), .val (.int p1), .val (.int p2), .val (.int p3), .val (.long q4), .second, .val (.int p5), .val (.int (3 : Int32)), .unset, .unset, .unset, .unset, .unset, .unset, .unset, .unset, .unset, .unset, .unset, .unset, .unset, .unset, .unset] [(.int c0)])) _
    have b_c0 : 1 ≤ c0.toInt ∧ c0.toInt ≤ 1024 := by
      have q := own_and (x := p0) (k := 1023) (K := 1023) (by decide) (by decide)
      have h1 : (1 : Int32).toInt = 1 := by decide
      rw [e_c0, own_add32 (by rw [h1]; omega) (by rw [h1]; omega), h1]; omega
    refine Go.by (fun tt_ kk_ => XS.istore X.here hx rfl (hb hby at_18) rfl (l' := #[.val (.int p0), .val (.int p1), .val (.int p2), .val (.int p3), .val (.long q4), .second, .val (.int p5), .val (.int (3 : Int32)), .val (.int c0), .unset, .unset, .unset, .unset, .unset, .unset, .unset, .unset, .unset, .unset, .unset, .unset, .unset, .unset]) rfl kk_) ?_
    show Go p.tables e below (T.setTop (mkF m 20 #[.val (.int p0), .val (.int p1), .val (.int p2), .val (.int p3), .val (.long q4), .second, .val (.int p5), .val (.int (3 : Int32)), .val (.int c0), .unset, .unset, .unset, .unset, .unset, .unset, .unset, .unset, .unset, .unset, .unset, .unset, .unset, .unset] [])) _
    refine Go.by (fun tt_ kk_ => XS.iconst X.here hx rfl (hb hby at_20) kk_) ?_
    show Go p.tables e below (T.setTop (mkF m 21 #[.val (.int p0), .val (.int p1), .val (.int p2), .val (.int p3), .val (.long q4), .second, .val (.int p5), .val (.int (3 : Int32)), .val (.int c0), .unset, .unset, .unset, .unset, .unset, .unset, .unset, .unset, .unset, .unset, .unset, .unset, .unset, .unset] [(.int (1 : Int32))])) _
    refine Go.by (fun tt_ kk_ => XS.iloadN X.here hx rfl (hb hby at_21) rfl kk_) ?_
    show Go p.tables e below (T.setTop (mkF m 22 #[.val (.int p0), .val (.int p1), .val (.int p2), .val (.int p3), .val (.long q4), .second, .val (.int p5), .val (.int (3 : Int32)), .val (.int c0), .unset, .unset, .unset, .unset, .unset, .unset, .unset, .unset, .unset, .unset, .unset, .unset, .unset, .unset] [(.int p0), (.int (1 : Int32))])) _
    refine Go.by (fun tt_ kk_ => XS.bipush X.here hx rfl (hb hby at_22) kk_) ?_
    show Go p.tables e below (T.setTop (mkF m 24 #[.val (.int p0), .val (.int p1), .val (.int p2), .val (.int p3), .val (.long q4), .second, .val (.int p5), .val (.int (3 : Int32)), .val (.int c0), .unset, .unset, .unset, .unset, .unset, .unset, .unset, .unset, .unset, .unset, .unset, .unset, .unset, .unset] [(.int (10 : Int32)), (.int p0), (.int (1 : Int32))])) _
    refine Go.by (fun tt_ kk_ => XS.iushr X.here hx rfl (hb hby at_24) rfl kk_) ?_
    show Go p.tables e below (T.setTop (mkF m 25 #[.val (.int p0), .val (.int p1), .val (.int p2), .val (.int p3), .val (.long q4), .second, .val (.int p5), .val (.int (3 : Int32)), .val (.int c0), .unset, .unset, .unset, .unset, .unset, .unset, .unset, .unset, .unset, .unset, .unset, .unset, .unset, .unset] [(.int ((p0.toUInt32 >>> ((10 : Int32) &&& 31).toUInt32).toInt32)), (.int (1 : Int32))])) _
    refine Go.by (fun tt_ kk_ => XS.sipush X.here hx rfl (hb hby at_25) kk_) ?_
    show Go p.tables e below (T.setTop (mkF m 28 #[.val (.int p0), .val (.int p1), .val (.int p2), .val (.int p3), .val (.long q4), .second, .val (.int p5), .val (.int (3 : Int32)), .val (.int c0), .unset, .unset, .unset, .unset, .unset, .unset, .unset, .unset, .unset, .unset, .unset, .unset, .unset, .unset] [(.int (1023 : Int32)), (.int ((p0.toUInt32 >>> ((10 : Int32) &&& 31).toUInt32).toInt32)), (.int (1 : Int32))])) _
    refine Go.by (fun tt_ kk_ => XS.iand X.here hx rfl (hb hby at_28) rfl kk_) ?_
    show Go p.tables e below (T.setTop (mkF m 29 #[.val (.int p0), .val (.int p1), .val (.int p2), .val (.int p3), .val (.long q4), .second, .val (.int p5), .val (.int (3 : Int32)), .val (.int c0), .unset, .unset, .unset, .unset, .unset, .unset, .unset, .unset, .unset, .unset, .unset, .unset, .unset, .unset] [(.int (((p0.toUInt32 >>> ((10 : Int32) &&& 31).toUInt32).toInt32) &&& (1023 : Int32))), (.int (1 : Int32))])) _
    refine Go.by (fun tt_ kk_ => XS.iadd X.here hx rfl (hb hby at_29) rfl kk_) ?_
    show Go p.tables e below (T.setTop (mkF m 30 #[.val (.int p0), .val (.int p1), .val (.int p2), .val (.int p3), .val (.long q4), .second, .val (.int p5), .val (.int (3 : Int32)), .val (.int c0), .unset, .unset, .unset, .unset, .unset, .unset, .unset, .unset, .unset, .unset, .unset, .unset, .unset, .unset] [(.int ((1 : Int32) + (((p0.toUInt32 >>> ((10 : Int32) &&& 31).toUInt32).toInt32) &&& (1023 : Int32))))])) _
    obtain ⟨c1, e_c1⟩ : ∃ z, z = ((1 : Int32) + (((p0.toUInt32 >>> ((10 : Int32) &&& 31).toUInt32).toInt32) &&& (1023 : Int32))) := ⟨_, rfl⟩
    rw [← e_c1]
    show Go p.tables e below (T.setTop (mkF m 30 #[.val (.int p0), .val (.int p1), .val (.int p2), .val (.int p3), .val (.long q4), .second, .val (.int p5), .val (.int (3 : Int32)), .val (.int c0), .unset, .unset, .unset, .unset, .unset, .unset, .unset, .unset, .unset, .unset, .unset, .unset, .unset, .unset] [(.int c1)])) _
    have b_c1 : 1 ≤ c1.toInt ∧ c1.toInt ≤ 1024 := by
      have q := own_and (x := ((p0.toUInt32 >>> ((10 : Int32) &&& 31).toUInt32).toInt32)) (k := 1023) (K := 1023) (by decide) (by decide)
      have h1 : (1 : Int32).toInt = 1 := by decide
      rw [e_c1, own_add32 (by rw [h1]; omega) (by rw [h1]; omega), h1]; omega
    refine Go.by (fun tt_ kk_ => XS.istore X.here hx rfl (hb hby at_30) rfl (l' := #[.val (.int p0), .val (.int p1), .val (.int p2), .val (.int p3), .val (.long q4), .second, .val (.int p5), .val (.int (3 : Int32)), .val (.int c0), .val (.int c1), .unset, .unset, .unset, .unset, .unset, .unset, .unset, .unset, .unset, .unset, .unset, .unset, .unset]) rfl kk_) ?_
    show Go p.tables e below (T.setTop (mkF m 32 #[.val (.int p0), .val (.int p1), .val (.int p2), .val (.int p3), .val (.long q4), .second, .val (.int p5), .val (.int (3 : Int32)), .val (.int c0), .val (.int c1), .unset, .unset, .unset, .unset, .unset, .unset, .unset, .unset, .unset, .unset, .unset, .unset, .unset] [])) _
    refine Go.by (fun tt_ kk_ => XS.iconst X.here hx rfl (hb hby at_32) kk_) ?_
    show Go p.tables e below (T.setTop (mkF m 33 #[.val (.int p0), .val (.int p1), .val (.int p2), .val (.int p3), .val (.long q4), .second, .val (.int p5), .val (.int (3 : Int32)), .val (.int c0), .val (.int c1), .unset, .unset, .unset, .unset, .unset, .unset, .unset, .unset, .unset, .unset, .unset, .unset, .unset] [(.int (1 : Int32))])) _
    refine Go.by (fun tt_ kk_ => XS.iloadN X.here hx rfl (hb hby at_33) rfl kk_) ?_
    show Go p.tables e below (T.setTop (mkF m 34 #[.val (.int p0), .val (.int p1), .val (.int p2), .val (.int p3), .val (.long q4), .second, .val (.int p5), .val (.int (3 : Int32)), .val (.int c0), .val (.int c1), .unset, .unset, .unset, .unset, .unset, .unset, .unset, .unset, .unset, .unset, .unset, .unset, .unset] [(.int p0), (.int (1 : Int32))])) _
    refine Go.by (fun tt_ kk_ => XS.bipush X.here hx rfl (hb hby at_34) kk_) ?_
    show Go p.tables e below (T.setTop (mkF m 36 #[.val (.int p0), .val (.int p1), .val (.int p2), .val (.int p3), .val (.long q4), .second, .val (.int p5), .val (.int (3 : Int32)), .val (.int c0), .val (.int c1), .unset, .unset, .unset, .unset, .unset, .unset, .unset, .unset, .unset, .unset, .unset, .unset, .unset] [(.int (20 : Int32)), (.int p0), (.int (1 : Int32))])) _
    refine Go.by (fun tt_ kk_ => XS.iushr X.here hx rfl (hb hby at_36) rfl kk_) ?_
    show Go p.tables e below (T.setTop (mkF m 37 #[.val (.int p0), .val (.int p1), .val (.int p2), .val (.int p3), .val (.long q4), .second, .val (.int p5), .val (.int (3 : Int32)), .val (.int c0), .val (.int c1), .unset, .unset, .unset, .unset, .unset, .unset, .unset, .unset, .unset, .unset, .unset, .unset, .unset] [(.int ((p0.toUInt32 >>> ((20 : Int32) &&& 31).toUInt32).toInt32)), (.int (1 : Int32))])) _
    refine Go.by (fun tt_ kk_ => XS.sipush X.here hx rfl (hb hby at_37) kk_) ?_
    show Go p.tables e below (T.setTop (mkF m 40 #[.val (.int p0), .val (.int p1), .val (.int p2), .val (.int p3), .val (.long q4), .second, .val (.int p5), .val (.int (3 : Int32)), .val (.int c0), .val (.int c1), .unset, .unset, .unset, .unset, .unset, .unset, .unset, .unset, .unset, .unset, .unset, .unset, .unset] [(.int (1023 : Int32)), (.int ((p0.toUInt32 >>> ((20 : Int32) &&& 31).toUInt32).toInt32)), (.int (1 : Int32))])) _
    refine Go.by (fun tt_ kk_ => XS.iand X.here hx rfl (hb hby at_40) rfl kk_) ?_
    show Go p.tables e below (T.setTop (mkF m 41 #[.val (.int p0), .val (.int p1), .val (.int p2), .val (.int p3), .val (.long q4), .second, .val (.int p5), .val (.int (3 : Int32)), .val (.int c0), .val (.int c1), .unset, .unset, .unset, .unset, .unset, .unset, .unset, .unset, .unset, .unset, .unset, .unset, .unset] [(.int (((p0.toUInt32 >>> ((20 : Int32) &&& 31).toUInt32).toInt32) &&& (1023 : Int32))), (.int (1 : Int32))])) _
    refine Go.by (fun tt_ kk_ => XS.iadd X.here hx rfl (hb hby at_41) rfl kk_) ?_
    show Go p.tables e below (T.setTop (mkF m 42 #[.val (.int p0), .val (.int p1), .val (.int p2), .val (.int p3), .val (.long q4), .second, .val (.int p5), .val (.int (3 : Int32)), .val (.int c0), .val (.int c1), .unset, .unset, .unset, .unset, .unset, .unset, .unset, .unset, .unset, .unset, .unset, .unset, .unset] [(.int ((1 : Int32) + (((p0.toUInt32 >>> ((20 : Int32) &&& 31).toUInt32).toInt32) &&& (1023 : Int32))))])) _
    obtain ⟨c2, e_c2⟩ : ∃ z, z = ((1 : Int32) + (((p0.toUInt32 >>> ((20 : Int32) &&& 31).toUInt32).toInt32) &&& (1023 : Int32))) := ⟨_, rfl⟩
    rw [← e_c2]
    show Go p.tables e below (T.setTop (mkF m 42 #[.val (.int p0), .val (.int p1), .val (.int p2), .val (.int p3), .val (.long q4), .second, .val (.int p5), .val (.int (3 : Int32)), .val (.int c0), .val (.int c1), .unset, .unset, .unset, .unset, .unset, .unset, .unset, .unset, .unset, .unset, .unset, .unset, .unset] [(.int c2)])) _
    have b_c2 : 1 ≤ c2.toInt ∧ c2.toInt ≤ 1024 := by
      have q := own_and (x := ((p0.toUInt32 >>> ((20 : Int32) &&& 31).toUInt32).toInt32)) (k := 1023) (K := 1023) (by decide) (by decide)
      have h1 : (1 : Int32).toInt = 1 := by decide
      rw [e_c2, own_add32 (by rw [h1]; omega) (by rw [h1]; omega), h1]; omega
    refine Go.by (fun tt_ kk_ => XS.istore X.here hx rfl (hb hby at_42) rfl (l' := #[.val (.int p0), .val (.int p1), .val (.int p2), .val (.int p3), .val (.long q4), .second, .val (.int p5), .val (.int (3 : Int32)), .val (.int c0), .val (.int c1), .val (.int c2), .unset, .unset, .unset, .unset, .unset, .unset, .unset, .unset, .unset, .unset, .unset, .unset]) rfl kk_) ?_
    show Go p.tables e below (T.setTop (mkF m 44 #[.val (.int p0), .val (.int p1), .val (.int p2), .val (.int p3), .val (.long q4), .second, .val (.int p5), .val (.int (3 : Int32)), .val (.int c0), .val (.int c1), .val (.int c2), .unset, .unset, .unset, .unset, .unset, .unset, .unset, .unset, .unset, .unset, .unset, .unset] [])) _
    refine Go.by (fun tt_ kk_ => XS.lconst X.here hx rfl (hb hby at_44) kk_) ?_
    show Go p.tables e below (T.setTop (mkF m 45 #[.val (.int p0), .val (.int p1), .val (.int p2), .val (.int p3), .val (.long q4), .second, .val (.int p5), .val (.int (3 : Int32)), .val (.int c0), .val (.int c1), .val (.int c2), .unset, .unset, .unset, .unset, .unset, .unset, .unset, .unset, .unset, .unset, .unset, .unset] [(.long (1 : Int64))])) _
    refine Go.by (fun tt_ kk_ => XS.lload X.here hx rfl (hb hby at_45) rfl kk_) ?_
    show Go p.tables e below (T.setTop (mkF m 47 #[.val (.int p0), .val (.int p1), .val (.int p2), .val (.int p3), .val (.long q4), .second, .val (.int p5), .val (.int (3 : Int32)), .val (.int c0), .val (.int c1), .val (.int c2), .unset, .unset, .unset, .unset, .unset, .unset, .unset, .unset, .unset, .unset, .unset, .unset] [(.long q4), (.long (1 : Int64))])) _
    refine Go.by (X.ldc2Long hx hown (mvT hZ (hw _ (List.mem_of_getElem? (i := 1) rfl))) (g := (mkF m 47 #[.val (.int p0), .val (.int p1), .val (.int p2), .val (.int p3), .val (.long q4), .second, .val (.int p5), .val (.int (3 : Int32)), .val (.int c0), .val (.int c1), .val (.int c2), .unset, .unset, .unset, .unset, .unset, .unset, .unset, .unset, .unset, .unset, .unset, .unset] [(.long q4), (.long (1 : Int64))])) rfl (hb hby at_47)) ?_
    show Go p.tables e below (T.setTop (mkF m 50 #[.val (.int p0), .val (.int p1), .val (.int p2), .val (.int p3), .val (.long q4), .second, .val (.int p5), .val (.int (3 : Int32)), .val (.int c0), .val (.int c1), .val (.int c2), .unset, .unset, .unset, .unset, .unset, .unset, .unset, .unset, .unset, .unset, .unset, .unset] [(.long (4611686018427387903 : Int64)), (.long q4), (.long (1 : Int64))])) _
    refine Go.by (fun tt_ kk_ => XS.land X.here hx rfl (hb hby at_50) rfl kk_) ?_
    show Go p.tables e below (T.setTop (mkF m 51 #[.val (.int p0), .val (.int p1), .val (.int p2), .val (.int p3), .val (.long q4), .second, .val (.int p5), .val (.int (3 : Int32)), .val (.int c0), .val (.int c1), .val (.int c2), .unset, .unset, .unset, .unset, .unset, .unset, .unset, .unset, .unset, .unset, .unset, .unset] [(.long (q4 &&& (4611686018427387903 : Int64))), (.long (1 : Int64))])) _
    refine Go.by (fun tt_ kk_ => XS.ladd X.here hx rfl (hb hby at_51) rfl kk_) ?_
    show Go p.tables e below (T.setTop (mkF m 52 #[.val (.int p0), .val (.int p1), .val (.int p2), .val (.int p3), .val (.long q4), .second, .val (.int p5), .val (.int (3 : Int32)), .val (.int c0), .val (.int c1), .val (.int c2), .unset, .unset, .unset, .unset, .unset, .unset, .unset, .unset, .unset, .unset, .unset, .unset] [(.long ((1 : Int64) + (q4 &&& (4611686018427387903 : Int64))))])) _
    obtain ⟨li, e_li⟩ : ∃ z, z = ((1 : Int64) + (q4 &&& (4611686018427387903 : Int64))) := ⟨_, rfl⟩
    rw [← e_li]
    show Go p.tables e below (T.setTop (mkF m 52 #[.val (.int p0), .val (.int p1), .val (.int p2), .val (.int p3), .val (.long q4), .second, .val (.int p5), .val (.int (3 : Int32)), .val (.int c0), .val (.int c1), .val (.int c2), .unset, .unset, .unset, .unset, .unset, .unset, .unset, .unset, .unset, .unset, .unset, .unset] [(.long li)])) _
    have b_li : 0 < li.toInt := by
      have m1 : (q4 &&& (4611686018427387903 : Int64)).toInt = q4.toInt % 2 ^ 62 := Jvm.Kit.i64_mask _ _ (by decide) (by decide)
      have h1 : (1 : Int64).toInt = 1 := by decide
      rw [e_li, FP.Core.int64_add (by rw [m1, h1]; omega) (by rw [m1, h1]; omega), m1, h1]; omega
    have b_w0 : -2147483648 ≤ p1.toInt ∧ p1.toInt ≤ 2147483648 := by have := Int32.toInt_lt p1; have := Int32.le_toInt p1; omega
    have b_w1 : -2147483648 ≤ p2.toInt ∧ p2.toInt ≤ 2147483648 := by have := Int32.toInt_lt p2; have := Int32.le_toInt p2; omega
    have b_w2 : -2147483648 ≤ p3.toInt ∧ p3.toInt ≤ 2147483648 := by have := Int32.toInt_lt p3; have := Int32.le_toInt p3; omega
    refine Go.by (fun tt_ kk_ => XS.l2dS X.here hx rfl (hb hby at_52) rfl rfl kk_) ?_
    show Go p.tables e below (T.setTop (mkF m 53 #[.val (.int p0), .val (.int p1), .val (.int p2), .val (.int p3), .val (.long q4), .second, .val (.int p5), .val (.int (3 : Int32)), .val (.int c0), .val (.int c1), .val (.int c2), .unset, .unset, .unset, .unset, .unset, .unset, .unset, .unset, .unset, .unset, .unset, .unset] [(.double (FP.l2d li))])) _
    refine Go.by (fun tt_ kk_ => XS.dstore X.here hx rfl (hb hby at_53) rfl (l' := #[.val (.int p0), .val (.int p1), .val (.int p2), .val (.int p3), .val (.long q4), .second, .val (.int p5), .val (.int (3 : Int32)), .val (.int c0), .val (.int c1), .val (.int c2), .val (.double (FP.l2d li)), .second, .unset, .unset, .unset, .unset, .unset, .unset, .unset, .unset, .unset, .unset]) rfl kk_) ?_
    show Go p.tables e below (T.setTop (mkF m 55 #[.val (.int p0), .val (.int p1), .val (.int p2), .val (.int p3), .val (.long q4), .second, .val (.int p5), .val (.int (3 : Int32)), .val (.int c0), .val (.int c1), .val (.int c2), .val (.double (FP.l2d li)), .second, .unset, .unset, .unset, .unset, .unset, .unset, .unset, .unset, .unset, .unset] [])) _
    refine Go.by (fun tt_ kk_ => XS.iload X.here hx rfl (hb hby at_55) rfl kk_) ?_
    show Go p.tables e below (T.setTop (mkF m 57 #[.val (.int p0), .val (.int p1), .val (.int p2), .val (.int p3), .val (.long q4), .second, .val (.int p5), .val (.int (3 : Int32)), .val (.int c0), .val (.int c1), .val (.int c2), .val (.double (FP.l2d li)), .second, .unset, .unset, .unset, .unset, .unset, .unset, .unset, .unset, .unset, .unset] [(.int (3 : Int32))])) _
    refine Go.by (fun tt_ kk_ => XS.iconst X.here hx rfl (hb hby at_57) kk_) ?_
    show Go p.tables e below (T.setTop (mkF m 58 #[.val (.int p0), .val (.int p1), .val (.int p2), .val (.int p3), .val (.long q4), .second, .val (.int p5), .val (.int (3 : Int32)), .val (.int c0), .val (.int c1), .val (.int c2), .val (.double (FP.l2d li)), .second, .unset, .unset, .unset, .unset, .unset, .unset, .unset, .unset, .unset, .unset] [(.int (1 : Int32)), (.int (3 : Int32))])) _
    refine Go.by (fun tt_ kk_ => XS.icmpYes X.here hx rfl (pc0 := 58) (pc' := 85) rfl (hb hby at_58) rfl (feq (by decide : ¬ ((3 : Int32) = (1 : Int32)))).2 (by decide) (by decide) kk_) ?_
    show Go p.tables e below (T.setTop (mkF m 85 #[.val (.int p0), .val (.int p1), .val (.int p2), .val (.int p3), .val (.long q4), .second, .val (.int p5), .val (.int (3 : Int32)), .val (.int c0), .val (.int c1), .val (.int c2), .val (.double (FP.l2d li)), .second, .unset, .unset, .unset, .unset, .unset, .unset, .unset, .unset, .unset, .unset] [])) _
    refine Go.by (fun tt_ kk_ => XS.iload X.here hx rfl (hb hby at_85) rfl kk_) ?_
    show Go p.tables e below (T.setTop (mkF m 87 #[.val (.int p0), .val (.int p1), .val (.int p2), .val (.int p3), .val (.long q4), .second, .val (.int p5), .val (.int (3 : Int32)), .val (.int c0), .val (.int c1), .val (.int c2), .val (.double (FP.l2d li)), .second, .unset, .unset, .unset, .unset, .unset, .unset, .unset, .unset, .unset, .unset] [(.int (3 : Int32))])) _
    refine Go.by (fun tt_ kk_ => XS.iconst X.here hx rfl (hb hby at_87) kk_) ?_
    show Go p.tables e below (T.setTop (mkF m 88 #[.val (.int p0), .val (.int p1), .val (.int p2), .val (.int p3), .val (.long q4), .second, .val (.int p5), .val (.int (3 : Int32)), .val (.int c0), .val (.int c1), .val (.int c2), .val (.double (FP.l2d li)), .second, .unset, .unset, .unset, .unset, .unset, .unset, .unset, .unset, .unset, .unset] [(.int (2 : Int32)), (.int (3 : Int32))])) _
    refine Go.by (fun tt_ kk_ => XS.icmpYes X.here hx rfl (pc0 := 88) (pc' := 126) rfl (hb hby at_88) rfl (feq (by decide : ¬ ((3 : Int32) = (2 : Int32)))).2 (by decide) (by decide) kk_) ?_
    show Go p.tables e below (T.setTop (mkF m 126 #[.val (.int p0), .val (.int p1), .val (.int p2), .val (.int p3), .val (.long q4), .second, .val (.int p5), .val (.int (3 : Int32)), .val (.int c0), .val (.int c1), .val (.int c2), .val (.double (FP.l2d li)), .second, .unset, .unset, .unset, .unset, .unset, .unset, .unset, .unset, .unset, .unset] [])) _
    refine Go.by (fun tt_ kk_ => XS.iconst X.here hx rfl (hb hby at_126) kk_) ?_
    show Go p.tables e below (T.setTop (mkF m 127 #[.val (.int p0), .val (.int p1), .val (.int p2), .val (.int p3), .val (.long q4), .second, .val (.int p5), .val (.int (3 : Int32)), .val (.int c0), .val (.int c1), .val (.int c2), .val (.double (FP.l2d li)), .second, .unset, .unset, .unset, .unset, .unset, .unset, .unset, .unset, .unset, .unset] [(.int (3 : Int32))])) _
    obtain ⟨T, h28, k_b28, X, eT, E_, A_, Ea_, st⟩ := newPE X hx hZ (hw _ (List.mem_of_getElem? (i := 2) rfl)) eT (g := (mkF m 127 #[.val (.int p0), .val (.int p1), .val (.int p2), .val (.int p3), .val (.long q4), .second, .val (.int p5), .val (.int (3 : Int32)), .val (.int c0), .val (.int c1), .val (.int c2), .val (.double (FP.l2d li)), .second, .unset, .unset, .unset, .unset, .unset, .unset, .unset, .unset, .unset, .unset] [(.int (3 : Int32))])) rfl (hb hby at_127) rfl (by decide) (cap := 3) (by decide) (by decide) (by decide) (by decide) (ad := "[D") (by decide)
    obtain ⟨b28, g_b28'⟩ : ∃ z, z = h0.size := ⟨_, rfl⟩
    rw [← g_b28'] at A_ st Ea_
    have g_b28 : n0 ≤ b28 := Nat.le_trans Z0 (Nat.le_trans K.1 (Nat.le_of_eq g_b28'.symm))
    have sz_b28 : h0.size ≤ b28 := Nat.le_trans K.1 (Nat.le_of_eq g_b28'.symm)
    have K := K.ext E_
    have hk := Nat.le_trans hk E_.1
    have V_b28 := Arv.new A_ (by decide)
    have E_b28 := Ea_
    refine Go.by st ?_
    show Go p.tables e below (T.setTop (mkF m 129 #[.val (.int p0), .val (.int p1), .val (.int p2), .val (.int p3), .val (.long q4), .second, .val (.int p5), .val (.int (3 : Int32)), .val (.int c0), .val (.int c1), .val (.int c2), .val (.double (FP.l2d li)), .second, .unset, .unset, .unset, .unset, .unset, .unset, .unset, .unset, .unset, .unset] [(.ref b28)])) _
    have V_b28 : Arv Z h28 b28 k_b28 .double (3 : Int32) [(.double (0 : UInt64)), (.double (0 : UInt64)), (.double (0 : UInt64))] (.double (0 : UInt64)) := V_b28.pad (pad_rep [] (.double (0 : UInt64)) 3)
    refine Go.by (fun tt_ kk_ => XS.dup X.here hx rfl (hb hby at_129) rfl rfl kk_) ?_
    show Go p.tables e below (T.setTop (mkF m 130 #[.val (.int p0), .val (.int p1), .val (.int p2), .val (.int p3), .val (.long q4), .second, .val (.int p5), .val (.int (3 : Int32)), .val (.int c0), .val (.int c1), .val (.int c2), .val (.double (FP.l2d li)), .second, .unset, .unset, .unset, .unset, .unset, .unset, .unset, .unset, .unset, .unset] [(.ref b28), (.ref b28)])) _
    refine Go.by (fun tt_ kk_ => XS.iconst X.here hx rfl (hb hby at_130) kk_) ?_
    show Go p.tables e below (T.setTop (mkF m 131 #[.val (.int p0), .val (.int p1), .val (.int p2), .val (.int p3), .val (.long q4), .second, .val (.int p5), .val (.int (3 : Int32)), .val (.int c0), .val (.int c1), .val (.int c2), .val (.double (FP.l2d li)), .second, .unset, .unset, .unset, .unset, .unset, .unset, .unset, .unset, .unset, .unset] [(.int (0 : Int32)), (.ref b28), (.ref b28)])) _
    refine Go.by (fun tt_ kk_ => XS.iload X.here hx rfl (hb hby at_131) rfl kk_) ?_
    show Go p.tables e below (T.setTop (mkF m 133 #[.val (.int p0), .val (.int p1), .val (.int p2), .val (.int p3), .val (.long q4), .second, .val (.int p5), .val (.int (3 : Int32)), .val (.int c0), .val (.int c1), .val (.int c2), .val (.double (FP.l2d li)), .second, .unset, .unset, .unset, .unset, .unset, .unset, .unset, .unset, .unset, .unset] [(.int c0), (.int (0 : Int32)), (.ref b28), (.ref b28)])) _
    refine Go.by (fun tt_ kk_ => XS.i2dS X.here hx rfl (hb hby at_133) rfl rfl kk_) ?_
    show Go p.tables e below (T.setTop (mkF m 134 #[.val (.int p0), .val (.int p1), .val (.int p2), .val (.int p3), .val (.long q4), .second, .val (.int p5), .val (.int (3 : Int32)), .val (.int c0), .val (.int c1), .val (.int c2), .val (.double (FP.l2d li)), .second, .unset, .unset, .unset, .unset, .unset, .unset, .unset, .unset, .unset, .unset] [(.double (FP.i2d c0)), (.int (0 : Int32)), (.ref b28), (.ref b28)])) _
    have Vo_ := V_b28
    obtain ⟨cl_, Ar_, q_, S_, N_, H_, G_⟩ := Vo_
    obtain ⟨T, h29, X, eT, Wh29, st⟩ := stD X hx hZ eT Ar_ (j := (0 : Int32)) (inb_of S_ ⟨by decide, by decide⟩) (g := (mkF m 134 #[.val (.int p0), .val (.int p1), .val (.int p2), .val (.int p3), .val (.long q4), .second, .val (.int p5), .val (.int (3 : Int32)), .val (.int c0), .val (.int c1), .val (.int c2), .val (.double (FP.l2d li)), .second, .unset, .unset, .unset, .unset, .unset, .unset, .unset, .unset, .unset, .unset] [(.double (FP.i2d c0)), (.int (0 : Int32)), (.ref b28), (.ref b28)])) rfl rfl (hb hby at_134)
    have V_b28 := Arv.set Ar_ q_ S_ N_ H_ G_ rfl Wh29 0 rfl (Nat.le_of_ble_eq_true rfl)
    have E_b28 := Exa.wr Wh29 E_b28
    have N := Fr.snoc X N g_b28
    have K := K.wr Wh29 (Or.inr sz_b28)
    have hk := Nat.le_trans hk (Nat.le_of_eq (Wr.size Wh29).symm)
    refine Go.by st ?_
    show Go p.tables e below (T.setTop (mkF m 135 #[.val (.int p0), .val (.int p1), .val (.int p2), .val (.int p3), .val (.long q4), .second, .val (.int p5), .val (.int (3 : Int32)), .val (.int c0), .val (.int c1), .val (.int c2), .val (.double (FP.l2d li)), .second, .unset, .unset, .unset, .unset, .unset, .unset, .unset, .unset, .unset, .unset] [(.ref b28)])) _
    refine Go.by (fun tt_ kk_ => XS.dup X.here hx rfl (hb hby at_135) rfl rfl kk_) ?_
    show Go p.tables e below (T.setTop (mkF m 136 #[.val (.int p0), .val (.int p1), .val (.int p2), .val (.int p3), .val (.long q4), .second, .val (.int p5), .val (.int (3 : Int32)), .val (.int c0), .val (.int c1), .val (.int c2), .val (.double (FP.l2d li)), .second, .unset, .unset, .unset, .unset, .unset, .unset, .unset, .unset, .unset, .unset] [(.ref b28), (.ref b28)])) _
    refine Go.by (fun tt_ kk_ => XS.iconst X.here hx rfl (hb hby at_136) kk_) ?_
    show Go p.tables e below (T.setTop (mkF m 137 #[.val (.int p0), .val (.int p1), .val (.int p2), .val (.int p3), .val (.long q4), .second, .val (.int p5), .val (.int (3 : Int32)), .val (.int c0), .val (.int c1), .val (.int c2), .val (.double (FP.l2d li)), .second, .unset, .unset, .unset, .unset, .unset, .unset, .unset, .unset, .unset, .unset] [(.int (1 : Int32)), (.ref b28), (.ref b28)])) _
    refine Go.by (fun tt_ kk_ => XS.iload X.here hx rfl (hb hby at_137) rfl kk_) ?_
    show Go p.tables e below (T.setTop (mkF m 139 #[.val (.int p0), .val (.int p1), .val (.int p2), .val (.int p3), .val (.long q4), .second, .val (.int p5), .val (.int (3 : Int32)), .val (.int c0), .val (.int c1), .val (.int c2), .val (.double (FP.l2d li)), .second, .unset, .unset, .unset, .unset, .unset, .unset, .unset, .unset, .unset, .unset] [(.int c1), (.int (1 : Int32)), (.ref b28), (.ref b28)])) _
    refine Go.by (fun tt_ kk_ => XS.i2dS X.here hx rfl (hb hby at_139) rfl rfl kk_) ?_
    show Go p.tables e below (T.setTop (mkF m 140 #[.val (.int p0), .val (.int p1), .val (.int p2), .val (.int p3), .val (.long q4), .second, .val (.int p5), .val (.int (3 : Int32)), .val (.int c0), .val (.int c1), .val (.int c2), .val (.double (FP.l2d li)), .second, .unset, .unset, .unset, .unset, .unset, .unset, .unset, .unset, .unset, .unset] [(.double (FP.i2d c1)), (.int (1 : Int32)), (.ref b28), (.ref b28)])) _
    have Vo_ := V_b28
    obtain ⟨cl_, Ar_, q_, S_, N_, H_, G_⟩ := Vo_
    obtain ⟨T, h30, X, eT, Wh30, st⟩ := stD X hx hZ eT Ar_ (j := (1 : Int32)) (inb_of S_ ⟨by decide, by decide⟩) (g := (mkF m 140 #[.val (.int p0), .val (.int p1), .val (.int p2), .val (.int p3), .val (.long q4), .second, .val (.int p5), .val (.int (3 : Int32)), .val (.int c0), .val (.int c1), .val (.int c2), .val (.double (FP.l2d li)), .second, .unset, .unset, .unset, .unset, .unset, .unset, .unset, .unset, .unset, .unset] [(.double (FP.i2d c1)), (.int (1 : Int32)), (.ref b28), (.ref b28)])) rfl rfl (hb hby at_140)
    have V_b28 := Arv.set Ar_ q_ S_ N_ H_ G_ rfl Wh30 1 rfl (Nat.le_of_ble_eq_true rfl)
    have E_b28 := Exa.wr Wh30 E_b28
    have N := Fr.snoc X N g_b28
    have K := K.wr Wh30 (Or.inr sz_b28)
    have hk := Nat.le_trans hk (Nat.le_of_eq (Wr.size Wh30).symm)
    refine Go.by st ?_
    show Go p.tables e below (T.setTop (mkF m 141 #[.val (.int p0), .val (.int p1), .val (.int p2), .val (.int p3), .val (.long q4), .second, .val (.int p5), .val (.int (3 : Int32)), .val (.int c0), .val (.int c1), .val (.int c2), .val (.double (FP.l2d li)), .second, .unset, .unset, .unset, .unset, .unset, .unset, .unset, .unset, .unset, .unset] [(.ref b28)])) _
    refine Go.by (fun tt_ kk_ => XS.dup X.here hx rfl (hb hby at_141) rfl rfl kk_) ?_
    show Go p.tables e below (T.setTop (mkF m 142 #[.val (.int p0), .val (.int p1), .val (.int p2), .val (.int p3), .val (.long q4), .second, .val (.int p5), .val (.int (3 : Int32)), .val (.int c0), .val (.int c1), .val (.int c2), .val (.double (FP.l2d li)), .second, .unset, .unset, .unset, .unset, .unset, .unset, .unset, .unset, .unset, .unset] [(.ref b28), (.ref b28)])) _
    refine Go.by (fun tt_ kk_ => XS.iconst X.here hx rfl (hb hby at_142) kk_) ?_
    show Go p.tables e below (T.setTop (mkF m 143 #[.val (.int p0), .val (.int p1), .val (.int p2), .val (.int p3), .val (.long q4), .second, .val (.int p5), .val (.int (3 : Int32)), .val (.int c0), .val (.int c1), .val (.int c2), .val (.double (FP.l2d li)), .second, .unset, .unset, .unset, .unset, .unset, .unset, .unset, .unset, .unset, .unset] [(.int (2 : Int32)), (.ref b28), (.ref b28)])) _
    refine Go.by (fun tt_ kk_ => XS.iload X.here hx rfl (hb hby at_143) rfl kk_) ?_
    show Go p.tables e below (T.setTop (mkF m 145 #[.val (.int p0), .val (.int p1), .val (.int p2), .val (.int p3), .val (.long q4), .second, .val (.int p5), .val (.int (3 : Int32)), .val (.int c0), .val (.int c1), .val (.int c2), .val (.double (FP.l2d li)), .second, .unset, .unset, .unset, .unset, .unset, .unset, .unset, .unset, .unset, .unset] [(.int c2), (.int (2 : Int32)), (.ref b28), (.ref b28)])) _
    refine Go.by (fun tt_ kk_ => XS.i2dS X.here hx rfl (hb hby at_145) rfl rfl kk_) ?_
    show Go p.tables e below (T.setTop (mkF m 146 #[.val (.int p0), .val (.int p1), .val (.int p2), .val (.int p3), .val (.long q4), .second, .val (.int p5), .val (.int (3 : Int32)), .val (.int c0), .val (.int c1), .val (.int c2), .val (.double (FP.l2d li)), .second, .unset, .unset, .unset, .unset, .unset, .unset, .unset, .unset, .unset, .unset] [(.double (FP.i2d c2)), (.int (2 : Int32)), (.ref b28), (.ref b28)])) _
    have Vo_ := V_b28
    obtain ⟨cl_, Ar_, q_, S_, N_, H_, G_⟩ := Vo_
    obtain ⟨T, h31, X, eT, Wh31, st⟩ := stD X hx hZ eT Ar_ (j := (2 : Int32)) (inb_of S_ ⟨by decide, by decide⟩) (g := (mkF m 146 #[.val (.int p0), .val (.int p1), .val (.int p2), .val (.int p3), .val (.long q4), .second, .val (.int p5), .val (.int (3 : Int32)), .val (.int c0), .val (.int c1), .val (.int c2), .val (.double (FP.l2d li)), .second, .unset, .unset, .unset, .unset, .unset, .unset, .unset, .unset, .unset, .unset] [(.double (FP.i2d c2)), (.int (2 : Int32)), (.ref b28), (.ref b28)])) rfl rfl (hb hby at_146)
    have V_b28 := Arv.set Ar_ q_ S_ N_ H_ G_ rfl Wh31 2 rfl (Nat.le_of_ble_eq_true rfl)
    have E_b28 := Exa.wr Wh31 E_b28
    have N := Fr.snoc X N g_b28
    have K := K.wr Wh31 (Or.inr sz_b28)
    have hk := Nat.le_trans hk (Nat.le_of_eq (Wr.size Wh31).symm)
    refine Go.by st ?_
    show Go p.tables e below (T.setTop (mkF m 147 #[.val (.int p0), .val (.int p1), .val (.int p2), .val (.int p3), .val (.long q4), .second, .val (.int p5), .val (.int (3 : Int32)), .val (.int c0), .val (.int c1), .val (.int c2), .val (.double (FP.l2d li)), .second, .unset, .unset, .unset, .unset, .unset, .unset, .unset, .unset, .unset, .unset] [(.ref b28)])) _
    refine Go.by (fun tt_ kk_ => XS.astore X.here hx rfl (hb hby at_147) rfl rfl (l' := #[.val (.int p0), .val (.int p1), .val (.int p2), .val (.int p3), .val (.long q4), .second, .val (.int p5), .val (.int (3 : Int32)), .val (.int c0), .val (.int c1), .val (.int c2), .val (.double (FP.l2d li)), .second, .val (.ref b28), .unset, .unset, .unset, .unset, .unset, .unset, .unset, .unset, .unset]) rfl kk_) ?_
    show Go p.tables e below (T.setTop (mkF m 149 #[.val (.int p0), .val (.int p1), .val (.int p2), .val (.int p3), .val (.long q4), .second, .val (.int p5), .val (.int (3 : Int32)), .val (.int c0), .val (.int c1), .val (.int c2), .val (.double (FP.l2d li)), .second, .val (.ref b28), .unset, .unset, .unset, .unset, .unset, .unset, .unset, .unset, .unset] [])) _
    refine Go.by (fun tt_ kk_ => XS.iconst X.here hx rfl (hb hby at_149) kk_) ?_
    show Go p.tables e below (T.setTop (mkF m 150 #[.val (.int p0), .val (.int p1), .val (.int p2), .val (.int p3), .val (.long q4), .second, .val (.int p5), .val (.int (3 : Int32)), .val (.int c0), .val (.int c1), .val (.int c2), .val (.double (FP.l2d li)), .second, .val (.ref b28), .unset, .unset, .unset, .unset, .unset, .unset, .unset, .unset, .unset] [(.int (3 : Int32))])) _
    obtain ⟨T, h32, k_b32, X, eT, E_, A_, Ea_, st⟩ := newPE X hx hZ (hw _ (List.mem_of_getElem? (i := 2) rfl)) eT (g := (mkF m 150 #[.val (.int p0), .val (.int p1), .val (.int p2), .val (.int p3), .val (.long q4), .second, .val (.int p5), .val (.int (3 : Int32)), .val (.int c0), .val (.int c1), .val (.int c2), .val (.double (FP.l2d li)), .second, .val (.ref b28), .unset, .unset, .unset, .unset, .unset, .unset, .unset, .unset, .unset] [(.int (3 : Int32))])) rfl (hb hby at_150) rfl (by decide) (cap := 3) (by decide) (by decide) (by decide) (by decide) (ad := "[D") (by decide)
    obtain ⟨b32, g_b32'⟩ : ∃ z, z = h31.size := ⟨_, rfl⟩
    rw [← g_b32'] at A_ st Ea_
    have ne_b28_b32 : b28 ≠ b32 := Nat.ne_of_lt (Nat.lt_of_lt_of_le E_b28.lt (Nat.le_of_eq g_b32'.symm))
    have ne_b32_b28 : b32 ≠ b28 := Ne.symm ne_b28_b32
    have g_b32 : n0 ≤ b32 := Nat.le_trans Z0 (Nat.le_trans K.1 (Nat.le_of_eq g_b32'.symm))
    have sz_b32 : h0.size ≤ b32 := Nat.le_trans K.1 (Nat.le_of_eq g_b32'.symm)
    have K := K.ext E_
    have hk := Nat.le_trans hk E_.1
    have E_b28 := Exa.ext E_ E_b28
    have V_b28 := Arv.ext V_b28 E_
    have V_b32 := Arv.new A_ (by decide)
    have E_b32 := Ea_
    refine Go.by st ?_
    show Go p.tables e below (T.setTop (mkF m 152 #[.val (.int p0), .val (.int p1), .val (.int p2), .val (.int p3), .val (.long q4), .second, .val (.int p5), .val (.int (3 : Int32)), .val (.int c0), .val (.int c1), .val (.int c2), .val (.double (FP.l2d li)), .second, .val (.ref b28), .unset, .unset, .unset, .unset, .unset, .unset, .unset, .unset, .unset] [(.ref b32)])) _
    have V_b32 : Arv Z h32 b32 k_b32 .double (3 : Int32) [(.double (0 : UInt64)), (.double (0 : UInt64)), (.double (0 : UInt64))] (.double (0 : UInt64)) := V_b32.pad (pad_rep [] (.double (0 : UInt64)) 3)
    refine Go.by (fun tt_ kk_ => XS.dup X.here hx rfl (hb hby at_152) rfl rfl kk_) ?_
    show Go p.tables e below (T.setTop (mkF m 153 #[.val (.int p0), .val (.int p1), .val (.int p2), .val (.int p3), .val (.long q4), .second, .val (.int p5), .val (.int (3 : Int32)), .val (.int c0), .val (.int c1), .val (.int c2), .val (.double (FP.l2d li)), .second, .val (.ref b28), .unset, .unset, .unset, .unset, .unset, .unset, .unset, .unset, .unset] [(.ref b32), (.ref b32)])) _
    refine Go.by (fun tt_ kk_ => XS.iconst X.here hx rfl (hb hby at_153) kk_) ?_
    show Go p.tables e below (T.setTop (mkF m 154 #[.val (.int p0), .val (.int p1), .val (.int p2), .val (.int p3), .val (.long q4), .second, .val (.int p5), .val (.int (3 : Int32)), .val (.int c0), .val (.int c1), .val (.int c2), .val (.double (FP.l2d li)), .second, .val (.ref b28), .unset, .unset, .unset, .unset, .unset, .unset, .unset, .unset, .unset] [(.int (0 : Int32)), (.ref b32), (.ref b32)])) _
    refine Go.by (fun tt_ kk_ => XS.iloadN X.here hx rfl (hb hby at_154) rfl kk_) ?_
    show Go p.tables e below (T.setTop (mkF m 155 #[.val (.int p0), .val (.int p1), .val (.int p2), .val (.int p3), .val (.long q4), .second, .val (.int p5), .val (.int (3 : Int32)), .val (.int c0), .val (.int c1), .val (.int c2), .val (.double (FP.l2d li)), .second, .val (.ref b28), .unset, .unset, .unset, .unset, .unset, .unset, .unset, .unset, .unset] [(.int p1), (.int (0 : Int32)), (.ref b32), (.ref b32)])) _
    refine Go.by (fun tt_ kk_ => XS.i2dS X.here hx rfl (hb hby at_155) rfl rfl kk_) ?_
    show Go p.tables e below (T.setTop (mkF m 156 #[.val (.int p0), .val (.int p1), .val (.int p2), .val (.int p3), .val (.long q4), .second, .val (.int p5), .val (.int (3 : Int32)), .val (.int c0), .val (.int c1), .val (.int c2), .val (.double (FP.l2d li)), .second, .val (.ref b28), .unset, .unset, .unset, .unset, .unset, .unset, .unset, .unset, .unset] [(.double (FP.i2d p1)), (.int (0 : Int32)), (.ref b32), (.ref b32)])) _
    have Vo_ := V_b32
    obtain ⟨cl_, Ar_, q_, S_, N_, H_, G_⟩ := Vo_
    obtain ⟨T, h33, X, eT, Wh33, st⟩ := stD X hx hZ eT Ar_ (j := (0 : Int32)) (inb_of S_ ⟨by decide, by decide⟩) (g := (mkF m 156 #[.val (.int p0), .val (.int p1), .val (.int p2), .val (.int p3), .val (.long q4), .second, .val (.int p5), .val (.int (3 : Int32)), .val (.int c0), .val (.int c1), .val (.int c2), .val (.double (FP.l2d li)), .second, .val (.ref b28), .unset, .unset, .unset, .unset, .unset, .unset, .unset, .unset, .unset] [(.double (FP.i2d p1)), (.int (0 : Int32)), (.ref b32), (.ref b32)])) rfl rfl (hb hby at_156)
    have V_b32 := Arv.set Ar_ q_ S_ N_ H_ G_ rfl Wh33 0 rfl (Nat.le_of_ble_eq_true rfl)
    have E_b28 := Exa.wr Wh33 E_b28
    have V_b28 := Arv.other V_b28 Wh33 ne_b28_b32
    have E_b32 := Exa.wr Wh33 E_b32
    have N := Fr.snoc X N g_b32
    have K := K.wr Wh33 (Or.inr sz_b32)
    have hk := Nat.le_trans hk (Nat.le_of_eq (Wr.size Wh33).symm)
    refine Go.by st ?_
    show Go p.tables e below (T.setTop (mkF m 157 #[.val (.int p0), .val (.int p1), .val (.int p2), .val (.int p3), .val (.long q4), .second, .val (.int p5), .val (.int (3 : Int32)), .val (.int c0), .val (.int c1), .val (.int c2), .val (.double (FP.l2d li)), .second, .val (.ref b28), .unset, .unset, .unset, .unset, .unset, .unset, .unset, .unset, .unset] [(.ref b32)])) _
    refine Go.by (fun tt_ kk_ => XS.dup X.here hx rfl (hb hby at_157) rfl rfl kk_) ?_
    show Go p.tables e below (T.setTop (mkF m 158 #[.val (.int p0), .val (.int p1), .val (.int p2), .val (.int p3), .val (.long q4), .second, .val (.int p5), .val (.int (3 : Int32)), .val (.int c0), .val (.int c1), .val (.int c2), .val (.double (FP.l2d li)), .second, .val (.ref b28), .unset, .unset, .unset, .unset, .unset, .unset, .unset, .unset, .unset] [(.ref b32), (.ref b32)])) _
    refine Go.by (fun tt_ kk_ => XS.iconst X.here hx rfl (hb hby at_158) kk_) ?_
    show Go p.tables e below (T.setTop (mkF m 159 #[.val (.int p0), .val (.int p1), .val (.int p2), .val (.int p3), .val (.long q4), .second, .val (.int p5), .val (.int (3 : Int32)), .val (.int c0), .val (.int c1), .val (.int c2), .val (.double (FP.l2d li)), .second, .val (.ref b28), .unset, .unset, .unset, .unset, .unset, .unset, .unset, .unset, .unset] [(.int (1 : Int32)), (.ref b32), (.ref b32)])) _
    refine Go.by (fun tt_ kk_ => XS.iloadN X.here hx rfl (hb hby at_159) rfl kk_) ?_
    show Go p.tables e below (T.setTop (mkF m 160 #[.val (.int p0), .val (.int p1), .val (.int p2), .val (.int p3), .val (.long q4), .second, .val (.int p5), .val (.int (3 : Int32)), .val (.int c0), .val (.int c1), .val (.int c2), .val (.double (FP.l2d li)), .second, .val (.ref b28), .unset, .unset, .unset, .unset, .unset, .unset, .unset, .unset, .unset] [(.int p2), (.int (1 : Int32)), (.ref b32), (.ref b32)])) _
    refine Go.by (fun tt_ kk_ => XS.i2dS X.here hx rfl (hb hby at_160) rfl rfl kk_) ?_
    show Go p.tables e below (T.setTop (mkF m 161 #[.val (.int p0), .val (.int p1), .val (.int p2), .val (.int p3), .val (.long q4), .second, .val (.int p5), .val (.int (3 : Int32)), .val (.int c0), .val (.int c1), .val (.int c2), .val (.double (FP.l2d li)), .second, .val (.ref b28), .unset, .unset, .unset, .unset, .unset, .unset, .unset, .unset, .unset] [(.double (FP.i2d p2)), (.int (1 : Int32)), (.ref b32), (.ref b32)])) _
    have Vo_ := V_b32
    obtain ⟨cl_, Ar_, q_, S_, N_, H_, G_⟩ := Vo_
    obtain ⟨T, h34, X, eT, Wh34, st⟩ := stD X hx hZ eT Ar_ (j := (1 : Int32)) (inb_of S_ ⟨by decide, by decide⟩) (g := (mkF m 161 #[.val (.int p0), .val (.int p1), .val (.int p2), .val (.int p3), .val (.long q4), .second, .val (.int p5), .val (.int (3 : Int32)), .val (.int c0), .val (.int c1), .val (.int c2), .val (.double (FP.l2d li)), .second, .val (.ref b28), .unset, .unset, .unset, .unset, .unset, .unset, .unset, .unset, .unset] [(.double (FP.i2d p2)), (.int (1 : Int32)), (.ref b32), (.ref b32)])) rfl rfl (hb hby at_161)
    have V_b32 := Arv.set Ar_ q_ S_ N_ H_ G_ rfl Wh34 1 rfl (Nat.le_of_ble_eq_true rfl)
    have E_b28 := Exa.wr Wh34 E_b28
    have V_b28 := Arv.other V_b28 Wh34 ne_b28_b32
    have E_b32 := Exa.wr Wh34 E_b32
    have N := Fr.snoc X N g_b32
    have K := K.wr Wh34 (Or.inr sz_b32)
    have hk := Nat.le_trans hk (Nat.le_of_eq (Wr.size Wh34).symm)
    refine Go.by st ?_
    show Go p.tables e below (T.setTop (mkF m 162 #[.val (.int p0), .val (.int p1), .val (.int p2), .val (.int p3), .val (.long q4), .second, .val (.int p5), .val (.int (3 : Int32)), .val (.int c0), .val (.int c1), .val (.int c2), .val (.double (FP.l2d li)), .second, .val (.ref b28), .unset, .unset, .unset, .unset, .unset, .unset, .unset, .unset, .unset] [(.ref b32)])) _
    refine Go.by (fun tt_ kk_ => XS.dup X.here hx rfl (hb hby at_162) rfl rfl kk_) ?_
    show Go p.tables e below (T.setTop (mkF m 163 #[.val (.int p0), .val (.int p1), .val (.int p2), .val (.int p3), .val (.long q4), .second, .val (.int p5), .val (.int (3 : Int32)), .val (.int c0), .val (.int c1), .val (.int c2), .val (.double (FP.l2d li)), .second, .val (.ref b28), .unset, .unset, .unset, .unset, .unset, .unset, .unset, .unset, .unset] [(.ref b32), (.ref b32)])) _
    refine Go.by (fun tt_ kk_ => XS.iconst X.here hx rfl (hb hby at_163) kk_) ?_
    show Go p.tables e below (T.setTop (mkF m 164 #[.val (.int p0), .val (.int p1), .val (.int p2), .val (.int p3), .val (.long q4), .second, .val (.int p5), .val (.int (3 : Int32)), .val (.int c0), .val (.int c1), .val (.int c2), .val (.double (FP.l2d li)), .second, .val (.ref b28), .unset, .unset, .unset, .unset, .unset, .unset, .unset, .unset, .unset] [(.int (2 : Int32)), (.ref b32), (.ref b32)])) _
    refine Go.by (fun tt_ kk_ => XS.iloadN X.here hx rfl (hb hby at_164) rfl kk_) ?_
    show Go p.tables e below (T.setTop (mkF m 165 #[.val (.int p0), .val (.int p1), .val (.int p2), .val (.int p3), .val (.long q4), .second, .val (.int p5), .val (.int (3 : Int32)), .val (.int c0), .val (.int c1), .val (.int c2), .val (.double (FP.l2d li)), .second, .val (.ref b28), .unset, .unset, .unset, .unset, .unset, .unset, .unset, .unset, .unset] [(.int p3), (.int (2 : Int32)), (.ref b32), (.ref b32)])) _
    refine Go.by (fun tt_ kk_ => XS.i2dS X.here hx rfl (hb hby at_165) rfl rfl kk_) ?_
    show Go p.tables e below (T.setTop (mkF m 166 #[.val (.int p0), .val (.int p1), .val (.int p2), .val (.int p3), .val (.long q4), .second, .val (.int p5), .val (.int (3 : Int32)), .val (.int c0), .val (.int c1), .val (.int c2), .val (.double (FP.l2d li)), .second, .val (.ref b28), .unset, .unset, .unset, .unset, .unset, .unset, .unset, .unset, .unset] [(.double (FP.i2d p3)), (.int (2 : Int32)), (.ref b32), (.ref b32)])) _
    have Vo_ := V_b32
    obtain ⟨cl_, Ar_, q_, S_, N_, H_, G_⟩ := Vo_
    obtain ⟨T, h35, X, eT, Wh35, st⟩ := stD X hx hZ eT Ar_ (j := (2 : Int32)) (inb_of S_ ⟨by decide, by decide⟩) (g := (mkF m 166 #[.val (.int p0), .val (.int p1), .val (.int p2), .val (.int p3), .val (.long q4), .second, .val (.int p5), .val (.int (3 : Int32)), .val (.int c0), .val (.int c1), .val (.int c2), .val (.double (FP.l2d li)), .second, .val (.ref b28), .unset, .unset, .unset, .unset, .unset, .unset, .unset, .unset, .unset] [(.double (FP.i2d p3)), (.int (2 : Int32)), (.ref b32), (.ref b32)])) rfl rfl (hb hby at_166)
    have V_b32 := Arv.set Ar_ q_ S_ N_ H_ G_ rfl Wh35 2 rfl (Nat.le_of_ble_eq_true rfl)
    have E_b28 := Exa.wr Wh35 E_b28
    have V_b28 := Arv.other V_b28 Wh35 ne_b28_b32
    have E_b32 := Exa.wr Wh35 E_b32
    have N := Fr.snoc X N g_b32
    have K := K.wr Wh35 (Or.inr sz_b32)
    have hk := Nat.le_trans hk (Nat.le_of_eq (Wr.size Wh35).symm)
    refine Go.by st ?_
    show Go p.tables e below (T.setTop (mkF m 167 #[.val (.int p0), .val (.int p1), .val (.int p2), .val (.int p3), .val (.long q4), .second, .val (.int p5), .val (.int (3 : Int32)), .val (.int c0), .val (.int c1), .val (.int c2), .val (.double (FP.l2d li)), .second, .val (.ref b28), .unset, .unset, .unset, .unset, .unset, .unset, .unset, .unset, .unset] [(.ref b32)])) _
    refine Go.by (fun tt_ kk_ => XS.astore X.here hx rfl (hb hby at_167) rfl rfl (l' := #[.val (.int p0), .val (.int p1), .val (.int p2), .val (.int p3), .val (.long q4), .second, .val (.int p5), .val (.int (3 : Int32)), .val (.int c0), .val (.int c1), .val (.int c2), .val (.double (FP.l2d li)), .second, .val (.ref b28), .val (.ref b32), .unset, .unset, .unset, .unset, .unset, .unset, .unset, .unset]) rfl kk_) ?_
    show Go p.tables e below (T.setTop (mkF m 169 #[.val (.int p0), .val (.int p1), .val (.int p2), .val (.int p3), .val (.long q4), .second, .val (.int p5), .val (.int (3 : Int32)), .val (.int c0), .val (.int c1), .val (.int c2), .val (.double (FP.l2d li)), .second, .val (.ref b28), .val (.ref b32), .unset, .unset, .unset, .unset, .unset, .unset, .unset, .unset] [])) _
    obtain ⟨T, h36, X, eT, E_, A_, D_, -, st⟩ := newO X hx hZ hown (hw _ (List.mem_of_getElem? (i := 3) rfl)) (hw _ (List.mem_of_getElem? (i := 4) rfl)) (hw _ (List.mem_of_getElem? (i := 5) rfl)) eT (g := (mkF m 169 #[.val (.int p0), .val (.int p1), .val (.int p2), .val (.int p3), .val (.long q4), .second, .val (.int p5), .val (.int (3 : Int32)), .val (.int c0), .val (.int c1), .val (.int c2), .val (.double (FP.l2d li)), .second, .val (.ref b28), .val (.ref b32), .unset, .unset, .unset, .unset, .unset, .unset, .unset, .unset] [])) rfl (hb hby at_169) (by decide) (by decide)
    obtain ⟨b36, g_b36'⟩ : ∃ z, z = h35.size := ⟨_, rfl⟩
    rw [← g_b36'] at A_ D_ st
    have ne_b28_b36 : b28 ≠ b36 := Nat.ne_of_lt (Nat.lt_of_lt_of_le E_b28.lt (Nat.le_of_eq g_b36'.symm))
    have ne_b36_b28 : b36 ≠ b28 := Ne.symm ne_b28_b36
    have ne_b32_b36 : b32 ≠ b36 := Nat.ne_of_lt (Nat.lt_of_lt_of_le E_b32.lt (Nat.le_of_eq g_b36'.symm))
    have ne_b36_b32 : b36 ≠ b32 := Ne.symm ne_b32_b36
    have g_b36 : n0 ≤ b36 := Nat.le_trans Z0 (Nat.le_trans K.1 (Nat.le_of_eq g_b36'.symm))
    have sz_b36 : h0.size ≤ b36 := Nat.le_trans K.1 (Nat.le_of_eq g_b36'.symm)
    have K := K.ext E_
    have hk := Nat.le_trans hk E_.1
    have E_b28 := Exa.ext E_ E_b28
    have V_b28 := Arv.ext V_b28 E_
    have E_b32 := Exa.ext E_ E_b32
    have V_b32 := Arv.ext V_b32 E_
    have E_b36 := A_
    have F_costs_b36 : Fld Z h36 b36 "com/example/pareto_helm/paretohelm/engine/Budget" "costs" "[D" .null := D_ (Or.inr (hw _ (List.mem_of_getElem? (i := 46) rfl))) (ty := (.array .double)) (by decide)
    have F_limit_b36 : Fld Z h36 b36 "com/example/pareto_helm/paretohelm/engine/Budget" "limit" "D" (.double (0 : UInt64)) := D_ (Or.inr (hw _ (List.mem_of_getElem? (i := 49) rfl))) (ty := .double) (by decide)
    refine Go.by st ?_
    show Go p.tables e below (T.setTop (mkF m 172 #[.val (.int p0), .val (.int p1), .val (.int p2), .val (.int p3), .val (.long q4), .second, .val (.int p5), .val (.int (3 : Int32)), .val (.int c0), .val (.int c1), .val (.int c2), .val (.double (FP.l2d li)), .second, .val (.ref b28), .val (.ref b32), .unset, .unset, .unset, .unset, .unset, .unset, .unset, .unset] [(.ref b36)])) _
    refine Go.by (fun tt_ kk_ => XS.dup X.here hx rfl (hb hby at_172) rfl rfl kk_) ?_
    show Go p.tables e below (T.setTop (mkF m 173 #[.val (.int p0), .val (.int p1), .val (.int p2), .val (.int p3), .val (.long q4), .second, .val (.int p5), .val (.int (3 : Int32)), .val (.int c0), .val (.int c1), .val (.int c2), .val (.double (FP.l2d li)), .second, .val (.ref b28), .val (.ref b32), .unset, .unset, .unset, .unset, .unset, .unset, .unset, .unset] [(.ref b36), (.ref b36)])) _
    refine Go.by (fun tt_ kk_ => XS.aload X.here hx rfl (hb hby at_173) rfl rfl kk_) ?_
    show Go p.tables e below (T.setTop (mkF m 175 #[.val (.int p0), .val (.int p1), .val (.int p2), .val (.int p3), .val (.long q4), .second, .val (.int p5), .val (.int (3 : Int32)), .val (.int c0), .val (.int c1), .val (.int c2), .val (.double (FP.l2d li)), .second, .val (.ref b28), .val (.ref b32), .unset, .unset, .unset, .unset, .unset, .unset, .unset, .unset] [(.ref b28), (.ref b36), (.ref b36)])) _
    refine Go.by (fun tt_ kk_ => XS.dload X.here hx rfl (hb hby at_175) rfl kk_) ?_
    show Go p.tables e below (T.setTop (mkF m 177 #[.val (.int p0), .val (.int p1), .val (.int p2), .val (.int p3), .val (.long q4), .second, .val (.int p5), .val (.int (3 : Int32)), .val (.int c0), .val (.int c1), .val (.int c2), .val (.double (FP.l2d li)), .second, .val (.ref b28), .val (.ref b32), .unset, .unset, .unset, .unset, .unset, .unset, .unset, .unset] [(.double (FP.l2d li)), (.ref b28), (.ref b36), (.ref b36)])) _
    have hk0 := hk
    rw [← eT] at hk0
    obtain ⟨_, _, ⟨T, L_, k_, n_⟩, -, X, h2_, gr_, ⟨Lc_, hQ, l_, y_, z_⟩, st⟩ := Jvm.OwnHand.own_specialSH X hx (y := (⟨"com/example/pareto_helm/paretohelm/engine/Budget", "<init>", "([DD)V"⟩ : MethodName)) rfl hown (mvT hZ (hw _ (List.mem_of_getElem? (i := 6) rfl))) (mvT hZ (hw _ (List.mem_of_getElem? (i := 7) rfl))) (mvT hZ (hw _ (List.mem_of_getElem? (i := 8) rfl))) (by decide) (Jvm.OwnHand.own_backSH (W := 1) (rm1_3 l Z a0 hw [] b36 b28 (FP.l2d li) (FP.i2d c0) (FP.i2d c1) (FP.i2d c2) k_b28 h36 n0 (Nat.le_trans Z0 K.1) E_b36 g_b36 F_costs_b36 F_limit_b36 ne_b28_b36 V_b28 E_b28 (own_lfin li) (own_lpos b_li) (Dy.i2d c0).fin (own_pos (Dy.i2d c0) (by omega)) (Dy.i2d c1).fin (own_pos (Dy.i2d c1) (by omega)) (Dy.i2d c2).fin (own_pos (Dy.i2d c2) (by omega))) hZ (hw _ (List.mem_of_getElem? (i := 8) rfl)) (hw _ (List.mem_of_getElem? (i := 5) rfl)) (by decide) (by decide)) (g := (mkF m 177 #[.val (.int p0), .val (.int p1), .val (.int p2), .val (.int p3), .val (.long q4), .second, .val (.int p5), .val (.int (3 : Int32)), .val (.int c0), .val (.int c1), .val (.int c2), .val (.double (FP.l2d li)), .second, .val (.ref b28), .val (.ref b32), .unset, .unset, .unset, .unset, .unset, .unset, .unset, .unset] [(.double (FP.l2d li)), (.ref b28), (.ref b36), (.ref b36)])) rfl (by rw [hml]; rfl) (Steps.refl _) (a := b36) (argsL := [(.ref b28), (.double (FP.l2d li))]) (rest := [(.ref b36)]) (lenOf pd_3 rfl) rfl (by show 2 * 0 + _ ≤ _; exact Nat.le_of_eq rfl) (hb hby at_177) (fun _ _ => ⟨rfl, eT, (by decide : 3 + 3 ≤ _), (by decide : 8 + 23 ≤ _)⟩)
    dsimp only [Pt.U, Pt.locs, Pt.cells, Pt.slots] at X l_ y_ z_ st hQ h2_ gr_
    subst l_ y_ z_
    obtain ⟨X, hS, hZ, hown⟩ := rebS hS hk0 X h2_ gr_ hZ hown
    have hk : T.heap.size ≤ T.heap.size := Nat.le_refl _
    obtain ⟨h37, eT⟩ : ∃ z, T.heap = z := ⟨_, rfl⟩
    rw [eT] at hQ
    obtain ⟨rfl, Nq, Kq, Eq_, cr, Fq1, Fq2, Vq_⟩ := hQ
    have N := Fr.app N Nq
    have E_b28 := Exa.keep E_b28 Kq
    have V_b28 := Arv.keep V_b28 Kq (ninS ne_b28_b36 nin0)
    have E_b32 := Exa.keep E_b32 Kq
    have V_b32 := Arv.keep V_b32 Kq (ninS ne_b32_b36 nin0)
    have E_b36 := Eq_
    have F_costs_b36 := Fq1
    have F_limit_b36 := Fq2
    have V_cr := Vq_
    have K := K.trans Kq (allS (Or.inr sz_b36) all0)
    rw [eT] at hk hS
    refine Go.tr st ?_
    show Go p.tables e below (T.setTop (mkF m 180 #[.val (.int p0), .val (.int p1), .val (.int p2), .val (.int p3), .val (.long q4), .second, .val (.int p5), .val (.int (3 : Int32)), .val (.int c0), .val (.int c1), .val (.int c2), .val (.double (FP.l2d li)), .second, .val (.ref b28), .val (.ref b32), .unset, .unset, .unset, .unset, .unset, .unset, .unset, .unset] [(.ref b36)])) _
    refine Go.by (fun tt_ kk_ => XS.astore X.here hx rfl (hb hby at_180) rfl rfl (l' := #[.val (.int p0), .val (.int p1), .val (.int p2), .val (.int p3), .val (.long q4), .second, .val (.int p5), .val (.int (3 : Int32)), .val (.int c0), .val (.int c1), .val (.int c2), .val (.double (FP.l2d li)), .second, .val (.ref b28), .val (.ref b32), .val (.ref b36), .unset, .unset, .unset, .unset, .unset, .unset, .unset]) rfl kk_) ?_
    show Go p.tables e below (T.setTop (mkF m 182 #[.val (.int p0), .val (.int p1), .val (.int p2), .val (.int p3), .val (.long q4), .second, .val (.int p5), .val (.int (3 : Int32)), .val (.int c0), .val (.int c1), .val (.int c2), .val (.double (FP.l2d li)), .second, .val (.ref b28), .val (.ref b32), .val (.ref b36), .unset, .unset, .unset, .unset, .unset, .unset, .unset] [])) _
    refine Go.by (fun tt_ kk_ => XS.aload X.here hx rfl (hb hby at_182) rfl rfl kk_) ?_
    show Go p.tables e below (T.setTop (mkF m 184 #[.val (.int p0), .val (.int p1), .val (.int p2), .val (.int p3), .val (.long q4), .second, .val (.int p5), .val (.int (3 : Int32)), .val (.int c0), .val (.int c1), .val (.int c2), .val (.double (FP.l2d li)), .second, .val (.ref b28), .val (.ref b32), .val (.ref b36), .unset, .unset, .unset, .unset, .unset, .unset, .unset] [(.ref b36)])) _
    refine Go.by (fun tt_ kk_ => XS.aload X.here hx rfl (hb hby at_184) rfl rfl kk_) ?_
    show Go p.tables e below (T.setTop (mkF m 186 #[.val (.int p0), .val (.int p1), .val (.int p2), .val (.int p3), .val (.long q4), .second, .val (.int p5), .val (.int (3 : Int32)), .val (.int c0), .val (.int c1), .val (.int c2), .val (.double (FP.l2d li)), .second, .val (.ref b28), .val (.ref b32), .val (.ref b36), .unset, .unset, .unset, .unset, .unset, .unset, .unset] [(.ref b32), (.ref b36)])) _
    obtain ⟨cq_, kq_, qa_, qb_, qc_⟩ := isOf hZ eT E_b36
    obtain ⟨_, _, ⟨T, L_, k_, n_⟩, -, X, ⟨Lc_, hQ, l_, y_, z_⟩, st⟩ := X.virtualBack hx (y := (⟨"com/example/pareto_helm/paretohelm/engine/Budget", "bestCorner", "([D)[D"⟩ : MethodName)) (z := (⟨"com/example/pareto_helm/paretohelm/engine/Budget", "bestCorner", "([D)[D"⟩ : MethodName)) hown (mvT hZ (hw _ (List.mem_of_getElem? (i := 50) rfl))) (mvT hZ (hw _ (List.mem_of_getElem? (i := 51) rfl))) (notFace_of_selects (args := #[]) (mvT hZ (hw _ (List.mem_of_getElem? (i := 53) rfl)))) (mvT hZ (hw _ (List.mem_of_getElem? (i := 53) rfl))) (mvT hZ (hw _ (List.mem_of_getElem? (i := 52) rfl))) (by decide) (backOf (W := 0) (rm7_3 l Z a0 hw [] b36 b32 (FP.i2d p1) (FP.i2d c0) p1.toInt c0.toInt (FP.i2d p2) (FP.i2d c1) p2.toInt c1.toInt (FP.i2d p3) (FP.i2d c2) p3.toInt c2.toInt k_b28 k_b32 cr (FP.l2d li) h37 n0 (Nat.le_trans Z0 K.1) F_costs_b36 F_limit_b36 V_cr V_b32 (own_lfin li) (Dy.i2d p1) (Dy.i2d c0) b_w0 b_c0 (Dy.i2d p2) (Dy.i2d c1) b_w1 b_c1 (Dy.i2d p3) (Dy.i2d c2) b_w2 b_c2) hZ (hw _ (List.mem_of_getElem? (i := 54) rfl)) (hw _ (List.mem_of_getElem? (i := 5) rfl)) (by decide) (by decide)) qa_ qc_ (g := (mkF m 186 #[.val (.int p0), .val (.int p1), .val (.int p2), .val (.int p3), .val (.long q4), .second, .val (.int p5), .val (.int (3 : Int32)), .val (.int c0), .val (.int c1), .val (.int c2), .val (.double (FP.l2d li)), .second, .val (.ref b28), .val (.ref b32), .val (.ref b36), .unset, .unset, .unset, .unset, .unset, .unset, .unset] [(.ref b32), (.ref b36)])) rfl (by rw [hml]; rfl) (Steps.refl _) (argsL := [(.ref b32)]) (rest := []) (lenOf pd_4 rfl) rfl (by show 2 * 0 + _ ≤ _; exact Nat.le_of_eq rfl) (hb hby at_186) (fun _ _ => ⟨rfl, eT, (by decide : 6 + 1 ≤ _), (by decide : 31 + 3 ≤ _)⟩)
    dsimp only [Pt.U, Pt.locs, Pt.cells, Pt.slots] at X l_ y_ z_ st hQ
    subst l_ y_ z_
    obtain ⟨h38, eT⟩ : ∃ z, T.heap = z := ⟨_, rfl⟩
    rw [eT] at hQ
    obtain ⟨rr, k_rr, g_rr, sq_rr, rfl, Nq, Kq, V_rr⟩ := hQ
    have N := Fr.app N Nq
    have E_b28 := Exa.keep E_b28 Kq
    have V_b28 := Arv.keep V_b28 Kq nin0
    have E_b32 := Exa.keep E_b32 Kq
    have V_b32 := Arv.keep V_b32 Kq nin0
    have E_b36 := Exa.keep E_b36 Kq
    have F_costs_b36 := Fld.keep F_costs_b36 Kq nin0
    have F_limit_b36 := Fld.keep F_limit_b36 Kq nin0
    have V_cr := Arv.keep V_cr Kq nin0
    have K := K.trans Kq all0
    unfold own_bc3 at V_rr
    have hk := Nat.le_trans hk Kq.1
    refine Go.tr st ?_
    show Go p.tables e below (T.setTop (mkF m 189 #[.val (.int p0), .val (.int p1), .val (.int p2), .val (.int p3), .val (.long q4), .second, .val (.int p5), .val (.int (3 : Int32)), .val (.int c0), .val (.int c1), .val (.int c2), .val (.double (FP.l2d li)), .second, .val (.ref b28), .val (.ref b32), .val (.ref b36), .unset, .unset, .unset, .unset, .unset, .unset, .unset] [(.ref rr)])) _
    refine Go.by (fun tt_ kk_ => XS.astore X.here hx rfl (hb hby at_189) rfl rfl (l' := #[.val (.int p0), .val (.int p1), .val (.int p2), .val (.int p3), .val (.long q4), .second, .val (.int p5), .val (.int (3 : Int32)), .val (.int c0), .val (.int c1), .val (.int c2), .val (.double (FP.l2d li)), .second, .val (.ref b28), .val (.ref b32), .val (.ref b36), .val (.ref rr), .unset, .unset, .unset, .unset, .unset, .unset]) rfl kk_) ?_
    show Go p.tables e below (T.setTop (mkF m 191 #[.val (.int p0), .val (.int p1), .val (.int p2), .val (.int p3), .val (.long q4), .second, .val (.int p5), .val (.int (3 : Int32)), .val (.int c0), .val (.int c1), .val (.int c2), .val (.double (FP.l2d li)), .second, .val (.ref b28), .val (.ref b32), .val (.ref b36), .val (.ref rr), .unset, .unset, .unset, .unset, .unset, .unset] [])) _
    refine Go.by (fun tt_ kk_ => XS.iconst X.here hx rfl (hb hby at_191) kk_) ?_
    show Go p.tables e below (T.setTop (mkF m 192 #[.val (.int p0), .val (.int p1), .val (.int p2), .val (.int p3), .val (.long q4), .second, .val (.int p5), .val (.int (3 : Int32)), .val (.int c0), .val (.int c1), .val (.int c2), .val (.double (FP.l2d li)), .second, .val (.ref b28), .val (.ref b32), .val (.ref b36), .val (.ref rr), .unset, .unset, .unset, .unset, .unset, .unset] [(.int (0 : Int32))])) _
    refine Go.by (fun tt_ kk_ => XS.istore X.here hx rfl (hb hby at_192) rfl (l' := #[.val (.int p0), .val (.int p1), .val (.int p2), .val (.int p3), .val (.long q4), .second, .val (.int p5), .val (.int (3 : Int32)), .val (.int c0), .val (.int c1), .val (.int c2), .val (.double (FP.l2d li)), .second, .val (.ref b28), .val (.ref b32), .val (.ref b36), .val (.ref rr), .val (.int (0 : Int32)), .unset, .unset, .unset, .unset, .unset]) rfl kk_) ?_
    show Go p.tables e below (T.setTop (mkF m 194 #[.val (.int p0), .val (.int p1), .val (.int p2), .val (.int p3), .val (.long q4), .second, .val (.int p5), .val (.int (3 : Int32)), .val (.int c0), .val (.int c1), .val (.int c2), .val (.double (FP.l2d li)), .second, .val (.ref b28), .val (.ref b32), .val (.ref b36), .val (.ref rr), .val (.int (0 : Int32)), .unset, .unset, .unset, .unset, .unset] [])) _
    refine Go.by (fun tt_ kk_ => XS.iloadN X.here hx rfl (hb hby at_194) rfl kk_) ?_
    show Go p.tables e below (T.setTop (mkF m 195 #[.val (.int p0), .val (.int p1), .val (.int p2), .val (.int p3), .val (.long q4), .second, .val (.int p5), .val (.int (3 : Int32)), .val (.int c0), .val (.int c1), .val (.int c2), .val (.double (FP.l2d li)), .second, .val (.ref b28), .val (.ref b32), .val (.ref b36), .val (.ref rr), .val (.int (0 : Int32)), .unset, .unset, .unset, .unset, .unset] [(.int p1)])) _
    refine Go.by (fun tt_ kk_ => XS.i2l X.here hx rfl (hb hby at_195) rfl kk_) ?_
    show Go p.tables e below (T.setTop (mkF m 196 #[.val (.int p0), .val (.int p1), .val (.int p2), .val (.int p3), .val (.long q4), .second, .val (.int p5), .val (.int (3 : Int32)), .val (.int c0), .val (.int c1), .val (.int c2), .val (.double (FP.l2d li)), .second, .val (.ref b28), .val (.ref b32), .val (.ref b36), .val (.ref rr), .val (.int (0 : Int32)), .unset, .unset, .unset, .unset, .unset] [(.long (p1.toInt64))])) _
    refine Go.by (fun tt_ kk_ => XS.lstore X.here hx rfl (hb hby at_196) rfl (l' := #[.val (.int p0), .val (.int p1), .val (.int p2), .val (.int p3), .val (.long q4), .second, .val (.int p5), .val (.int (3 : Int32)), .val (.int c0), .val (.int c1), .val (.int c2), .val (.double (FP.l2d li)), .second, .val (.ref b28), .val (.ref b32), .val (.ref b36), .val (.ref rr), .val (.int (0 : Int32)), .val (.long (p1.toInt64)), .second, .unset, .unset, .unset]) rfl kk_) ?_
    show Go p.tables e below (T.setTop (mkF m 198 #[.val (.int p0), .val (.int p1), .val (.int p2), .val (.int p3), .val (.long q4), .second, .val (.int p5), .val (.int (3 : Int32)), .val (.int c0), .val (.int c1), .val (.int c2), .val (.double (FP.l2d li)), .second, .val (.ref b28), .val (.ref b32), .val (.ref b36), .val (.ref rr), .val (.int (0 : Int32)), .val (.long (p1.toInt64)), .second, .unset, .unset, .unset] [])) _
    refine Go.by (fun tt_ kk_ => XS.iload X.here hx rfl (hb hby at_198) rfl kk_) ?_
    show Go p.tables e below (T.setTop (mkF m 200 #[.val (.int p0), .val (.int p1), .val (.int p2), .val (.int p3), .val (.long q4), .second, .val (.int p5), .val (.int (3 : Int32)), .val (.int c0), .val (.int c1), .val (.int c2), .val (.double (FP.l2d li)), .second, .val (.ref b28), .val (.ref b32), .val (.ref b36), .val (.ref rr), .val (.int (0 : Int32)), .val (.long (p1.toInt64)), .second, .unset, .unset, .unset] [(.int c0)])) _
    refine Go.by (fun tt_ kk_ => XS.i2l X.here hx rfl (hb hby at_200) rfl kk_) ?_
    show Go p.tables e below (T.setTop (mkF m 201 #[.val (.int p0), .val (.int p1), .val (.int p2), .val (.int p3), .val (.long q4), .second, .val (.int p5), .val (.int (3 : Int32)), .val (.int c0), .val (.int c1), .val (.int c2), .val (.double (FP.l2d li)), .second, .val (.ref b28), .val (.ref b32), .val (.ref b36), .val (.ref rr), .val (.int (0 : Int32)), .val (.long (p1.toInt64)), .second, .unset, .unset, .unset] [(.long (c0.toInt64))])) _
    refine Go.by (fun tt_ kk_ => XS.lstore X.here hx rfl (hb hby at_201) rfl (l' := #[.val (.int p0), .val (.int p1), .val (.int p2), .val (.int p3), .val (.long q4), .second, .val (.int p5), .val (.int (3 : Int32)), .val (.int c0), .val (.int c1), .val (.int c2), .val (.double (FP.l2d li)), .second, .val (.ref b28), .val (.ref b32), .val (.ref b36), .val (.ref rr), .val (.int (0 : Int32)), .val (.long (p1.toInt64)), .second, .val (.long (c0.toInt64)), .second, .unset]) rfl kk_) ?_
    show Go p.tables e below (T.setTop (mkF m 203 #[.val (.int p0), .val (.int p1), .val (.int p2), .val (.int p3), .val (.long q4), .second, .val (.int p5), .val (.int (3 : Int32)), .val (.int c0), .val (.int c1), .val (.int c2), .val (.double (FP.l2d li)), .second, .val (.ref b28), .val (.ref b32), .val (.ref b36), .val (.ref rr), .val (.int (0 : Int32)), .val (.long (p1.toInt64)), .second, .val (.long (c0.toInt64)), .second, .unset] [])) _
    refine Go.by (fun tt_ kk_ => XS.iload X.here hx rfl (hb hby at_203) rfl kk_) ?_
    show Go p.tables e below (T.setTop (mkF m 205 #[.val (.int p0), .val (.int p1), .val (.int p2), .val (.int p3), .val (.long q4), .second, .val (.int p5), .val (.int (3 : Int32)), .val (.int c0), .val (.int c1), .val (.int c2), .val (.double (FP.l2d li)), .second, .val (.ref b28), .val (.ref b32), .val (.ref b36), .val (.ref rr), .val (.int (0 : Int32)), .val (.long (p1.toInt64)), .second, .val (.long (c0.toInt64)), .second, .unset] [(.int (3 : Int32))])) _
    refine Go.by (fun tt_ kk_ => XS.iconst X.here hx rfl (hb hby at_205) kk_) ?_
    show Go p.tables e below (T.setTop (mkF m 206 #[.val (.int p0), .val (.int p1), .val (.int p2), .val (.int p3), .val (.long q4), .second, .val (.int p5), .val (.int (3 : Int32)), .val (.int c0), .val (.int c1), .val (.int c2), .val (.double (FP.l2d li)), .second, .val (.ref b28), .val (.ref b32), .val (.ref b36), .val (.ref rr), .val (.int (0 : Int32)), .val (.long (p1.toInt64)), .second, .val (.long (c0.toInt64)), .second, .unset] [(.int (2 : Int32)), (.int (3 : Int32))])) _
    refine Go.by (fun tt_ kk_ => XS.icmpNo X.here hx rfl (hb hby at_206) rfl (flt (by decide : ¬ ((3 : Int32) < (2 : Int32)))).1 kk_) ?_
    show Go p.tables e below (T.setTop (mkF m 209 #[.val (.int p0), .val (.int p1), .val (.int p2), .val (.int p3), .val (.long q4), .second, .val (.int p5), .val (.int (3 : Int32)), .val (.int c0), .val (.int c1), .val (.int c2), .val (.double (FP.l2d li)), .second, .val (.ref b28), .val (.ref b32), .val (.ref b36), .val (.ref rr), .val (.int (0 : Int32)), .val (.long (p1.toInt64)), .second, .val (.long (c0.toInt64)), .second, .unset] [])) _
    refine Go.by (fun tt_ kk_ => XS.iloadN X.here hx rfl (hb hby at_209) rfl kk_) ?_
    show Go p.tables e below (T.setTop (mkF m 210 #[.val (.int p0), .val (.int p1), .val (.int p2), .val (.int p3), .val (.long q4), .second, .val (.int p5), .val (.int (3 : Int32)), .val (.int c0), .val (.int c1), .val (.int c2), .val (.double (FP.l2d li)), .second, .val (.ref b28), .val (.ref b32), .val (.ref b36), .val (.ref rr), .val (.int (0 : Int32)), .val (.long (p1.toInt64)), .second, .val (.long (c0.toInt64)), .second, .unset] [(.int p2)])) _
    refine Go.by (fun tt_ kk_ => XS.i2l X.here hx rfl (hb hby at_210) rfl kk_) ?_
    show Go p.tables e below (T.setTop (mkF m 211 #[.val (.int p0), .val (.int p1), .val (.int p2), .val (.int p3), .val (.long q4), .second, .val (.int p5), .val (.int (3 : Int32)), .val (.int c0), .val (.int c1), .val (.int c2), .val (.double (FP.l2d li)), .second, .val (.ref b28), .val (.ref b32), .val (.ref b36), .val (.ref rr), .val (.int (0 : Int32)), .val (.long (p1.toInt64)), .second, .val (.long (c0.toInt64)), .second, .unset] [(.long (p2.toInt64))])) _
    refine Go.by (fun tt_ kk_ => XS.iload X.here hx rfl (hb hby at_211) rfl kk_) ?_
    show Go p.tables e below (T.setTop (mkF m 213 #[.val (.int p0), .val (.int p1), .val (.int p2), .val (.int p3), .val (.long q4), .second, .val (.int p5), .val (.int (3 : Int32)), .val (.int c0), .val (.int c1), .val (.int c2), .val (.double (FP.l2d li)), .second, .val (.ref b28), .val (.ref b32), .val (.ref b36), .val (.ref rr), .val (.int (0 : Int32)), .val (.long (p1.toInt64)), .second, .val (.long (c0.toInt64)), .second, .unset] [(.int c1), (.long (p2.toInt64))])) _
    refine Go.by (fun tt_ kk_ => XS.i2l X.here hx rfl (hb hby at_213) rfl kk_) ?_
    show Go p.tables e below (T.setTop (mkF m 214 #[.val (.int p0), .val (.int p1), .val (.int p2), .val (.int p3), .val (.long q4), .second, .val (.int p5), .val (.int (3 : Int32)), .val (.int c0), .val (.int c1), .val (.int c2), .val (.double (FP.l2d li)), .second, .val (.ref b28), .val (.ref b32), .val (.ref b36), .val (.ref rr), .val (.int (0 : Int32)), .val (.long (p1.toInt64)), .second, .val (.long (c0.toInt64)), .second, .unset] [(.long (c1.toInt64)), (.long (p2.toInt64))])) _
    refine Go.by (fun tt_ kk_ => XS.lload X.here hx rfl (hb hby at_214) rfl kk_) ?_
    show Go p.tables e below (T.setTop (mkF m 216 #[.val (.int p0), .val (.int p1), .val (.int p2), .val (.int p3), .val (.long q4), .second, .val (.int p5), .val (.int (3 : Int32)), .val (.int c0), .val (.int c1), .val (.int c2), .val (.double (FP.l2d li)), .second, .val (.ref b28), .val (.ref b32), .val (.ref b36), .val (.ref rr), .val (.int (0 : Int32)), .val (.long (p1.toInt64)), .second, .val (.long (c0.toInt64)), .second, .unset] [(.long (p1.toInt64)), (.long (c1.toInt64)), (.long (p2.toInt64))])) _
    refine Go.by (fun tt_ kk_ => XS.lload X.here hx rfl (hb hby at_216) rfl kk_) ?_
    show Go p.tables e below (T.setTop (mkF m 218 #[.val (.int p0), .val (.int p1), .val (.int p2), .val (.int p3), .val (.long q4), .second, .val (.int p5), .val (.int (3 : Int32)), .val (.int c0), .val (.int c1), .val (.int c2), .val (.double (FP.l2d li)), .second, .val (.ref b28), .val (.ref b32), .val (.ref b36), .val (.ref rr), .val (.int (0 : Int32)), .val (.long (p1.toInt64)), .second, .val (.long (c0.toInt64)), .second, .unset] [(.long (c0.toInt64)), (.long (p1.toInt64)), (.long (c1.toInt64)), (.long (p2.toInt64))])) _
    by_cases hg1 : p1.toInt * c1.toInt < p2.toInt * c0.toInt
    · rw [if_pos hg1] at V_rr
      have hz : (if p1.toInt * c1.toInt < p2.toInt * c0.toInt then (1 : Int32) else 0) = (1 : Int32) := if_pos hg1
      have mA := own_mulb (A := 2147483648) (B := 1024) b_w1.1 b_w1.2 (show -1024 ≤ c0.toInt by omega) (by omega)
      have mB := own_mulb (A := 2147483648) (B := 1024) b_w0.1 b_w0.2 (show -1024 ≤ c1.toInt by omega) (by omega)
      obtain ⟨_, _, ⟨T, L_, k_, n_⟩, -, X, ⟨Lc_, hQ, l_, y_, z_⟩, st⟩ := Jvm.LawKit.callS X hx (y := (⟨"com/example/pareto_helm/paretohelm/engine/BudgetBestCornerPinLaw", "greater", "(JJJJ)Z"⟩ : MethodName)) hown (mvT hZ (hw _ (List.mem_of_getElem? (i := 55) rfl))) (mvT hZ (hw _ (List.mem_of_getElem? (i := 56) rfl))) (mvT hZ (hw _ (List.mem_of_getElem? (i := 57) rfl))) (mvT hZ (hw _ (List.mem_of_getElem? (i := 58) rfl))) (by decide) (backOf (W := 0) (rm8 l Z a0 hw [] (p2.toInt64) (c1.toInt64) (p1.toInt64) (c0.toInt64) p2.toInt c1.toInt p1.toInt c0.toInt h38 n0 (Nat.le_trans Z0 K.1) (own_i2l _) (own_i2l _) (own_i2l _) (own_i2l _) (by omega) (by omega)) hZ (hw _ (List.mem_of_getElem? (i := 58) rfl)) (hw _ (List.mem_of_getElem? (i := 57) rfl)) (by decide) (by decide)) (g := (mkF m 218 #[.val (.int p0), .val (.int p1), .val (.int p2), .val (.int p3), .val (.long q4), .second, .val (.int p5), .val (.int (3 : Int32)), .val (.int c0), .val (.int c1), .val (.int c2), .val (.double (FP.l2d li)), .second, .val (.ref b28), .val (.ref b32), .val (.ref b36), .val (.ref rr), .val (.int (0 : Int32)), .val (.long (p1.toInt64)), .second, .val (.long (c0.toInt64)), .second, .unset] [(.long (c0.toInt64)), (.long (p1.toInt64)), (.long (c1.toInt64)), (.long (p2.toInt64))])) rfl (by rw [hml]; rfl) (argsL := [(.long (p2.toInt64)), (.long (c1.toInt64)), (.long (p1.toInt64)), (.long (c0.toInt64))]) (rest := []) (lenOf pd_6 rfl) rfl (by show 2 * 0 + _ ≤ _; exact Nat.le_of_eq rfl) (hb hby at_218) (fun _ _ => ⟨rfl, eT, (by decide : 7 + 0 ≤ _), (by decide : 34 + 0 ≤ _)⟩)
      dsimp only [Pt.U, Pt.locs, Pt.cells, Pt.slots] at X l_ y_ z_ st hQ
      subst l_ y_ z_
      obtain ⟨e_v, Nq, eh⟩ := hQ
      rw [hz] at e_v
      subst e_v
      have N := Fr.app N Nq
      have eT := eh
      refine Go.by st ?_
      show Go p.tables e below (T.setTop (mkF m 221 #[.val (.int p0), .val (.int p1), .val (.int p2), .val (.int p3), .val (.long q4), .second, .val (.int p5), .val (.int (3 : Int32)), .val (.int c0), .val (.int c1), .val (.int c2), .val (.double (FP.l2d li)), .second, .val (.ref b28), .val (.ref b32), .val (.ref b36), .val (.ref rr), .val (.int (0 : Int32)), .val (.long (p1.toInt64)), .second, .val (.long (c0.toInt64)), .second, .unset] [(.int (1 : Int32))])) _
      refine Go.by (fun tt_ kk_ => XS.ifNo X.here hx rfl (hb hby at_221) rfl ((if0 _ _).trans (feq (by decide : ¬ ((1 : Int32) = (0 : Int32)))).1) kk_) ?_
      show Go p.tables e below (T.setTop (mkF m 224 #[.val (.int p0), .val (.int p1), .val (.int p2), .val (.int p3), .val (.long q4), .second, .val (.int p5), .val (.int (3 : Int32)), .val (.int c0), .val (.int c1), .val (.int c2), .val (.double (FP.l2d li)), .second, .val (.ref b28), .val (.ref b32), .val (.ref b36), .val (.ref rr), .val (.int (0 : Int32)), .val (.long (p1.toInt64)), .second, .val (.long (c0.toInt64)), .second, .unset] [])) _
      refine Go.by (fun tt_ kk_ => XS.iconst X.here hx rfl (hb hby at_224) kk_) ?_
      show Go p.tables e below (T.setTop (mkF m 225 #[.val (.int p0), .val (.int p1), .val (.int p2), .val (.int p3), .val (.long q4), .second, .val (.int p5), .val (.int (3 : Int32)), .val (.int c0), .val (.int c1), .val (.int c2), .val (.double (FP.l2d li)), .second, .val (.ref b28), .val (.ref b32), .val (.ref b36), .val (.ref rr), .val (.int (0 : Int32)), .val (.long (p1.toInt64)), .second, .val (.long (c0.toInt64)), .second, .unset] [(.int (1 : Int32))])) _
      refine Go.by (fun tt_ kk_ => XS.istore X.here hx rfl (hb hby at_225) rfl (l' := #[.val (.int p0), .val (.int p1), .val (.int p2), .val (.int p3), .val (.long q4), .second, .val (.int p5), .val (.int (3 : Int32)), .val (.int c0), .val (.int c1), .val (.int c2), .val (.double (FP.l2d li)), .second, .val (.ref b28), .val (.ref b32), .val (.ref b36), .val (.ref rr), .val (.int (1 : Int32)), .val (.long (p1.toInt64)), .second, .val (.long (c0.toInt64)), .second, .unset]) rfl kk_) ?_
      show Go p.tables e below (T.setTop (mkF m 227 #[.val (.int p0), .val (.int p1), .val (.int p2), .val (.int p3), .val (.long q4), .second, .val (.int p5), .val (.int (3 : Int32)), .val (.int c0), .val (.int c1), .val (.int c2), .val (.double (FP.l2d li)), .second, .val (.ref b28), .val (.ref b32), .val (.ref b36), .val (.ref rr), .val (.int (1 : Int32)), .val (.long (p1.toInt64)), .second, .val (.long (c0.toInt64)), .second, .unset] [])) _
      refine Go.by (fun tt_ kk_ => XS.iloadN X.here hx rfl (hb hby at_227) rfl kk_) ?_
      show Go p.tables e below (T.setTop (mkF m 228 #[.val (.int p0), .val (.int p1), .val (.int p2), .val (.int p3), .val (.long q4), .second, .val (.int p5), .val (.int (3 : Int32)), .val (.int c0), .val (.int c1), .val (.int c2), .val (.double (FP.l2d li)), .second, .val (.ref b28), .val (.ref b32), .val (.ref b36), .val (.ref rr), .val (.int (1 : Int32)), .val (.long (p1.toInt64)), .second, .val (.long (c0.toInt64)), .second, .unset] [(.int p2)])) _
      refine Go.by (fun tt_ kk_ => XS.i2l X.here hx rfl (hb hby at_228) rfl kk_) ?_
      show Go p.tables e below (T.setTop (mkF m 229 #[.val (.int p0), .val (.int p1), .val (.int p2), .val (.int p3), .val (.long q4), .second, .val (.int p5), .val (.int (3 : Int32)), .val (.int c0), .val (.int c1), .val (.int c2), .val (.double (FP.l2d li)), .second, .val (.ref b28), .val (.ref b32), .val (.ref b36), .val (.ref rr), .val (.int (1 : Int32)), .val (.long (p1.toInt64)), .second, .val (.long (c0.toInt64)), .second, .unset] [(.long (p2.toInt64))])) _
      refine Go.by (fun tt_ kk_ => XS.lstore X.here hx rfl (hb hby at_229) rfl (l' := #[.val (.int p0), .val (.int p1), .val (.int p2), .val (.int p3), .val (.long q4), .second, .val (.int p5), .val (.int (3 : Int32)), .val (.int c0), .val (.int c1), .val (.int c2), .val (.double (FP.l2d li)), .second, .val (.ref b28), .val (.ref b32), .val (.ref b36), .val (.ref rr), .val (.int (1 : Int32)), .val (.long (p2.toInt64)), .second, .val (.long (c0.toInt64)), .second, .unset]) rfl kk_) ?_
      show Go p.tables e below (T.setTop (mkF m 231 #[.val (.int p0), .val (.int p1), .val (.int p2), .val (.int p3), .val (.long q4), .second, .val (.int p5), .val (.int (3 : Int32)), .val (.int c0), .val (.int c1), .val (.int c2), .val (.double (FP.l2d li)), .second, .val (.ref b28), .val (.ref b32), .val (.ref b36), .val (.ref rr), .val (.int (1 : Int32)), .val (.long (p2.toInt64)), .second, .val (.long (c0.toInt64)), .second, .unset] [])) _
      refine Go.by (fun tt_ kk_ => XS.iload X.here hx rfl (hb hby at_231) rfl kk_) ?_
      show Go p.tables e below (T.setTop (mkF m 233 #[.val (.int p0), .val (.int p1), .val (.int p2), .val (.int p3), .val (.long q4), .second, .val (.int p5), .val (.int (3 : Int32)), .val (.int c0), .val (.int c1), .val (.int c2), .val (.double (FP.l2d li)), .second, .val (.ref b28), .val (.ref b32), .val (.ref b36), .val (.ref rr), .val (.int (1 : Int32)), .val (.long (p2.toInt64)), .second, .val (.long (c0.toInt64)), .second, .unset] [(.int c1)])) _
      refine Go.by (fun tt_ kk_ => XS.i2l X.here hx rfl (hb hby at_233) rfl kk_) ?_
      show Go p.tables e below (T.setTop (mkF m 234 #[.val (.int p0), .val (.int p1), .val (.int p2), .val (.int p3), .val (.long q4), .second, .val (.int p5), .val (.int (3 : Int32)), .val (.int c0), .val (.int c1), .val (.int c2), .val (.double (FP.l2d li)), .second, .val (.ref b28), .val (.ref b32), .val (.ref b36), .val (.ref rr), .val (.int (1 : Int32)), .val (.long (p2.toInt64)), .second, .val (.long (c0.toInt64)), .second, .unset] [(.long (c1.toInt64))])) _
      refine Go.by (fun tt_ kk_ => XS.lstore X.here hx rfl (hb hby at_234) rfl (l' := #[.val (.int p0), .val (.int p1), .val (.int p2), .val (.int p3), .val (.long q4), .second, .val (.int p5), .val (.int (3 : Int32)), .val (.int c0), .val (.int c1), .val (.int c2), .val (.double (FP.l2d li)), .second, .val (.ref b28), .val (.ref b32), .val (.ref b36), .val (.ref rr), .val (.int (1 : Int32)), .val (.long (p2.toInt64)), .second, .val (.long (c1.toInt64)), .second, .unset]) rfl kk_) ?_
      show Go p.tables e below (T.setTop (mkF m 236 #[.val (.int p0), .val (.int p1), .val (.int p2), .val (.int p3), .val (.long q4), .second, .val (.int p5), .val (.int (3 : Int32)), .val (.int c0), .val (.int c1), .val (.int c2), .val (.double (FP.l2d li)), .second, .val (.ref b28), .val (.ref b32), .val (.ref b36), .val (.ref rr), .val (.int (1 : Int32)), .val (.long (p2.toInt64)), .second, .val (.long (c1.toInt64)), .second, .unset] [])) _
      refine Go.by (fun tt_ kk_ => XS.iload X.here hx rfl (hb hby at_236) rfl kk_) ?_
      show Go p.tables e below (T.setTop (mkF m 238 #[.val (.int p0), .val (.int p1), .val (.int p2), .val (.int p3), .val (.long q4), .second, .val (.int p5), .val (.int (3 : Int32)), .val (.int c0), .val (.int c1), .val (.int c2), .val (.double (FP.l2d li)), .second, .val (.ref b28), .val (.ref b32), .val (.ref b36), .val (.ref rr), .val (.int (1 : Int32)), .val (.long (p2.toInt64)), .second, .val (.long (c1.toInt64)), .second, .unset] [(.int (3 : Int32))])) _
      refine Go.by (fun tt_ kk_ => XS.iconst X.here hx rfl (hb hby at_238) kk_) ?_
      show Go p.tables e below (T.setTop (mkF m 239 #[.val (.int p0), .val (.int p1), .val (.int p2), .val (.int p3), .val (.long q4), .second, .val (.int p5), .val (.int (3 : Int32)), .val (.int c0), .val (.int c1), .val (.int c2), .val (.double (FP.l2d li)), .second, .val (.ref b28), .val (.ref b32), .val (.ref b36), .val (.ref rr), .val (.int (1 : Int32)), .val (.long (p2.toInt64)), .second, .val (.long (c1.toInt64)), .second, .unset] [(.int (3 : Int32)), (.int (3 : Int32))])) _
      refine Go.by (fun tt_ kk_ => XS.icmpNo X.here hx rfl (hb hby at_239) rfl (flt (by decide : ¬ ((3 : Int32) < (3 : Int32)))).1 kk_) ?_
      show Go p.tables e below (T.setTop (mkF m 242 #[.val (.int p0), .val (.int p1), .val (.int p2), .val (.int p3), .val (.long q4), .second, .val (.int p5), .val (.int (3 : Int32)), .val (.int c0), .val (.int c1), .val (.int c2), .val (.double (FP.l2d li)), .second, .val (.ref b28), .val (.ref b32), .val (.ref b36), .val (.ref rr), .val (.int (1 : Int32)), .val (.long (p2.toInt64)), .second, .val (.long (c1.toInt64)), .second, .unset] [])) _
      refine Go.by (fun tt_ kk_ => XS.iloadN X.here hx rfl (hb hby at_242) rfl kk_) ?_
      show Go p.tables e below (T.setTop (mkF m 243 #[.val (.int p0), .val (.int p1), .val (.int p2), .val (.int p3), .val (.long q4), .second, .val (.int p5), .val (.int (3 : Int32)), .val (.int c0), .val (.int c1), .val (.int c2), .val (.double (FP.l2d li)), .second, .val (.ref b28), .val (.ref b32), .val (.ref b36), .val (.ref rr), .val (.int (1 : Int32)), .val (.long (p2.toInt64)), .second, .val (.long (c1.toInt64)), .second, .unset] [(.int p3)])) _
      refine Go.by (fun tt_ kk_ => XS.i2l X.here hx rfl (hb hby at_243) rfl kk_) ?_
      show Go p.tables e below (T.setTop (mkF m 244 #[.val (.int p0), .val (.int p1), .val (.int p2), .val (.int p3), .val (.long q4), .second, .val (.int p5), .val (.int (3 : Int32)), .val (.int c0), .val (.int c1), .val (.int c2), .val (.double (FP.l2d li)), .second, .val (.ref b28), .val (.ref b32), .val (.ref b36), .val (.ref rr), .val (.int (1 : Int32)), .val (.long (p2.toInt64)), .second, .val (.long (c1.toInt64)), .second, .unset] [(.long (p3.toInt64))])) _
      refine Go.by (fun tt_ kk_ => XS.iload X.here hx rfl (hb hby at_244) rfl kk_) ?_
      show Go p.tables e below (T.setTop (mkF m 246 #[.val (.int p0), .val (.int p1), .val (.int p2), .val (.int p3), .val (.long q4), .second, .val (.int p5), .val (.int (3 : Int32)), .val (.int c0), .val (.int c1), .val (.int c2), .val (.double (FP.l2d li)), .second, .val (.ref b28), .val (.ref b32), .val (.ref b36), .val (.ref rr), .val (.int (1 : Int32)), .val (.long (p2.toInt64)), .second, .val (.long (c1.toInt64)), .second, .unset] [(.int c2), (.long (p3.toInt64))])) _
      refine Go.by (fun tt_ kk_ => XS.i2l X.here hx rfl (hb hby at_246) rfl kk_) ?_
      show Go p.tables e below (T.setTop (mkF m 247 #[.val (.int p0), .val (.int p1), .val (.int p2), .val (.int p3), .val (.long q4), .second, .val (.int p5), .val (.int (3 : Int32)), .val (.int c0), .val (.int c1), .val (.int c2), .val (.double (FP.l2d li)), .second, .val (.ref b28), .val (.ref b32), .val (.ref b36), .val (.ref rr), .val (.int (1 : Int32)), .val (.long (p2.toInt64)), .second, .val (.long (c1.toInt64)), .second, .unset] [(.long (c2.toInt64)), (.long (p3.toInt64))])) _
      refine Go.by (fun tt_ kk_ => XS.lload X.here hx rfl (hb hby at_247) rfl kk_) ?_
      show Go p.tables e below (T.setTop (mkF m 249 #[.val (.int p0), .val (.int p1), .val (.int p2), .val (.int p3), .val (.long q4), .second, .val (.int p5), .val (.int (3 : Int32)), .val (.int c0), .val (.int c1), .val (.int c2), .val (.double (FP.l2d li)), .second, .val (.ref b28), .val (.ref b32), .val (.ref b36), .val (.ref rr), .val (.int (1 : Int32)), .val (.long (p2.toInt64)), .second, .val (.long (c1.toInt64)), .second, .unset] [(.long (p2.toInt64)), (.long (c2.toInt64)), (.long (p3.toInt64))])) _
      refine Go.by (fun tt_ kk_ => XS.lload X.here hx rfl (hb hby at_249) rfl kk_) ?_
      show Go p.tables e below (T.setTop (mkF m 251 #[.val (.int p0), .val (.int p1), .val (.int p2), .val (.int p3), .val (.long q4), .second, .val (.int p5), .val (.int (3 : Int32)), .val (.int c0), .val (.int c1), .val (.int c2), .val (.double (FP.l2d li)), .second, .val (.ref b28), .val (.ref b32), .val (.ref b36), .val (.ref rr), .val (.int (1 : Int32)), .val (.long (p2.toInt64)), .second, .val (.long (c1.toInt64)), .second, .unset] [(.long (c1.toInt64)), (.long (p2.toInt64)), (.long (c2.toInt64)), (.long (p3.toInt64))])) _
      by_cases hg2 : p2.toInt * c2.toInt < p3.toInt * c1.toInt
      · rw [if_pos hg2] at V_rr
        have hz : (if p2.toInt * c2.toInt < p3.toInt * c1.toInt then (1 : Int32) else 0) = (1 : Int32) := if_pos hg2
        have mA := own_mulb (A := 2147483648) (B := 1024) b_w2.1 b_w2.2 (show -1024 ≤ c1.toInt by omega) (by omega)
        have mB := own_mulb (A := 2147483648) (B := 1024) b_w1.1 b_w1.2 (show -1024 ≤ c2.toInt by omega) (by omega)
        obtain ⟨_, _, ⟨T, L_, k_, n_⟩, -, X, ⟨Lc_, hQ, l_, y_, z_⟩, st⟩ := Jvm.LawKit.callS X hx (y := (⟨"com/example/pareto_helm/paretohelm/engine/BudgetBestCornerPinLaw", "greater", "(JJJJ)Z"⟩ : MethodName)) hown (mvT hZ (hw _ (List.mem_of_getElem? (i := 55) rfl))) (mvT hZ (hw _ (List.mem_of_getElem? (i := 56) rfl))) (mvT hZ (hw _ (List.mem_of_getElem? (i := 57) rfl))) (mvT hZ (hw _ (List.mem_of_getElem? (i := 58) rfl))) (by decide) (backOf (W := 0) (rm8 l Z a0 hw [] (p3.toInt64) (c2.toInt64) (p2.toInt64) (c1.toInt64) p3.toInt c2.toInt p2.toInt c1.toInt h38 n0 (Nat.le_trans Z0 K.1) (own_i2l _) (own_i2l _) (own_i2l _) (own_i2l _) (by omega) (by omega)) hZ (hw _ (List.mem_of_getElem? (i := 58) rfl)) (hw _ (List.mem_of_getElem? (i := 57) rfl)) (by decide) (by decide)) (g := (mkF m 251 #[.val (.int p0), .val (.int p1), .val (.int p2), .val (.int p3), .val (.long q4), .second, .val (.int p5), .val (.int (3 : Int32)), .val (.int c0), .val (.int c1), .val (.int c2), .val (.double (FP.l2d li)), .second, .val (.ref b28), .val (.ref b32), .val (.ref b36), .val (.ref rr), .val (.int (1 : Int32)), .val (.long (p2.toInt64)), .second, .val (.long (c1.toInt64)), .second, .unset] [(.long (c1.toInt64)), (.long (p2.toInt64)), (.long (c2.toInt64)), (.long (p3.toInt64))])) rfl (by rw [hml]; rfl) (argsL := [(.long (p3.toInt64)), (.long (c2.toInt64)), (.long (p2.toInt64)), (.long (c1.toInt64))]) (rest := []) (lenOf pd_6 rfl) rfl (by show 2 * 0 + _ ≤ _; exact Nat.le_of_eq rfl) (hb hby at_251) (fun _ _ => ⟨rfl, eT, (by decide : 7 + 0 ≤ _), (by decide : 34 + 0 ≤ _)⟩)
        dsimp only [Pt.U, Pt.locs, Pt.cells, Pt.slots] at X l_ y_ z_ st hQ
        subst l_ y_ z_
        obtain ⟨e_v, Nq, eh⟩ := hQ
        rw [hz] at e_v
        subst e_v
        have N := Fr.app N Nq
        have eT := eh
        refine Go.by st ?_
        show Go p.tables e below (T.setTop (mkF m 254 #[.val (.int p0), .val (.int p1), .val (.int p2), .val (.int p3), .val (.long q4), .second, .val (.int p5), .val (.int (3 : Int32)), .val (.int c0), .val (.int c1), .val (.int c2), .val (.double (FP.l2d li)), .second, .val (.ref b28), .val (.ref b32), .val (.ref b36), .val (.ref rr), .val (.int (1 : Int32)), .val (.long (p2.toInt64)), .second, .val (.long (c1.toInt64)), .second, .unset] [(.int (1 : Int32))])) _
        refine Go.by (fun tt_ kk_ => XS.ifNo X.here hx rfl (hb hby at_254) rfl ((if0 _ _).trans (feq (by decide : ¬ ((1 : Int32) = (0 : Int32)))).1) kk_) ?_
        show Go p.tables e below (T.setTop (mkF m 257 #[.val (.int p0), .val (.int p1), .val (.int p2), .val (.int p3), .val (.long q4), .second, .val (.int p5), .val (.int (3 : Int32)), .val (.int c0), .val (.int c1), .val (.int c2), .val (.double (FP.l2d li)), .second, .val (.ref b28), .val (.ref b32), .val (.ref b36), .val (.ref rr), .val (.int (1 : Int32)), .val (.long (p2.toInt64)), .second, .val (.long (c1.toInt64)), .second, .unset] [])) _
        refine Go.by (fun tt_ kk_ => XS.iconst X.here hx rfl (hb hby at_257) kk_) ?_
        show Go p.tables e below (T.setTop (mkF m 258 #[.val (.int p0), .val (.int p1), .val (.int p2), .val (.int p3), .val (.long q4), .second, .val (.int p5), .val (.int (3 : Int32)), .val (.int c0), .val (.int c1), .val (.int c2), .val (.double (FP.l2d li)), .second, .val (.ref b28), .val (.ref b32), .val (.ref b36), .val (.ref rr), .val (.int (1 : Int32)), .val (.long (p2.toInt64)), .second, .val (.long (c1.toInt64)), .second, .unset] [(.int (2 : Int32))])) _
        refine Go.by (fun tt_ kk_ => XS.istore X.here hx rfl (hb hby at_258) rfl (l' := #[.val (.int p0), .val (.int p1), .val (.int p2), .val (.int p3), .val (.long q4), .second, .val (.int p5), .val (.int (3 : Int32)), .val (.int c0), .val (.int c1), .val (.int c2), .val (.double (FP.l2d li)), .second, .val (.ref b28), .val (.ref b32), .val (.ref b36), .val (.ref rr), .val (.int (2 : Int32)), .val (.long (p2.toInt64)), .second, .val (.long (c1.toInt64)), .second, .unset]) rfl kk_) ?_
        show Go p.tables e below (T.setTop (mkF m 260 #[.val (.int p0), .val (.int p1), .val (.int p2), .val (.int p3), .val (.long q4), .second, .val (.int p5), .val (.int (3 : Int32)), .val (.int c0), .val (.int c1), .val (.int c2), .val (.double (FP.l2d li)), .second, .val (.ref b28), .val (.ref b32), .val (.ref b36), .val (.ref rr), .val (.int (2 : Int32)), .val (.long (p2.toInt64)), .second, .val (.long (c1.toInt64)), .second, .unset] [])) _
        refine Go.by (fun tt_ kk_ => XS.aload X.here hx rfl (hb hby at_260) rfl rfl kk_) ?_
        show Go p.tables e below (T.setTop (mkF m 262 #[.val (.int p0), .val (.int p1), .val (.int p2), .val (.int p3), .val (.long q4), .second, .val (.int p5), .val (.int (3 : Int32)), .val (.int c0), .val (.int c1), .val (.int c2), .val (.double (FP.l2d li)), .second, .val (.ref b28), .val (.ref b32), .val (.ref b36), .val (.ref rr), .val (.int (2 : Int32)), .val (.long (p2.toInt64)), .second, .val (.long (c1.toInt64)), .second, .unset] [(.ref rr)])) _
        have Vo_ := V_rr
        obtain ⟨cl_, Ar_, q_, S_, N_, H_, G_⟩ := Vo_
        refine Go.by (X.arraylength hx (by rw [eT]; exact Ar_.1) (State.isArrayOf_alike hZ.alike Ar_.2.1) (g := (mkF m 262 #[.val (.int p0), .val (.int p1), .val (.int p2), .val (.int p3), .val (.long q4), .second, .val (.int p5), .val (.int (3 : Int32)), .val (.int c0), .val (.int c1), .val (.int c2), .val (.double (FP.l2d li)), .second, .val (.ref b28), .val (.ref b32), .val (.ref b36), .val (.ref rr), .val (.int (2 : Int32)), .val (.long (p2.toInt64)), .second, .val (.long (c1.toInt64)), .second, .unset] [(.ref rr)])) rfl rfl (hb hby at_262)) ?_
        rw [len_of S_ N_]
        show Go p.tables e below (T.setTop (mkF m 263 #[.val (.int p0), .val (.int p1), .val (.int p2), .val (.int p3), .val (.long q4), .second, .val (.int p5), .val (.int (3 : Int32)), .val (.int c0), .val (.int c1), .val (.int c2), .val (.double (FP.l2d li)), .second, .val (.ref b28), .val (.ref b32), .val (.ref b36), .val (.ref rr), .val (.int (2 : Int32)), .val (.long (p2.toInt64)), .second, .val (.long (c1.toInt64)), .second, .unset] [(.int (3 : Int32))])) _
        refine Go.by (fun tt_ kk_ => XS.iload X.here hx rfl (hb hby at_263) rfl kk_) ?_
        show Go p.tables e below (T.setTop (mkF m 265 #[.val (.int p0), .val (.int p1), .val (.int p2), .val (.int p3), .val (.long q4), .second, .val (.int p5), .val (.int (3 : Int32)), .val (.int c0), .val (.int c1), .val (.int c2), .val (.double (FP.l2d li)), .second, .val (.ref b28), .val (.ref b32), .val (.ref b36), .val (.ref rr), .val (.int (2 : Int32)), .val (.long (p2.toInt64)), .second, .val (.long (c1.toInt64)), .second, .unset] [(.int (3 : Int32)), (.int (3 : Int32))])) _
        refine Go.by (fun tt_ kk_ => XS.icmpYes X.here hx rfl (pc0 := 265) (pc' := 270) rfl (hb hby at_265) rfl (teq (rfl : (3 : Int32) = (3 : Int32))).1 (by decide) (by decide) kk_) ?_
        show Go p.tables e below (T.setTop (mkF m 270 #[.val (.int p0), .val (.int p1), .val (.int p2), .val (.int p3), .val (.long q4), .second, .val (.int p5), .val (.int (3 : Int32)), .val (.int c0), .val (.int c1), .val (.int c2), .val (.double (FP.l2d li)), .second, .val (.ref b28), .val (.ref b32), .val (.ref b36), .val (.ref rr), .val (.int (2 : Int32)), .val (.long (p2.toInt64)), .second, .val (.long (c1.toInt64)), .second, .unset] [])) _
        refine Go.by (fun tt_ kk_ => XS.iload X.here hx rfl (hb hby at_270) rfl kk_) ?_
        show Go p.tables e below (T.setTop (mkF m 272 #[.val (.int p0), .val (.int p1), .val (.int p2), .val (.int p3), .val (.long q4), .second, .val (.int p5), .val (.int (3 : Int32)), .val (.int c0), .val (.int c1), .val (.int c2), .val (.double (FP.l2d li)), .second, .val (.ref b28), .val (.ref b32), .val (.ref b36), .val (.ref rr), .val (.int (2 : Int32)), .val (.long (p2.toInt64)), .second, .val (.long (c1.toInt64)), .second, .unset] [(.int (2 : Int32))])) _
        refine Go.by (fun tt_ kk_ => XS.ifYes X.here hx rfl (pc0 := 272) (pc' := 280) rfl (hb hby at_272) rfl ((if0 _ _).trans (feq (by decide : ¬ ((2 : Int32) = (0 : Int32)))).2) (by decide) (by decide) kk_) ?_
        show Go p.tables e below (T.setTop (mkF m 280 #[.val (.int p0), .val (.int p1), .val (.int p2), .val (.int p3), .val (.long q4), .second, .val (.int p5), .val (.int (3 : Int32)), .val (.int c0), .val (.int c1), .val (.int c2), .val (.double (FP.l2d li)), .second, .val (.ref b28), .val (.ref b32), .val (.ref b36), .val (.ref rr), .val (.int (2 : Int32)), .val (.long (p2.toInt64)), .second, .val (.long (c1.toInt64)), .second, .unset] [])) _
        refine Go.by (fun tt_ kk_ => XS.iload X.here hx rfl (hb hby at_280) rfl kk_) ?_
        show Go p.tables e below (T.setTop (mkF m 282 #[.val (.int p0), .val (.int p1), .val (.int p2), .val (.int p3), .val (.long q4), .second, .val (.int p5), .val (.int (3 : Int32)), .val (.int c0), .val (.int c1), .val (.int c2), .val (.double (FP.l2d li)), .second, .val (.ref b28), .val (.ref b32), .val (.ref b36), .val (.ref rr), .val (.int (2 : Int32)), .val (.long (p2.toInt64)), .second, .val (.long (c1.toInt64)), .second, .unset] [(.int (2 : Int32))])) _
        refine Go.by (fun tt_ kk_ => XS.iconst X.here hx rfl (hb hby at_282) kk_) ?_
        show Go p.tables e below (T.setTop (mkF m 283 #[.val (.int p0), .val (.int p1), .val (.int p2), .val (.int p3), .val (.long q4), .second, .val (.int p5), .val (.int (3 : Int32)), .val (.int c0), .val (.int c1), .val (.int c2), .val (.double (FP.l2d li)), .second, .val (.ref b28), .val (.ref b32), .val (.ref b36), .val (.ref rr), .val (.int (2 : Int32)), .val (.long (p2.toInt64)), .second, .val (.long (c1.toInt64)), .second, .unset] [(.int (1 : Int32)), (.int (2 : Int32))])) _
        refine Go.by (fun tt_ kk_ => XS.icmpYes X.here hx rfl (pc0 := 283) (pc' := 291) rfl (hb hby at_283) rfl (feq (by decide : ¬ ((2 : Int32) = (1 : Int32)))).2 (by decide) (by decide) kk_) ?_
        show Go p.tables e below (T.setTop (mkF m 291 #[.val (.int p0), .val (.int p1), .val (.int p2), .val (.int p3), .val (.long q4), .second, .val (.int p5), .val (.int (3 : Int32)), .val (.int c0), .val (.int c1), .val (.int c2), .val (.double (FP.l2d li)), .second, .val (.ref b28), .val (.ref b32), .val (.ref b36), .val (.ref rr), .val (.int (2 : Int32)), .val (.long (p2.toInt64)), .second, .val (.long (c1.toInt64)), .second, .unset] [])) _
        refine Go.by (fun tt_ kk_ => XS.iload X.here hx rfl (hb hby at_291) rfl kk_) ?_
        show Go p.tables e below (T.setTop (mkF m 293 #[.val (.int p0), .val (.int p1), .val (.int p2), .val (.int p3), .val (.long q4), .second, .val (.int p5), .val (.int (3 : Int32)), .val (.int c0), .val (.int c1), .val (.int c2), .val (.double (FP.l2d li)), .second, .val (.ref b28), .val (.ref b32), .val (.ref b36), .val (.ref rr), .val (.int (2 : Int32)), .val (.long (p2.toInt64)), .second, .val (.long (c1.toInt64)), .second, .unset] [(.int c2)])) _
        refine Go.by (fun tt_ kk_ => XS.istore X.here hx rfl (hb hby at_293) rfl (l' := #[.val (.int p0), .val (.int p1), .val (.int p2), .val (.int p3), .val (.long q4), .second, .val (.int p5), .val (.int (3 : Int32)), .val (.int c0), .val (.int c1), .val (.int c2), .val (.double (FP.l2d li)), .second, .val (.ref b28), .val (.ref b32), .val (.ref b36), .val (.ref rr), .val (.int (2 : Int32)), .val (.long (p2.toInt64)), .second, .val (.long (c1.toInt64)), .second, .val (.int c2)]) rfl kk_) ?_
        show Go p.tables e below (T.setTop (mkF m 295 #[.val (.int p0), .val (.int p1), .val (.int p2), .val (.int p3), .val (.long q4), .second, .val (.int p5), .val (.int (3 : Int32)), .val (.int c0), .val (.int c1), .val (.int c2), .val (.double (FP.l2d li)), .second, .val (.ref b28), .val (.ref b32), .val (.ref b36), .val (.ref rr), .val (.int (2 : Int32)), .val (.long (p2.toInt64)), .second, .val (.long (c1.toInt64)), .second, .val (.int c2)] [])) _
        refine Go.by (fun tt_ kk_ => XS.aload X.here hx rfl (hb hby at_295) rfl rfl kk_) ?_
        show Go p.tables e below (T.setTop (mkF m 297 #[.val (.int p0), .val (.int p1), .val (.int p2), .val (.int p3), .val (.long q4), .second, .val (.int p5), .val (.int (3 : Int32)), .val (.int c0), .val (.int c1), .val (.int c2), .val (.double (FP.l2d li)), .second, .val (.ref b28), .val (.ref b32), .val (.ref b36), .val (.ref rr), .val (.int (2 : Int32)), .val (.long (p2.toInt64)), .second, .val (.long (c1.toInt64)), .second, .val (.int c2)] [(.ref rr)])) _
        refine Go.by (fun tt_ kk_ => XS.iconst X.here hx rfl (hb hby at_297) kk_) ?_
        show Go p.tables e below (T.setTop (mkF m 298 #[.val (.int p0), .val (.int p1), .val (.int p2), .val (.int p3), .val (.long q4), .second, .val (.int p5), .val (.int (3 : Int32)), .val (.int c0), .val (.int c1), .val (.int c2), .val (.double (FP.l2d li)), .second, .val (.ref b28), .val (.ref b32), .val (.ref b36), .val (.ref rr), .val (.int (2 : Int32)), .val (.long (p2.toInt64)), .second, .val (.long (c1.toInt64)), .second, .val (.int c2)] [(.int (0 : Int32)), (.ref rr)])) _
        refine Go.by (fun tt_ kk_ => XS.iload X.here hx rfl (hb hby at_298) rfl kk_) ?_
        show Go p.tables e below (T.setTop (mkF m 300 #[.val (.int p0), .val (.int p1), .val (.int p2), .val (.int p3), .val (.long q4), .second, .val (.int p5), .val (.int (3 : Int32)), .val (.int c0), .val (.int c1), .val (.int c2), .val (.double (FP.l2d li)), .second, .val (.ref b28), .val (.ref b32), .val (.ref b36), .val (.ref rr), .val (.int (2 : Int32)), .val (.long (p2.toInt64)), .second, .val (.long (c1.toInt64)), .second, .val (.int c2)] [(.int (3 : Int32)), (.int (0 : Int32)), (.ref rr)])) _
        refine Go.by (fun tt_ kk_ => XS.iload X.here hx rfl (hb hby at_300) rfl kk_) ?_
        show Go p.tables e below (T.setTop (mkF m 302 #[.val (.int p0), .val (.int p1), .val (.int p2), .val (.int p3), .val (.long q4), .second, .val (.int p5), .val (.int (3 : Int32)), .val (.int c0), .val (.int c1), .val (.int c2), .val (.double (FP.l2d li)), .second, .val (.ref b28), .val (.ref b32), .val (.ref b36), .val (.ref rr), .val (.int (2 : Int32)), .val (.long (p2.toInt64)), .second, .val (.long (c1.toInt64)), .second, .val (.int c2)] [(.int (2 : Int32)), (.int (3 : Int32)), (.int (0 : Int32)), (.ref rr)])) _
        refine Go.by (fun tt_ kk_ => XS.dload X.here hx rfl (hb hby at_302) rfl kk_) ?_
        show Go p.tables e below (T.setTop (mkF m 304 #[.val (.int p0), .val (.int p1), .val (.int p2), .val (.int p3), .val (.long q4), .second, .val (.int p5), .val (.int (3 : Int32)), .val (.int c0), .val (.int c1), .val (.int c2), .val (.double (FP.l2d li)), .second, .val (.ref b28), .val (.ref b32), .val (.ref b36), .val (.ref rr), .val (.int (2 : Int32)), .val (.long (p2.toInt64)), .second, .val (.long (c1.toInt64)), .second, .val (.int c2)] [(.double (FP.l2d li)), (.int (2 : Int32)), (.int (3 : Int32)), (.int (0 : Int32)), (.ref rr)])) _
        refine Go.by (fun tt_ kk_ => XS.iload X.here hx rfl (hb hby at_304) rfl kk_) ?_
        show Go p.tables e below (T.setTop (mkF m 306 #[.val (.int p0), .val (.int p1), .val (.int p2), .val (.int p3), .val (.long q4), .second, .val (.int p5), .val (.int (3 : Int32)), .val (.int c0), .val (.int c1), .val (.int c2), .val (.double (FP.l2d li)), .second, .val (.ref b28), .val (.ref b32), .val (.ref b36), .val (.ref rr), .val (.int (2 : Int32)), .val (.long (p2.toInt64)), .second, .val (.long (c1.toInt64)), .second, .val (.int c2)] [(.int c2), (.double (FP.l2d li)), (.int (2 : Int32)), (.int (3 : Int32)), (.int (0 : Int32)), (.ref rr)])) _
        obtain ⟨_, _, ⟨T, L_, k_, n_⟩, -, X, ⟨Lc_, hQ, l_, y_, z_⟩, st⟩ := Jvm.LawKit.callS X hx (y := (⟨"com/example/pareto_helm/paretohelm/engine/BudgetBestCornerPinLaw", "check", "([DIIIDI)Z"⟩ : MethodName)) hown (mvT hZ (hw _ (List.mem_of_getElem? (i := 59) rfl))) (mvT hZ (hw _ (List.mem_of_getElem? (i := 60) rfl))) (mvT hZ (hw _ (List.mem_of_getElem? (i := 57) rfl))) (mvT hZ (hw _ (List.mem_of_getElem? (i := 61) rfl))) (by decide) (backOf (W := 0) (rm9b l Z a0 hw [] rr (0 : Int32) (3 : Int32) (2 : Int32) (FP.l2d li) c2 _ _ h38 n0 (Nat.le_trans Z0 K.1) V_rr (by decide) (by decide) (by decide) rfl) hZ (hw _ (List.mem_of_getElem? (i := 61) rfl)) (hw _ (List.mem_of_getElem? (i := 57) rfl)) (by decide) (by decide)) (g := (mkF m 306 #[.val (.int p0), .val (.int p1), .val (.int p2), .val (.int p3), .val (.long q4), .second, .val (.int p5), .val (.int (3 : Int32)), .val (.int c0), .val (.int c1), .val (.int c2), .val (.double (FP.l2d li)), .second, .val (.ref b28), .val (.ref b32), .val (.ref b36), .val (.ref rr), .val (.int (2 : Int32)), .val (.long (p2.toInt64)), .second, .val (.long (c1.toInt64)), .second, .val (.int c2)] [(.int c2), (.double (FP.l2d li)), (.int (2 : Int32)), (.int (3 : Int32)), (.int (0 : Int32)), (.ref rr)])) rfl (by rw [hml]; rfl) (argsL := [(.ref rr), (.int (0 : Int32)), (.int (3 : Int32)), (.int (2 : Int32)), (.double (FP.l2d li)), (.int c2)]) (rest := []) (lenOf pd_5 rfl) rfl (by show 2 * 0 + _ ≤ _; exact Nat.le_of_eq rfl) (hb hby at_306) (fun _ _ => ⟨rfl, eT, (by decide : 7 + 0 ≤ _), (by decide : 34 + 0 ≤ _)⟩)
        dsimp only [Pt.U, Pt.locs, Pt.cells, Pt.slots] at X l_ y_ z_ st hQ
        subst l_ y_ z_
        obtain ⟨rfl, Nq, eh⟩ := hQ
        have N := Fr.app N Nq
        have eT := eh
        refine Go.by st ?_
        show Go p.tables e below (T.setTop (mkF m 309 #[.val (.int p0), .val (.int p1), .val (.int p2), .val (.int p3), .val (.long q4), .second, .val (.int p5), .val (.int (3 : Int32)), .val (.int c0), .val (.int c1), .val (.int c2), .val (.double (FP.l2d li)), .second, .val (.ref b28), .val (.ref b32), .val (.ref b36), .val (.ref rr), .val (.int (2 : Int32)), .val (.long (p2.toInt64)), .second, .val (.long (c1.toInt64)), .second, .val (.int c2)] [(.int (1 : Int32))])) _
        refine Go.by (fun tt_ kk_ => XS.ifNo X.here hx rfl (hb hby at_309) rfl ((if0 _ _).trans (feq (by decide : ¬ ((1 : Int32) = (0 : Int32)))).1) kk_) ?_
        show Go p.tables e below (T.setTop (mkF m 312 #[.val (.int p0), .val (.int p1), .val (.int p2), .val (.int p3), .val (.long q4), .second, .val (.int p5), .val (.int (3 : Int32)), .val (.int c0), .val (.int c1), .val (.int c2), .val (.double (FP.l2d li)), .second, .val (.ref b28), .val (.ref b32), .val (.ref b36), .val (.ref rr), .val (.int (2 : Int32)), .val (.long (p2.toInt64)), .second, .val (.long (c1.toInt64)), .second, .val (.int c2)] [])) _
        refine Go.by (fun tt_ kk_ => XS.aload X.here hx rfl (hb hby at_312) rfl rfl kk_) ?_
        show Go p.tables e below (T.setTop (mkF m 314 #[.val (.int p0), .val (.int p1), .val (.int p2), .val (.int p3), .val (.long q4), .second, .val (.int p5), .val (.int (3 : Int32)), .val (.int c0), .val (.int c1), .val (.int c2), .val (.double (FP.l2d li)), .second, .val (.ref b28), .val (.ref b32), .val (.ref b36), .val (.ref rr), .val (.int (2 : Int32)), .val (.long (p2.toInt64)), .second, .val (.long (c1.toInt64)), .second, .val (.int c2)] [(.ref rr)])) _
        refine Go.by (fun tt_ kk_ => XS.iconst X.here hx rfl (hb hby at_314) kk_) ?_
        show Go p.tables e below (T.setTop (mkF m 315 #[.val (.int p0), .val (.int p1), .val (.int p2), .val (.int p3), .val (.long q4), .second, .val (.int p5), .val (.int (3 : Int32)), .val (.int c0), .val (.int c1), .val (.int c2), .val (.double (FP.l2d li)), .second, .val (.ref b28), .val (.ref b32), .val (.ref b36), .val (.ref rr), .val (.int (2 : Int32)), .val (.long (p2.toInt64)), .second, .val (.long (c1.toInt64)), .second, .val (.int c2)] [(.int (1 : Int32)), (.ref rr)])) _
        refine Go.by (fun tt_ kk_ => XS.iload X.here hx rfl (hb hby at_315) rfl kk_) ?_
        show Go p.tables e below (T.setTop (mkF m 317 #[.val (.int p0), .val (.int p1), .val (.int p2), .val (.int p3), .val (.long q4), .second, .val (.int p5), .val (.int (3 : Int32)), .val (.int c0), .val (.int c1), .val (.int c2), .val (.double (FP.l2d li)), .second, .val (.ref b28), .val (.ref b32), .val (.ref b36), .val (.ref rr), .val (.int (2 : Int32)), .val (.long (p2.toInt64)), .second, .val (.long (c1.toInt64)), .second, .val (.int c2)] [(.int (3 : Int32)), (.int (1 : Int32)), (.ref rr)])) _
        refine Go.by (fun tt_ kk_ => XS.iload X.here hx rfl (hb hby at_317) rfl kk_) ?_
        show Go p.tables e below (T.setTop (mkF m 319 #[.val (.int p0), .val (.int p1), .val (.int p2), .val (.int p3), .val (.long q4), .second, .val (.int p5), .val (.int (3 : Int32)), .val (.int c0), .val (.int c1), .val (.int c2), .val (.double (FP.l2d li)), .second, .val (.ref b28), .val (.ref b32), .val (.ref b36), .val (.ref rr), .val (.int (2 : Int32)), .val (.long (p2.toInt64)), .second, .val (.long (c1.toInt64)), .second, .val (.int c2)] [(.int (2 : Int32)), (.int (3 : Int32)), (.int (1 : Int32)), (.ref rr)])) _
        refine Go.by (fun tt_ kk_ => XS.dload X.here hx rfl (hb hby at_319) rfl kk_) ?_
        show Go p.tables e below (T.setTop (mkF m 321 #[.val (.int p0), .val (.int p1), .val (.int p2), .val (.int p3), .val (.long q4), .second, .val (.int p5), .val (.int (3 : Int32)), .val (.int c0), .val (.int c1), .val (.int c2), .val (.double (FP.l2d li)), .second, .val (.ref b28), .val (.ref b32), .val (.ref b36), .val (.ref rr), .val (.int (2 : Int32)), .val (.long (p2.toInt64)), .second, .val (.long (c1.toInt64)), .second, .val (.int c2)] [(.double (FP.l2d li)), (.int (2 : Int32)), (.int (3 : Int32)), (.int (1 : Int32)), (.ref rr)])) _
        refine Go.by (fun tt_ kk_ => XS.iload X.here hx rfl (hb hby at_321) rfl kk_) ?_
        show Go p.tables e below (T.setTop (mkF m 323 #[.val (.int p0), .val (.int p1), .val (.int p2), .val (.int p3), .val (.long q4), .second, .val (.int p5), .val (.int (3 : Int32)), .val (.int c0), .val (.int c1), .val (.int c2), .val (.double (FP.l2d li)), .second, .val (.ref b28), .val (.ref b32), .val (.ref b36), .val (.ref rr), .val (.int (2 : Int32)), .val (.long (p2.toInt64)), .second, .val (.long (c1.toInt64)), .second, .val (.int c2)] [(.int c2), (.double (FP.l2d li)), (.int (2 : Int32)), (.int (3 : Int32)), (.int (1 : Int32)), (.ref rr)])) _
        obtain ⟨_, _, ⟨T, L_, k_, n_⟩, -, X, ⟨Lc_, hQ, l_, y_, z_⟩, st⟩ := Jvm.LawKit.callS X hx (y := (⟨"com/example/pareto_helm/paretohelm/engine/BudgetBestCornerPinLaw", "check", "([DIIIDI)Z"⟩ : MethodName)) hown (mvT hZ (hw _ (List.mem_of_getElem? (i := 59) rfl))) (mvT hZ (hw _ (List.mem_of_getElem? (i := 60) rfl))) (mvT hZ (hw _ (List.mem_of_getElem? (i := 57) rfl))) (mvT hZ (hw _ (List.mem_of_getElem? (i := 61) rfl))) (by decide) (backOf (W := 0) (rm9b l Z a0 hw [] rr (1 : Int32) (3 : Int32) (2 : Int32) (FP.l2d li) c2 _ _ h38 n0 (Nat.le_trans Z0 K.1) V_rr (by decide) (by decide) (by decide) rfl) hZ (hw _ (List.mem_of_getElem? (i := 61) rfl)) (hw _ (List.mem_of_getElem? (i := 57) rfl)) (by decide) (by decide)) (g := (mkF m 323 #[.val (.int p0), .val (.int p1), .val (.int p2), .val (.int p3), .val (.long q4), .second, .val (.int p5), .val (.int (3 : Int32)), .val (.int c0), .val (.int c1), .val (.int c2), .val (.double (FP.l2d li)), .second, .val (.ref b28), .val (.ref b32), .val (.ref b36), .val (.ref rr), .val (.int (2 : Int32)), .val (.long (p2.toInt64)), .second, .val (.long (c1.toInt64)), .second, .val (.int c2)] [(.int c2), (.double (FP.l2d li)), (.int (2 : Int32)), (.int (3 : Int32)), (.int (1 : Int32)), (.ref rr)])) rfl (by rw [hml]; rfl) (argsL := [(.ref rr), (.int (1 : Int32)), (.int (3 : Int32)), (.int (2 : Int32)), (.double (FP.l2d li)), (.int c2)]) (rest := []) (lenOf pd_5 rfl) rfl (by show 2 * 0 + _ ≤ _; exact Nat.le_of_eq rfl) (hb hby at_323) (fun _ _ => ⟨rfl, eT, (by decide : 7 + 0 ≤ _), (by decide : 34 + 0 ≤ _)⟩)
        dsimp only [Pt.U, Pt.locs, Pt.cells, Pt.slots] at X l_ y_ z_ st hQ
        subst l_ y_ z_
        obtain ⟨rfl, Nq, eh⟩ := hQ
        have N := Fr.app N Nq
        have eT := eh
        refine Go.by st ?_
        show Go p.tables e below (T.setTop (mkF m 326 #[.val (.int p0), .val (.int p1), .val (.int p2), .val (.int p3), .val (.long q4), .second, .val (.int p5), .val (.int (3 : Int32)), .val (.int c0), .val (.int c1), .val (.int c2), .val (.double (FP.l2d li)), .second, .val (.ref b28), .val (.ref b32), .val (.ref b36), .val (.ref rr), .val (.int (2 : Int32)), .val (.long (p2.toInt64)), .second, .val (.long (c1.toInt64)), .second, .val (.int c2)] [(.int (1 : Int32))])) _
        refine Go.by (fun tt_ kk_ => XS.ifNo X.here hx rfl (hb hby at_326) rfl ((if0 _ _).trans (feq (by decide : ¬ ((1 : Int32) = (0 : Int32)))).1) kk_) ?_
        show Go p.tables e below (T.setTop (mkF m 329 #[.val (.int p0), .val (.int p1), .val (.int p2), .val (.int p3), .val (.long q4), .second, .val (.int p5), .val (.int (3 : Int32)), .val (.int c0), .val (.int c1), .val (.int c2), .val (.double (FP.l2d li)), .second, .val (.ref b28), .val (.ref b32), .val (.ref b36), .val (.ref rr), .val (.int (2 : Int32)), .val (.long (p2.toInt64)), .second, .val (.long (c1.toInt64)), .second, .val (.int c2)] [])) _
        refine Go.by (fun tt_ kk_ => XS.aload X.here hx rfl (hb hby at_329) rfl rfl kk_) ?_
        show Go p.tables e below (T.setTop (mkF m 331 #[.val (.int p0), .val (.int p1), .val (.int p2), .val (.int p3), .val (.long q4), .second, .val (.int p5), .val (.int (3 : Int32)), .val (.int c0), .val (.int c1), .val (.int c2), .val (.double (FP.l2d li)), .second, .val (.ref b28), .val (.ref b32), .val (.ref b36), .val (.ref rr), .val (.int (2 : Int32)), .val (.long (p2.toInt64)), .second, .val (.long (c1.toInt64)), .second, .val (.int c2)] [(.ref rr)])) _
        refine Go.by (fun tt_ kk_ => XS.iconst X.here hx rfl (hb hby at_331) kk_) ?_
        show Go p.tables e below (T.setTop (mkF m 332 #[.val (.int p0), .val (.int p1), .val (.int p2), .val (.int p3), .val (.long q4), .second, .val (.int p5), .val (.int (3 : Int32)), .val (.int c0), .val (.int c1), .val (.int c2), .val (.double (FP.l2d li)), .second, .val (.ref b28), .val (.ref b32), .val (.ref b36), .val (.ref rr), .val (.int (2 : Int32)), .val (.long (p2.toInt64)), .second, .val (.long (c1.toInt64)), .second, .val (.int c2)] [(.int (2 : Int32)), (.ref rr)])) _
        refine Go.by (fun tt_ kk_ => XS.iload X.here hx rfl (hb hby at_332) rfl kk_) ?_
        show Go p.tables e below (T.setTop (mkF m 334 #[.val (.int p0), .val (.int p1), .val (.int p2), .val (.int p3), .val (.long q4), .second, .val (.int p5), .val (.int (3 : Int32)), .val (.int c0), .val (.int c1), .val (.int c2), .val (.double (FP.l2d li)), .second, .val (.ref b28), .val (.ref b32), .val (.ref b36), .val (.ref rr), .val (.int (2 : Int32)), .val (.long (p2.toInt64)), .second, .val (.long (c1.toInt64)), .second, .val (.int c2)] [(.int (3 : Int32)), (.int (2 : Int32)), (.ref rr)])) _
        refine Go.by (fun tt_ kk_ => XS.iload X.here hx rfl (hb hby at_334) rfl kk_) ?_
        show Go p.tables e below (T.setTop (mkF m 336 #[.val (.int p0), .val (.int p1), .val (.int p2), .val (.int p3), .val (.long q4), .second, .val (.int p5), .val (.int (3 : Int32)), .val (.int c0), .val (.int c1), .val (.int c2), .val (.double (FP.l2d li)), .second, .val (.ref b28), .val (.ref b32), .val (.ref b36), .val (.ref rr), .val (.int (2 : Int32)), .val (.long (p2.toInt64)), .second, .val (.long (c1.toInt64)), .second, .val (.int c2)] [(.int (2 : Int32)), (.int (3 : Int32)), (.int (2 : Int32)), (.ref rr)])) _
        refine Go.by (fun tt_ kk_ => XS.dload X.here hx rfl (hb hby at_336) rfl kk_) ?_
        show Go p.tables e below (T.setTop (mkF m 338 #[.val (.int p0), .val (.int p1), .val (.int p2), .val (.int p3), .val (.long q4), .second, .val (.int p5), .val (.int (3 : Int32)), .val (.int c0), .val (.int c1), .val (.int c2), .val (.double (FP.l2d li)), .second, .val (.ref b28), .val (.ref b32), .val (.ref b36), .val (.ref rr), .val (.int (2 : Int32)), .val (.long (p2.toInt64)), .second, .val (.long (c1.toInt64)), .second, .val (.int c2)] [(.double (FP.l2d li)), (.int (2 : Int32)), (.int (3 : Int32)), (.int (2 : Int32)), (.ref rr)])) _
        refine Go.by (fun tt_ kk_ => XS.iload X.here hx rfl (hb hby at_338) rfl kk_) ?_
        show Go p.tables e below (T.setTop (mkF m 340 #[.val (.int p0), .val (.int p1), .val (.int p2), .val (.int p3), .val (.long q4), .second, .val (.int p5), .val (.int (3 : Int32)), .val (.int c0), .val (.int c1), .val (.int c2), .val (.double (FP.l2d li)), .second, .val (.ref b28), .val (.ref b32), .val (.ref b36), .val (.ref rr), .val (.int (2 : Int32)), .val (.long (p2.toInt64)), .second, .val (.long (c1.toInt64)), .second, .val (.int c2)] [(.int c2), (.double (FP.l2d li)), (.int (2 : Int32)), (.int (3 : Int32)), (.int (2 : Int32)), (.ref rr)])) _
        obtain ⟨_, _, ⟨T, L_, k_, n_⟩, -, X, ⟨Lc_, hQ, l_, y_, z_⟩, st⟩ := Jvm.LawKit.callS X hx (y := (⟨"com/example/pareto_helm/paretohelm/engine/BudgetBestCornerPinLaw", "check", "([DIIIDI)Z"⟩ : MethodName)) hown (mvT hZ (hw _ (List.mem_of_getElem? (i := 59) rfl))) (mvT hZ (hw _ (List.mem_of_getElem? (i := 60) rfl))) (mvT hZ (hw _ (List.mem_of_getElem? (i := 57) rfl))) (mvT hZ (hw _ (List.mem_of_getElem? (i := 61) rfl))) (by decide) (backOf (W := 0) (rm9a l Z a0 hw [] rr (2 : Int32) (3 : Int32) (2 : Int32) (FP.l2d li) c2 _ _ h38 n0 (Nat.le_trans Z0 K.1) V_rr (by decide) (by decide) rfl (own_divnn2 (own_lfin li).noNaN (Dy.i2d c2) (by omega)) rfl) hZ (hw _ (List.mem_of_getElem? (i := 61) rfl)) (hw _ (List.mem_of_getElem? (i := 57) rfl)) (by decide) (by decide)) (g := (mkF m 340 #[.val (.int p0), .val (.int p1), .val (.int p2), .val (.int p3), .val (.long q4), .second, .val (.int p5), .val (.int (3 : Int32)), .val (.int c0), .val (.int c1), .val (.int c2), .val (.double (FP.l2d li)), .second, .val (.ref b28), .val (.ref b32), .val (.ref b36), .val (.ref rr), .val (.int (2 : Int32)), .val (.long (p2.toInt64)), .second, .val (.long (c1.toInt64)), .second, .val (.int c2)] [(.int c2), (.double (FP.l2d li)), (.int (2 : Int32)), (.int (3 : Int32)), (.int (2 : Int32)), (.ref rr)])) rfl (by rw [hml]; rfl) (argsL := [(.ref rr), (.int (2 : Int32)), (.int (3 : Int32)), (.int (2 : Int32)), (.double (FP.l2d li)), (.int c2)]) (rest := []) (lenOf pd_5 rfl) rfl (by show 2 * 0 + _ ≤ _; exact Nat.le_of_eq rfl) (hb hby at_340) (fun _ _ => ⟨rfl, eT, (by decide : 7 + 0 ≤ _), (by decide : 34 + 0 ≤ _)⟩)
        dsimp only [Pt.U, Pt.locs, Pt.cells, Pt.slots] at X l_ y_ z_ st hQ
        subst l_ y_ z_
        obtain ⟨rfl, Nq, eh⟩ := hQ
        have N := Fr.app N Nq
        have eT := eh
        refine Go.by st ?_
        show Go p.tables e below (T.setTop (mkF m 343 #[.val (.int p0), .val (.int p1), .val (.int p2), .val (.int p3), .val (.long q4), .second, .val (.int p5), .val (.int (3 : Int32)), .val (.int c0), .val (.int c1), .val (.int c2), .val (.double (FP.l2d li)), .second, .val (.ref b28), .val (.ref b32), .val (.ref b36), .val (.ref rr), .val (.int (2 : Int32)), .val (.long (p2.toInt64)), .second, .val (.long (c1.toInt64)), .second, .val (.int c2)] [(.int (1 : Int32))])) _
        refine Go.by (fun tt_ kk_ => XS.ifNo X.here hx rfl (hb hby at_343) rfl ((if0 _ _).trans (feq (by decide : ¬ ((1 : Int32) = (0 : Int32)))).1) kk_) ?_
        show Go p.tables e below (T.setTop (mkF m 346 #[.val (.int p0), .val (.int p1), .val (.int p2), .val (.int p3), .val (.long q4), .second, .val (.int p5), .val (.int (3 : Int32)), .val (.int c0), .val (.int c1), .val (.int c2), .val (.double (FP.l2d li)), .second, .val (.ref b28), .val (.ref b32), .val (.ref b36), .val (.ref rr), .val (.int (2 : Int32)), .val (.long (p2.toInt64)), .second, .val (.long (c1.toInt64)), .second, .val (.int c2)] [])) _
        refine Go.by (fun tt_ kk_ => XS.iconst X.here hx rfl (hb hby at_346) kk_) ?_
        show Go p.tables e below (T.setTop (mkF m 347 #[.val (.int p0), .val (.int p1), .val (.int p2), .val (.int p3), .val (.long q4), .second, .val (.int p5), .val (.int (3 : Int32)), .val (.int c0), .val (.int c1), .val (.int c2), .val (.double (FP.l2d li)), .second, .val (.ref b28), .val (.ref b32), .val (.ref b36), .val (.ref rr), .val (.int (2 : Int32)), .val (.long (p2.toInt64)), .second, .val (.long (c1.toInt64)), .second, .val (.int c2)] [(.int (1 : Int32))])) _
        refine Go.by (fun tt_ kk_ => XS.goto X.here hx rfl (pc0 := 347) (pc' := 351) rfl (hb hby at_347) (by decide) (by decide) kk_) ?_
        show Go p.tables e below (T.setTop (mkF m 351 #[.val (.int p0), .val (.int p1), .val (.int p2), .val (.int p3), .val (.long q4), .second, .val (.int p5), .val (.int (3 : Int32)), .val (.int c0), .val (.int c1), .val (.int c2), .val (.double (FP.l2d li)), .second, .val (.ref b28), .val (.ref b32), .val (.ref b36), .val (.ref rr), .val (.int (2 : Int32)), .val (.long (p2.toInt64)), .second, .val (.long (c1.toInt64)), .second, .val (.int c2)] [(.int (1 : Int32))])) _
        exact Go.doneW X hS (by rw [eT]; exact hk) (v := some (.int (1 : Int32))) (fun h => by rw [Bd.returns] at h; cases h) Bd.notSynchronized (fun fs hr => retN X hx (z := (1 : Int32)) (t := .boolean) Bd.returns (by simp) (hb hby at_351) hr) (by rw [eT]; exact ⟨rfl, N⟩) (by decide) (by decide)
      · rw [if_neg hg2] at V_rr
        have hz : (if p2.toInt * c2.toInt < p3.toInt * c1.toInt then (1 : Int32) else 0) = (0 : Int32) := if_neg hg2
        have mA := own_mulb (A := 2147483648) (B := 1024) b_w2.1 b_w2.2 (show -1024 ≤ c1.toInt by omega) (by omega)
        have mB := own_mulb (A := 2147483648) (B := 1024) b_w1.1 b_w1.2 (show -1024 ≤ c2.toInt by omega) (by omega)
        obtain ⟨_, _, ⟨T, L_, k_, n_⟩, -, X, ⟨Lc_, hQ, l_, y_, z_⟩, st⟩ := Jvm.LawKit.callS X hx (y := (⟨"com/example/pareto_helm/paretohelm/engine/BudgetBestCornerPinLaw", "greater", "(JJJJ)Z"⟩ : MethodName)) hown (mvT hZ (hw _ (List.mem_of_getElem? (i := 55) rfl))) (mvT hZ (hw _ (List.mem_of_getElem? (i := 56) rfl))) (mvT hZ (hw _ (List.mem_of_getElem? (i := 57) rfl))) (mvT hZ (hw _ (List.mem_of_getElem? (i := 58) rfl))) (by decide) (backOf (W := 0) (rm8 l Z a0 hw [] (p3.toInt64) (c2.toInt64) (p2.toInt64) (c1.toInt64) p3.toInt c2.toInt p2.toInt c1.toInt h38 n0 (Nat.le_trans Z0 K.1) (own_i2l _) (own_i2l _) (own_i2l _) (own_i2l _) (by omega) (by omega)) hZ (hw _ (List.mem_of_getElem? (i := 58) rfl)) (hw _ (List.mem_of_getElem? (i := 57) rfl)) (by decide) (by decide)) (g := (mkF m 251 #[.val (.int p0), .val (.int p1), .val (.int p2), .val (.int p3), .val (.long q4), .second, .val (.int p5), .val (.int (3 : Int32)), .val (.int c0), .val (.int c1), .val (.int c2), .val (.double (FP.l2d li)), .second, .val (.ref b28), .val (.ref b32), .val (.ref b36), .val (.ref rr), .val (.int (1 : Int32)), .val (.long (p2.toInt64)), .second, .val (.long (c1.toInt64)), .second, .unset] [(.long (c1.toInt64)), (.long (p2.toInt64)), (.long (c2.toInt64)), (.long (p3.toInt64))])) rfl (by rw [hml]; rfl) (argsL := [(.long (p3.toInt64)), (.long (c2.toInt64)), (.long (p2.toInt64)), (.long (c1.toInt64))]) (rest := []) (lenOf pd_6 rfl) rfl (by show 2 * 0 + _ ≤ _; exact Nat.le_of_eq rfl) (hb hby at_251) (fun _ _ => ⟨rfl, eT, (by decide : 7 + 0 ≤ _), (by decide : 34 + 0 ≤ _)⟩)
        dsimp only [Pt.U, Pt.locs, Pt.cells, Pt.slots] at X l_ y_ z_ st hQ
        subst l_ y_ z_
        obtain ⟨e_v, Nq, eh⟩ := hQ
        rw [hz] at e_v
        subst e_v
        have N := Fr.app N Nq
        have eT := eh
        refine Go.by st ?_
        show Go p.tables e below (T.setTop (mkF m 254 #[.val (.int p0), .val (.int p1), .val (.int p2), .val (.int p3), .val (.long q4), .second, .val (.int p5), .val (.int (3 : Int32)), .val (.int c0), .val (.int c1), .val (.int c2), .val (.double (FP.l2d li)), .second, .val (.ref b28), .val (.ref b32), .val (.ref b36), .val (.ref rr), .val (.int (1 : Int32)), .val (.long (p2.toInt64)), .second, .val (.long (c1.toInt64)), .second, .unset] [(.int (0 : Int32))])) _
        refine Go.by (fun tt_ kk_ => XS.ifYes X.here hx rfl (pc0 := 254) (pc' := 260) rfl (hb hby at_254) rfl ((if0 _ _).trans (teq (rfl : (0 : Int32) = (0 : Int32))).1) (by decide) (by decide) kk_) ?_
        show Go p.tables e below (T.setTop (mkF m 260 #[.val (.int p0), .val (.int p1), .val (.int p2), .val (.int p3), .val (.long q4), .second, .val (.int p5), .val (.int (3 : Int32)), .val (.int c0), .val (.int c1), .val (.int c2), .val (.double (FP.l2d li)), .second, .val (.ref b28), .val (.ref b32), .val (.ref b36), .val (.ref rr), .val (.int (1 : Int32)), .val (.long (p2.toInt64)), .second, .val (.long (c1.toInt64)), .second, .unset] [])) _
        refine Go.by (fun tt_ kk_ => XS.aload X.here hx rfl (hb hby at_260) rfl rfl kk_) ?_
        show Go p.tables e below (T.setTop (mkF m 262 #[.val (.int p0), .val (.int p1), .val (.int p2), .val (.int p3), .val (.long q4), .second, .val (.int p5), .val (.int (3 : Int32)), .val (.int c0), .val (.int c1), .val (.int c2), .val (.double (FP.l2d li)), .second, .val (.ref b28), .val (.ref b32), .val (.ref b36), .val (.ref rr), .val (.int (1 : Int32)), .val (.long (p2.toInt64)), .second, .val (.long (c1.toInt64)), .second, .unset] [(.ref rr)])) _
        have Vo_ := V_rr
        obtain ⟨cl_, Ar_, q_, S_, N_, H_, G_⟩ := Vo_
        refine Go.by (X.arraylength hx (by rw [eT]; exact Ar_.1) (State.isArrayOf_alike hZ.alike Ar_.2.1) (g := (mkF m 262 #[.val (.int p0), .val (.int p1), .val (.int p2), .val (.int p3), .val (.long q4), .second, .val (.int p5), .val (.int (3 : Int32)), .val (.int c0), .val (.int c1), .val (.int c2), .val (.double (FP.l2d li)), .second, .val (.ref b28), .val (.ref b32), .val (.ref b36), .val (.ref rr), .val (.int (1 : Int32)), .val (.long (p2.toInt64)), .second, .val (.long (c1.toInt64)), .second, .unset] [(.ref rr)])) rfl rfl (hb hby at_262)) ?_
        rw [len_of S_ N_]
        show Go p.tables e below (T.setTop (mkF m 263 #[.val (.int p0), .val (.int p1), .val (.int p2), .val (.int p3), .val (.long q4), .second, .val (.int p5), .val (.int (3 : Int32)), .val (.int c0), .val (.int c1), .val (.int c2), .val (.double (FP.l2d li)), .second, .val (.ref b28), .val (.ref b32), .val (.ref b36), .val (.ref rr), .val (.int (1 : Int32)), .val (.long (p2.toInt64)), .second, .val (.long (c1.toInt64)), .second, .unset] [(.int (3 : Int32))])) _
        refine Go.by (fun tt_ kk_ => XS.iload X.here hx rfl (hb hby at_263) rfl kk_) ?_
        show Go p.tables e below (T.setTop (mkF m 265 #[.val (.int p0), .val (.int p1), .val (.int p2), .val (.int p3), .val (.long q4), .second, .val (.int p5), .val (.int (3 : Int32)), .val (.int c0), .val (.int c1), .val (.int c2), .val (.double (FP.l2d li)), .second, .val (.ref b28), .val (.ref b32), .val (.ref b36), .val (.ref rr), .val (.int (1 : Int32)), .val (.long (p2.toInt64)), .second, .val (.long (c1.toInt64)), .second, .unset] [(.int (3 : Int32)), (.int (3 : Int32))])) _
        refine Go.by (fun tt_ kk_ => XS.icmpYes X.here hx rfl (pc0 := 265) (pc' := 270) rfl (hb hby at_265) rfl (teq (rfl : (3 : Int32) = (3 : Int32))).1 (by decide) (by decide) kk_) ?_
        show Go p.tables e below (T.setTop (mkF m 270 #[.val (.int p0), .val (.int p1), .val (.int p2), .val (.int p3), .val (.long q4), .second, .val (.int p5), .val (.int (3 : Int32)), .val (.int c0), .val (.int c1), .val (.int c2), .val (.double (FP.l2d li)), .second, .val (.ref b28), .val (.ref b32), .val (.ref b36), .val (.ref rr), .val (.int (1 : Int32)), .val (.long (p2.toInt64)), .second, .val (.long (c1.toInt64)), .second, .unset] [])) _
        refine Go.by (fun tt_ kk_ => XS.iload X.here hx rfl (hb hby at_270) rfl kk_) ?_
        show Go p.tables e below (T.setTop (mkF m 272 #[.val (.int p0), .val (.int p1), .val (.int p2), .val (.int p3), .val (.long q4), .second, .val (.int p5), .val (.int (3 : Int32)), .val (.int c0), .val (.int c1), .val (.int c2), .val (.double (FP.l2d li)), .second, .val (.ref b28), .val (.ref b32), .val (.ref b36), .val (.ref rr), .val (.int (1 : Int32)), .val (.long (p2.toInt64)), .second, .val (.long (c1.toInt64)), .second, .unset] [(.int (1 : Int32))])) _
        refine Go.by (fun tt_ kk_ => XS.ifYes X.here hx rfl (pc0 := 272) (pc' := 280) rfl (hb hby at_272) rfl ((if0 _ _).trans (feq (by decide : ¬ ((1 : Int32) = (0 : Int32)))).2) (by decide) (by decide) kk_) ?_
        show Go p.tables e below (T.setTop (mkF m 280 #[.val (.int p0), .val (.int p1), .val (.int p2), .val (.int p3), .val (.long q4), .second, .val (.int p5), .val (.int (3 : Int32)), .val (.int c0), .val (.int c1), .val (.int c2), .val (.double (FP.l2d li)), .second, .val (.ref b28), .val (.ref b32), .val (.ref b36), .val (.ref rr), .val (.int (1 : Int32)), .val (.long (p2.toInt64)), .second, .val (.long (c1.toInt64)), .second, .unset] [])) _
        refine Go.by (fun tt_ kk_ => XS.iload X.here hx rfl (hb hby at_280) rfl kk_) ?_
        show Go p.tables e below (T.setTop (mkF m 282 #[.val (.int p0), .val (.int p1), .val (.int p2), .val (.int p3), .val (.long q4), .second, .val (.int p5), .val (.int (3 : Int32)), .val (.int c0), .val (.int c1), .val (.int c2), .val (.double (FP.l2d li)), .second, .val (.ref b28), .val (.ref b32), .val (.ref b36), .val (.ref rr), .val (.int (1 : Int32)), .val (.long (p2.toInt64)), .second, .val (.long (c1.toInt64)), .second, .unset] [(.int (1 : Int32))])) _
        refine Go.by (fun tt_ kk_ => XS.iconst X.here hx rfl (hb hby at_282) kk_) ?_
        show Go p.tables e below (T.setTop (mkF m 283 #[.val (.int p0), .val (.int p1), .val (.int p2), .val (.int p3), .val (.long q4), .second, .val (.int p5), .val (.int (3 : Int32)), .val (.int c0), .val (.int c1), .val (.int c2), .val (.double (FP.l2d li)), .second, .val (.ref b28), .val (.ref b32), .val (.ref b36), .val (.ref rr), .val (.int (1 : Int32)), .val (.long (p2.toInt64)), .second, .val (.long (c1.toInt64)), .second, .unset] [(.int (1 : Int32)), (.int (1 : Int32))])) _
        refine Go.by (fun tt_ kk_ => XS.icmpNo X.here hx rfl (hb hby at_283) rfl (teq (rfl : (1 : Int32) = (1 : Int32))).2 kk_) ?_
        show Go p.tables e below (T.setTop (mkF m 286 #[.val (.int p0), .val (.int p1), .val (.int p2), .val (.int p3), .val (.long q4), .second, .val (.int p5), .val (.int (3 : Int32)), .val (.int c0), .val (.int c1), .val (.int c2), .val (.double (FP.l2d li)), .second, .val (.ref b28), .val (.ref b32), .val (.ref b36), .val (.ref rr), .val (.int (1 : Int32)), .val (.long (p2.toInt64)), .second, .val (.long (c1.toInt64)), .second, .unset] [])) _
        refine Go.by (fun tt_ kk_ => XS.iload X.here hx rfl (hb hby at_286) rfl kk_) ?_
        show Go p.tables e below (T.setTop (mkF m 288 #[.val (.int p0), .val (.int p1), .val (.int p2), .val (.int p3), .val (.long q4), .second, .val (.int p5), .val (.int (3 : Int32)), .val (.int c0), .val (.int c1), .val (.int c2), .val (.double (FP.l2d li)), .second, .val (.ref b28), .val (.ref b32), .val (.ref b36), .val (.ref rr), .val (.int (1 : Int32)), .val (.long (p2.toInt64)), .second, .val (.long (c1.toInt64)), .second, .unset] [(.int c1)])) _
        refine Go.by (fun tt_ kk_ => XS.goto X.here hx rfl (pc0 := 288) (pc' := 293) rfl (hb hby at_288) (by decide) (by decide) kk_) ?_
        show Go p.tables e below (T.setTop (mkF m 293 #[.val (.int p0), .val (.int p1), .val (.int p2), .val (.int p3), .val (.long q4), .second, .val (.int p5), .val (.int (3 : Int32)), .val (.int c0), .val (.int c1), .val (.int c2), .val (.double (FP.l2d li)), .second, .val (.ref b28), .val (.ref b32), .val (.ref b36), .val (.ref rr), .val (.int (1 : Int32)), .val (.long (p2.toInt64)), .second, .val (.long (c1.toInt64)), .second, .unset] [(.int c1)])) _
        refine Go.by (fun tt_ kk_ => XS.istore X.here hx rfl (hb hby at_293) rfl (l' := #[.val (.int p0), .val (.int p1), .val (.int p2), .val (.int p3), .val (.long q4), .second, .val (.int p5), .val (.int (3 : Int32)), .val (.int c0), .val (.int c1), .val (.int c2), .val (.double (FP.l2d li)), .second, .val (.ref b28), .val (.ref b32), .val (.ref b36), .val (.ref rr), .val (.int (1 : Int32)), .val (.long (p2.toInt64)), .second, .val (.long (c1.toInt64)), .second, .val (.int c1)]) rfl kk_) ?_
        show Go p.tables e below (T.setTop (mkF m 295 #[.val (.int p0), .val (.int p1), .val (.int p2), .val (.int p3), .val (.long q4), .second, .val (.int p5), .val (.int (3 : Int32)), .val (.int c0), .val (.int c1), .val (.int c2), .val (.double (FP.l2d li)), .second, .val (.ref b28), .val (.ref b32), .val (.ref b36), .val (.ref rr), .val (.int (1 : Int32)), .val (.long (p2.toInt64)), .second, .val (.long (c1.toInt64)), .second, .val (.int c1)] [])) _
        refine Go.by (fun tt_ kk_ => XS.aload X.here hx rfl (hb hby at_295) rfl rfl kk_) ?_
        show Go p.tables e below (T.setTop (mkF m 297 #[.val (.int p0), .val (.int p1), .val (.int p2), .val (.int p3), .val (.long q4), .second, .val (.int p5), .val (.int (3 : Int32)), .val (.int c0), .val (.int c1), .val (.int c2), .val (.double (FP.l2d li)), .second, .val (.ref b28), .val (.ref b32), .val (.ref b36), .val (.ref rr), .val (.int (1 : Int32)), .val (.long (p2.toInt64)), .second, .val (.long (c1.toInt64)), .second, .val (.int c1)] [(.ref rr)])) _
        refine Go.by (fun tt_ kk_ => XS.iconst X.here hx rfl (hb hby at_297) kk_) ?_
        show Go p.tables e below (T.setTop (mkF m 298 #[.val (.int p0), .val (.int p1), .val (.int p2), .val (.int p3), .val (.long q4), .second, .val (.int p5), .val (.int (3 : Int32)), .val (.int c0), .val (.int c1), .val (.int c2), .val (.double (FP.l2d li)), .second, .val (.ref b28), .val (.ref b32), .val (.ref b36), .val (.ref rr), .val (.int (1 : Int32)), .val (.long (p2.toInt64)), .second, .val (.long (c1.toInt64)), .second, .val (.int c1)] [(.int (0 : Int32)), (.ref rr)])) _
        refine Go.by (fun tt_ kk_ => XS.iload X.here hx rfl (hb hby at_298) rfl kk_) ?_
        show Go p.tables e below (T.setTop (mkF m 300 #[.val (.int p0), .val (.int p1), .val (.int p2), .val (.int p3), .val (.long q4), .second, .val (.int p5), .val (.int (3 : Int32)), .val (.int c0), .val (.int c1), .val (.int c2), .val (.double (FP.l2d li)), .second, .val (.ref b28), .val (.ref b32), .val (.ref b36), .val (.ref rr), .val (.int (1 : Int32)), .val (.long (p2.toInt64)), .second, .val (.long (c1.toInt64)), .second, .val (.int c1)] [(.int (3 : Int32)), (.int (0 : Int32)), (.ref rr)])) _
        refine Go.by (fun tt_ kk_ => XS.iload X.here hx rfl (hb hby at_300) rfl kk_) ?_
        show Go p.tables e below (T.setTop (mkF m 302 #[.val (.int p0), .val (.int p1), .val (.int p2), .val (.int p3), .val (.long q4), .second, .val (.int p5), .val (.int (3 : Int32)), .val (.int c0), .val (.int c1), .val (.int c2), .val (.double (FP.l2d li)), .second, .val (.ref b28), .val (.ref b32), .val (.ref b36), .val (.ref rr), .val (.int (1 : Int32)), .val (.long (p2.toInt64)), .second, .val (.long (c1.toInt64)), .second, .val (.int c1)] [(.int (1 : Int32)), (.int (3 : Int32)), (.int (0 : Int32)), (.ref rr)])) _
        refine Go.by (fun tt_ kk_ => XS.dload X.here hx rfl (hb hby at_302) rfl kk_) ?_
        show Go p.tables e below (T.setTop (mkF m 304 #[.val (.int p0), .val (.int p1), .val (.int p2), .val (.int p3), .val (.long q4), .second, .val (.int p5), .val (.int (3 : Int32)), .val (.int c0), .val (.int c1), .val (.int c2), .val (.double (FP.l2d li)), .second, .val (.ref b28), .val (.ref b32), .val (.ref b36), .val (.ref rr), .val (.int (1 : Int32)), .val (.long (p2.toInt64)), .second, .val (.long (c1.toInt64)), .second, .val (.int c1)] [(.double (FP.l2d li)), (.int (1 : Int32)), (.int (3 : Int32)), (.int (0 : Int32)), (.ref rr)])) _
        refine Go.by (fun tt_ kk_ => XS.iload X.here hx rfl (hb hby at_304) rfl kk_) ?_
        show Go p.tables e below (T.setTop (mkF m 306 #[.val (.int p0), .val (.int p1), .val (.int p2), .val (.int p3), .val (.long q4), .second, .val (.int p5), .val (.int (3 : Int32)), .val (.int c0), .val (.int c1), .val (.int c2), .val (.double (FP.l2d li)), .second, .val (.ref b28), .val (.ref b32), .val (.ref b36), .val (.ref rr), .val (.int (1 : Int32)), .val (.long (p2.toInt64)), .second, .val (.long (c1.toInt64)), .second, .val (.int c1)] [(.int c1), (.double (FP.l2d li)), (.int (1 : Int32)), (.int (3 : Int32)), (.int (0 : Int32)), (.ref rr)])) _
        obtain ⟨_, _, ⟨T, L_, k_, n_⟩, -, X, ⟨Lc_, hQ, l_, y_, z_⟩, st⟩ := Jvm.LawKit.callS X hx (y := (⟨"com/example/pareto_helm/paretohelm/engine/BudgetBestCornerPinLaw", "check", "([DIIIDI)Z"⟩ : MethodName)) hown (mvT hZ (hw _ (List.mem_of_getElem? (i := 59) rfl))) (mvT hZ (hw _ (List.mem_of_getElem? (i := 60) rfl))) (mvT hZ (hw _ (List.mem_of_getElem? (i := 57) rfl))) (mvT hZ (hw _ (List.mem_of_getElem? (i := 61) rfl))) (by decide) (backOf (W := 0) (rm9b l Z a0 hw [] rr (0 : Int32) (3 : Int32) (1 : Int32) (FP.l2d li) c1 _ _ h38 n0 (Nat.le_trans Z0 K.1) V_rr (by decide) (by decide) (by decide) rfl) hZ (hw _ (List.mem_of_getElem? (i := 61) rfl)) (hw _ (List.mem_of_getElem? (i := 57) rfl)) (by decide) (by decide)) (g := (mkF m 306 #[.val (.int p0), .val (.int p1), .val (.int p2), .val (.int p3), .val (.long q4), .second, .val (.int p5), .val (.int (3 : Int32)), .val (.int c0), .val (.int c1), .val (.int c2), .val (.double (FP.l2d li)), .second, .val (.ref b28), .val (.ref b32), .val (.ref b36), .val (.ref rr), .val (.int (1 : Int32)), .val (.long (p2.toInt64)), .second, .val (.long (c1.toInt64)), .second, .val (.int c1)] [(.int c1), (.double (FP.l2d li)), (.int (1 : Int32)), (.int (3 : Int32)), (.int (0 : Int32)), (.ref rr)])) rfl (by rw [hml]; rfl) (argsL := [(.ref rr), (.int (0 : Int32)), (.int (3 : Int32)), (.int (1 : Int32)), (.double (FP.l2d li)), (.int c1)]) (rest := []) (lenOf pd_5 rfl) rfl (by show 2 * 0 + _ ≤ _; exact Nat.le_of_eq rfl) (hb hby at_306) (fun _ _ => ⟨rfl, eT, (by decide : 7 + 0 ≤ _), (by decide : 34 + 0 ≤ _)⟩)
        dsimp only [Pt.U, Pt.locs, Pt.cells, Pt.slots] at X l_ y_ z_ st hQ
        subst l_ y_ z_
        obtain ⟨rfl, Nq, eh⟩ := hQ
        have N := Fr.app N Nq
        have eT := eh
        refine Go.by st ?_
        show Go p.tables e below (T.setTop (mkF m 309 #[.val (.int p0), .val (.int p1), .val (.int p2), .val (.int p3), .val (.long q4), .second, .val (.int p5), .val (.int (3 : Int32)), .val (.int c0), .val (.int c1), .val (.int c2), .val (.double (FP.l2d li)), .second, .val (.ref b28), .val (.ref b32), .val (.ref b36), .val (.ref rr), .val (.int (1 : Int32)), .val (.long (p2.toInt64)), .second, .val (.long (c1.toInt64)), .second, .val (.int c1)] [(.int (1 : Int32))])) _
        refine Go.by (fun tt_ kk_ => XS.ifNo X.here hx rfl (hb hby at_309) rfl ((if0 _ _).trans (feq (by decide : ¬ ((1 : Int32) = (0 : Int32)))).1) kk_) ?_
        show Go p.tables e below (T.setTop (mkF m 312 #[.val (.int p0), .val (.int p1), .val (.int p2), .val (.int p3), .val (.long q4), .second, .val (.int p5), .val (.int (3 : Int32)), .val (.int c0), .val (.int c1), .val (.int c2), .val (.double (FP.l2d li)), .second, .val (.ref b28), .val (.ref b32), .val (.ref b36), .val (.ref rr), .val (.int (1 : Int32)), .val (.long (p2.toInt64)), .second, .val (.long (c1.toInt64)), .second, .val (.int c1)] [])) _
        refine Go.by (fun tt_ kk_ => XS.aload X.here hx rfl (hb hby at_312) rfl rfl kk_) ?_
        show Go p.tables e below (T.setTop (mkF m 314 #[.val (.int p0), .val (.int p1), .val (.int p2), .val (.int p3), .val (.long q4), .second, .val (.int p5), .val (.int (3 : Int32)), .val (.int c0), .val (.int c1), .val (.int c2), .val (.double (FP.l2d li)), .second, .val (.ref b28), .val (.ref b32), .val (.ref b36), .val (.ref rr), .val (.int (1 : Int32)), .val (.long (p2.toInt64)), .second, .val (.long (c1.toInt64)), .second, .val (.int c1)] [(.ref rr)])) _
        refine Go.by (fun tt_ kk_ => XS.iconst X.here hx rfl (hb hby at_314) kk_) ?_
        show Go p.tables e below (T.setTop (mkF m 315 #[.val (.int p0), .val (.int p1), .val (.int p2), .val (.int p3), .val (.long q4), .second, .val (.int p5), .val (.int (3 : Int32)), .val (.int c0), .val (.int c1), .val (.int c2), .val (.double (FP.l2d li)), .second, .val (.ref b28), .val (.ref b32), .val (.ref b36), .val (.ref rr), .val (.int (1 : Int32)), .val (.long (p2.toInt64)), .second, .val (.long (c1.toInt64)), .second, .val (.int c1)] [(.int (1 : Int32)), (.ref rr)])) _
        refine Go.by (fun tt_ kk_ => XS.iload X.here hx rfl (hb hby at_315) rfl kk_) ?_
        show Go p.tables e below (T.setTop (mkF m 317 #[.val (.int p0), .val (.int p1), .val (.int p2), .val (.int p3), .val (.long q4), .second, .val (.int p5), .val (.int (3 : Int32)), .val (.int c0), .val (.int c1), .val (.int c2), .val (.double (FP.l2d li)), .second, .val (.ref b28), .val (.ref b32), .val (.ref b36), .val (.ref rr), .val (.int (1 : Int32)), .val (.long (p2.toInt64)), .second, .val (.long (c1.toInt64)), .second, .val (.int c1)] [(.int (3 : Int32)), (.int (1 : Int32)), (.ref rr)])) _
        refine Go.by (fun tt_ kk_ => XS.iload X.here hx rfl (hb hby at_317) rfl kk_) ?_
        show Go p.tables e below (T.setTop (mkF m 319 #[.val (.int p0), .val (.int p1), .val (.int p2), .val (.int p3), .val (.long q4), .second, .val (.int p5), .val (.int (3 : Int32)), .val (.int c0), .val (.int c1), .val (.int c2), .val (.double (FP.l2d li)), .second, .val (.ref b28), .val (.ref b32), .val (.ref b36), .val (.ref rr), .val (.int (1 : Int32)), .val (.long (p2.toInt64)), .second, .val (.long (c1.toInt64)), .second, .val (.int c1)] [(.int (1 : Int32)), (.int (3 : Int32)), (.int (1 : Int32)), (.ref rr)])) _
        refine Go.by (fun tt_ kk_ => XS.dload X.here hx rfl (hb hby at_319) rfl kk_) ?_
        show Go p.tables e below (T.setTop (mkF m 321 #[.val (.int p0), .val (.int p1), .val (.int p2), .val (.int p3), .val (.long q4), .second, .val (.int p5), .val (.int (3 : Int32)), .val (.int c0), .val (.int c1), .val (.int c2), .val (.double (FP.l2d li)), .second, .val (.ref b28), .val (.ref b32), .val (.ref b36), .val (.ref rr), .val (.int (1 : Int32)), .val (.long (p2.toInt64)), .second, .val (.long (c1.toInt64)), .second, .val (.int c1)] [(.double (FP.l2d li)), (.int (1 : Int32)), (.int (3 : Int32)), (.int (1 : Int32)), (.ref rr)])) _
        refine Go.by (fun tt_ kk_ => XS.iload X.here hx rfl (hb hby at_321) rfl kk_) ?_
        show Go p.tables e below (T.setTop (mkF m 323 #[.val (.int p0), .val (.int p1), .val (.int p2), .val (.int p3), .val (.long q4), .second, .val (.int p5), .val (.int (3 : Int32)), .val (.int c0), .val (.int c1), .val (.int c2), .val (.double (FP.l2d li)), .second, .val (.ref b28), .val (.ref b32), .val (.ref b36), .val (.ref rr), .val (.int (1 : Int32)), .val (.long (p2.toInt64)), .second, .val (.long (c1.toInt64)), .second, .val (.int c1)] [(.int c1), (.double (FP.l2d li)), (.int (1 : Int32)), (.int (3 : Int32)), (.int (1 : Int32)), (.ref rr)])) _
        obtain ⟨_, _, ⟨T, L_, k_, n_⟩, -, X, ⟨Lc_, hQ, l_, y_, z_⟩, st⟩ := Jvm.LawKit.callS X hx (y := (⟨"com/example/pareto_helm/paretohelm/engine/BudgetBestCornerPinLaw", "check", "([DIIIDI)Z"⟩ : MethodName)) hown (mvT hZ (hw _ (List.mem_of_getElem? (i := 59) rfl))) (mvT hZ (hw _ (List.mem_of_getElem? (i := 60) rfl))) (mvT hZ (hw _ (List.mem_of_getElem? (i := 57) rfl))) (mvT hZ (hw _ (List.mem_of_getElem? (i := 61) rfl))) (by decide) (backOf (W := 0) (rm9a l Z a0 hw [] rr (1 : Int32) (3 : Int32) (1 : Int32) (FP.l2d li) c1 _ _ h38 n0 (Nat.le_trans Z0 K.1) V_rr (by decide) (by decide) rfl (own_divnn2 (own_lfin li).noNaN (Dy.i2d c1) (by omega)) rfl) hZ (hw _ (List.mem_of_getElem? (i := 61) rfl)) (hw _ (List.mem_of_getElem? (i := 57) rfl)) (by decide) (by decide)) (g := (mkF m 323 #[.val (.int p0), .val (.int p1), .val (.int p2), .val (.int p3), .val (.long q4), .second, .val (.int p5), .val (.int (3 : Int32)), .val (.int c0), .val (.int c1), .val (.int c2), .val (.double (FP.l2d li)), .second, .val (.ref b28), .val (.ref b32), .val (.ref b36), .val (.ref rr), .val (.int (1 : Int32)), .val (.long (p2.toInt64)), .second, .val (.long (c1.toInt64)), .second, .val (.int c1)] [(.int c1), (.double (FP.l2d li)), (.int (1 : Int32)), (.int (3 : Int32)), (.int (1 : Int32)), (.ref rr)])) rfl (by rw [hml]; rfl) (argsL := [(.ref rr), (.int (1 : Int32)), (.int (3 : Int32)), (.int (1 : Int32)), (.double (FP.l2d li)), (.int c1)]) (rest := []) (lenOf pd_5 rfl) rfl (by show 2 * 0 + _ ≤ _; exact Nat.le_of_eq rfl) (hb hby at_323) (fun _ _ => ⟨rfl, eT, (by decide : 7 + 0 ≤ _), (by decide : 34 + 0 ≤ _)⟩)
        dsimp only [Pt.U, Pt.locs, Pt.cells, Pt.slots] at X l_ y_ z_ st hQ
        subst l_ y_ z_
        obtain ⟨rfl, Nq, eh⟩ := hQ
        have N := Fr.app N Nq
        have eT := eh
        refine Go.by st ?_
        show Go p.tables e below (T.setTop (mkF m 326 #[.val (.int p0), .val (.int p1), .val (.int p2), .val (.int p3), .val (.long q4), .second, .val (.int p5), .val (.int (3 : Int32)), .val (.int c0), .val (.int c1), .val (.int c2), .val (.double (FP.l2d li)), .second, .val (.ref b28), .val (.ref b32), .val (.ref b36), .val (.ref rr), .val (.int (1 : Int32)), .val (.long (p2.toInt64)), .second, .val (.long (c1.toInt64)), .second, .val (.int c1)] [(.int (1 : Int32))])) _
        refine Go.by (fun tt_ kk_ => XS.ifNo X.here hx rfl (hb hby at_326) rfl ((if0 _ _).trans (feq (by decide : ¬ ((1 : Int32) = (0 : Int32)))).1) kk_) ?_
        show Go p.tables e below (T.setTop (mkF m 329 #[.val (.int p0), .val (.int p1), .val (.int p2), .val (.int p3), .val (.long q4), .second, .val (.int p5), .val (.int (3 : Int32)), .val (.int c0), .val (.int c1), .val (.int c2), .val (.double (FP.l2d li)), .second, .val (.ref b28), .val (.ref b32), .val (.ref b36), .val (.ref rr), .val (.int (1 : Int32)), .val (.long (p2.toInt64)), .second, .val (.long (c1.toInt64)), .second, .val (.int c1)] [])) _
        refine Go.by (fun tt_ kk_ => XS.aload X.here hx rfl (hb hby at_329) rfl rfl kk_) ?_
        show Go p.tables e below (T.setTop (mkF m 331 #[.val (.int p0), .val (.int p1), .val (.int p2), .val (.int p3), .val (.long q4), .second, .val (.int p5), .val (.int (3 : Int32)), .val (.int c0), .val (.int c1), .val (.int c2), .val (.double (FP.l2d li)), .second, .val (.ref b28), .val (.ref b32), .val (.ref b36), .val (.ref rr), .val (.int (1 : Int32)), .val (.long (p2.toInt64)), .second, .val (.long (c1.toInt64)), .second, .val (.int c1)] [(.ref rr)])) _
        refine Go.by (fun tt_ kk_ => XS.iconst X.here hx rfl (hb hby at_331) kk_) ?_
        show Go p.tables e below (T.setTop (mkF m 332 #[.val (.int p0), .val (.int p1), .val (.int p2), .val (.int p3), .val (.long q4), .second, .val (.int p5), .val (.int (3 : Int32)), .val (.int c0), .val (.int c1), .val (.int c2), .val (.double (FP.l2d li)), .second, .val (.ref b28), .val (.ref b32), .val (.ref b36), .val (.ref rr), .val (.int (1 : Int32)), .val (.long (p2.toInt64)), .second, .val (.long (c1.toInt64)), .second, .val (.int c1)] [(.int (2 : Int32)), (.ref rr)])) _
        refine Go.by (fun tt_ kk_ => XS.iload X.here hx rfl (hb hby at_332) rfl kk_) ?_
        show Go p.tables e below (T.setTop (mkF m 334 #[.val (.int p0), .val (.int p1), .val (.int p2), .val (.int p3), .val (.long q4), .second, .val (.int p5), .val (.int (3 : Int32)), .val (.int c0), .val (.int c1), .val (.int c2), .val (.double (FP.l2d li)), .second, .val (.ref b28), .val (.ref b32), .val (.ref b36), .val (.ref rr), .val (.int (1 : Int32)), .val (.long (p2.toInt64)), .second, .val (.long (c1.toInt64)), .second, .val (.int c1)] [(.int (3 : Int32)), (.int (2 : Int32)), (.ref rr)])) _
        refine Go.by (fun tt_ kk_ => XS.iload X.here hx rfl (hb hby at_334) rfl kk_) ?_
        show Go p.tables e below (T.setTop (mkF m 336 #[.val (.int p0), .val (.int p1), .val (.int p2), .val (.int p3), .val (.long q4), .second, .val (.int p5), .val (.int (3 : Int32)), .val (.int c0), .val (.int c1), .val (.int c2), .val (.double (FP.l2d li)), .second, .val (.ref b28), .val (.ref b32), .val (.ref b36), .val (.ref rr), .val (.int (1 : Int32)), .val (.long (p2.toInt64)), .second, .val (.long (c1.toInt64)), .second, .val (.int c1)] [(.int (1 : Int32)), (.int (3 : Int32)), (.int (2 : Int32)), (.ref rr)])) _
        refine Go.by (fun tt_ kk_ => XS.dload X.here hx rfl (hb hby at_336) rfl kk_) ?_
        show Go p.tables e below (T.setTop (mkF m 338 #[.val (.int p0), .val (.int p1), .val (.int p2), .val (.int p3), .val (.long q4), .second, .val (.int p5), .val (.int (3 : Int32)), .val (.int c0), .val (.int c1), .val (.int c2), .val (.double (FP.l2d li)), .second, .val (.ref b28), .val (.ref b32), .val (.ref b36), .val (.ref rr), .val (.int (1 : Int32)), .val (.long (p2.toInt64)), .second, .val (.long (c1.toInt64)), .second, .val (.int c1)] [(.double (FP.l2d li)), (.int (1 : Int32)), (.int (3 : Int32)), (.int (2 : Int32)), (.ref rr)])) _
        refine Go.by (fun tt_ kk_ => XS.iload X.here hx rfl (hb hby at_338) rfl kk_) ?_
        show Go p.tables e below (T.setTop (mkF m 340 #[.val (.int p0), .val (.int p1), .val (.int p2), .val (.int p3), .val (.long q4), .second, .val (.int p5), .val (.int (3 : Int32)), .val (.int c0), .val (.int c1), .val (.int c2), .val (.double (FP.l2d li)), .second, .val (.ref b28), .val (.ref b32), .val (.ref b36), .val (.ref rr), .val (.int (1 : Int32)), .val (.long (p2.toInt64)), .second, .val (.long (c1.toInt64)), .second, .val (.int c1)] [(.int c1), (.double (FP.l2d li)), (.int (1 : Int32)), (.int (3 : Int32)), (.int (2 : Int32)), (.ref rr)])) _
        obtain ⟨_, _, ⟨T, L_, k_, n_⟩, -, X, ⟨Lc_, hQ, l_, y_, z_⟩, st⟩ := Jvm.LawKit.callS X hx (y := (⟨"com/example/pareto_helm/paretohelm/engine/BudgetBestCornerPinLaw", "check", "([DIIIDI)Z"⟩ : MethodName)) hown (mvT hZ (hw _ (List.mem_of_getElem? (i := 59) rfl))) (mvT hZ (hw _ (List.mem_of_getElem? (i := 60) rfl))) (mvT hZ (hw _ (List.mem_of_getElem? (i := 57) rfl))) (mvT hZ (hw _ (List.mem_of_getElem? (i := 61) rfl))) (by decide) (backOf (W := 0) (rm9b l Z a0 hw [] rr (2 : Int32) (3 : Int32) (1 : Int32) (FP.l2d li) c1 _ _ h38 n0 (Nat.le_trans Z0 K.1) V_rr (by decide) (by decide) (by decide) rfl) hZ (hw _ (List.mem_of_getElem? (i := 61) rfl)) (hw _ (List.mem_of_getElem? (i := 57) rfl)) (by decide) (by decide)) (g := (mkF m 340 #[.val (.int p0), .val (.int p1), .val (.int p2), .val (.int p3), .val (.long q4), .second, .val (.int p5), .val (.int (3 : Int32)), .val (.int c0), .val (.int c1), .val (.int c2), .val (.double (FP.l2d li)), .second, .val (.ref b28), .val (.ref b32), .val (.ref b36), .val (.ref rr), .val (.int (1 : Int32)), .val (.long (p2.toInt64)), .second, .val (.long (c1.toInt64)), .second, .val (.int c1)] [(.int c1), (.double (FP.l2d li)), (.int (1 : Int32)), (.int (3 : Int32)), (.int (2 : Int32)), (.ref rr)])) rfl (by rw [hml]; rfl) (argsL := [(.ref rr), (.int (2 : Int32)), (.int (3 : Int32)), (.int (1 : Int32)), (.double (FP.l2d li)), (.int c1)]) (rest := []) (lenOf pd_5 rfl) rfl (by show 2 * 0 + _ ≤ _; exact Nat.le_of_eq rfl) (hb hby at_340) (fun _ _ => ⟨rfl, eT, (by decide : 7 + 0 ≤ _), (by decide : 34 + 0 ≤ _)⟩)
        dsimp only [Pt.U, Pt.locs, Pt.cells, Pt.slots] at X l_ y_ z_ st hQ
        subst l_ y_ z_
        obtain ⟨rfl, Nq, eh⟩ := hQ
        have N := Fr.app N Nq
        have eT := eh
        refine Go.by st ?_
        show Go p.tables e below (T.setTop (mkF m 343 #[.val (.int p0), .val (.int p1), .val (.int p2), .val (.int p3), .val (.long q4), .second, .val (.int p5), .val (.int (3 : Int32)), .val (.int c0), .val (.int c1), .val (.int c2), .val (.double (FP.l2d li)), .second, .val (.ref b28), .val (.ref b32), .val (.ref b36), .val (.ref rr), .val (.int (1 : Int32)), .val (.long (p2.toInt64)), .second, .val (.long (c1.toInt64)), .second, .val (.int c1)] [(.int (1 : Int32))])) _
        refine Go.by (fun tt_ kk_ => XS.ifNo X.here hx rfl (hb hby at_343) rfl ((if0 _ _).trans (feq (by decide : ¬ ((1 : Int32) = (0 : Int32)))).1) kk_) ?_
        show Go p.tables e below (T.setTop (mkF m 346 #[.val (.int p0), .val (.int p1), .val (.int p2), .val (.int p3), .val (.long q4), .second, .val (.int p5), .val (.int (3 : Int32)), .val (.int c0), .val (.int c1), .val (.int c2), .val (.double (FP.l2d li)), .second, .val (.ref b28), .val (.ref b32), .val (.ref b36), .val (.ref rr), .val (.int (1 : Int32)), .val (.long (p2.toInt64)), .second, .val (.long (c1.toInt64)), .second, .val (.int c1)] [])) _
        refine Go.by (fun tt_ kk_ => XS.iconst X.here hx rfl (hb hby at_346) kk_) ?_
        show Go p.tables e below (T.setTop (mkF m 347 #[.val (.int p0), .val (.int p1), .val (.int p2), .val (.int p3), .val (.long q4), .second, .val (.int p5), .val (.int (3 : Int32)), .val (.int c0), .val (.int c1), .val (.int c2), .val (.double (FP.l2d li)), .second, .val (.ref b28), .val (.ref b32), .val (.ref b36), .val (.ref rr), .val (.int (1 : Int32)), .val (.long (p2.toInt64)), .second, .val (.long (c1.toInt64)), .second, .val (.int c1)] [(.int (1 : Int32))])) _
        refine Go.by (fun tt_ kk_ => XS.goto X.here hx rfl (pc0 := 347) (pc' := 351) rfl (hb hby at_347) (by decide) (by decide) kk_) ?_
        show Go p.tables e below (T.setTop (mkF m 351 #[.val (.int p0), .val (.int p1), .val (.int p2), .val (.int p3), .val (.long q4), .second, .val (.int p5), .val (.int (3 : Int32)), .val (.int c0), .val (.int c1), .val (.int c2), .val (.double (FP.l2d li)), .second, .val (.ref b28), .val (.ref b32), .val (.ref b36), .val (.ref rr), .val (.int (1 : Int32)), .val (.long (p2.toInt64)), .second, .val (.long (c1.toInt64)), .second, .val (.int c1)] [(.int (1 : Int32))])) _
        exact Go.doneW X hS (by rw [eT]; exact hk) (v := some (.int (1 : Int32))) (fun h => by rw [Bd.returns] at h; cases h) Bd.notSynchronized (fun fs hr => retN X hx (z := (1 : Int32)) (t := .boolean) Bd.returns (by simp) (hb hby at_351) hr) (by rw [eT]; exact ⟨rfl, N⟩) (by decide) (by decide)
    · rw [if_neg hg1] at V_rr
      have hz : (if p1.toInt * c1.toInt < p2.toInt * c0.toInt then (1 : Int32) else 0) = (0 : Int32) := if_neg hg1
      have mA := own_mulb (A := 2147483648) (B := 1024) b_w1.1 b_w1.2 (show -1024 ≤ c0.toInt by omega) (by omega)
      have mB := own_mulb (A := 2147483648) (B := 1024) b_w0.1 b_w0.2 (show -1024 ≤ c1.toInt by omega) (by omega)
      obtain ⟨_, _, ⟨T, L_, k_, n_⟩, -, X, ⟨Lc_, hQ, l_, y_, z_⟩, st⟩ := Jvm.LawKit.callS X hx (y := (⟨"com/example/pareto_helm/paretohelm/engine/BudgetBestCornerPinLaw", "greater", "(JJJJ)Z"⟩ : MethodName)) hown (mvT hZ (hw _ (List.mem_of_getElem? (i := 55) rfl))) (mvT hZ (hw _ (List.mem_of_getElem? (i := 56) rfl))) (mvT hZ (hw _ (List.mem_of_getElem? (i := 57) rfl))) (mvT hZ (hw _ (List.mem_of_getElem? (i := 58) rfl))) (by decide) (backOf (W := 0) (rm8 l Z a0 hw [] (p2.toInt64) (c1.toInt64) (p1.toInt64) (c0.toInt64) p2.toInt c1.toInt p1.toInt c0.toInt h38 n0 (Nat.le_trans Z0 K.1) (own_i2l _) (own_i2l _) (own_i2l _) (own_i2l _) (by omega) (by omega)) hZ (hw _ (List.mem_of_getElem? (i := 58) rfl)) (hw _ (List.mem_of_getElem? (i := 57) rfl)) (by decide) (by decide)) (g := (mkF m 218 #[.val (.int p0), .val (.int p1), .val (.int p2), .val (.int p3), .val (.long q4), .second, .val (.int p5), .val (.int (3 : Int32)), .val (.int c0), .val (.int c1), .val (.int c2), .val (.double (FP.l2d li)), .second, .val (.ref b28), .val (.ref b32), .val (.ref b36), .val (.ref rr), .val (.int (0 : Int32)), .val (.long (p1.toInt64)), .second, .val (.long (c0.toInt64)), .second, .unset] [(.long (c0.toInt64)), (.long (p1.toInt64)), (.long (c1.toInt64)), (.long (p2.toInt64))])) rfl (by rw [hml]; rfl) (argsL := [(.long (p2.toInt64)), (.long (c1.toInt64)), (.long (p1.toInt64)), (.long (c0.toInt64))]) (rest := []) (lenOf pd_6 rfl) rfl (by show 2 * 0 + _ ≤ _; exact Nat.le_of_eq rfl) (hb hby at_218) (fun _ _ => ⟨rfl, eT, (by decide : 7 + 0 ≤ _), (by decide : 34 + 0 ≤ _)⟩)
      dsimp only [Pt.U, Pt.locs, Pt.cells, Pt.slots] at X l_ y_ z_ st hQ
      subst l_ y_ z_
      obtain ⟨e_v, Nq, eh⟩ := hQ
      rw [hz] at e_v
      subst e_v
      have N := Fr.app N Nq
      have eT := eh
      refine Go.by st ?_
      show Go p.tables e below (T.setTop (mkF m 221 #[.val (.int p0), .val (.int p1), .val (.int p2), .val (.int p3), .val (.long q4), .second, .val (.int p5), .val (.int (3 : Int32)), .val (.int c0), .val (.int c1), .val (.int c2), .val (.double (FP.l2d li)), .second, .val (.ref b28), .val (.ref b32), .val (.ref b36), .val (.ref rr), .val (.int (0 : Int32)), .val (.long (p1.toInt64)), .second, .val (.long (c0.toInt64)), .second, .unset] [(.int (0 : Int32))])) _
      refine Go.by (fun tt_ kk_ => XS.ifYes X.here hx rfl (pc0 := 221) (pc' := 236) rfl (hb hby at_221) rfl ((if0 _ _).trans (teq (rfl : (0 : Int32) = (0 : Int32))).1) (by decide) (by decide) kk_) ?_
      show Go p.tables e below (T.setTop (mkF m 236 #[.val (.int p0), .val (.int p1), .val (.int p2), .val (.int p3), .val (.long q4), .second, .val (.int p5), .val (.int (3 : Int32)), .val (.int c0), .val (.int c1), .val (.int c2), .val (.double (FP.l2d li)), .second, .val (.ref b28), .val (.ref b32), .val (.ref b36), .val (.ref rr), .val (.int (0 : Int32)), .val (.long (p1.toInt64)), .second, .val (.long (c0.toInt64)), .second, .unset] [])) _
      refine Go.by (fun tt_ kk_ => XS.iload X.here hx rfl (hb hby at_236) rfl kk_) ?_
      show Go p.tables e below (T.setTop (mkF m 238 #[.val (.int p0), .val (.int p1), .val (.int p2), .val (.int p3), .val (.long q4), .second, .val (.int p5), .val (.int (3 : Int32)), .val (.int c0), .val (.int c1), .val (.int c2), .val (.double (FP.l2d li)), .second, .val (.ref b28), .val (.ref b32), .val (.ref b36), .val (.ref rr), .val (.int (0 : Int32)), .val (.long (p1.toInt64)), .second, .val (.long (c0.toInt64)), .second, .unset] [(.int (3 : Int32))])) _
      refine Go.by (fun tt_ kk_ => XS.iconst X.here hx rfl (hb hby at_238) kk_) ?_
      show Go p.tables e below (T.setTop (mkF m 239 #[.val (.int p0), .val (.int p1), .val (.int p2), .val (.int p3), .val (.long q4), .second, .val (.int p5), .val (.int (3 : Int32)), .val (.int c0), .val (.int c1), .val (.int c2), .val (.double (FP.l2d li)), .second, .val (.ref b28), .val (.ref b32), .val (.ref b36), .val (.ref rr), .val (.int (0 : Int32)), .val (.long (p1.toInt64)), .second, .val (.long (c0.toInt64)), .second, .unset] [(.int (3 : Int32)), (.int (3 : Int32))])) _
      refine Go.by (fun tt_ kk_ => XS.icmpNo X.here hx rfl (hb hby at_239) rfl (flt (by decide : ¬ ((3 : Int32) < (3 : Int32)))).1 kk_) ?_
      show Go p.tables e below (T.setTop (mkF m 242 #[.val (.int p0), .val (.int p1), .val (.int p2), .val (.int p3), .val (.long q4), .second, .val (.int p5), .val (.int (3 : Int32)), .val (.int c0), .val (.int c1), .val (.int c2), .val (.double (FP.l2d li)), .second, .val (.ref b28), .val (.ref b32), .val (.ref b36), .val (.ref rr), .val (.int (0 : Int32)), .val (.long (p1.toInt64)), .second, .val (.long (c0.toInt64)), .second, .unset] [])) _
      refine Go.by (fun tt_ kk_ => XS.iloadN X.here hx rfl (hb hby at_242) rfl kk_) ?_
      show Go p.tables e below (T.setTop (mkF m 243 #[.val (.int p0), .val (.int p1), .val (.int p2), .val (.int p3), .val (.long q4), .second, .val (.int p5), .val (.int (3 : Int32)), .val (.int c0), .val (.int c1), .val (.int c2), .val (.double (FP.l2d li)), .second, .val (.ref b28), .val (.ref b32), .val (.ref b36), .val (.ref rr), .val (.int (0 : Int32)), .val (.long (p1.toInt64)), .second, .val (.long (c0.toInt64)), .second, .unset] [(.int p3)])) _
      refine Go.by (fun tt_ kk_ => XS.i2l X.here hx rfl (hb hby at_243) rfl kk_) ?_
      show Go p.tables e below (T.setTop (mkF m 244 #[.val (.int p0), .val (.int p1), .val (.int p2), .val (.int p3), .val (.long q4), .second, .val (.int p5), .val (.int (3 : Int32)), .val (.int c0), .val (.int c1), .val (.int c2), .val (.double (FP.l2d li)), .second, .val (.ref b28), .val (.ref b32), .val (.ref b36), .val (.ref rr), .val (.int (0 : Int32)), .val (.long (p1.toInt64)), .second, .val (.long (c0.toInt64)), .second, .unset] [(.long (p3.toInt64))])) _
      refine Go.by (fun tt_ kk_ => XS.iload X.here hx rfl (hb hby at_244) rfl kk_) ?_
      show Go p.tables e below (T.setTop (mkF m 246 #[.val (.int p0), .val (.int p1), .val (.int p2), .val (.int p3), .val (.long q4), .second, .val (.int p5), .val (.int (3 : Int32)), .val (.int c0), .val (.int c1), .val (.int c2), .val (.double (FP.l2d li)), .second, .val (.ref b28), .val (.ref b32), .val (.ref b36), .val (.ref rr), .val (.int (0 : Int32)), .val (.long (p1.toInt64)), .second, .val (.long (c0.toInt64)), .second, .unset] [(.int c2), (.long (p3.toInt64))])) _
      refine Go.by (fun tt_ kk_ => XS.i2l X.here hx rfl (hb hby at_246) rfl kk_) ?_
      show Go p.tables e below (T.setTop (mkF m 247 #[.val (.int p0), .val (.int p1), .val (.int p2), .val (.int p3), .val (.long q4), .second, .val (.int p5), .val (.int (3 : Int32)), .val (.int c0), .val (.int c1), .val (.int c2), .val (.double (FP.l2d li)), .second, .val (.ref b28), .val (.ref b32), .val (.ref b36), .val (.ref rr), .val (.int (0 : Int32)), .val (.long (p1.toInt64)), .second, .val (.long (c0.toInt64)), .second, .unset] [(.long (c2.toInt64)), (.long (p3.toInt64))])) _
      refine Go.by (fun tt_ kk_ => XS.lload X.here hx rfl (hb hby at_247) rfl kk_) ?_
      show Go p.tables e below (T.setTop (mkF m 249 #[.val (.int p0), .val (.int p1), .val (.int p2), .val (.int p3), .val (.long q4), .second, .val (.int p5), .val (.int (3 : Int32)), .val (.int c0), .val (.int c1), .val (.int c2), .val (.double (FP.l2d li)), .second, .val (.ref b28), .val (.ref b32), .val (.ref b36), .val (.ref rr), .val (.int (0 : Int32)), .val (.long (p1.toInt64)), .second, .val (.long (c0.toInt64)), .second, .unset] [(.long (p1.toInt64)), (.long (c2.toInt64)), (.long (p3.toInt64))])) _
      refine Go.by (fun tt_ kk_ => XS.lload X.here hx rfl (hb hby at_249) rfl kk_) ?_
      show Go p.tables e below (T.setTop (mkF m 251 #[.val (.int p0), .val (.int p1), .val (.int p2), .val (.int p3), .val (.long q4), .second, .val (.int p5), .val (.int (3 : Int32)), .val (.int c0), .val (.int c1), .val (.int c2), .val (.double (FP.l2d li)), .second, .val (.ref b28), .val (.ref b32), .val (.ref b36), .val (.ref rr), .val (.int (0 : Int32)), .val (.long (p1.toInt64)), .second, .val (.long (c0.toInt64)), .second, .unset] [(.long (c0.toInt64)), (.long (p1.toInt64)), (.long (c2.toInt64)), (.long (p3.toInt64))])) _
      by_cases hg2 : p1.toInt * c2.toInt < p3.toInt * c0.toInt
      · rw [if_pos hg2] at V_rr
        have hz : (if p1.toInt * c2.toInt < p3.toInt * c0.toInt then (1 : Int32) else 0) = (1 : Int32) := if_pos hg2
        have mA := own_mulb (A := 2147483648) (B := 1024) b_w2.1 b_w2.2 (show -1024 ≤ c0.toInt by omega) (by omega)
        have mB := own_mulb (A := 2147483648) (B := 1024) b_w0.1 b_w0.2 (show -1024 ≤ c2.toInt by omega) (by omega)
        obtain ⟨_, _, ⟨T, L_, k_, n_⟩, -, X, ⟨Lc_, hQ, l_, y_, z_⟩, st⟩ := Jvm.LawKit.callS X hx (y := (⟨"com/example/pareto_helm/paretohelm/engine/BudgetBestCornerPinLaw", "greater", "(JJJJ)Z"⟩ : MethodName)) hown (mvT hZ (hw _ (List.mem_of_getElem? (i := 55) rfl))) (mvT hZ (hw _ (List.mem_of_getElem? (i := 56) rfl))) (mvT hZ (hw _ (List.mem_of_getElem? (i := 57) rfl))) (mvT hZ (hw _ (List.mem_of_getElem? (i := 58) rfl))) (by decide) (backOf (W := 0) (rm8 l Z a0 hw [] (p3.toInt64) (c2.toInt64) (p1.toInt64) (c0.toInt64) p3.toInt c2.toInt p1.toInt c0.toInt h38 n0 (Nat.le_trans Z0 K.1) (own_i2l _) (own_i2l _) (own_i2l _) (own_i2l _) (by omega) (by omega)) hZ (hw _ (List.mem_of_getElem? (i := 58) rfl)) (hw _ (List.mem_of_getElem? (i := 57) rfl)) (by decide) (by decide)) (g := (mkF m 251 #[.val (.int p0), .val (.int p1), .val (.int p2), .val (.int p3), .val (.long q4), .second, .val (.int p5), .val (.int (3 : Int32)), .val (.int c0), .val (.int c1), .val (.int c2), .val (.double (FP.l2d li)), .second, .val (.ref b28), .val (.ref b32), .val (.ref b36), .val (.ref rr), .val (.int (0 : Int32)), .val (.long (p1.toInt64)), .second, .val (.long (c0.toInt64)), .second, .unset] [(.long (c0.toInt64)), (.long (p1.toInt64)), (.long (c2.toInt64)), (.long (p3.toInt64))])) rfl (by rw [hml]; rfl) (argsL := [(.long (p3.toInt64)), (.long (c2.toInt64)), (.long (p1.toInt64)), (.long (c0.toInt64))]) (rest := []) (lenOf pd_6 rfl) rfl (by show 2 * 0 + _ ≤ _; exact Nat.le_of_eq rfl) (hb hby at_251) (fun _ _ => ⟨rfl, eT, (by decide : 7 + 0 ≤ _), (by decide : 34 + 0 ≤ _)⟩)
        dsimp only [Pt.U, Pt.locs, Pt.cells, Pt.slots] at X l_ y_ z_ st hQ
        subst l_ y_ z_
        obtain ⟨e_v, Nq, eh⟩ := hQ
        rw [hz] at e_v
        subst e_v
        have N := Fr.app N Nq
        have eT := eh
        refine Go.by st ?_
        show Go p.tables e below (T.setTop (mkF m 254 #[.val (.int p0), .val (.int p1), .val (.int p2), .val (.int p3), .val (.long q4), .second, .val (.int p5), .val (.int (3 : Int32)), .val (.int c0), .val (.int c1), .val (.int c2), .val (.double (FP.l2d li)), .second, .val (.ref b28), .val (.ref b32), .val (.ref b36), .val (.ref rr), .val (.int (0 : Int32)), .val (.long (p1.toInt64)), .second, .val (.long (c0.toInt64)), .second, .unset] [(.int (1 : Int32))])) _
        refine Go.by (fun tt_ kk_ => XS.ifNo X.here hx rfl (hb hby at_254) rfl ((if0 _ _).trans (feq (by decide : ¬ ((1 : Int32) = (0 : Int32)))).1) kk_) ?_
        show Go p.tables e below (T.setTop (mkF m 257 #[.val (.int p0), .val (.int p1), .val (.int p2), .val (.int p3), .val (.long q4), .second, .val (.int p5), .val (.int (3 : Int32)), .val (.int c0), .val (.int c1), .val (.int c2), .val (.double (FP.l2d li)), .second, .val (.ref b28), .val (.ref b32), .val (.ref b36), .val (.ref rr), .val (.int (0 : Int32)), .val (.long (p1.toInt64)), .second, .val (.long (c0.toInt64)), .second, .unset] [])) _
        refine Go.by (fun tt_ kk_ => XS.iconst X.here hx rfl (hb hby at_257) kk_) ?_
        show Go p.tables e below (T.setTop (mkF m 258 #[.val (.int p0), .val (.int p1), .val (.int p2), .val (.int p3), .val (.long q4), .second, .val (.int p5), .val (.int (3 : Int32)), .val (.int c0), .val (.int c1), .val (.int c2), .val (.double (FP.l2d li)), .second, .val (.ref b28), .val (.ref b32), .val (.ref b36), .val (.ref rr), .val (.int (0 : Int32)), .val (.long (p1.toInt64)), .second, .val (.long (c0.toInt64)), .second, .unset] [(.int (2 : Int32))])) _
        refine Go.by (fun tt_ kk_ => XS.istore X.here hx rfl (hb hby at_258) rfl (l' := #[.val (.int p0), .val (.int p1), .val (.int p2), .val (.int p3), .val (.long q4), .second, .val (.int p5), .val (.int (3 : Int32)), .val (.int c0), .val (.int c1), .val (.int c2), .val (.double (FP.l2d li)), .second, .val (.ref b28), .val (.ref b32), .val (.ref b36), .val (.ref rr), .val (.int (2 : Int32)), .val (.long (p1.toInt64)), .second, .val (.long (c0.toInt64)), .second, .unset]) rfl kk_) ?_
        show Go p.tables e below (T.setTop (mkF m 260 #[.val (.int p0), .val (.int p1), .val (.int p2), .val (.int p3), .val (.long q4), .second, .val (.int p5), .val (.int (3 : Int32)), .val (.int c0), .val (.int c1), .val (.int c2), .val (.double (FP.l2d li)), .second, .val (.ref b28), .val (.ref b32), .val (.ref b36), .val (.ref rr), .val (.int (2 : Int32)), .val (.long (p1.toInt64)), .second, .val (.long (c0.toInt64)), .second, .unset] [])) _
        refine Go.by (fun tt_ kk_ => XS.aload X.here hx rfl (hb hby at_260) rfl rfl kk_) ?_
        show Go p.tables e below (T.setTop (mkF m 262 #[.val (.int p0), .val (.int p1), .val (.int p2), .val (.int p3), .val (.long q4), .second, .val (.int p5), .val (.int (3 : Int32)), .val (.int c0), .val (.int c1), .val (.int c2), .val (.double (FP.l2d li)), .second, .val (.ref b28), .val (.ref b32), .val (.ref b36), .val (.ref rr), .val (.int (2 : Int32)), .val (.long (p1.toInt64)), .second, .val (.long (c0.toInt64)), .second, .unset] [(.ref rr)])) _
        have Vo_ := V_rr
        obtain ⟨cl_, Ar_, q_, S_, N_, H_, G_⟩ := Vo_
        refine Go.by (X.arraylength hx (by rw [eT]; exact Ar_.1) (State.isArrayOf_alike hZ.alike Ar_.2.1) (g := (mkF m 262 #[.val (.int p0), .val (.int p1), .val (.int p2), .val (.int p3), .val (.long q4), .second, .val (.int p5), .val (.int (3 : Int32)), .val (.int c0), .val (.int c1), .val (.int c2), .val (.double (FP.l2d li)), .second, .val (.ref b28), .val (.ref b32), .val (.ref b36), .val (.ref rr), .val (.int (2 : Int32)), .val (.long (p1.toInt64)), .second, .val (.long (c0.toInt64)), .second, .unset] [(.ref rr)])) rfl rfl (hb hby at_262)) ?_
        rw [len_of S_ N_]
        show Go p.tables e below (T.setTop (mkF m 263 #[.val (.int p0), .val (.int p1), .val (.int p2), .val (.int p3), .val (.long q4), .second, .val (.int p5), .val (.int (3 : Int32)), .val (.int c0), .val (.int c1), .val (.int c2), .val (.double (FP.l2d li)), .second, .val (.ref b28), .val (.ref b32), .val (.ref b36), .val (.ref rr), .val (.int (2 : Int32)), .val (.long (p1.toInt64)), .second, .val (.long (c0.toInt64)), .second, .unset] [(.int (3 : Int32))])) _
        refine Go.by (fun tt_ kk_ => XS.iload X.here hx rfl (hb hby at_263) rfl kk_) ?_
        show Go p.tables e below (T.setTop (mkF m 265 #[.val (.int p0), .val (.int p1), .val (.int p2), .val (.int p3), .val (.long q4), .second, .val (.int p5), .val (.int (3 : Int32)), .val (.int c0), .val (.int c1), .val (.int c2), .val (.double (FP.l2d li)), .second, .val (.ref b28), .val (.ref b32), .val (.ref b36), .val (.ref rr), .val (.int (2 : Int32)), .val (.long (p1.toInt64)), .second, .val (.long (c0.toInt64)), .second, .unset] [(.int (3 : Int32)), (.int (3 : Int32))])) _
        refine Go.by (fun tt_ kk_ => XS.icmpYes X.here hx rfl (pc0 := 265) (pc' := 270) rfl (hb hby at_265) rfl (teq (rfl : (3 : Int32) = (3 : Int32))).1 (by decide) (by decide) kk_) ?_
        show Go p.tables e below (T.setTop (mkF m 270 #[.val (.int p0), .val (.int p1), .val (.int p2), .val (.int p3), .val (.long q4), .second, .val (.int p5), .val (.int (3 : Int32)), .val (.int c0), .val (.int c1), .val (.int c2), .val (.double (FP.l2d li)), .second, .val (.ref b28), .val (.ref b32), .val (.ref b36), .val (.ref rr), .val (.int (2 : Int32)), .val (.long (p1.toInt64)), .second, .val (.long (c0.toInt64)), .second, .unset] [])) _
        refine Go.by (fun tt_ kk_ => XS.iload X.here hx rfl (hb hby at_270) rfl kk_) ?_
        show Go p.tables e below (T.setTop (mkF m 272 #[.val (.int p0), .val (.int p1), .val (.int p2), .val (.int p3), .val (.long q4), .second, .val (.int p5), .val (.int (3 : Int32)), .val (.int c0), .val (.int c1), .val (.int c2), .val (.double (FP.l2d li)), .second, .val (.ref b28), .val (.ref b32), .val (.ref b36), .val (.ref rr), .val (.int (2 : Int32)), .val (.long (p1.toInt64)), .second, .val (.long (c0.toInt64)), .second, .unset] [(.int (2 : Int32))])) _
        refine Go.by (fun tt_ kk_ => XS.ifYes X.here hx rfl (pc0 := 272) (pc' := 280) rfl (hb hby at_272) rfl ((if0 _ _).trans (feq (by decide : ¬ ((2 : Int32) = (0 : Int32)))).2) (by decide) (by decide) kk_) ?_
        show Go p.tables e below (T.setTop (mkF m 280 #[.val (.int p0), .val (.int p1), .val (.int p2), .val (.int p3), .val (.long q4), .second, .val (.int p5), .val (.int (3 : Int32)), .val (.int c0), .val (.int c1), .val (.int c2), .val (.double (FP.l2d li)), .second, .val (.ref b28), .val (.ref b32), .val (.ref b36), .val (.ref rr), .val (.int (2 : Int32)), .val (.long (p1.toInt64)), .second, .val (.long (c0.toInt64)), .second, .unset] [])) _
        refine Go.by (fun tt_ kk_ => XS.iload X.here hx rfl (hb hby at_280) rfl kk_) ?_
        show Go p.tables e below (T.setTop (mkF m 282 #[.val (.int p0), .val (.int p1), .val (.int p2), .val (.int p3), .val (.long q4), .second, .val (.int p5), .val (.int (3 : Int32)), .val (.int c0), .val (.int c1), .val (.int c2), .val (.double (FP.l2d li)), .second, .val (.ref b28), .val (.ref b32), .val (.ref b36), .val (.ref rr), .val (.int (2 : Int32)), .val (.long (p1.toInt64)), .second, .val (.long (c0.toInt64)), .second, .unset] [(.int (2 : Int32))])) _
        refine Go.by (fun tt_ kk_ => XS.iconst X.here hx rfl (hb hby at_282) kk_) ?_
        show Go p.tables e below (T.setTop (mkF m 283 #[.val (.int p0), .val (.int p1), .val (.int p2), .val (.int p3), .val (.long q4), .second, .val (.int p5), .val (.int (3 : Int32)), .val (.int c0), .val (.int c1), .val (.int c2), .val (.double (FP.l2d li)), .second, .val (.ref b28), .val (.ref b32), .val (.ref b36), .val (.ref rr), .val (.int (2 : Int32)), .val (.long (p1.toInt64)), .second, .val (.long (c0.toInt64)), .second, .unset] [(.int (1 : Int32)), (.int (2 : Int32))])) _
        refine Go.by (fun tt_ kk_ => XS.icmpYes X.here hx rfl (pc0 := 283) (pc' := 291) rfl (hb hby at_283) rfl (feq (by decide : ¬ ((2 : Int32) = (1 : Int32)))).2 (by decide) (by decide) kk_) ?_
        show Go p.tables e below (T.setTop (mkF m 291 #[.val (.int p0), .val (.int p1), .val (.int p2), .val (.int p3), .val (.long q4), .second, .val (.int p5), .val (.int (3 : Int32)), .val (.int c0), .val (.int c1), .val (.int c2), .val (.double (FP.l2d li)), .second, .val (.ref b28), .val (.ref b32), .val (.ref b36), .val (.ref rr), .val (.int (2 : Int32)), .val (.long (p1.toInt64)), .second, .val (.long (c0.toInt64)), .second, .unset] [])) _
        refine Go.by (fun tt_ kk_ => XS.iload X.here hx rfl (hb hby at_291) rfl kk_) ?_
        show Go p.tables e below (T.setTop (mkF m 293 #[.val (.int p0), .val (.int p1), .val (.int p2), .val (.int p3), .val (.long q4), .second, .val (.int p5), .val (.int (3 : Int32)), .val (.int c0), .val (.int c1), .val (.int c2), .val (.double (FP.l2d li)), .second, .val (.ref b28), .val (.ref b32), .val (.ref b36), .val (.ref rr), .val (.int (2 : Int32)), .val (.long (p1.toInt64)), .second, .val (.long (c0.toInt64)), .second, .unset] [(.int c2)])) _
        refine Go.by (fun tt_ kk_ => XS.istore X.here hx rfl (hb hby at_293) rfl (l' := #[.val (.int p0), .val (.int p1), .val (.int p2), .val (.int p3), .val (.long q4), .second, .val (.int p5), .val (.int (3 : Int32)), .val (.int c0), .val (.int c1), .val (.int c2), .val (.double (FP.l2d li)), .second, .val (.ref b28), .val (.ref b32), .val (.ref b36), .val (.ref rr), .val (.int (2 : Int32)), .val (.long (p1.toInt64)), .second, .val (.long (c0.toInt64)), .second, .val (.int c2)]) rfl kk_) ?_
        show Go p.tables e below (T.setTop (mkF m 295 #[.val (.int p0), .val (.int p1), .val (.int p2), .val (.int p3), .val (.long q4), .second, .val (.int p5), .val (.int (3 : Int32)), .val (.int c0), .val (.int c1), .val (.int c2), .val (.double (FP.l2d li)), .second, .val (.ref b28), .val (.ref b32), .val (.ref b36), .val (.ref rr), .val (.int (2 : Int32)), .val (.long (p1.toInt64)), .second, .val (.long (c0.toInt64)), .second, .val (.int c2)] [])) _
        refine Go.by (fun tt_ kk_ => XS.aload X.here hx rfl (hb hby at_295) rfl rfl kk_) ?_
        show Go p.tables e below (T.setTop (mkF m 297 #[.val (.int p0), .val (.int p1), .val (.int p2), .val (.int p3), .val (.long q4), .second, .val (.int p5), .val (.int (3 : Int32)), .val (.int c0), .val (.int c1), .val (.int c2), .val (.double (FP.l2d li)), .second, .val (.ref b28), .val (.ref b32), .val (.ref b36), .val (.ref rr), .val (.int (2 : Int32)), .val (.long (p1.toInt64)), .second, .val (.long (c0.toInt64)), .second, .val (.int c2)] [(.ref rr)])) _
        refine Go.by (fun tt_ kk_ => XS.iconst X.here hx rfl (hb hby at_297) kk_) ?_
        show Go p.tables e below (T.setTop (mkF m 298 #[.val (.int p0), .val (.int p1), .val (.int p2), .val (.int p3), .val (.long q4), .second, .val (.int p5), .val (.int (3 : Int32)), .val (.int c0), .val (.int c1), .val (.int c2), .val (.double (FP.l2d li)), .second, .val (.ref b28), .val (.ref b32), .val (.ref b36), .val (.ref rr), .val (.int (2 : Int32)), .val (.long (p1.toInt64)), .second, .val (.long (c0.toInt64)), .second, .val (.int c2)] [(.int (0 : Int32)), (.ref rr)])) _
        refine Go.by (fun tt_ kk_ => XS.iload X.here hx rfl (hb hby at_298) rfl kk_) ?_
        show Go p.tables e below (T.setTop (mkF m 300 #[.val (.int p0), .val (.int p1), .val (.int p2), .val (.int p3), .val (.long q4), .second, .val (.int p5), .val (.int (3 : Int32)), .val (.int c0), .val (.int c1), .val (.int c2), .val (.double (FP.l2d li)), .second, .val (.ref b28), .val (.ref b32), .val (.ref b36), .val (.ref rr), .val (.int (2 : Int32)), .val (.long (p1.toInt64)), .second, .val (.long (c0.toInt64)), .second, .val (.int c2)] [(.int (3 : Int32)), (.int (0 : Int32)), (.ref rr)])) _
        refine Go.by (fun tt_ kk_ => XS.iload X.here hx rfl (hb hby at_300) rfl kk_) ?_
        show Go p.tables e below (T.setTop (mkF m 302 #[.val (.int p0), .val (.int p1), .val (.int p2), .val (.int p3), .val (.long q4), .second, .val (.int p5), .val (.int (3 : Int32)), .val (.int c0), .val (.int c1), .val (.int c2), .val (.double (FP.l2d li)), .second, .val (.ref b28), .val (.ref b32), .val (.ref b36), .val (.ref rr), .val (.int (2 : Int32)), .val (.long (p1.toInt64)), .second, .val (.long (c0.toInt64)), .second, .val (.int c2)] [(.int (2 : Int32)), (.int (3 : Int32)), (.int (0 : Int32)), (.ref rr)])) _
        refine Go.by (fun tt_ kk_ => XS.dload X.here hx rfl (hb hby at_302) rfl kk_) ?_
        show Go p.tables e below (T.setTop (mkF m 304 #[.val (.int p0), .val (.int p1), .val (.int p2), .val (.int p3), .val (.long q4), .second, .val (.int p5), .val (.int (3 : Int32)), .val (.int c0), .val (.int c1), .val (.int c2), .val (.double (FP.l2d li)), .second, .val (.ref b28), .val (.ref b32), .val (.ref b36), .val (.ref rr), .val (.int (2 : Int32)), .val (.long (p1.toInt64)), .second, .val (.long (c0.toInt64)), .second, .val (.int c2)] [(.double (FP.l2d li)), (.int (2 : Int32)), (.int (3 : Int32)), (.int (0 : Int32)), (.ref rr)])) _
        refine Go.by (fun tt_ kk_ => XS.iload X.here hx rfl (hb hby at_304) rfl kk_) ?_
        show Go p.tables e below (T.setTop (mkF m 306 #[.val (.int p0), .val (.int p1), .val (.int p2), .val (.int p3), .val (.long q4), .second, .val (.int p5), .val (.int (3 : Int32)), .val (.int c0), .val (.int c1), .val (.int c2), .val (.double (FP.l2d li)), .second, .val (.ref b28), .val (.ref b32), .val (.ref b36), .val (.ref rr), .val (.int (2 : Int32)), .val (.long (p1.toInt64)), .second, .val (.long (c0.toInt64)), .second, .val (.int c2)] [(.int c2), (.double (FP.l2d li)), (.int (2 : Int32)), (.int (3 : Int32)), (.int (0 : Int32)), (.ref rr)])) _
        obtain ⟨_, _, ⟨T, L_, k_, n_⟩, -, X, ⟨Lc_, hQ, l_, y_, z_⟩, st⟩ := Jvm.LawKit.callS X hx (y := (⟨"com/example/pareto_helm/paretohelm/engine/BudgetBestCornerPinLaw", "check", "([DIIIDI)Z"⟩ : MethodName)) hown (mvT hZ (hw _ (List.mem_of_getElem? (i := 59) rfl))) (mvT hZ (hw _ (List.mem_of_getElem? (i := 60) rfl))) (mvT hZ (hw _ (List.mem_of_getElem? (i := 57) rfl))) (mvT hZ (hw _ (List.mem_of_getElem? (i := 61) rfl))) (by decide) (backOf (W := 0) (rm9b l Z a0 hw [] rr (0 : Int32) (3 : Int32) (2 : Int32) (FP.l2d li) c2 _ _ h38 n0 (Nat.le_trans Z0 K.1) V_rr (by decide) (by decide) (by decide) rfl) hZ (hw _ (List.mem_of_getElem? (i := 61) rfl)) (hw _ (List.mem_of_getElem? (i := 57) rfl)) (by decide) (by decide)) (g := (mkF m 306 #[.val (.int p0), .val (.int p1), .val (.int p2), .val (.int p3), .val (.long q4), .second, .val (.int p5), .val (.int (3 : Int32)), .val (.int c0), .val (.int c1), .val (.int c2), .val (.double (FP.l2d li)), .second, .val (.ref b28), .val (.ref b32), .val (.ref b36), .val (.ref rr), .val (.int (2 : Int32)), .val (.long (p1.toInt64)), .second, .val (.long (c0.toInt64)), .second, .val (.int c2)] [(.int c2), (.double (FP.l2d li)), (.int (2 : Int32)), (.int (3 : Int32)), (.int (0 : Int32)), (.ref rr)])) rfl (by rw [hml]; rfl) (argsL := [(.ref rr), (.int (0 : Int32)), (.int (3 : Int32)), (.int (2 : Int32)), (.double (FP.l2d li)), (.int c2)]) (rest := []) (lenOf pd_5 rfl) rfl (by show 2 * 0 + _ ≤ _; exact Nat.le_of_eq rfl) (hb hby at_306) (fun _ _ => ⟨rfl, eT, (by decide : 7 + 0 ≤ _), (by decide : 34 + 0 ≤ _)⟩)
        dsimp only [Pt.U, Pt.locs, Pt.cells, Pt.slots] at X l_ y_ z_ st hQ
        subst l_ y_ z_
        obtain ⟨rfl, Nq, eh⟩ := hQ
        have N := Fr.app N Nq
        have eT := eh
        refine Go.by st ?_
        show Go p.tables e below (T.setTop (mkF m 309 #[.val (.int p0), .val (.int p1), .val (.int p2), .val (.int p3), .val (.long q4), .second, .val (.int p5), .val (.int (3 : Int32)), .val (.int c0), .val (.int c1), .val (.int c2), .val (.double (FP.l2d li)), .second, .val (.ref b28), .val (.ref b32), .val (.ref b36), .val (.ref rr), .val (.int (2 : Int32)), .val (.long (p1.toInt64)), .second, .val (.long (c0.toInt64)), .second, .val (.int c2)] [(.int (1 : Int32))])) _
        refine Go.by (fun tt_ kk_ => XS.ifNo X.here hx rfl (hb hby at_309) rfl ((if0 _ _).trans (feq (by decide : ¬ ((1 : Int32) = (0 : Int32)))).1) kk_) ?_
        show Go p.tables e below (T.setTop (mkF m 312 #[.val (.int p0), .val (.int p1), .val (.int p2), .val (.int p3), .val (.long q4), .second, .val (.int p5), .val (.int (3 : Int32)), .val (.int c0), .val (.int c1), .val (.int c2), .val (.double (FP.l2d li)), .second, .val (.ref b28), .val (.ref b32), .val (.ref b36), .val (.ref rr), .val (.int (2 : Int32)), .val (.long (p1.toInt64)), .second, .val (.long (c0.toInt64)), .second, .val (.int c2)] [])) _
        refine Go.by (fun tt_ kk_ => XS.aload X.here hx rfl (hb hby at_312) rfl rfl kk_) ?_
        show Go p.tables e below (T.setTop (mkF m 314 #[.val (.int p0), .val (.int p1), .val (.int p2), .val (.int p3), .val (.long q4), .second, .val (.int p5), .val (.int (3 : Int32)), .val (.int c0), .val (.int c1), .val (.int c2), .val (.double (FP.l2d li)), .second, .val (.ref b28), .val (.ref b32), .val (.ref b36), .val (.ref rr), .val (.int (2 : Int32)), .val (.long (p1.toInt64)), .second, .val (.long (c0.toInt64)), .second, .val (.int c2)] [(.ref rr)])) _
        refine Go.by (fun tt_ kk_ => XS.iconst X.here hx rfl (hb hby at_314) kk_) ?_
        show Go p.tables e below (T.setTop (mkF m 315 #[.val (.int p0), .val (.int p1), .val (.int p2), .val (.int p3), .val (.long q4), .second, .val (.int p5), .val (.int (3 : Int32)), .val (.int c0), .val (.int c1), .val (.int c2), .val (.double (FP.l2d li)), .second, .val (.ref b28), .val (.ref b32), .val (.ref b36), .val (.ref rr), .val (.int (2 : Int32)), .val (.long (p1.toInt64)), .second, .val (.long (c0.toInt64)), .second, .val (.int c2)] [(.int (1 : Int32)), (.ref rr)])) _
        refine Go.by (fun tt_ kk_ => XS.iload X.here hx rfl (hb hby at_315) rfl kk_) ?_
        show Go p.tables e below (T.setTop (mkF m 317 #[.val (.int p0), .val (.int p1), .val (.int p2), .val (.int p3), .val (.long q4), .second, .val (.int p5), .val (.int (3 : Int32)), .val (.int c0), .val (.int c1), .val (.int c2), .val (.double (FP.l2d li)), .second, .val (.ref b28), .val (.ref b32), .val (.ref b36), .val (.ref rr), .val (.int (2 : Int32)), .val (.long (p1.toInt64)), .second, .val (.long (c0.toInt64)), .second, .val (.int c2)] [(.int (3 : Int32)), (.int (1 : Int32)), (.ref rr)])) _
        refine Go.by (fun tt_ kk_ => XS.iload X.here hx rfl (hb hby at_317) rfl kk_) ?_
        show Go p.tables e below (T.setTop (mkF m 319 #[.val (.int p0), .val (.int p1), .val (.int p2), .val (.int p3), .val (.long q4), .second, .val (.int p5), .val (.int (3 : Int32)), .val (.int c0), .val (.int c1), .val (.int c2), .val (.double (FP.l2d li)), .second, .val (.ref b28), .val (.ref b32), .val (.ref b36), .val (.ref rr), .val (.int (2 : Int32)), .val (.long (p1.toInt64)), .second, .val (.long (c0.toInt64)), .second, .val (.int c2)] [(.int (2 : Int32)), (.int (3 : Int32)), (.int (1 : Int32)), (.ref rr)])) _
        refine Go.by (fun tt_ kk_ => XS.dload X.here hx rfl (hb hby at_319) rfl kk_) ?_
        show Go p.tables e below (T.setTop (mkF m 321 #[.val (.int p0), .val (.int p1), .val (.int p2), .val (.int p3), .val (.long q4), .second, .val (.int p5), .val (.int (3 : Int32)), .val (.int c0), .val (.int c1), .val (.int c2), .val (.double (FP.l2d li)), .second, .val (.ref b28), .val (.ref b32), .val (.ref b36), .val (.ref rr), .val (.int (2 : Int32)), .val (.long (p1.toInt64)), .second, .val (.long (c0.toInt64)), .second, .val (.int c2)] [(.double (FP.l2d li)), (.int (2 : Int32)), (.int (3 : Int32)), (.int (1 : Int32)), (.ref rr)])) _
        refine Go.by (fun tt_ kk_ => XS.iload X.here hx rfl (hb hby at_321) rfl kk_) ?_
        show Go p.tables e below (T.setTop (mkF m 323 #[.val (.int p0), .val (.int p1), .val (.int p2), .val (.int p3), .val (.long q4), .second, .val (.int p5), .val (.int (3 : Int32)), .val (.int c0), .val (.int c1), .val (.int c2), .val (.double (FP.l2d li)), .second, .val (.ref b28), .val (.ref b32), .val (.ref b36), .val (.ref rr), .val (.int (2 : Int32)), .val (.long (p1.toInt64)), .second, .val (.long (c0.toInt64)), .second, .val (.int c2)] [(.int c2), (.double (FP.l2d li)), (.int (2 : Int32)), (.int (3 : Int32)), (.int (1 : Int32)), (.ref rr)])) _
        obtain ⟨_, _, ⟨T, L_, k_, n_⟩, -, X, ⟨Lc_, hQ, l_, y_, z_⟩, st⟩ := Jvm.LawKit.callS X hx (y := (⟨"com/example/pareto_helm/paretohelm/engine/BudgetBestCornerPinLaw", "check", "([DIIIDI)Z"⟩ : MethodName)) hown (mvT hZ (hw _ (List.mem_of_getElem? (i := 59) rfl))) (mvT hZ (hw _ (List.mem_of_getElem? (i := 60) rfl))) (mvT hZ (hw _ (List.mem_of_getElem? (i := 57) rfl))) (mvT hZ (hw _ (List.mem_of_getElem? (i := 61) rfl))) (by decide) (backOf (W := 0) (rm9b l Z a0 hw [] rr (1 : Int32) (3 : Int32) (2 : Int32) (FP.l2d li) c2 _ _ h38 n0 (Nat.le_trans Z0 K.1) V_rr (by decide) (by decide) (by decide) rfl) hZ (hw _ (List.mem_of_getElem? (i := 61) rfl)) (hw _ (List.mem_of_getElem? (i := 57) rfl)) (by decide) (by decide)) (g := (mkF m 323 #[.val (.int p0), .val (.int p1), .val (.int p2), .val (.int p3), .val (.long q4), .second, .val (.int p5), .val (.int (3 : Int32)), .val (.int c0), .val (.int c1), .val (.int c2), .val (.double (FP.l2d li)), .second, .val (.ref b28), .val (.ref b32), .val (.ref b36), .val (.ref rr), .val (.int (2 : Int32)), .val (.long (p1.toInt64)), .second, .val (.long (c0.toInt64)), .second, .val (.int c2)] [(.int c2), (.double (FP.l2d li)), (.int (2 : Int32)), (.int (3 : Int32)), (.int (1 : Int32)), (.ref rr)])) rfl (by rw [hml]; rfl) (argsL := [(.ref rr), (.int (1 : Int32)), (.int (3 : Int32)), (.int (2 : Int32)), (.double (FP.l2d li)), (.int c2)]) (rest := []) (lenOf pd_5 rfl) rfl (by show 2 * 0 + _ ≤ _; exact Nat.le_of_eq rfl) (hb hby at_323) (fun _ _ => ⟨rfl, eT, (by decide : 7 + 0 ≤ _), (by decide : 34 + 0 ≤ _)⟩)
        dsimp only [Pt.U, Pt.locs, Pt.cells, Pt.slots] at X l_ y_ z_ st hQ
        subst l_ y_ z_
        obtain ⟨rfl, Nq, eh⟩ := hQ
        have N := Fr.app N Nq
        have eT := eh
        refine Go.by st ?_
        show Go p.tables e below (T.setTop (mkF m 326 #[.val (.int p0), .val (.int p1), .val (.int p2), .val (.int p3), .val (.long q4), .second, .val (.int p5), .val (.int (3 : Int32)), .val (.int c0), .val (.int c1), .val (.int c2), .val (.double (FP.l2d li)), .second, .val (.ref b28), .val (.ref b32), .val (.ref b36), .val (.ref rr), .val (.int (2 : Int32)), .val (.long (p1.toInt64)), .second, .val (.long (c0.toInt64)), .second, .val (.int c2)] [(.int (1 : Int32))])) _
        refine Go.by (fun tt_ kk_ => XS.ifNo X.here hx rfl (hb hby at_326) rfl ((if0 _ _).trans (feq (by decide : ¬ ((1 : Int32) = (0 : Int32)))).1) kk_) ?_
        show Go p.tables e below (T.setTop (mkF m 329 #[.val (.int p0), .val (.int p1), .val (.int p2), .val (.int p3), .val (.long q4), .second, .val (.int p5), .val (.int (3 : Int32)), .val (.int c0), .val (.int c1), .val (.int c2), .val (.double (FP.l2d li)), .second, .val (.ref b28), .val (.ref b32), .val (.ref b36), .val (.ref rr), .val (.int (2 : Int32)), .val (.long (p1.toInt64)), .second, .val (.long (c0.toInt64)), .second, .val (.int c2)] [])) _
        refine Go.by (fun tt_ kk_ => XS.aload X.here hx rfl (hb hby at_329) rfl rfl kk_) ?_
        show Go p.tables e below (T.setTop (mkF m 331 #[.val (.int p0), .val (.int p1), .val (.int p2), .val (.int p3), .val (.long q4), .second, .val (.int p5), .val (.int (3 : Int32)), .val (.int c0), .val (.int c1), .val (.int c2), .val (.double (FP.l2d li)), .second, .val (.ref b28), .val (.ref b32), .val (.ref b36), .val (.ref rr), .val (.int (2 : Int32)), .val (.long (p1.toInt64)), .second, .val (.long (c0.toInt64)), .second, .val (.int c2)] [(.ref rr)])) _
        refine Go.by (fun tt_ kk_ => XS.iconst X.here hx rfl (hb hby at_331) kk_) ?_
        show Go p.tables e below (T.setTop (mkF m 332 #[.val (.int p0), .val (.int p1), .val (.int p2), .val (.int p3), .val (.long q4), .second, .val (.int p5), .val (.int (3 : Int32)), .val (.int c0), .val (.int c1), .val (.int c2), .val (.double (FP.l2d li)), .second, .val (.ref b28), .val (.ref b32), .val (.ref b36), .val (.ref rr), .val (.int (2 : Int32)), .val (.long (p1.toInt64)), .second, .val (.long (c0.toInt64)), .second, .val (.int c2)] [(.int (2 : Int32)), (.ref rr)])) _
        refine Go.by (fun tt_ kk_ => XS.iload X.here hx rfl (hb hby at_332) rfl kk_) ?_
        show Go p.tables e below (T.setTop (mkF m 334 #[.val (.int p0), .val (.int p1), .val (.int p2), .val (.int p3), .val (.long q4), .second, .val (.int p5), .val (.int (3 : Int32)), .val (.int c0), .val (.int c1), .val (.int c2), .val (.double (FP.l2d li)), .second, .val (.ref b28), .val (.ref b32), .val (.ref b36), .val (.ref rr), .val (.int (2 : Int32)), .val (.long (p1.toInt64)), .second, .val (.long (c0.toInt64)), .second, .val (.int c2)] [(.int (3 : Int32)), (.int (2 : Int32)), (.ref rr)])) _
        refine Go.by (fun tt_ kk_ => XS.iload X.here hx rfl (hb hby at_334) rfl kk_) ?_
        show Go p.tables e below (T.setTop (mkF m 336 #[.val (.int p0), .val (.int p1), .val (.int p2), .val (.int p3), .val (.long q4), .second, .val (.int p5), .val (.int (3 : Int32)), .val (.int c0), .val (.int c1), .val (.int c2), .val (.double (FP.l2d li)), .second, .val (.ref b28), .val (.ref b32), .val (.ref b36), .val (.ref rr), .val (.int (2 : Int32)), .val (.long (p1.toInt64)), .second, .val (.long (c0.toInt64)), .second, .val (.int c2)] [(.int (2 : Int32)), (.int (3 : Int32)), (.int (2 : Int32)), (.ref rr)])) _
        refine Go.by (fun tt_ kk_ => XS.dload X.here hx rfl (hb hby at_336) rfl kk_) ?_
        show Go p.tables e below (T.setTop (mkF m 338 #[.val (.int p0), .val (.int p1), .val (.int p2), .val (.int p3), .val (.long q4), .second, .val (.int p5), .val (.int (3 : Int32)), .val (.int c0), .val (.int c1), .val (.int c2), .val (.double (FP.l2d li)), .second, .val (.ref b28), .val (.ref b32), .val (.ref b36), .val (.ref rr), .val (.int (2 : Int32)), .val (.long (p1.toInt64)), .second, .val (.long (c0.toInt64)), .second, .val (.int c2)] [(.double (FP.l2d li)), (.int (2 : Int32)), (.int (3 : Int32)), (.int (2 : Int32)), (.ref rr)])) _
        refine Go.by (fun tt_ kk_ => XS.iload X.here hx rfl (hb hby at_338) rfl kk_) ?_
        show Go p.tables e below (T.setTop (mkF m 340 #[.val (.int p0), .val (.int p1), .val (.int p2), .val (.int p3), .val (.long q4), .second, .val (.int p5), .val (.int (3 : Int32)), .val (.int c0), .val (.int c1), .val (.int c2), .val (.double (FP.l2d li)), .second, .val (.ref b28), .val (.ref b32), .val (.ref b36), .val (.ref rr), .val (.int (2 : Int32)), .val (.long (p1.toInt64)), .second, .val (.long (c0.toInt64)), .second, .val (.int c2)] [(.int c2), (.double (FP.l2d li)), (.int (2 : Int32)), (.int (3 : Int32)), (.int (2 : Int32)), (.ref rr)])) _
        obtain ⟨_, _, ⟨T, L_, k_, n_⟩, -, X, ⟨Lc_, hQ, l_, y_, z_⟩, st⟩ := Jvm.LawKit.callS X hx (y := (⟨"com/example/pareto_helm/paretohelm/engine/BudgetBestCornerPinLaw", "check", "([DIIIDI)Z"⟩ : MethodName)) hown (mvT hZ (hw _ (List.mem_of_getElem? (i := 59) rfl))) (mvT hZ (hw _ (List.mem_of_getElem? (i := 60) rfl))) (mvT hZ (hw _ (List.mem_of_getElem? (i := 57) rfl))) (mvT hZ (hw _ (List.mem_of_getElem? (i := 61) rfl))) (by decide) (backOf (W := 0) (rm9a l Z a0 hw [] rr (2 : Int32) (3 : Int32) (2 : Int32) (FP.l2d li) c2 _ _ h38 n0 (Nat.le_trans Z0 K.1) V_rr (by decide) (by decide) rfl (own_divnn2 (own_lfin li).noNaN (Dy.i2d c2) (by omega)) rfl) hZ (hw _ (List.mem_of_getElem? (i := 61) rfl)) (hw _ (List.mem_of_getElem? (i := 57) rfl)) (by decide) (by decide)) (g := (mkF m 340 #[.val (.int p0), .val (.int p1), .val (.int p2), .val (.int p3), .val (.long q4), .second, .val (.int p5), .val (.int (3 : Int32)), .val (.int c0), .val (.int c1), .val (.int c2), .val (.double (FP.l2d li)), .second, .val (.ref b28), .val (.ref b32), .val (.ref b36), .val (.ref rr), .val (.int (2 : Int32)), .val (.long (p1.toInt64)), .second, .val (.long (c0.toInt64)), .second, .val (.int c2)] [(.int c2), (.double (FP.l2d li)), (.int (2 : Int32)), (.int (3 : Int32)), (.int (2 : Int32)), (.ref rr)])) rfl (by rw [hml]; rfl) (argsL := [(.ref rr), (.int (2 : Int32)), (.int (3 : Int32)), (.int (2 : Int32)), (.double (FP.l2d li)), (.int c2)]) (rest := []) (lenOf pd_5 rfl) rfl (by show 2 * 0 + _ ≤ _; exact Nat.le_of_eq rfl) (hb hby at_340) (fun _ _ => ⟨rfl, eT, (by decide : 7 + 0 ≤ _), (by decide : 34 + 0 ≤ _)⟩)
        dsimp only [Pt.U, Pt.locs, Pt.cells, Pt.slots] at X l_ y_ z_ st hQ
        subst l_ y_ z_
        obtain ⟨rfl, Nq, eh⟩ := hQ
        have N := Fr.app N Nq
        have eT := eh
        refine Go.by st ?_
        show Go p.tables e below (T.setTop (mkF m 343 #[.val (.int p0), .val (.int p1), .val (.int p2), .val (.int p3), .val (.long q4), .second, .val (.int p5), .val (.int (3 : Int32)), .val (.int c0), .val (.int c1), .val (.int c2), .val (.double (FP.l2d li)), .second, .val (.ref b28), .val (.ref b32), .val (.ref b36), .val (.ref rr), .val (.int (2 : Int32)), .val (.long (p1.toInt64)), .second, .val (.long (c0.toInt64)), .second, .val (.int c2)] [(.int (1 : Int32))])) _
        refine Go.by (fun tt_ kk_ => XS.ifNo X.here hx rfl (hb hby at_343) rfl ((if0 _ _).trans (feq (by decide : ¬ ((1 : Int32) = (0 : Int32)))).1) kk_) ?_
        show Go p.tables e below (T.setTop (mkF m 346 #[.val (.int p0), .val (.int p1), .val (.int p2), .val (.int p3), .val (.long q4), .second, .val (.int p5), .val (.int (3 : Int32)), .val (.int c0), .val (.int c1), .val (.int c2), .val (.double (FP.l2d li)), .second, .val (.ref b28), .val (.ref b32), .val (.ref b36), .val (.ref rr), .val (.int (2 : Int32)), .val (.long (p1.toInt64)), .second, .val (.long (c0.toInt64)), .second, .val (.int c2)] [])) _
        refine Go.by (fun tt_ kk_ => XS.iconst X.here hx rfl (hb hby at_346) kk_) ?_
        show Go p.tables e below (T.setTop (mkF m 347 #[.val (.int p0), .val (.int p1), .val (.int p2), .val (.int p3), .val (.long q4), .second, .val (.int p5), .val (.int (3 : Int32)), .val (.int c0), .val (.int c1), .val (.int c2), .val (.double (FP.l2d li)), .second, .val (.ref b28), .val (.ref b32), .val (.ref b36), .val (.ref rr), .val (.int (2 : Int32)), .val (.long (p1.toInt64)), .second, .val (.long (c0.toInt64)), .second, .val (.int c2)] [(.int (1 : Int32))])) _
        refine Go.by (fun tt_ kk_ => XS.goto X.here hx rfl (pc0 := 347) (pc' := 351) rfl (hb hby at_347) (by decide) (by decide) kk_) ?_
        show Go p.tables e below (T.setTop (mkF m 351 #[.val (.int p0), .val (.int p1), .val (.int p2), .val (.int p3), .val (.long q4), .second, .val (.int p5), .val (.int (3 : Int32)), .val (.int c0), .val (.int c1), .val (.int c2), .val (.double (FP.l2d li)), .second, .val (.ref b28), .val (.ref b32), .val (.ref b36), .val (.ref rr), .val (.int (2 : Int32)), .val (.long (p1.toInt64)), .second, .val (.long (c0.toInt64)), .second, .val (.int c2)] [(.int (1 : Int32))])) _
        exact Go.doneW X hS (by rw [eT]; exact hk) (v := some (.int (1 : Int32))) (fun h => by rw [Bd.returns] at h; cases h) Bd.notSynchronized (fun fs hr => retN X hx (z := (1 : Int32)) (t := .boolean) Bd.returns (by simp) (hb hby at_351) hr) (by rw [eT]; exact ⟨rfl, N⟩) (by decide) (by decide)
      · rw [if_neg hg2] at V_rr
        have hz : (if p1.toInt * c2.toInt < p3.toInt * c0.toInt then (1 : Int32) else 0) = (0 : Int32) := if_neg hg2
        have mA := own_mulb (A := 2147483648) (B := 1024) b_w2.1 b_w2.2 (show -1024 ≤ c0.toInt by omega) (by omega)
        have mB := own_mulb (A := 2147483648) (B := 1024) b_w0.1 b_w0.2 (show -1024 ≤ c2.toInt by omega) (by omega)
        obtain ⟨_, _, ⟨T, L_, k_, n_⟩, -, X, ⟨Lc_, hQ, l_, y_, z_⟩, st⟩ := Jvm.LawKit.callS X hx (y := (⟨"com/example/pareto_helm/paretohelm/engine/BudgetBestCornerPinLaw", "greater", "(JJJJ)Z"⟩ : MethodName)) hown (mvT hZ (hw _ (List.mem_of_getElem? (i := 55) rfl))) (mvT hZ (hw _ (List.mem_of_getElem? (i := 56) rfl))) (mvT hZ (hw _ (List.mem_of_getElem? (i := 57) rfl))) (mvT hZ (hw _ (List.mem_of_getElem? (i := 58) rfl))) (by decide) (backOf (W := 0) (rm8 l Z a0 hw [] (p3.toInt64) (c2.toInt64) (p1.toInt64) (c0.toInt64) p3.toInt c2.toInt p1.toInt c0.toInt h38 n0 (Nat.le_trans Z0 K.1) (own_i2l _) (own_i2l _) (own_i2l _) (own_i2l _) (by omega) (by omega)) hZ (hw _ (List.mem_of_getElem? (i := 58) rfl)) (hw _ (List.mem_of_getElem? (i := 57) rfl)) (by decide) (by decide)) (g := (mkF m 251 #[.val (.int p0), .val (.int p1), .val (.int p2), .val (.int p3), .val (.long q4), .second, .val (.int p5), .val (.int (3 : Int32)), .val (.int c0), .val (.int c1), .val (.int c2), .val (.double (FP.l2d li)), .second, .val (.ref b28), .val (.ref b32), .val (.ref b36), .val (.ref rr), .val (.int (0 : Int32)), .val (.long (p1.toInt64)), .second, .val (.long (c0.toInt64)), .second, .unset] [(.long (c0.toInt64)), (.long (p1.toInt64)), (.long (c2.toInt64)), (.long (p3.toInt64))])) rfl (by rw [hml]; rfl) (argsL := [(.long (p3.toInt64)), (.long (c2.toInt64)), (.long (p1.toInt64)), (.long (c0.toInt64))]) (rest := []) (lenOf pd_6 rfl) rfl (by show 2 * 0 + _ ≤ _; exact Nat.le_of_eq rfl) (hb hby at_251) (fun _ _ => ⟨rfl, eT, (by decide : 7 + 0 ≤ _), (by decide : 34 + 0 ≤ _)⟩)
        dsimp only [Pt.U, Pt.locs, Pt.cells, Pt.slots] at X l_ y_ z_ st hQ
        subst l_ y_ z_
        obtain ⟨e_v, Nq, eh⟩ := hQ
        rw [hz] at e_v
        subst e_v
        have N := Fr.app N Nq
        have eT := eh
        refine Go.by st ?_
        show Go p.tables e below (T.setTop (mkF m 254 #[.val (.int p0), .val (.int p1), .val (.int p2), .val (.int p3), .val (.long q4), .second, .val (.int p5), .val (.int (3 : Int32)), .val (.int c0), .val (.int c1), .val (.int c2), .val (.double (FP.l2d li)), .second, .val (.ref b28), .val (.ref b32), .val (.ref b36), .val (.ref rr), .val (.int (0 : Int32)), .val (.long (p1.toInt64)), .second, .val (.long (c0.toInt64)), .second, .unset] [(.int (0 : Int32))])) _
        refine Go.by (fun tt_ kk_ => XS.ifYes X.here hx rfl (pc0 := 254) (pc' := 260) rfl (hb hby at_254) rfl ((if0 _ _).trans (teq (rfl : (0 : Int32) = (0 : Int32))).1) (by decide) (by decide) kk_) ?_
        show Go p.tables e below (T.setTop (mkF m 260 #[.val (.int p0), .val (.int p1), .val (.int p2), .val (.int p3), .val (.long q4), .second, .val (.int p5), .val (.int (3 : Int32)), .val (.int c0), .val (.int c1), .val (.int c2), .val (.double (FP.l2d li)), .second, .val (.ref b28), .val (.ref b32), .val (.ref b36), .val (.ref rr), .val (.int (0 : Int32)), .val (.long (p1.toInt64)), .second, .val (.long (c0.toInt64)), .second, .unset] [])) _
        refine Go.by (fun tt_ kk_ => XS.aload X.here hx rfl (hb hby at_260) rfl rfl kk_) ?_
        show Go p.tables e below (T.setTop (mkF m 262 #[.val (.int p0), .val (.int p1), .val (.int p2), .val (.int p3), .val (.long q4), .second, .val (.int p5), .val (.int (3 : Int32)), .val (.int c0), .val (.int c1), .val (.int c2), .val (.double (FP.l2d li)), .second, .val (.ref b28), .val (.ref b32), .val (.ref b36), .val (.ref rr), .val (.int (0 : Int32)), .val (.long (p1.toInt64)), .second, .val (.long (c0.toInt64)), .second, .unset] [(.ref rr)])) _
        have Vo_ := V_rr
        obtain ⟨cl_, Ar_, q_, S_, N_, H_, G_⟩ := Vo_
        refine Go.by (X.arraylength hx (by rw [eT]; exact Ar_.1) (State.isArrayOf_alike hZ.alike Ar_.2.1) (g := (mkF m 262 #[.val (.int p0), .val (.int p1), .val (.int p2), .val (.int p3), .val (.long q4), .second, .val (.int p5), .val (.int (3 : Int32)), .val (.int c0), .val (.int c1), .val (.int c2), .val (.double (FP.l2d li)), .second, .val (.ref b28), .val (.ref b32), .val (.ref b36), .val (.ref rr), .val (.int (0 : Int32)), .val (.long (p1.toInt64)), .second, .val (.long (c0.toInt64)), .second, .unset] [(.ref rr)])) rfl rfl (hb hby at_262)) ?_
        rw [len_of S_ N_]
        show Go p.tables e below (T.setTop (mkF m 263 #[.val (.int p0), .val (.int p1), .val (.int p2), .val (.int p3), .val (.long q4), .second, .val (.int p5), .val (.int (3 : Int32)), .val (.int c0), .val (.int c1), .val (.int c2), .val (.double (FP.l2d li)), .second, .val (.ref b28), .val (.ref b32), .val (.ref b36), .val (.ref rr), .val (.int (0 : Int32)), .val (.long (p1.toInt64)), .second, .val (.long (c0.toInt64)), .second, .unset] [(.int (3 : Int32))])) _
        refine Go.by (fun tt_ kk_ => XS.iload X.here hx rfl (hb hby at_263) rfl kk_) ?_
        show Go p.tables e below (T.setTop (mkF m 265 #[.val (.int p0), .val (.int p1), .val (.int p2), .val (.int p3), .val (.long q4), .second, .val (.int p5), .val (.int (3 : Int32)), .val (.int c0), .val (.int c1), .val (.int c2), .val (.double (FP.l2d li)), .second, .val (.ref b28), .val (.ref b32), .val (.ref b36), .val (.ref rr), .val (.int (0 : Int32)), .val (.long (p1.toInt64)), .second, .val (.long (c0.toInt64)), .second, .unset] [(.int (3 : Int32)), (.int (3 : Int32))])) _
        refine Go.by (fun tt_ kk_ => XS.icmpYes X.here hx rfl (pc0 := 265) (pc' := 270) rfl (hb hby at_265) rfl (teq (rfl : (3 : Int32) = (3 : Int32))).1 (by decide) (by decide) kk_) ?_
        show Go p.tables e below (T.setTop (mkF m 270 #[.val (.int p0), .val (.int p1), .val (.int p2), .val (.int p3), .val (.long q4), .second, .val (.int p5), .val (.int (3 : Int32)), .val (.int c0), .val (.int c1), .val (.int c2), .val (.double (FP.l2d li)), .second, .val (.ref b28), .val (.ref b32), .val (.ref b36), .val (.ref rr), .val (.int (0 : Int32)), .val (.long (p1.toInt64)), .second, .val (.long (c0.toInt64)), .second, .unset] [])) _
        refine Go.by (fun tt_ kk_ => XS.iload X.here hx rfl (hb hby at_270) rfl kk_) ?_
        show Go p.tables e below (T.setTop (mkF m 272 #[.val (.int p0), .val (.int p1), .val (.int p2), .val (.int p3), .val (.long q4), .second, .val (.int p5), .val (.int (3 : Int32)), .val (.int c0), .val (.int c1), .val (.int c2), .val (.double (FP.l2d li)), .second, .val (.ref b28), .val (.ref b32), .val (.ref b36), .val (.ref rr), .val (.int (0 : Int32)), .val (.long (p1.toInt64)), .second, .val (.long (c0.toInt64)), .second, .unset] [(.int (0 : Int32))])) _
        refine Go.by (fun tt_ kk_ => XS.ifNo X.here hx rfl (hb hby at_272) rfl ((if0 _ _).trans (teq (rfl : (0 : Int32) = (0 : Int32))).2) kk_) ?_
        show Go p.tables e below (T.setTop (mkF m 275 #[.val (.int p0), .val (.int p1), .val (.int p2), .val (.int p3), .val (.long q4), .second, .val (.int p5), .val (.int (3 : Int32)), .val (.int c0), .val (.int c1), .val (.int c2), .val (.double (FP.l2d li)), .second, .val (.ref b28), .val (.ref b32), .val (.ref b36), .val (.ref rr), .val (.int (0 : Int32)), .val (.long (p1.toInt64)), .second, .val (.long (c0.toInt64)), .second, .unset] [])) _
        refine Go.by (fun tt_ kk_ => XS.iload X.here hx rfl (hb hby at_275) rfl kk_) ?_
        show Go p.tables e below (T.setTop (mkF m 277 #[.val (.int p0), .val (.int p1), .val (.int p2), .val (.int p3), .val (.long q4), .second, .val (.int p5), .val (.int (3 : Int32)), .val (.int c0), .val (.int c1), .val (.int c2), .val (.double (FP.l2d li)), .second, .val (.ref b28), .val (.ref b32), .val (.ref b36), .val (.ref rr), .val (.int (0 : Int32)), .val (.long (p1.toInt64)), .second, .val (.long (c0.toInt64)), .second, .unset] [(.int c0)])) _
        refine Go.by (fun tt_ kk_ => XS.goto X.here hx rfl (pc0 := 277) (pc' := 293) rfl (hb hby at_277) (by decide) (by decide) kk_) ?_
        show Go p.tables e below (T.setTop (mkF m 293 #[.val (.int p0), .val (.int p1), .val (.int p2), .val (.int p3), .val (.long q4), .second, .val (.int p5), .val (.int (3 : Int32)), .val (.int c0), .val (.int c1), .val (.int c2), .val (.double (FP.l2d li)), .second, .val (.ref b28), .val (.ref b32), .val (.ref b36), .val (.ref rr), .val (.int (0 : Int32)), .val (.long (p1.toInt64)), .second, .val (.long (c0.toInt64)), .second, .unset] [(.int c0)])) _
        refine Go.by (fun tt_ kk_ => XS.istore X.here hx rfl (hb hby at_293) rfl (l' := #[.val (.int p0), .val (.int p1), .val (.int p2), .val (.int p3), .val (.long q4), .second, .val (.int p5), .val (.int (3 : Int32)), .val (.int c0), .val (.int c1), .val (.int c2), .val (.double (FP.l2d li)), .second, .val (.ref b28), .val (.ref b32), .val (.ref b36), .val (.ref rr), .val (.int (0 : Int32)), .val (.long (p1.toInt64)), .second, .val (.long (c0.toInt64)), .second, .val (.int c0)]) rfl kk_) ?_
        show Go p.tables e below (T.setTop (mkF m 295 #[.val (.int p0), .val (.int p1), .val (.int p2), .val (.int p3), .val (.long q4), .second, .val (.int p5), .val (.int (3 : Int32)), .val (.int c0), .val (.int c1), .val (.int c2), .val (.double (FP.l2d li)), .second, .val (.ref b28), .val (.ref b32), .val (.ref b36), .val (.ref rr), .val (.int (0 : Int32)), .val (.long (p1.toInt64)), .second, .val (.long (c0.toInt64)), .second, .val (.int c0)] [])) _
        refine Go.by (fun tt_ kk_ => XS.aload X.here hx rfl (hb hby at_295) rfl rfl kk_) ?_
        show Go p.tables e below (T.setTop (mkF m 297 #[.val (.int p0), .val (.int p1), .val (.int p2), .val (.int p3), .val (.long q4), .second, .val (.int p5), .val (.int (3 : Int32)), .val (.int c0), .val (.int c1), .val (.int c2), .val (.double (FP.l2d li)), .second, .val (.ref b28), .val (.ref b32), .val (.ref b36), .val (.ref rr), .val (.int (0 : Int32)), .val (.long (p1.toInt64)), .second, .val (.long (c0.toInt64)), .second, .val (.int c0)] [(.ref rr)])) _
        refine Go.by (fun tt_ kk_ => XS.iconst X.here hx rfl (hb hby at_297) kk_) ?_
        show Go p.tables e below (T.setTop (mkF m 298 #[.val (.int p0), .val (.int p1), .val (.int p2), .val (.int p3), .val (.long q4), .second, .val (.int p5), .val (.int (3 : Int32)), .val (.int c0), .val (.int c1), .val (.int c2), .val (.double (FP.l2d li)), .second, .val (.ref b28), .val (.ref b32), .val (.ref b36), .val (.ref rr), .val (.int (0 : Int32)), .val (.long (p1.toInt64)), .second, .val (.long (c0.toInt64)), .second, .val (.int c0)] [(.int (0 : Int32)), (.ref rr)])) _
        refine Go.by (fun tt_ kk_ => XS.iload X.here hx rfl (hb hby at_298) rfl kk_) ?_
        show Go p.tables e below (T.setTop (mkF m 300 #[.val (.int p0), .val (.int p1), .val (.int p2), .val (.int p3), .val (.long q4), .second, .val (.int p5), .val (.int (3 : Int32)), .val (.int c0), .val (.int c1), .val (.int c2), .val (.double (FP.l2d li)), .second, .val (.ref b28), .val (.ref b32), .val (.ref b36), .val (.ref rr), .val (.int (0 : Int32)), .val (.long (p1.toInt64)), .second, .val (.long (c0.toInt64)), .second, .val (.int c0)] [(.int (3 : Int32)), (.int (0 : Int32)), (.ref rr)])) _
        refine Go.by (fun tt_ kk_ => XS.iload X.here hx rfl (hb hby at_300) rfl kk_) ?_
        show Go p.tables e below (T.setTop (mkF m 302 #[.val (.int p0), .val (.int p1), .val (.int p2), .val (.int p3), .val (.long q4), .second, .val (.int p5), .val (.int (3 : Int32)), .val (.int c0), .val (.int c1), .val (.int c2), .val (.double (FP.l2d li)), .second, .val (.ref b28), .val (.ref b32), .val (.ref b36), .val (.ref rr), .val (.int (0 : Int32)), .val (.long (p1.toInt64)), .second, .val (.long (c0.toInt64)), .second, .val (.int c0)] [(.int (0 : Int32)), (.int (3 : Int32)), (.int (0 : Int32)), (.ref rr)])) _
        refine Go.by (fun tt_ kk_ => XS.dload X.here hx rfl (hb hby at_302) rfl kk_) ?_
        show Go p.tables e below (T.setTop (mkF m 304 #[.val (.int p0), .val (.int p1), .val (.int p2), .val (.int p3), .val (.long q4), .second, .val (.int p5), .val (.int (3 : Int32)), .val (.int c0), .val (.int c1), .val (.int c2), .val (.double (FP.l2d li)), .second, .val (.ref b28), .val (.ref b32), .val (.ref b36), .val (.ref rr), .val (.int (0 : Int32)), .val (.long (p1.toInt64)), .second, .val (.long (c0.toInt64)), .second, .val (.int c0)] [(.double (FP.l2d li)), (.int (0 : Int32)), (.int (3 : Int32)), (.int (0 : Int32)), (.ref rr)])) _
        refine Go.by (fun tt_ kk_ => XS.iload X.here hx rfl (hb hby at_304) rfl kk_) ?_
        show Go p.tables e below (T.setTop (mkF m 306 #[.val (.int p0), .val (.int p1), .val (.int p2), .val (.int p3), .val (.long q4), .second, .val (.int p5), .val (.int (3 : Int32)), .val (.int c0), .val (.int c1), .val (.int c2), .val (.double (FP.l2d li)), .second, .val (.ref b28), .val (.ref b32), .val (.ref b36), .val (.ref rr), .val (.int (0 : Int32)), .val (.long (p1.toInt64)), .second, .val (.long (c0.toInt64)), .second, .val (.int c0)] [(.int c0), (.double (FP.l2d li)), (.int (0 : Int32)), (.int (3 : Int32)), (.int (0 : Int32)), (.ref rr)])) _
        obtain ⟨_, _, ⟨T, L_, k_, n_⟩, -, X, ⟨Lc_, hQ, l_, y_, z_⟩, st⟩ := Jvm.LawKit.callS X hx (y := (⟨"com/example/pareto_helm/paretohelm/engine/BudgetBestCornerPinLaw", "check", "([DIIIDI)Z"⟩ : MethodName)) hown (mvT hZ (hw _ (List.mem_of_getElem? (i := 59) rfl))) (mvT hZ (hw _ (List.mem_of_getElem? (i := 60) rfl))) (mvT hZ (hw _ (List.mem_of_getElem? (i := 57) rfl))) (mvT hZ (hw _ (List.mem_of_getElem? (i := 61) rfl))) (by decide) (backOf (W := 0) (rm9a l Z a0 hw [] rr (0 : Int32) (3 : Int32) (0 : Int32) (FP.l2d li) c0 _ _ h38 n0 (Nat.le_trans Z0 K.1) V_rr (by decide) (by decide) rfl (own_divnn2 (own_lfin li).noNaN (Dy.i2d c0) (by omega)) rfl) hZ (hw _ (List.mem_of_getElem? (i := 61) rfl)) (hw _ (List.mem_of_getElem? (i := 57) rfl)) (by decide) (by decide)) (g := (mkF m 306 #[.val (.int p0), .val (.int p1), .val (.int p2), .val (.int p3), .val (.long q4), .second, .val (.int p5), .val (.int (3 : Int32)), .val (.int c0), .val (.int c1), .val (.int c2), .val (.double (FP.l2d li)), .second, .val (.ref b28), .val (.ref b32), .val (.ref b36), .val (.ref rr), .val (.int (0 : Int32)), .val (.long (p1.toInt64)), .second, .val (.long (c0.toInt64)), .second, .val (.int c0)] [(.int c0), (.double (FP.l2d li)), (.int (0 : Int32)), (.int (3 : Int32)), (.int (0 : Int32)), (.ref rr)])) rfl (by rw [hml]; rfl) (argsL := [(.ref rr), (.int (0 : Int32)), (.int (3 : Int32)), (.int (0 : Int32)), (.double (FP.l2d li)), (.int c0)]) (rest := []) (lenOf pd_5 rfl) rfl (by show 2 * 0 + _ ≤ _; exact Nat.le_of_eq rfl) (hb hby at_306) (fun _ _ => ⟨rfl, eT, (by decide : 7 + 0 ≤ _), (by decide : 34 + 0 ≤ _)⟩)
        dsimp only [Pt.U, Pt.locs, Pt.cells, Pt.slots] at X l_ y_ z_ st hQ
        subst l_ y_ z_
        obtain ⟨rfl, Nq, eh⟩ := hQ
        have N := Fr.app N Nq
        have eT := eh
        refine Go.by st ?_
        show Go p.tables e below (T.setTop (mkF m 309 #[.val (.int p0), .val (.int p1), .val (.int p2), .val (.int p3), .val (.long q4), .second, .val (.int p5), .val (.int (3 : Int32)), .val (.int c0), .val (.int c1), .val (.int c2), .val (.double (FP.l2d li)), .second, .val (.ref b28), .val (.ref b32), .val (.ref b36), .val (.ref rr), .val (.int (0 : Int32)), .val (.long (p1.toInt64)), .second, .val (.long (c0.toInt64)), .second, .val (.int c0)] [(.int (1 : Int32))])) _
        refine Go.by (fun tt_ kk_ => XS.ifNo X.here hx rfl (hb hby at_309) rfl ((if0 _ _).trans (feq (by decide : ¬ ((1 : Int32) = (0 : Int32)))).1) kk_) ?_
        show Go p.tables e below (T.setTop (mkF m 312 #[.val (.int p0), .val (.int p1), .val (.int p2), .val (.int p3), .val (.long q4), .second, .val (.int p5), .val (.int (3 : Int32)), .val (.int c0), .val (.int c1), .val (.int c2), .val (.double (FP.l2d li)), .second, .val (.ref b28), .val (.ref b32), .val (.ref b36), .val (.ref rr), .val (.int (0 : Int32)), .val (.long (p1.toInt64)), .second, .val (.long (c0.toInt64)), .second, .val (.int c0)] [])) _
        refine Go.by (fun tt_ kk_ => XS.aload X.here hx rfl (hb hby at_312) rfl rfl kk_) ?_
        show Go p.tables e below (T.setTop (mkF m 314 #[.val (.int p0), .val (.int p1), .val (.int p2), .val (.int p3), .val (.long q4), .second, .val (.int p5), .val (.int (3 : Int32)), .val (.int c0), .val (.int c1), .val (.int c2), .val (.double (FP.l2d li)), .second, .val (.ref b28), .val (.ref b32), .val (.ref b36), .val (.ref rr), .val (.int (0 : Int32)), .val (.long (p1.toInt64)), .second, .val (.long (c0.toInt64)), .second, .val (.int c0)] [(.ref rr)])) _
        refine Go.by (fun tt_ kk_ => XS.iconst X.here hx rfl (hb hby at_314) kk_) ?_
        show Go p.tables e below (T.setTop (mkF m 315 #[.val (.int p0), .val (.int p1), .val (.int p2), .val (.int p3), .val (.long q4), .second, .val (.int p5), .val (.int (3 : Int32)), .val (.int c0), .val (.int c1), .val (.int c2), .val (.double (FP.l2d li)), .second, .val (.ref b28), .val (.ref b32), .val (.ref b36), .val (.ref rr), .val (.int (0 : Int32)), .val (.long (p1.toInt64)), .second, .val (.long (c0.toInt64)), .second, .val (.int c0)] [(.int (1 : Int32)), (.ref rr)])) _
        refine Go.by (fun tt_ kk_ => XS.iload X.here hx rfl (hb hby at_315) rfl kk_) ?_
        show Go p.tables e below (T.setTop (mkF m 317 #[.val (.int p0), .val (.int p1), .val (.int p2), .val (.int p3), .val (.long q4), .second, .val (.int p5), .val (.int (3 : Int32)), .val (.int c0), .val (.int c1), .val (.int c2), .val (.double (FP.l2d li)), .second, .val (.ref b28), .val (.ref b32), .val (.ref b36), .val (.ref rr), .val (.int (0 : Int32)), .val (.long (p1.toInt64)), .second, .val (.long (c0.toInt64)), .second, .val (.int c0)] [(.int (3 : Int32)), (.int (1 : Int32)), (.ref rr)])) _
        refine Go.by (fun tt_ kk_ => XS.iload X.here hx rfl (hb hby at_317) rfl kk_) ?_
        show Go p.tables e below (T.setTop (mkF m 319 #[.val (.int p0), .val (.int p1), .val (.int p2), .val (.int p3), .val (.long q4), .second, .val (.int p5), .val (.int (3 : Int32)), .val (.int c0), .val (.int c1), .val (.int c2), .val (.double (FP.l2d li)), .second, .val (.ref b28), .val (.ref b32), .val (.ref b36), .val (.ref rr), .val (.int (0 : Int32)), .val (.long (p1.toInt64)), .second, .val (.long (c0.toInt64)), .second, .val (.int c0)] [(.int (0 : Int32)), (.int (3 : Int32)), (.int (1 : Int32)), (.ref rr)])) _
        refine Go.by (fun tt_ kk_ => XS.dload X.here hx rfl (hb hby at_319) rfl kk_) ?_
        show Go p.tables e below (T.setTop (mkF m 321 #[.val (.int p0), .val (.int p1), .val (.int p2), .val (.int p3), .val (.long q4), .second, .val (.int p5), .val (.int (3 : Int32)), .val (.int c0), .val (.int c1), .val (.int c2), .val (.double (FP.l2d li)), .second, .val (.ref b28), .val (.ref b32), .val (.ref b36), .val (.ref rr), .val (.int (0 : Int32)), .val (.long (p1.toInt64)), .second, .val (.long (c0.toInt64)), .second, .val (.int c0)] [(.double (FP.l2d li)), (.int (0 : Int32)), (.int (3 : Int32)), (.int (1 : Int32)), (.ref rr)])) _
        refine Go.by (fun tt_ kk_ => XS.iload X.here hx rfl (hb hby at_321) rfl kk_) ?_
        show Go p.tables e below (T.setTop (mkF m 323 #[.val (.int p0), .val (.int p1), .val (.int p2), .val (.int p3), .val (.long q4), .second, .val (.int p5), .val (.int (3 : Int32)), .val (.int c0), .val (.int c1), .val (.int c2), .val (.double (FP.l2d li)), .second, .val (.ref b28), .val (.ref b32), .val (.ref b36), .val (.ref rr), .val (.int (0 : Int32)), .val (.long (p1.toInt64)), .second, .val (.long (c0.toInt64)), .second, .val (.int c0)] [(.int c0), (.double (FP.l2d li)), (.int (0 : Int32)), (.int (3 : Int32)), (.int (1 : Int32)), (.ref rr)])) _
        obtain ⟨_, _, ⟨T, L_, k_, n_⟩, -, X, ⟨Lc_, hQ, l_, y_, z_⟩, st⟩ := Jvm.LawKit.callS X hx (y := (⟨"com/example/pareto_helm/paretohelm/engine/BudgetBestCornerPinLaw", "check", "([DIIIDI)Z"⟩ : MethodName)) hown (mvT hZ (hw _ (List.mem_of_getElem? (i := 59) rfl))) (mvT hZ (hw _ (List.mem_of_getElem? (i := 60) rfl))) (mvT hZ (hw _ (List.mem_of_getElem? (i := 57) rfl))) (mvT hZ (hw _ (List.mem_of_getElem? (i := 61) rfl))) (by decide) (backOf (W := 0) (rm9b l Z a0 hw [] rr (1 : Int32) (3 : Int32) (0 : Int32) (FP.l2d li) c0 _ _ h38 n0 (Nat.le_trans Z0 K.1) V_rr (by decide) (by decide) (by decide) rfl) hZ (hw _ (List.mem_of_getElem? (i := 61) rfl)) (hw _ (List.mem_of_getElem? (i := 57) rfl)) (by decide) (by decide)) (g := (mkF m 323 #[.val (.int p0), .val (.int p1), .val (.int p2), .val (.int p3), .val (.long q4), .second, .val (.int p5), .val (.int (3 : Int32)), .val (.int c0), .val (.int c1), .val (.int c2), .val (.double (FP.l2d li)), .second, .val (.ref b28), .val (.ref b32), .val (.ref b36), .val (.ref rr), .val (.int (0 : Int32)), .val (.long (p1.toInt64)), .second, .val (.long (c0.toInt64)), .second, .val (.int c0)] [(.int c0), (.double (FP.l2d li)), (.int (0 : Int32)), (.int (3 : Int32)), (.int (1 : Int32)), (.ref rr)])) rfl (by rw [hml]; rfl) (argsL := [(.ref rr), (.int (1 : Int32)), (.int (3 : Int32)), (.int (0 : Int32)), (.double (FP.l2d li)), (.int c0)]) (rest := []) (lenOf pd_5 rfl) rfl (by show 2 * 0 + _ ≤ _; exact Nat.le_of_eq rfl) (hb hby at_323) (fun _ _ => ⟨rfl, eT, (by decide : 7 + 0 ≤ _), (by decide : 34 + 0 ≤ _)⟩)
        dsimp only [Pt.U, Pt.locs, Pt.cells, Pt.slots] at X l_ y_ z_ st hQ
        subst l_ y_ z_
        obtain ⟨rfl, Nq, eh⟩ := hQ
        have N := Fr.app N Nq
        have eT := eh
        refine Go.by st ?_
        show Go p.tables e below (T.setTop (mkF m 326 #[.val (.int p0), .val (.int p1), .val (.int p2), .val (.int p3), .val (.long q4), .second, .val (.int p5), .val (.int (3 : Int32)), .val (.int c0), .val (.int c1), .val (.int c2), .val (.double (FP.l2d li)), .second, .val (.ref b28), .val (.ref b32), .val (.ref b36), .val (.ref rr), .val (.int (0 : Int32)), .val (.long (p1.toInt64)), .second, .val (.long (c0.toInt64)), .second, .val (.int c0)] [(.int (1 : Int32))])) _
        refine Go.by (fun tt_ kk_ => XS.ifNo X.here hx rfl (hb hby at_326) rfl ((if0 _ _).trans (feq (by decide : ¬ ((1 : Int32) = (0 : Int32)))).1) kk_) ?_
        show Go p.tables e below (T.setTop (mkF m 329 #[.val (.int p0), .val (.int p1), .val (.int p2), .val (.int p3), .val (.long q4), .second, .val (.int p5), .val (.int (3 : Int32)), .val (.int c0), .val (.int c1), .val (.int c2), .val (.double (FP.l2d li)), .second, .val (.ref b28), .val (.ref b32), .val (.ref b36), .val (.ref rr), .val (.int (0 : Int32)), .val (.long (p1.toInt64)), .second, .val (.long (c0.toInt64)), .second, .val (.int c0)] [])) _
        refine Go.by (fun tt_ kk_ => XS.aload X.here hx rfl (hb hby at_329) rfl rfl kk_) ?_
        show Go p.tables e below (T.setTop (mkF m 331 #[.val (.int p0), .val (.int p1), .val (.int p2), .val (.int p3), .val (.long q4), .second, .val (.int p5), .val (.int (3 : Int32)), .val (.int c0), .val (.int c1), .val (.int c2), .val (.double (FP.l2d li)), .second, .val (.ref b28), .val (.ref b32), .val (.ref b36), .val (.ref rr), .val (.int (0 : Int32)), .val (.long (p1.toInt64)), .second, .val (.long (c0.toInt64)), .second, .val (.int c0)] [(.ref rr)])) _
        refine Go.by (fun tt_ kk_ => XS.iconst X.here hx rfl (hb hby at_331) kk_) ?_
        show Go p.tables e below (T.setTop (mkF m 332 #[.val (.int p0), .val (.int p1), .val (.int p2), .val (.int p3), .val (.long q4), .second, .val (.int p5), .val (.int (3 : Int32)), .val (.int c0), .val (.int c1), .val (.int c2), .val (.double (FP.l2d li)), .second, .val (.ref b28), .val (.ref b32), .val (.ref b36), .val (.ref rr), .val (.int (0 : Int32)), .val (.long (p1.toInt64)), .second, .val (.long (c0.toInt64)), .second, .val (.int c0)] [(.int (2 : Int32)), (.ref rr)])) _
        refine Go.by (fun tt_ kk_ => XS.iload X.here hx rfl (hb hby at_332) rfl kk_) ?_
        show Go p.tables e below (T.setTop (mkF m 334 #[.val (.int p0), .val (.int p1), .val (.int p2), .val (.int p3), .val (.long q4), .second, .val (.int p5), .val (.int (3 : Int32)), .val (.int c0), .val (.int c1), .val (.int c2), .val (.double (FP.l2d li)), .second, .val (.ref b28), .val (.ref b32), .val (.ref b36), .val (.ref rr), .val (.int (0 : Int32)), .val (.long (p1.toInt64)), .second, .val (.long (c0.toInt64)), .second, .val (.int c0)] [(.int (3 : Int32)), (.int (2 : Int32)), (.ref rr)])) _
        refine Go.by (fun tt_ kk_ => XS.iload X.here hx rfl (hb hby at_334) rfl kk_) ?_
        show Go p.tables e below (T.setTop (mkF m 336 #[.val (.int p0), .val (.int p1), .val (.int p2), .val (.int p3), .val (.long q4), .second, .val (.int p5), .val (.int (3 : Int32)), .val (.int c0), .val (.int c1), .val (.int c2), .val (.double (FP.l2d li)), .second, .val (.ref b28), .val (.ref b32), .val (.ref b36), .val (.ref rr), .val (.int (0 : Int32)), .val (.long (p1.toInt64)), .second, .val (.long (c0.toInt64)), .second, .val (.int c0)] [(.int (0 : Int32)), (.int (3 : Int32)), (.int (2 : Int32)), (.ref rr)])) _
        refine Go.by (fun tt_ kk_ => XS.dload X.here hx rfl (hb hby at_336) rfl kk_) ?_
        show Go p.tables e below (T.setTop (mkF m 338 #[.val (.int p0), .val (.int p1), .val (.int p2), .val (.int p3), .val (.long q4), .second, .val (.int p5), .val (.int (3 : Int32)), .val (.int c0), .val (.int c1), .val (.int c2), .val (.double (FP.l2d li)), .second, .val (.ref b28), .val (.ref b32), .val (.ref b36), .val (.ref rr), .val (.int (0 : Int32)), .val (.long (p1.toInt64)), .second, .val (.long (c0.toInt64)), .second, .val (.int c0)] [(.double (FP.l2d li)), (.int (0 : Int32)), (.int (3 : Int32)), (.int (2 : Int32)), (.ref rr)])) _
        refine Go.by (fun tt_ kk_ => XS.iload X.here hx rfl (hb hby at_338) rfl kk_) ?_
        show Go p.tables e below (T.setTop (mkF m 340 #[.val (.int p0), .val (.int p1), .val (.int p2), .val (.int p3), .val (.long q4), .second, .val (.int p5), .val (.int (3 : Int32)), .val (.int c0), .val (.int c1), .val (.int c2), .val (.double (FP.l2d li)), .second, .val (.ref b28), .val (.ref b32), .val (.ref b36), .val (.ref rr), .val (.int (0 : Int32)), .val (.long (p1.toInt64)), .second, .val (.long (c0.toInt64)), .second, .val (.int c0)] [(.int c0), (.double (FP.l2d li)), (.int (0 : Int32)), (.int (3 : Int32)), (.int (2 : Int32)), (.ref rr)])) _
        obtain ⟨_, _, ⟨T, L_, k_, n_⟩, -, X, ⟨Lc_, hQ, l_, y_, z_⟩, st⟩ := Jvm.LawKit.callS X hx (y := (⟨"com/example/pareto_helm/paretohelm/engine/BudgetBestCornerPinLaw", "check", "([DIIIDI)Z"⟩ : MethodName)) hown (mvT hZ (hw _ (List.mem_of_getElem? (i := 59) rfl))) (mvT hZ (hw _ (List.mem_of_getElem? (i := 60) rfl))) (mvT hZ (hw _ (List.mem_of_getElem? (i := 57) rfl))) (mvT hZ (hw _ (List.mem_of_getElem? (i := 61) rfl))) (by decide) (backOf (W := 0) (rm9b l Z a0 hw [] rr (2 : Int32) (3 : Int32) (0 : Int32) (FP.l2d li) c0 _ _ h38 n0 (Nat.le_trans Z0 K.1) V_rr (by decide) (by decide) (by decide) rfl) hZ (hw _ (List.mem_of_getElem? (i := 61) rfl)) (hw _ (List.mem_of_getElem? (i := 57) rfl)) (by decide) (by decide)) (g := (mkF m 340 #[.val (.int p0), .val (.int p1), .val (.int p2), .val (.int p3), .val (.long q4), .second, .val (.int p5), .val (.int (3 : Int32)), .val (.int c0), .val (.int c1), .val (.int c2), .val (.double (FP.l2d li)), .second, .val (.ref b28), .val (.ref b32), .val (.ref b36), .val (.ref rr), .val (.int (0 : Int32)), .val (.long (p1.toInt64)), .second, .val (.long (c0.toInt64)), .second, .val (.int c0)] [(.int c0), (.double (FP.l2d li)), (.int (0 : Int32)), (.int (3 : Int32)), (.int (2 : Int32)), (.ref rr)])) rfl (by rw [hml]; rfl) (argsL := [(.ref rr), (.int (2 : Int32)), (.int (3 : Int32)), (.int (0 : Int32)), (.double (FP.l2d li)), (.int c0)]) (rest := []) (lenOf pd_5 rfl) rfl (by show 2 * 0 + _ ≤ _; exact Nat.le_of_eq rfl) (hb hby at_340) (fun _ _ => ⟨rfl, eT, (by decide : 7 + 0 ≤ _), (by decide : 34 + 0 ≤ _)⟩)
        dsimp only [Pt.U, Pt.locs, Pt.cells, Pt.slots] at X l_ y_ z_ st hQ
        subst l_ y_ z_
        obtain ⟨rfl, Nq, eh⟩ := hQ
        have N := Fr.app N Nq
        have eT := eh
        refine Go.by st ?_
        show Go p.tables e below (T.setTop (mkF m 343 #[.val (.int p0), .val (.int p1), .val (.int p2), .val (.int p3), .val (.long q4), .second, .val (.int p5), .val (.int (3 : Int32)), .val (.int c0), .val (.int c1), .val (.int c2), .val (.double (FP.l2d li)), .second, .val (.ref b28), .val (.ref b32), .val (.ref b36), .val (.ref rr), .val (.int (0 : Int32)), .val (.long (p1.toInt64)), .second, .val (.long (c0.toInt64)), .second, .val (.int c0)] [(.int (1 : Int32))])) _
        refine Go.by (fun tt_ kk_ => XS.ifNo X.here hx rfl (hb hby at_343) rfl ((if0 _ _).trans (feq (by decide : ¬ ((1 : Int32) = (0 : Int32)))).1) kk_) ?_
        show Go p.tables e below (T.setTop (mkF m 346 #[.val (.int p0), .val (.int p1), .val (.int p2), .val (.int p3), .val (.long q4), .second, .val (.int p5), .val (.int (3 : Int32)), .val (.int c0), .val (.int c1), .val (.int c2), .val (.double (FP.l2d li)), .second, .val (.ref b28), .val (.ref b32), .val (.ref b36), .val (.ref rr), .val (.int (0 : Int32)), .val (.long (p1.toInt64)), .second, .val (.long (c0.toInt64)), .second, .val (.int c0)] [])) _
        refine Go.by (fun tt_ kk_ => XS.iconst X.here hx rfl (hb hby at_346) kk_) ?_
        show Go p.tables e below (T.setTop (mkF m 347 #[.val (.int p0), .val (.int p1), .val (.int p2), .val (.int p3), .val (.long q4), .second, .val (.int p5), .val (.int (3 : Int32)), .val (.int c0), .val (.int c1), .val (.int c2), .val (.double (FP.l2d li)), .second, .val (.ref b28), .val (.ref b32), .val (.ref b36), .val (.ref rr), .val (.int (0 : Int32)), .val (.long (p1.toInt64)), .second, .val (.long (c0.toInt64)), .second, .val (.int c0)] [(.int (1 : Int32))])) _
        refine Go.by (fun tt_ kk_ => XS.goto X.here hx rfl (pc0 := 347) (pc' := 351) rfl (hb hby at_347) (by decide) (by decide) kk_) ?_
        show Go p.tables e below (T.setTop (mkF m 351 #[.val (.int p0), .val (.int p1), .val (.int p2), .val (.int p3), .val (.long q4), .second, .val (.int p5), .val (.int (3 : Int32)), .val (.int c0), .val (.int c1), .val (.int c2), .val (.double (FP.l2d li)), .second, .val (.ref b28), .val (.ref b32), .val (.ref b36), .val (.ref rr), .val (.int (0 : Int32)), .val (.long (p1.toInt64)), .second, .val (.long (c0.toInt64)), .second, .val (.int c0)] [(.int (1 : Int32))])) _
        exact Go.doneW X hS (by rw [eT]; exact hk) (v := some (.int (1 : Int32))) (fun h => by rw [Bd.returns] at h; cases h) Bd.notSynchronized (fun fs hr => retN X hx (z := (1 : Int32)) (t := .boolean) Bd.returns (by simp) (hb hby at_351) hr) (by rw [eT]; exact ⟨rfl, N⟩) (by decide) (by decide)
set_option maxRecDepth 65536 in
set_option maxHeartbeats 40000000 in
theorem comes_1 {Post : Tables → Env → Array Value → State → Outcome → State → Prop} (hpost : ∀ tb e args s v u, (limb_1_1.after args s (.returned v) u = true ∧ limb_1_2.after args s (.returned v) u = true ∧ True) → ReturnedEndW s (.returned v) u (Jvm.fieldLocs frame_1_writes args s ++ Jvm.arrayLocs frame_1_arrays args s ++ Jvm.staticLocs frame_1_statics s) 24 1152 → Post tb e args s (.returned v) u) :
    ArmFor flags0 classFile x code maxLocals ret World_1 tables_1 room_1 Calls_1 rest_1 Pre_1 Post := by
  intro l hfl _ _ p e ha hc hk s m args below hf hA hF happ hP
  obtain ⟨hcalls, hrest, hpre⟩ := hP
  obtain ⟨-, -, -, hnamed, -, -, -, hat⟩ := (Spec.applies_iff hf).mp happ
  obtain ⟨hg, hn⟩ := and_e (Cond.before_iff.mp (show (Jvm.Cond.and given_1 narrow_1).before args s = true from hpre))
  obtain ⟨hcount, hg⟩ := and_e hg
  obtain ⟨hv0, hg⟩ := and_e hg
  obtain ⟨hv1, hg⟩ := and_e hg
  obtain ⟨hv2, hg⟩ := and_e hg
  obtain ⟨hv3, hg⟩ := and_e hg
  obtain ⟨hv4, hg⟩ := and_e hg
  have hv5 := hg
  obtain ⟨w0, w1, w2, w3, w4, w5, rfl⟩ : ∃ w0 w1 w2 w3 w4 w5 : Value, args = #[w0, w1, w2, w3, w4, w5] := by
    have hs : args.size = 6 := by simpa [Cond.value, given_1] using hcount
    obtain ⟨L⟩ := args
    match L, hs with
    | [w0, w1, w2, w3, w4, w5], _ => exact ⟨w0, w1, w2, w3, w4, w5, rfl⟩
  have hw := fun d (hd : d ∈ tables_1) => atoms_spec (ws := Jvm.Cond.code x code maxLocals ret :: tables_1) hat d (List.mem_cons_of_mem _ hd)
  have hfit : Fit s := fun {y c} hc i hi => by
    obtain ⟨ha, rfl⟩ := Array.getElem?_eq_some_iff.mp hc
    have q := List.all_eq_true.mp ((Array.all_eq_true_iff_forall_mem.mp hF) _ (Array.getElem_mem ha)) i (List.mem_range.mpr hi)
    simpa [Array.getElem?_eq_getElem hi] using q
  obtain ⟨i0, ei0⟩ := is_v hv0
  obtain rfl : w0 = (.int i0) := Option.some.inj ei0
  obtain ⟨i1, ei1⟩ := is_v hv1
  obtain rfl : w1 = (.int i1) := Option.some.inj ei1
  obtain ⟨i2, ei2⟩ := is_v hv2
  obtain rfl : w2 = (.int i2) := Option.some.inj ei2
  obtain ⟨i3, ei3⟩ := is_v hv3
  obtain rfl : w3 = (.int i3) := Option.some.inj ei3
  obtain ⟨i4, ei4⟩ := isL_v hv4
  obtain rfl : w4 = (.long i4) := Option.some.inj ei4
  obtain ⟨i5, ei5⟩ := is_v hv5
  obtain rfl : w5 = (.int i5) := Option.some.inj ei5
  obtain ⟨n, o, h1, h2, h3, _, L, rfl, ⟨rfl, N⟩, hq⟩ := rm0 l s _ hw tables_1 i0 i1 i2 i3 i4 i5  s.heap s.heap.size (Nat.le_refl _)  p e ha hc hk s m _ below hf ((Spec.applies_iff_loose hf).mp happ).1 ⟨rfl, State.Warmed39.refl s, rfl⟩ trivial
  refine ⟨n, _, h1, h2, h3, hpost _ _ _ _ _ _ ⟨Cond.after_iff.mpr rfl, Cond.after_iff.mpr (eq_i res_at (Term.int_eval (1)) rfl), trivial⟩ ⟨hq.1, hq.2.1, hq.2.2.1, (hq.2.2.2.sift fun y hy => Or.inr (N y hy)).mono (by decide) (by decide)⟩⟩
theorem main_1_1 : Claimed_1_1 := comes_1 fun _ _ _ _ _ _ h hF => ⟨h.1, hF⟩
theorem main_1_2 : Claimed_1_2 := comes_1 fun _ _ _ _ _ _ h hF => ⟨h.2.1, hF⟩
end Jvm.Pilot.@@N@@
namespace Jvm.Pilot.@@N@@
open Jvm Jvm.ClassFile Sem Op Lib Jvm.Free Jvm.Stand Jvm.Pilot.@@N@@.Jvm.D
/-! MADE BY PROGRAM (witnessworld.py) out of the Statement's table words and the real class files: 20 classes; the members and pool entries that the words name. The judged class is class 1, her method 3. -/
namespace start1
open Jvm.ClassFile
def u (s : String) : CpInfo := .utf8 (stringToUtf16 s)
/-- a pool by its gaps: so many unusable entries, then the entry; so many at the end -/
def gap : Nat → List CpInfo → List CpInfo
  | 0, r => r
  | n + 1, r => .unusable :: gap n r
def poolList (es : List (Nat × CpInfo)) (last : Nat) : List CpInfo := es.foldr (fun e r => gap e.1 (e.2 :: r)) (gap last [])
def pool (es : List (Nat × CpInfo)) (last : Nat) : Array CpInfo := ⟨poolList es last⟩
def fileOf (pool : Array CpInfo) (this : Nat) (attrs : Array Attribute := #[]) (ms : Array MethodInfo := #[]) (fl : Nat := 33) (sup : Nat := 0) (ifs : Array Nat := #[]) (fds : Array FieldInfo := #[]) : ClassFile where
  minorVersion := 0
  majorVersion := 65
  constantPool := pool
  accessFlags := fl
  thisClass := this
  superClass := sup
  interfaces := ifs
  fields := fds
  methods := ms
  attributes := attrs
def plain (name : String) (sup : Option ClassId) : Class where
  name := name
  kind := .ordinary
  loader := none
  accessFlags := 33
  super := sup
  interfaces := #[]
  cf := none
  fields := #[]
  methods := #[]
  instanceTypes := #[]
  staticTypes := #[]
  resolved := #[]
  callSites := []
  init := .initialized
  statics := none
  mirror := none

def pool0 : Array CpInfo := pool [(5, u "<init>"), (0, u "()V"), (1, .class_ 10), (1, u "java/lang/Object"), (85, u "clone"), (0, u "()Ljava/lang/Object;")] 26

def k0c0 : Code := { maxStack := 0, maxLocals := 1, code := object_method_1_code, exceptionTable := #[], attributes := #[] }
def k0m0 : Method := { name := "<init>", desc := "()V", sig := { parameters := [], returnType := none }, accessFlags := 1, code := some k0c0 }
def k0m1 : Method := { name := "clone", desc := "()Ljava/lang/Object;", sig := { parameters := [], returnType := some (.object "java/lang/Object") }, accessFlags := 260, code := none }
/-- java/lang/Object -/
def k0 : Class := { plain "java/lang/Object" none with
  accessFlags := 33
  interfaces := #[]
  cf := some (fileOf pool0 8 #[] #[{ accessFlags := 1, nameIndex := 5, descriptorIndex := 6, attributes := #[] }, { accessFlags := 260, nameIndex := 96, descriptorIndex := 97, attributes := #[] }] 33 0 #[] #[])
  fields := #[]
  methods := #[k0m0, k0m1]
  instanceTypes := #[]
  staticTypes := #[]
  resolved := Array.replicate 124 none
  statics := none }

def pool1 : Array CpInfo := pool [(2, .class_ 4), (1, u "java/lang/Object"), (0, u "<init>"), (0, u "()V"), (0, .integer 2147483647), (0, .long 4611686018427387903), (1, .class_ 11), (0, u "com/example/pareto_helm/paretohelm/engine/Budget"), (0, .methodref 10 13), (0, .nameAndType 5 14), (0, u "([DD)V"), (0, .methodref 10 16), (0, .nameAndType 17 18), (0, u "bestCorner"), (0, u "([D)[D"), (0, .methodref 20 21), (0, .class_ 22), (0, .nameAndType 23 24), (0, u "com/example/pareto_helm/paretohelm/engine/BudgetBestCornerPinLaw"), (0, u "greater"), (0, u "(JJJJ)Z"), (0, .methodref 20 26), (0, .nameAndType 27 28), (0, u "check"), (0, u "([DIIIDI)Z"), (3, u "law"), (0, u "(IIIIJI)Z")] 4

def k1m0 : Method := { name := "<init>", desc := "()V", sig := { parameters := [], returnType := none }, accessFlags := 2, code := none }
def k1c1 : Code := { maxStack := 6, maxLocals := 8, code := method_2_code, exceptionTable := #[], attributes := #[] }
def k1m1 : Method := { name := "greater", desc := "(JJJJ)Z", sig := { parameters := [.long, .long, .long, .long], returnType := some .boolean }, accessFlags := 10, code := some k1c1 }
def k1c2 : Code := { maxStack := 4, maxLocals := 9, code := method_3_code, exceptionTable := #[], attributes := #[] }
def k1m2 : Method := { name := "check", desc := "([DIIIDI)Z", sig := { parameters := [(.array .double), .int, .int, .int, .double, .int], returnType := some .boolean }, accessFlags := 10, code := some k1c2 }
def k1c3 : Code := { maxStack := 8, maxLocals := 23, code := code, exceptionTable := #[], attributes := #[] }
def k1m3 : Method := { name := "law", desc := "(IIIIJI)Z", sig := { parameters := [.int, .int, .int, .int, .long, .int], returnType := some .boolean }, accessFlags := 9, code := some k1c3 }
/-- com/example/pareto_helm/paretohelm/engine/BudgetBestCornerPinLaw -/
def k1 : Class := { plain "com/example/pareto_helm/paretohelm/engine/BudgetBestCornerPinLaw" (some 0) with
  accessFlags := 49
  interfaces := #[]
  cf := some (fileOf pool1 20 #[] #[{ accessFlags := 2, nameIndex := 5, descriptorIndex := 6, attributes := #[] }, { accessFlags := 10, nameIndex := 23, descriptorIndex := 24, attributes := #[] }, { accessFlags := 10, nameIndex := 27, descriptorIndex := 28, attributes := #[] }, { accessFlags := 9, nameIndex := 32, descriptorIndex := 33, attributes := #[] }] 49 2 #[] #[])
  fields := #[]
  methods := #[k1m0, k1m1, k1m2, k1m3]
  instanceTypes := #[]
  staticTypes := #[]
  resolved := Array.replicate 38 none
  statics := none }

def pool2 : Array CpInfo := pool [(1, .methodref 2 3), (0, .class_ 4), (0, .nameAndType 5 6), (0, u "java/lang/Object"), (0, u "<init>"), (0, u "()V"), (0, .string 8), (0, u "cost"), (0, .methodref 10 11), (0, .class_ 12), (0, .nameAndType 13 14), (0, u "com/example/pareto_helm/paretohelm/engine/Positive"), (0, u "copyOf"), (0, u "([DLjava/lang/String;)[D"), (0, .fieldref 16 17), (0, .class_ 18), (0, .nameAndType 19 20), (0, u "com/example/pareto_helm/paretohelm/engine/Budget"), (0, u "costs"), (0, u "[D"), (13, .methodref 10 35), (0, .nameAndType 36 37), (0, u "holds"), (0, u "(D)Z"), (6, .fieldref 16 45), (0, .nameAndType 46 47), (0, u "limit"), (0, u "D"), (19, u "([DD)V"), (10, u "bestCorner"), (0, u "([D)[D")] 20

def k2c0 : Code := { maxStack := 4, maxLocals := 5, code := prog_5_method_1_code, exceptionTable := #[{ startPc := 4, endPc := 14, handlerPc := 17, catchType := 21 }], attributes := #[] }
def k2m0 : Method := { name := "<init>", desc := "([DD)V", sig := { parameters := [(.array .double), .double], returnType := none }, accessFlags := 1, code := some k2c0 }
def k2c1 : Code := { maxStack := 6, maxLocals := 4, code := prog_5_method_6_code, exceptionTable := #[], attributes := #[] }
def k2m1 : Method := { name := "bestCorner", desc := "([D)[D", sig := { parameters := [(.array .double)], returnType := some (.array .double) }, accessFlags := 1, code := some k2c1 }
/-- com/example/pareto_helm/paretohelm/engine/Budget -/
def k2 : Class := { plain "com/example/pareto_helm/paretohelm/engine/Budget" (some 0) with
  accessFlags := 49
  interfaces := #[]
  cf := some (fileOf pool2 16 #[] #[{ accessFlags := 1, nameIndex := 5, descriptorIndex := 67, attributes := #[] }, { accessFlags := 1, nameIndex := 78, descriptorIndex := 79, attributes := #[] }] 49 2 #[] #[{ accessFlags := 18, nameIndex := 19, descriptorIndex := 20, attributes := #[] }, { accessFlags := 18, nameIndex := 46, descriptorIndex := 47, attributes := #[] }])
  fields := #[{ name := "costs", type := (.array .double), accessFlags := 18, slot := 0, constantValue := 0 }, { name := "limit", type := .double, accessFlags := 18, slot := 1, constantValue := 0 }]
  methods := #[k2m0, k2m1]
  instanceTypes := #[(.array .double), .double]
  staticTypes := #[]
  resolved := Array.replicate 100 none
  statics := none }

def pool3 : Array CpInfo := pool [(1, .class_ 2), (0, u "java/io/Serializable"), (0, .class_ 4), (0, u "java/lang/Object")] 2

/-- java/io/Serializable -/
def k3 : Class := { plain "java/io/Serializable" (some 0) with
  accessFlags := 1537
  interfaces := #[]
  cf := some (fileOf pool3 1 #[] #[] 1537 3 #[] #[])
  fields := #[]
  methods := #[]
  instanceTypes := #[]
  staticTypes := #[]
  resolved := Array.replicate 7 none
  statics := none }

def pool4 : Array CpInfo := pool [(1, .class_ 2), (0, u "java/lang/Comparable"), (0, .class_ 4), (0, u "java/lang/Object")] 7

/-- java/lang/Comparable -/
def k4 : Class := { plain "java/lang/Comparable" (some 0) with
  accessFlags := 1537
  interfaces := #[]
  cf := some (fileOf pool4 1 #[] #[] 1537 3 #[] #[])
  fields := #[]
  methods := #[]
  instanceTypes := #[]
  staticTypes := #[]
  resolved := Array.replicate 12 none
  statics := none }

def pool5 : Array CpInfo := pool [(2, .class_ 4), (1, u "java/lang/CharSequence"), (42, .class_ 48), (0, u "java/lang/CharSequence$1CodePointIterator"), (10, .class_ 60), (0, u "java/lang/CharSequence$1CharIterator"), (5, .class_ 67), (0, u "java/lang/Object")] 63

/-- java/lang/CharSequence -/
def k5 : Class := { plain "java/lang/CharSequence" (some 0) with
  accessFlags := 1537
  interfaces := #[]
  cf := some (fileOf pool5 2 #[.nestMembers #[47, 59]] #[] 1537 66 #[] #[])
  fields := #[]
  methods := #[]
  instanceTypes := #[]
  staticTypes := #[]
  resolved := Array.replicate 131 none
  statics := none }

def pool6 : Array CpInfo := pool [(1, .class_ 2), (0, u "java/lang/constant/Constable"), (0, .class_ 4), (0, u "java/lang/Object")] 6

/-- java/lang/constant/Constable -/
def k6 : Class := { plain "java/lang/constant/Constable" (some 0) with
  accessFlags := 1537
  interfaces := #[]
  cf := some (fileOf pool6 1 #[] #[] 1537 3 #[] #[])
  fields := #[]
  methods := #[]
  instanceTypes := #[]
  staticTypes := #[]
  resolved := Array.replicate 11 none
  statics := none }

def pool7 : Array CpInfo := pool [(1, .class_ 2), (0, u "java/lang/constant/ConstantDesc"), (0, .class_ 4), (0, u "java/lang/Object")] 32

/-- java/lang/constant/ConstantDesc -/
def k7 : Class := { plain "java/lang/constant/ConstantDesc" (some 0) with
  accessFlags := 1537
  interfaces := #[]
  cf := some (fileOf pool7 1 #[] #[] 1537 3 #[] #[])
  fields := #[]
  methods := #[]
  instanceTypes := #[]
  staticTypes := #[]
  resolved := Array.replicate 37 none
  statics := none }

def pool8 : Array CpInfo := pool [(2, .class_ 4), (1, u "java/lang/Object"), (0, u "<init>"), (0, u "()V"), (3, .class_ 12), (1, u "java/lang/String"), (0, u "value"), (0, u "[B"), (2, u "coder"), (0, u "B"), (2, u "hash"), (0, u "I"), (2, u "hashIsZero"), (0, u "Z"), (13, u "COMPACT_STRINGS"), (534, .class_ 576), (0, u "java/lang/CharSequence"), (22, u "CASE_INSENSITIVE_ORDER"), (0, u "Ljava/util/Comparator;"), (500, u "serialPersistentFields"), (0, u "[Ljava/io/ObjectStreamField;"), (0, .class_ 1104), (0, u "java/lang/String$CaseInsensitiveComparator"), (1, .class_ 1107), (0, u "java/io/Serializable"), (0, .class_ 1109), (0, u "java/lang/Comparable"), (0, .class_ 1111), (0, u "java/lang/constant/Constable"), (0, .class_ 1113), (0, u "java/lang/constant/ConstantDesc"), (2, u "serialVersionUID"), (0, u "J"), (3, u "REPL"), (0, u "C"), (2, u "LATIN1"), (1, u "UTF16")] 323

def k8m0 : Method := { name := "<init>", desc := "()V", sig := { parameters := [], returnType := none }, accessFlags := 1, code := none }
/-- java/lang/String -/
def k8 : Class := { plain "java/lang/String" (some 0) with
  accessFlags := 49
  interfaces := #[3, 4, 5, 6, 7]
  cf := some (fileOf pool8 10 #[.nestMembers #[1103]] #[{ accessFlags := 1, nameIndex := 5, descriptorIndex := 6, attributes := #[] }] 49 2 #[1106, 1108, 575, 1110, 1112] #[{ accessFlags := 18, nameIndex := 13, descriptorIndex := 14, attributes := #[] }, { accessFlags := 18, nameIndex := 17, descriptorIndex := 18, attributes := #[] }, { accessFlags := 2, nameIndex := 21, descriptorIndex := 22, attributes := #[] }, { accessFlags := 2, nameIndex := 25, descriptorIndex := 26, attributes := #[] }, { accessFlags := 26, nameIndex := 1116, descriptorIndex := 1117, attributes := #[] }, { accessFlags := 24, nameIndex := 40, descriptorIndex := 26, attributes := #[] }, { accessFlags := 26, nameIndex := 1101, descriptorIndex := 1102, attributes := #[] }, { accessFlags := 26, nameIndex := 1121, descriptorIndex := 1122, attributes := #[] }, { accessFlags := 25, nameIndex := 599, descriptorIndex := 600, attributes := #[] }, { accessFlags := 24, nameIndex := 1125, descriptorIndex := 18, attributes := #[] }, { accessFlags := 24, nameIndex := 1127, descriptorIndex := 18, attributes := #[] }])
  fields := #[{ name := "value", type := (.array .byte), accessFlags := 18, slot := 0, constantValue := 0 }, { name := "coder", type := .byte, accessFlags := 18, slot := 1, constantValue := 0 }, { name := "hash", type := .int, accessFlags := 2, slot := 2, constantValue := 0 }, { name := "hashIsZero", type := .boolean, accessFlags := 2, slot := 3, constantValue := 0 }, { name := "serialVersionUID", type := .long, accessFlags := 26, slot := 0, constantValue := 0 }, { name := "COMPACT_STRINGS", type := .boolean, accessFlags := 24, slot := 1, constantValue := 0 }, { name := "serialPersistentFields", type := (.array (.object "java/io/ObjectStreamField")), accessFlags := 26, slot := 2, constantValue := 0 }, { name := "REPL", type := .char, accessFlags := 26, slot := 3, constantValue := 0 }, { name := "CASE_INSENSITIVE_ORDER", type := (.object "java/util/Comparator"), accessFlags := 25, slot := 4, constantValue := 0 }, { name := "LATIN1", type := .byte, accessFlags := 24, slot := 5, constantValue := 0 }, { name := "UTF16", type := .byte, accessFlags := 24, slot := 6, constantValue := 0 }]
  methods := #[k8m0]
  instanceTypes := #[(.array .byte), .byte, .int, .boolean]
  staticTypes := #[.long, .boolean, (.array (.object "java/io/ObjectStreamField")), .char, (.object "java/util/Comparator"), .byte, .byte]
  resolved := Array.replicate 1451 none
  statics := none }

def pool9 : Array CpInfo := pool [(2, .class_ 4), (1, u "java/lang/Object"), (0, u "<init>"), (0, u "()V"), (0, .methodref 8 9), (0, .class_ 10), (0, .nameAndType 11 12), (0, u "java/lang/Double"), (0, u "isFinite"), (0, u "(D)Z"), (25, .methodref 39 40), (0, .class_ 41), (0, .nameAndType 42 12), (0, u "com/example/pareto_helm/paretohelm/engine/Positive"), (0, u "holds"), (3, .methodref 47 48), (0, .class_ 49), (0, .nameAndType 50 51), (0, u "[D"), (0, u "clone"), (0, u "()Ljava/lang/Object;"), (5, u "copyOf"), (0, u "([DLjava/lang/String;)[D")] 28

def k9m0 : Method := { name := "<init>", desc := "()V", sig := { parameters := [], returnType := none }, accessFlags := 2, code := none }
def k9c1 : Code := { maxStack := 4, maxLocals := 2, code := prog_24_method_2_code, exceptionTable := #[], attributes := #[] }
def k9m1 : Method := { name := "holds", desc := "(D)Z", sig := { parameters := [.double], returnType := some .boolean }, accessFlags := 8, code := some k9c1 }
def k9c2 : Code := { maxStack := 7, maxLocals := 3, code := prog_24_method_4_code, exceptionTable := #[], attributes := #[] }
def k9m2 : Method := { name := "copyOf", desc := "([DLjava/lang/String;)[D", sig := { parameters := [(.array .double), (.object "java/lang/String")], returnType := some (.array .double) }, accessFlags := 8, code := some k9c2 }
/-- com/example/pareto_helm/paretohelm/engine/Positive -/
def k9 : Class := { plain "com/example/pareto_helm/paretohelm/engine/Positive" (some 0) with
  accessFlags := 48
  interfaces := #[]
  cf := some (fileOf pool9 39 #[] #[{ accessFlags := 2, nameIndex := 5, descriptorIndex := 6, attributes := #[] }, { accessFlags := 8, nameIndex := 42, descriptorIndex := 12, attributes := #[] }, { accessFlags := 8, nameIndex := 57, descriptorIndex := 58, attributes := #[] }] 48 2 #[] #[])
  fields := #[]
  methods := #[k9m0, k9m1, k9m2]
  instanceTypes := #[]
  staticTypes := #[]
  resolved := Array.replicate 87 none
  statics := none }

def pool10 : Array CpInfo := pool [(2, .class_ 4), (1, u "java/lang/Object"), (0, u "<init>"), (0, u "()V"), (1, .class_ 10), (1, u "java/lang/Number"), (2, .class_ 14), (0, u "java/io/Serializable"), (0, u "serialVersionUID"), (0, u "J")] 20

def k10m0 : Method := { name := "<init>", desc := "()V", sig := { parameters := [], returnType := none }, accessFlags := 1, code := none }
/-- java/lang/Number -/
def k10 : Class := { plain "java/lang/Number" (some 0) with
  accessFlags := 1057
  interfaces := #[3]
  cf := some (fileOf pool10 8 #[] #[{ accessFlags := 1, nameIndex := 5, descriptorIndex := 6, attributes := #[] }] 1057 2 #[13] #[{ accessFlags := 26, nameIndex := 15, descriptorIndex := 16, attributes := #[] }])
  fields := #[{ name := "serialVersionUID", type := .long, accessFlags := 26, slot := 0, constantValue := 0 }]
  methods := #[k10m0]
  instanceTypes := #[]
  staticTypes := #[.long]
  resolved := Array.replicate 37 none
  statics := none }

def pool11 : Array CpInfo := pool [(1, .class_ 2), (0, u "java/lang/Double"), (10, u "isFinite"), (0, u "(D)Z"), (8, .class_ 25), (1, u "java/lang/Math"), (12, .methodref 23 39), (0, .nameAndType 40 41), (0, u "abs"), (0, u "(D)D"), (69, .double 9218868437227405311), (2, .class_ 116), (1, u "java/lang/Number"), (3, u "value"), (0, u "D"), (51, u "TYPE"), (0, u "Ljava/lang/Class;"), (0, .class_ 176), (0, u "java/lang/Comparable"), (0, .class_ 178), (0, u "java/lang/constant/Constable"), (0, .class_ 180), (0, u "java/lang/constant/ConstantDesc"), (0, u "POSITIVE_INFINITY"), (3, u "NEGATIVE_INFINITY"), (2, u "NaN"), (2, u "MAX_VALUE"), (0, u "MIN_NORMAL"), (0, u "MIN_VALUE"), (2, u "SIZE"), (0, u "I"), (1, u "PRECISION"), (1, u "MAX_EXPONENT"), (1, u "MIN_EXPONENT"), (1, u "BYTES"), (3, u "serialVersionUID"), (0, u "J")] 79

def k11c0 : Code := { maxStack := 4, maxLocals := 2, code := jdk_117_method_8_code, exceptionTable := #[], attributes := #[] }
def k11m0 : Method := { name := "isFinite", desc := "(D)Z", sig := { parameters := [.double], returnType := some .boolean }, accessFlags := 9, code := some k11c0 }
/-- java/lang/Double -/
def k11 : Class := { plain "java/lang/Double" (some 10) with
  accessFlags := 49
  interfaces := #[4, 6, 7]
  cf := some (fileOf pool11 1 #[] #[{ accessFlags := 9, nameIndex := 13, descriptorIndex := 14, attributes := #[] }] 49 114 #[175, 177, 179] #[{ accessFlags := 25, nameIndex := 181, descriptorIndex := 121, attributes := #[] }, { accessFlags := 25, nameIndex := 185, descriptorIndex := 121, attributes := #[] }, { accessFlags := 25, nameIndex := 188, descriptorIndex := 121, attributes := #[] }, { accessFlags := 25, nameIndex := 191, descriptorIndex := 121, attributes := #[] }, { accessFlags := 25, nameIndex := 192, descriptorIndex := 121, attributes := #[] }, { accessFlags := 25, nameIndex := 193, descriptorIndex := 121, attributes := #[] }, { accessFlags := 25, nameIndex := 196, descriptorIndex := 197, attributes := #[] }, { accessFlags := 25, nameIndex := 199, descriptorIndex := 197, attributes := #[] }, { accessFlags := 25, nameIndex := 201, descriptorIndex := 197, attributes := #[] }, { accessFlags := 25, nameIndex := 203, descriptorIndex := 197, attributes := #[] }, { accessFlags := 25, nameIndex := 205, descriptorIndex := 197, attributes := #[] }, { accessFlags := 25, nameIndex := 173, descriptorIndex := 174, attributes := #[] }, { accessFlags := 18, nameIndex := 120, descriptorIndex := 121, attributes := #[] }, { accessFlags := 26, nameIndex := 209, descriptorIndex := 210, attributes := #[] }])
  fields := #[{ name := "POSITIVE_INFINITY", type := .double, accessFlags := 25, slot := 0, constantValue := 0 }, { name := "NEGATIVE_INFINITY", type := .double, accessFlags := 25, slot := 1, constantValue := 0 }, { name := "NaN", type := .double, accessFlags := 25, slot := 2, constantValue := 0 }, { name := "MAX_VALUE", type := .double, accessFlags := 25, slot := 3, constantValue := 0 }, { name := "MIN_NORMAL", type := .double, accessFlags := 25, slot := 4, constantValue := 0 }, { name := "MIN_VALUE", type := .double, accessFlags := 25, slot := 5, constantValue := 0 }, { name := "SIZE", type := .int, accessFlags := 25, slot := 6, constantValue := 0 }, { name := "PRECISION", type := .int, accessFlags := 25, slot := 7, constantValue := 0 }, { name := "MAX_EXPONENT", type := .int, accessFlags := 25, slot := 8, constantValue := 0 }, { name := "MIN_EXPONENT", type := .int, accessFlags := 25, slot := 9, constantValue := 0 }, { name := "BYTES", type := .int, accessFlags := 25, slot := 10, constantValue := 0 }, { name := "TYPE", type := (.object "java/lang/Class"), accessFlags := 25, slot := 11, constantValue := 0 }, { name := "value", type := .double, accessFlags := 18, slot := 0, constantValue := 0 }, { name := "serialVersionUID", type := .long, accessFlags := 26, slot := 12, constantValue := 0 }]
  methods := #[k11m0]
  instanceTypes := #[.double]
  staticTypes := #[.double, .double, .double, .double, .double, .double, .int, .int, .int, .int, .int, (.object "java/lang/Class"), .long]
  resolved := Array.replicate 290 none
  statics := none }

def pool12 : Array CpInfo := pool [(1, .class_ 2), (0, u "java/lang/Math"), (1, .class_ 6), (1, u "java/lang/Object"), (0, u "<init>"), (0, u "()V"), (5, u "(D)D"), (83, .class_ 100), (1, u "java/lang/Math$RandomNumberGeneratorHolder"), (23, u "abs"), (47, u "negativeZeroFloatBits"), (0, u "J"), (2, u "negativeZeroDoubleBits"), (68, u "$assertionsDisabled"), (0, u "Z"), (91, u "twoToTheDoubleScaleDown"), (0, u "D"), (4, u "twoToTheDoubleScaleUp"), (9, u "E"), (3, u "PI"), (2, u "TAU"), (2, u "DEGREES_TO_RADIANS"), (0, u "RADIANS_TO_DEGREES")] 94

def k12m0 : Method := { name := "<init>", desc := "()V", sig := { parameters := [], returnType := none }, accessFlags := 2, code := none }
def k12c1 : Code := { maxStack := 4, maxLocals := 2, code := jdk_29_method_64_code, exceptionTable := #[], attributes := #[] }
def k12m1 : Method := { name := "abs", desc := "(D)D", sig := { parameters := [.double], returnType := some .double }, accessFlags := 9, code := some k12c1 }
/-- java/lang/Math -/
def k12 : Class := { plain "java/lang/Math" (some 0) with
  accessFlags := 49
  interfaces := #[]
  cf := some (fileOf pool12 1 #[.nestMembers #[98]] #[{ accessFlags := 2, nameIndex := 7, descriptorIndex := 8, attributes := #[] }, { accessFlags := 9, nameIndex := 124, descriptorIndex := 14, attributes := #[] }] 49 4 #[] #[{ accessFlags := 25, nameIndex := 354, descriptorIndex := 339, attributes := #[] }, { accessFlags := 25, nameIndex := 358, descriptorIndex := 339, attributes := #[] }, { accessFlags := 25, nameIndex := 361, descriptorIndex := 339, attributes := #[] }, { accessFlags := 26, nameIndex := 364, descriptorIndex := 339, attributes := #[] }, { accessFlags := 26, nameIndex := 365, descriptorIndex := 339, attributes := #[] }, { accessFlags := 26, nameIndex := 172, descriptorIndex := 173, attributes := #[] }, { accessFlags := 26, nameIndex := 176, descriptorIndex := 173, attributes := #[] }, { accessFlags := 8, nameIndex := 344, descriptorIndex := 339, attributes := #[] }, { accessFlags := 8, nameIndex := 338, descriptorIndex := 339, attributes := #[] }, { accessFlags := 4120, nameIndex := 245, descriptorIndex := 246, attributes := #[] }])
  fields := #[{ name := "E", type := .double, accessFlags := 25, slot := 0, constantValue := 0 }, { name := "PI", type := .double, accessFlags := 25, slot := 1, constantValue := 0 }, { name := "TAU", type := .double, accessFlags := 25, slot := 2, constantValue := 0 }, { name := "DEGREES_TO_RADIANS", type := .double, accessFlags := 26, slot := 3, constantValue := 0 }, { name := "RADIANS_TO_DEGREES", type := .double, accessFlags := 26, slot := 4, constantValue := 0 }, { name := "negativeZeroFloatBits", type := .long, accessFlags := 26, slot := 5, constantValue := 0 }, { name := "negativeZeroDoubleBits", type := .long, accessFlags := 26, slot := 6, constantValue := 0 }, { name := "twoToTheDoubleScaleUp", type := .double, accessFlags := 8, slot := 7, constantValue := 0 }, { name := "twoToTheDoubleScaleDown", type := .double, accessFlags := 8, slot := 8, constantValue := 0 }, { name := "$assertionsDisabled", type := .boolean, accessFlags := 4120, slot := 9, constantValue := 0 }]
  methods := #[k12m0, k12m1]
  instanceTypes := #[]
  staticTypes := #[.double, .double, .double, .double, .double, .long, .long, .double, .double, .boolean]
  resolved := Array.replicate 460 none
  statics := none }

def pool13 : Array CpInfo := pool [(1, .class_ 2), (0, u "java/lang/Cloneable"), (0, .class_ 4), (0, u "java/lang/Object")] 2

/-- java/lang/Cloneable -/
def k13 : Class := { plain "java/lang/Cloneable" (some 0) with
  accessFlags := 1537
  interfaces := #[]
  cf := some (fileOf pool13 1 #[] #[] 1537 3 #[] #[])
  fields := #[]
  methods := #[]
  instanceTypes := #[]
  staticTypes := #[]
  resolved := Array.replicate 7 none
  statics := none }

/-- the primitive byte -/
def k14 : Class := { plain "byte" none with kind := .primitive 'B', accessFlags := 0x411 }
/-- [B -/
def k15 : Class := { plain "[B" (some 0) with kind := .array 14 .byte, interfaces := #[13, 3], accessFlags := 1041 }

/-- the primitive double -/
def k16 : Class := { plain "double" none with kind := .primitive 'D', accessFlags := 0x411 }
/-- [D -/
def k17 : Class := { plain "[D" (some 0) with kind := .array 16 .double, interfaces := #[13, 3], accessFlags := 1041 }

/-- the primitive int -/
def k18 : Class := { plain "int" none with kind := .primitive 'I', accessFlags := 0x411 }
/-- [I -/
def k19 : Class := { plain "[I" (some 0) with kind := .array 18 .int, interfaces := #[13, 3], accessFlags := 1041 }

def heap : Heap := #[]
def classes : Array Class := #[k0, k1, k2, k3, k4, k5, k6, k7, k8, k9, k10, k11, k12, k13, k14, k15, k16, k17, k18, k19]
def interned : List (Array UInt16 × Addr) := []
def slotsUsed : Nat := 0
def theMethod : MethodId := ⟨1, 3⟩
def args0 : Array Value := #[.int 1, .int 2, .int 3, .int 4, .long 5, .int 6]
def aboutOver (below : List Frame) : State where
  vm := { classes := classes, interned := interned.toArray }
  heap := heap
  slotsUsed := slotsUsed
  threads := #[{ frames := .invoking theMethod args0 :: below }]
def below0 : List Frame := [.native { method := ⟨0, 0⟩, args := #[] }]
def about1 : State := aboutOver below0
def p0 : Program := .bare "" "" ""
def e0 : Env := launch0.env 0 0 0
theorem w_frames : about1.frames = Frame.invoking theMethod args0 :: below0 := rfl
set_option maxRecDepth 65536 in
theorem w_args : argsFit about1.vm theMethod args0 = true := by decide +kernel
set_option maxRecDepth 65536 in
theorem w_heap : heapFits about1 = true := by decide +kernel
set_option maxRecDepth 65536 in
theorem w_runnable : about1.curStatus? = some .runnable := by decide +kernel
set_option maxRecDepth 65536 in
theorem w_alone : about1.alone = true := by decide +kernel
set_option maxRecDepth 65536 in
theorem w_named : about1.methodNamed? x = some theMethod := by decide +kernel
set_option maxRecDepth 65536 in
theorem w_hears : about1.hears theMethod below0 = true := by decide +kernel
set_option maxRecDepth 65536 in
theorem w_ripe : about1.ripe theMethod args0 below0 = true := by decide +kernel
theorem w_running : about1.status = .running := rfl
set_option maxRecDepth 65536 in
theorem w_room : about1.hasRoom e0.platform room_1 = true :=
  launch0.hasRoom_least _ room_1 (by decide +kernel) (by decide +kernel) (by decide +kernel) (by decide +kernel) (by decide +kernel) (by decide +kernel)
theorem allAtoms_all (ts : List Jvm.Cond) (a : Array Jvm.Value) (st : Jvm.State) : (allAtoms ts).before a st = ts.all (fun c => c.before a st) := by
  induction ts with
  | nil => rfl
  | cons c t ih =>
    show (Jvm.Cond.and c (allAtoms t)).before a st = _
    rw [Jvm.Cond.before_and, ih, List.all_cons]
def words1 : List Jvm.Cond := Jvm.Cond.code x code maxLocals ret :: tables_1
/-- a 'code' word, met by the world's own term for the bytes: nothing is compared byte by byte -/
theorem code_word {y : MethodName} {bytes : ByteArray} {mx : Nat} {rt : Option FieldType} {a : Array Value} {s : State} {m : MethodId} {meth : Method} {c : Code} (h1 : s.methodNamed? y = some m) (h2 : s.vm.method? m = some meth) (h3 : meth.code = some c) (h4 : c.code = bytes)
    (h5 : (c.maxLocals == mx && c.exceptionTable.isEmpty && decide (c.maxStack ≤ mostOperands) && decide (meth.sig.returnType = rt) && !meth.locks && decide (parseMethodDescriptor y.desc = some meth.sig)) = true) : (Jvm.Cond.code y bytes mx rt).before a s = true := by
  simp only [Bool.and_eq_true, beq_iff_eq, Bool.not_eq_true', decide_eq_true_eq] at h5
  obtain ⟨⟨⟨⟨⟨g1, g2⟩, g3⟩, g4⟩, g5⟩, g6⟩ := h5
  simp [Cond.before, Cond.holds, Cond.value, h1, h2, h3, h4, g1, g2, g3, g4, g5, g6]
def isCode : Jvm.Cond → Bool
  | .code _ _ _ _ => true
  | _ => false
theorem all_split {L : List Jvm.Cond} {P : Jvm.Cond → Bool} (h1 : L.all (fun c => isCode c || P c) = true) (h2 : ∀ c ∈ L.filter isCode, P c = true) : L.all P = true := by
  refine List.all_eq_true.mpr fun c hc => ?_
  have h := List.all_eq_true.mp h1 c hc
  rcases Bool.eq_false_or_eq_true (isCode c) with hi | hi
  · exact h2 c (List.mem_filter.mpr ⟨hc, hi⟩)
  · simpa [hi] using h
set_option maxRecDepth 65536 in
theorem w_c0 : (Jvm.Cond.code x code maxLocals ret).before args0 about1 = true := code_word (m := ⟨1, 3⟩) (meth := k1m3) (c := k1c3) (by decide +kernel) rfl rfl rfl (by decide +kernel)
set_option maxRecDepth 65536 in
theorem w_c1 : (Jvm.Cond.code ({ cls := "java/lang/Object", name := "<init>", desc := "()V" } : Jvm.MethodName) object_method_1_code (1 : Nat) (Option.none : Option Jvm.ClassFile.FieldType)).before args0 about1 = true := code_word (m := ⟨0, 0⟩) (meth := k0m0) (c := k0c0) (by decide +kernel) rfl rfl rfl (by decide +kernel)
set_option maxRecDepth 65536 in
theorem w_c2 : (Jvm.Cond.code ({ cls := "com/example/pareto_helm/paretohelm/engine/Positive", name := "copyOf", desc := "([DLjava/lang/String;)[D" } : Jvm.MethodName) prog_24_method_4_code (3 : Nat) (Option.some (Jvm.ClassFile.FieldType.array Jvm.ClassFile.FieldType.double))).before args0 about1 = true := code_word (m := ⟨9, 2⟩) (meth := k9m2) (c := k9c2) (by decide +kernel) rfl rfl rfl (by decide +kernel)
set_option maxRecDepth 65536 in
theorem w_c3 : (Jvm.Cond.code ({ cls := "com/example/pareto_helm/paretohelm/engine/Positive", name := "holds", desc := "(D)Z" } : Jvm.MethodName) prog_24_method_2_code (2 : Nat) (Option.some Jvm.ClassFile.FieldType.boolean)).before args0 about1 = true := code_word (m := ⟨9, 1⟩) (meth := k9m1) (c := k9c1) (by decide +kernel) rfl rfl rfl (by decide +kernel)
set_option maxRecDepth 65536 in
theorem w_c4 : (Jvm.Cond.code ({ cls := "java/lang/Double", name := "isFinite", desc := "(D)Z" } : Jvm.MethodName) jdk_117_method_8_code (2 : Nat) (Option.some Jvm.ClassFile.FieldType.boolean)).before args0 about1 = true := code_word (m := ⟨11, 0⟩) (meth := k11m0) (c := k11c0) (by decide +kernel) rfl rfl rfl (by decide +kernel)
set_option maxRecDepth 65536 in
theorem w_c5 : (Jvm.Cond.code ({ cls := "java/lang/Math", name := "abs", desc := "(D)D" } : Jvm.MethodName) jdk_29_method_64_code (2 : Nat) (Option.some Jvm.ClassFile.FieldType.double)).before args0 about1 = true := code_word (m := ⟨12, 1⟩) (meth := k12m1) (c := k12c1) (by decide +kernel) rfl rfl rfl (by decide +kernel)
set_option maxRecDepth 65536 in
theorem w_c6 : (Jvm.Cond.code ({ cls := "com/example/pareto_helm/paretohelm/engine/Budget", name := "bestCorner", desc := "([D)[D" } : Jvm.MethodName) prog_5_method_6_code (4 : Nat) (Option.some (Jvm.ClassFile.FieldType.array Jvm.ClassFile.FieldType.double))).before args0 about1 = true := code_word (m := ⟨2, 1⟩) (meth := k2m1) (c := k2c1) (by decide +kernel) rfl rfl rfl (by decide +kernel)
set_option maxRecDepth 65536 in
theorem w_c7 : (Jvm.Cond.code ({ cls := "com/example/pareto_helm/paretohelm/engine/BudgetBestCornerPinLaw", name := "greater", desc := "(JJJJ)Z" } : Jvm.MethodName) method_2_code (8 : Nat) (Option.some Jvm.ClassFile.FieldType.boolean)).before args0 about1 = true := code_word (m := ⟨1, 1⟩) (meth := k1m1) (c := k1c1) (by decide +kernel) rfl rfl rfl (by decide +kernel)
set_option maxRecDepth 65536 in
theorem w_c8 : (Jvm.Cond.code ({ cls := "com/example/pareto_helm/paretohelm/engine/BudgetBestCornerPinLaw", name := "check", desc := "([DIIIDI)Z" } : Jvm.MethodName) method_3_code (9 : Nat) (Option.some Jvm.ClassFile.FieldType.boolean)).before args0 about1 = true := code_word (m := ⟨1, 2⟩) (meth := k1m2) (c := k1c2) (by decide +kernel) rfl rfl rfl (by decide +kernel)
def codes1 : List Jvm.Cond := [Jvm.Cond.code x code maxLocals ret, Jvm.Cond.code ({ cls := "java/lang/Object", name := "<init>", desc := "()V" } : Jvm.MethodName) object_method_1_code (1 : Nat) (Option.none : Option Jvm.ClassFile.FieldType), Jvm.Cond.code ({ cls := "com/example/pareto_helm/paretohelm/engine/Positive", name := "copyOf", desc := "([DLjava/lang/String;)[D" } : Jvm.MethodName) prog_24_method_4_code (3 : Nat) (Option.some (Jvm.ClassFile.FieldType.array Jvm.ClassFile.FieldType.double)), Jvm.Cond.code ({ cls := "com/example/pareto_helm/paretohelm/engine/Positive", name := "holds", desc := "(D)Z" } : Jvm.MethodName) prog_24_method_2_code (2 : Nat) (Option.some Jvm.ClassFile.FieldType.boolean), Jvm.Cond.code ({ cls := "java/lang/Double", name := "isFinite", desc := "(D)Z" } : Jvm.MethodName) jdk_117_method_8_code (2 : Nat) (Option.some Jvm.ClassFile.FieldType.boolean), Jvm.Cond.code ({ cls := "java/lang/Math", name := "abs", desc := "(D)D" } : Jvm.MethodName) jdk_29_method_64_code (2 : Nat) (Option.some Jvm.ClassFile.FieldType.double), Jvm.Cond.code ({ cls := "com/example/pareto_helm/paretohelm/engine/Budget", name := "bestCorner", desc := "([D)[D" } : Jvm.MethodName) prog_5_method_6_code (4 : Nat) (Option.some (Jvm.ClassFile.FieldType.array Jvm.ClassFile.FieldType.double)), Jvm.Cond.code ({ cls := "com/example/pareto_helm/paretohelm/engine/BudgetBestCornerPinLaw", name := "greater", desc := "(JJJJ)Z" } : Jvm.MethodName) method_2_code (8 : Nat) (Option.some Jvm.ClassFile.FieldType.boolean), Jvm.Cond.code ({ cls := "com/example/pareto_helm/paretohelm/engine/BudgetBestCornerPinLaw", name := "check", desc := "([DIIIDI)Z" } : Jvm.MethodName) method_3_code (9 : Nat) (Option.some Jvm.ClassFile.FieldType.boolean)]
set_option maxRecDepth 65536 in
theorem codes_eq : words1.filter isCode = codes1 := rfl
theorem w_codes : ∀ c ∈ words1.filter isCode, c.before args0 about1 = true := by
  rw [codes_eq]
  intro c hc
  simp only [codes1, List.mem_cons, List.not_mem_nil, or_false] at hc
  rcases hc with rfl | rfl | rfl | rfl | rfl | rfl | rfl | rfl | rfl
  · exact w_c0
  · exact w_c1
  · exact w_c2
  · exact w_c3
  · exact w_c4
  · exact w_c5
  · exact w_c6
  · exact w_c7
  · exact w_c8
set_option maxRecDepth 65536 in
theorem w_t1 : (words1.take 24).all (fun c => isCode c || c.before args0 about1) = true := by decide +kernel
set_option maxRecDepth 65536 in
theorem w_t2 : ((words1.drop 24).take 24).all (fun c => isCode c || c.before args0 about1) = true := by decide +kernel
set_option maxRecDepth 65536 in
theorem w_t3 : ((words1.drop 24).drop 24).all (fun c => isCode c || c.before args0 about1) = true := by decide +kernel
theorem w_tables : (allAtoms (Jvm.Cond.code x code maxLocals ret :: tables_1)).before args0 about1 = true := by
  rw [allAtoms_all]
  show words1.all (fun c => c.before args0 about1) = true
  refine all_split ?_ w_codes
  rw [← List.take_append_drop 24 words1, List.all_append, w_t1, ← List.take_append_drop 24 (words1.drop 24), List.all_append, w_t2, w_t3]
  rfl
set_option maxRecDepth 65536 in
theorem w_case : (Jvm.Cond.and given_1 narrow_1).before args0 about1 = true := by decide +kernel
theorem w_applies : (headSpec (Jvm.Cond.code x code maxLocals ret :: tables_1) room_1).applies x e0.platform about1 = true :=
  (Spec.applies_iff w_frames).mpr ⟨w_running, w_runnable, w_alone, w_named, w_hears, w_ripe, w_room, w_tables⟩
theorem atStart : AtStart classFile x code maxLocals ret World_1 tables_1 room_1 Calls_1 rest_1 Pre_1 launch0 p0 e0 about1 theMethod args0 below0 :=
  ⟨lists_1, trivial, launch0.admits_env _ _ _, launch0.least_env, fairChoices_fair.cas, fairChoices_fair.clock, w_frames, w_args, w_heap, w_applies, trivial, trivial, w_case⟩
end start1
theorem witness_1 : WitnessClaimed_1 := ⟨start1.p0, start1.e0, start1.about1, start1.theMethod, start1.args0, start1.below0, start1.atStart⟩
end Jvm.Pilot.@@N@@
