import JvmDerived
import JvmDerived.Pilot.@@N@@Statement
import JvmDerived.Pilot.@@N@@Code
set_option linter.unusedVariables false
set_option linter.unusedSimpArgs false
@@BLOCK:NumsL.lean.txt@@
namespace Jvm.OwnGo
open Jvm Sem ClassFile Op Lib Jvm.Stand Jvm.Free Jvm.LawKit Jvm.RoadKit
/-- from A the run comes to a state of which K is said -/
def Go (tb : Tables) (e : Env) (below : List Frame) (A : State) (K : State → Prop) : Prop := ∃ u, Steps tb e below A u ∧ K u
theorem Go.by {tb : Tables} {e : Env} {below : List Frame} {A B : State} {K : State → Prop} (h : ∀ t, Steps tb e below B t → Steps tb e below A t) (g : Go tb e below B K) : Go tb e below A K := by
  obtain ⟨u, s, k⟩ := g
  exact ⟨u, h u s, k⟩
theorem Go.tr {tb : Tables} {e : Env} {below : List Frame} {A B : State} {K : State → Prop} (h : Steps tb e below A B) (g : Go tb e below B K) : Go tb e below A K := by
  obtain ⟨u, s, k⟩ := g
  exact ⟨u, h.trans s, k⟩
theorem Go.out {tb : Tables} {e : Env} {below : List Frame} {A : State} {P : State → Outcome → Prop} (g : Go tb e below A (fun u => ∃ o, P u o)) : ∃ u o, Steps tb e below A u ∧ P u o := by
  obtain ⟨u, s, o, k⟩ := g
  exact ⟨u, o, s, k⟩
theorem Go.done {p : Program} {l : Launch} {e : Env} {R : Room} {s : State} {m : MethodId} {args : Array Value} {below : List Frame} {meth : Method} {c : Code} {T : State} {locs : List Loc} {cells slots C D : Nat}
    (X : Stand p l e R s m args below meth c T locs cells slots) {v : Option Value} (hv : meth.sig.returnType = none → v = none) (hlocks : meth.locks = false) {A : State}
    (hst : ∀ fs, (∀ (f : JFrame) (acts : List Action), f.method = m → f.locked = none → f.entered = [] → (doReturn e (T.setTop f) acts v).1 = T.setFrames fs) → Steps p.tables e below A (T.setFrames fs))
    {Q : Option Value → Heap → List Loc → Prop} (hq : Q v T.heap locs) (hc : cells ≤ C) (hs : slots ≤ D) :
    Go p.tables e below A (fun u => ∃ o, u.status = .running ∧ Ended u below o ∧ ∃ v L, o = .returned v ∧ Q v u.heap L ∧ FrameEnd s o u L C D) := by
  obtain ⟨fs, hr, hrun, hended, hW, hsame⟩ := X.leave hv hlocks
  exact ⟨_, hst fs hr, _, hrun, hended, _, _, rfl, hq, ⟨_, rfl⟩, hW, hsame.mono hc hs⟩
theorem Go.doneW {p : Program} {l : Launch} {e : Env} {R : Room} {s : State} {m : MethodId} {args : Array Value} {below : List Frame} {meth : Method} {c : Code} {T : State} {locs : List Loc} {cells slots C D : Nat} {vm1 : Vm}
    (X : Stand p l e R (s.setVm vm1) m args below meth c T locs cells slots) {n : Nat} (hS : s.Since vm1 n) (hn : n ≤ T.heap.size) {v : Option Value} (hv : meth.sig.returnType = none → v = none) (hlocks : meth.locks = false) {A : State}
    (hst : ∀ fs, (∀ (f : JFrame) (acts : List Action), f.method = m → f.locked = none → f.entered = [] → (doReturn e (T.setTop f) acts v).1 = T.setFrames fs) → Steps p.tables e below A (T.setFrames fs))
    {Q : Option Value → Heap → List Loc → Prop} (hq : Q v T.heap locs) (hc : cells ≤ C) (hs : slots ≤ D) :
    Go p.tables e below A (fun u => ∃ o, u.status = .running ∧ Ended u below o ∧ ∃ v L, o = .returned v ∧ Q v u.heap L ∧ ReturnedEndW s o u L C D) := by
  obtain ⟨fs, hr, hrun, hended, h1, h2, h3, h4⟩ := X.leaveW hS hn hv hlocks
  exact ⟨_, hst fs hr, _, hrun, hended, _, _, rfl, hq, h1, h2, h3, h4.mono hc hs⟩
end Jvm.OwnGo
namespace Jvm.OwnFp
open Jvm.FP Jvm.FP.Core Jvm.Free.Fl
/-- the double a is i * 2^e -/
def Dy (i e : Int) (a : UInt64) : Prop := ∃ s c q, val64 a = .fin s c q ∧ Whole i (.fin s c (q - e))
theorem own_const {i e : Int} {a : UInt64} (s : Bool) (c : Nat) (q : Int) (h1 : val64 a = .fin s c q) (h2 : signed s (c * 2 ^ (q - e).toNat) = i * ((2 ^ (-(q - e)).toNat : Nat) : Int)) : Dy i e a := ⟨s, c, q, h1, h2⟩
theorem Dy.noNaN {i e : Int} {a : UInt64} (h : Dy i e a) : NoNaN64 a := by
  obtain ⟨s, c, q, h1, -⟩ := h
  exact val64_no.mpr (by rw [h1]; exact fun q => nomatch q)
theorem Dy.fin {i e : Int} {a : UInt64} (h : Dy i e a) : Fin64 a := by
  obtain ⟨s, c, q, h1, -⟩ := h
  exact fin64_core.mpr ⟨s, c, q, h1⟩
theorem own_fit (s : Bool) {n : Nat} (hn : n ≤ 9007199254740992) {e : Int} (h1 : -1074 ≤ e) (h2 : e ≤ 900) :
    ∃ c q, Core.fits b64 (.fin s c q) ∧ n * 2 ^ (e - q).toNat = c * 1 * 2 ^ (q - e).toNat := by
  have e1 : b64.qmin = -1074 := qmin_b64
  have e2 : b64.qmax = 971 := by decide
  have e3 : b64.tails = 2 ^ 52 := tails_b64
  have e4 : b64.p = 53 := rfl
  have k53 : (9007199254740992 : Nat) = 2 ^ 53 := by decide
  by_cases h0 : n = 0
  · subst h0
    exact ⟨0, b64.qmin, zero_fits good_b64 s, by simp⟩
  by_cases hp : n = 9007199254740992
  · refine ⟨2 ^ 52, e + 1, ⟨by rw [e4]; decide, by rw [e1]; omega, by rw [e2]; omega, Or.inr (by rw [e3]; exact Nat.le_refl _)⟩, ?_⟩
    rw [show (e - (e + 1)).toNat = 0 by omega, show (e + 1 - e).toNat = 1 by omega, hp]
  · have l1 : 2 ^ n.log2 ≤ n := Nat.log2_self_le h0
    have l2 : n < 2 ^ (n.log2 + 1) := Nat.lt_log2_self
    have l3 : n.log2 < 53 := (Nat.pow_lt_pow_iff_right (by decide : 1 < 2)).mp (Nat.lt_of_le_of_lt l1 (by omega))
    generalize n.log2 = L at l1 l2 l3
    by_cases hq : -1074 ≤ e - (52 - (L : Int))
    · refine ⟨n * 2 ^ (52 - L), e - (52 - (L : Int)), ⟨?_, by rw [e1]; omega, by rw [e2]; omega, Or.inr ?_⟩, ?_⟩
      · rw [e4]
        calc n * 2 ^ (52 - L) < 2 ^ (L + 1) * 2 ^ (52 - L) := Nat.mul_lt_mul_of_pos_right l2 (Nat.two_pow_pos _)
          _ = 2 ^ 53 := by rw [← Nat.pow_add]; congr 1; omega
      · rw [e3]
        calc 2 ^ 52 = 2 ^ L * 2 ^ (52 - L) := by rw [← Nat.pow_add]; congr 1; omega
          _ ≤ n * 2 ^ (52 - L) := Nat.mul_le_mul_right _ l1
      · rw [show (e - (e - (52 - (L : Int)))).toNat = 52 - L by omega, show (e - (52 - (L : Int)) - e).toNat = 0 by omega]
        simp
    · refine ⟨n * 2 ^ (e + 1074).toNat, -1074, ⟨?_, by rw [e1]; omega, by rw [e2]; omega, Or.inl e1.symm⟩, ?_⟩
      · rw [e4]
        calc n * 2 ^ (e + 1074).toNat < 2 ^ (L + 1) * 2 ^ (e + 1074).toNat := Nat.mul_lt_mul_of_pos_right l2 (Nat.two_pow_pos _)
          _ = 2 ^ (L + 1 + (e + 1074).toNat) := by rw [← Nat.pow_add]
          _ ≤ 2 ^ 53 := Nat.pow_le_pow_right (by decide) (by omega)
      · rw [show (e - -1074).toNat = (e + 1074).toNat by omega, show (-1074 - e).toNat = 0 by omega]
        simp
theorem own_sg {i : Int} {s : Bool} {c : Nat} {q : Int} (h : Whole i (.fin s c q)) : signed s i.natAbs = i := by
  by_cases hi : i = 0
  · rw [hi]; exact signed_zero s
  · rw [whole_sign h hi]
    unfold signed
    by_cases z : i < 0
    · simp only [z, decide_true, if_true]; omega
    · simp only [z, decide_false]; simp; omega
theorem own_whole {i e : Int} {s : Bool} {c : Nat} {q : Int} (hs : signed s i.natAbs = i) (h : i.natAbs * 2 ^ (e - q).toNat = c * 1 * 2 ^ (q - e).toNat) : Whole i (.fin s c (q - e)) := by
  show signed s (c * 2 ^ (q - e).toNat) = i * ((2 ^ (-(q - e)).toNat : Nat) : Int)
  rw [Nat.mul_one] at h
  rw [← h, signed_mul, hs, show -(q - e) = e - q by omega]
/-- a ratio that is i * 2^e -/
theorem own_ratio {i e : Int} {s : Bool} (hs : signed s i.natAbs = i) (hi : i.natAbs ≤ 9007199254740992) (h1 : -1074 ≤ e) (h2 : e ≤ 900) :
    ∃ c q, roundRatio b64 s i.natAbs 1 e = .fin s c q ∧ Whole i (.fin s c (q - e)) := by
  obtain ⟨c, q, hf, h⟩ := own_fit s hi h1 h2
  exact ⟨c, q, roundRatio_exact good_b64 Nat.one_pos hf h, own_whole hs h⟩
theorem own_round {i e : Int} {s : Bool} {c : Nat} {q : Int} (h : Whole i (.fin s c (q - e))) (hi : i.natAbs ≤ 9007199254740992) (h1 : -1074 ≤ e) (h2 : e ≤ 900) :
    ∃ s' c' q', Core.round b64 (.fin s c q) = .fin s' c' q' ∧ Whole i (.fin s' c' (q' - e)) := by
  obtain ⟨c', q', r1, r2⟩ := own_ratio (own_sg h) hi h1 h2
  refine ⟨s, c', q', ?_, r2⟩
  have w := whole_natAbs h
  show roundRatio b64 s c 1 q = _
  rw [← r1]
  refine roundRatio_congr Nat.one_pos Nat.one_pos ?_
  rw [Nat.mul_one, Nat.mul_one, w, show -(q - e) = e - q by omega]
theorem Dy.add {i j e : Int} {a b : UInt64} (ha : Dy i e a) (hb : Dy j e b) (hi : (i + j).natAbs ≤ 9007199254740992) (h1 : -1074 ≤ e) (h2 : e ≤ 900) : Dy (i + j) e (FP.dadd a b) := by
  obtain ⟨s, c, q, a1, a2⟩ := ha
  obtain ⟨t, d, r, b1, b2⟩ := hb
  have w := whole_sum a2 b2
  have hm : min (q - e) (r - e) = min q r - e := by omega
  have hV : sumUnits s c (q - e) t d (r - e) (min q r - e) = sumUnits s c q t d r (min q r) := by
    unfold sumUnits inUnits
    rw [show q - e - (min q r - e) = q - min q r by omega, show r - e - (min q r - e) = r - min q r by omega]
  simp only [exactSum] at w
  rw [hm, hV] at w
  obtain ⟨s', c', q', r1, r2⟩ := own_round w hi h1 h2
  exact ⟨s', c', q', by rw [val64_dadd, a1, b1]; exact r1, r2⟩
theorem Dy.sub {i j e : Int} {a b : UInt64} (ha : Dy i e a) (hb : Dy j e b) (hi : (i - j).natAbs ≤ 9007199254740992) (h1 : -1074 ≤ e) (h2 : e ≤ 900) : Dy (i - j) e (FP.dsub a b) := by
  obtain ⟨s, c, q, a1, a2⟩ := ha
  obtain ⟨t, d, r, b1, b2⟩ := hb
  have w := whole_sum a2 (whole_negate b2)
  have hm : min (q - e) (r - e) = min q r - e := by omega
  have hV : sumUnits s c (q - e) (!t) d (r - e) (min q r - e) = sumUnits s c q (!t) d r (min q r) := by
    unfold sumUnits inUnits
    rw [show q - e - (min q r - e) = q - min q r by omega, show r - e - (min q r - e) = r - min q r by omega]
  simp only [negate, exactSum] at w
  rw [hm, hV] at w
  obtain ⟨s', c', q', r1, r2⟩ := own_round w hi h1 h2
  exact ⟨s', c', q', by rw [val64_dsub, a1, b1]; exact r1, r2⟩
theorem Dy.mul {i j e g : Int} {a b : UInt64} (ha : Dy i e a) (hb : Dy j g b) (hi : (i * j).natAbs ≤ 9007199254740992) (h1 : -1074 ≤ e + g) (h2 : e + g ≤ 900) : Dy (i * j) (e + g) (FP.dmul a b) := by
  obtain ⟨s, c, q, a1, a2⟩ := ha
  obtain ⟨t, d, r, b1, b2⟩ := hb
  have w := whole_product a2 b2
  simp only [exactProduct] at w
  rw [show q - e + (r - g) = q + r - (e + g) by omega] at w
  obtain ⟨s', c', q', r1, r2⟩ := own_round w hi h1 h2
  exact ⟨s', c', q', by rw [val64_dmul, a1, b1]; exact r1, r2⟩
/-- an exact quotient -/
theorem Dy.div {k j e g : Int} {a b : UInt64} (ha : Dy (k * j) e a) (hb : Dy j g b) (hj : j ≠ 0) (hi : k.natAbs ≤ 9007199254740992) (h1 : -1074 ≤ e - g) (h2 : e - g ≤ 900) : Dy k (e - g) (FP.ddiv a b) := by
  obtain ⟨s, c, q, a1, a2⟩ := ha
  obtain ⟨t, d, r, b1, b2⟩ := hb
  have wa := whole_natAbs a2
  have wb := whole_natAbs b2
  have hd : d ≠ 0 := fun z => hj ((whole_zero b2).mp z)
  have hs : signed (s != t) k.natAbs = k := by
    by_cases hk : k = 0
    · rw [hk]; exact signed_zero _
    · have s1 := whole_sign a2 (Int.mul_ne_zero hk hj)
      have s2 := whole_sign b2 hj
      rw [s1, s2]
      unfold signed
      rcases Int.lt_or_gt_of_ne hk with z | z <;> rcases Int.lt_or_gt_of_ne hj with y | y
      · have := Int.mul_pos_of_neg_of_neg z y
        simp [show ¬ k * j < 0 by omega, y]; omega
      · have := Int.mul_neg_of_neg_of_pos z y
        simp [this, show ¬ j < 0 by omega]; omega
      · have := Int.mul_neg_of_pos_of_neg z y
        simp [this, y]; omega
      · have := Int.mul_pos z y
        simp [show ¬ k * j < 0 by omega, show ¬ j < 0 by omega]; omega
  obtain ⟨c', q', r1, r2⟩ := own_ratio hs hi h1 h2
  refine ⟨_, c', q', ?_, r2⟩
  rw [val64_ddiv, a1, b1]
  show (if d = 0 then _ else roundRatio b64 (s != t) c d (q - r)) = _
  rw [if_neg hd, ← r1]
  refine roundRatio_congr (Nat.pos_of_ne_zero hd) Nat.one_pos ?_
  rw [Nat.mul_one]
  rw [Int.natAbs_mul] at wa
  -- c * 2^(q-e)+ = |k| |j| 2^(q-e)- , d * 2^(r-g)+ = |j| 2^(r-g)-
  have hj' : 0 < j.natAbs := by omega
  apply Nat.eq_of_mul_eq_mul_right (Nat.mul_pos hj' (Nat.mul_pos (Nat.two_pow_pos (q - e).toNat) (Nat.two_pow_pos (-(r - g)).toNat)))
  calc c * 2 ^ (q - r - (e - g)).toNat * (j.natAbs * (2 ^ (q - e).toNat * 2 ^ (-(r - g)).toNat))
      = (c * 2 ^ (q - e).toNat) * (j.natAbs * 2 ^ (-(r - g)).toNat) * 2 ^ (q - r - (e - g)).toNat := by ac_rfl
    _ = (k.natAbs * j.natAbs * 2 ^ (-(q - e)).toNat) * (d * 2 ^ (r - g).toNat) * 2 ^ (q - r - (e - g)).toNat := by rw [wa, wb]
    _ = k.natAbs * d * j.natAbs * 2 ^ ((-(q - e)).toNat + (r - g).toNat + (q - r - (e - g)).toNat) := by rw [Nat.pow_add, Nat.pow_add]; ac_rfl
    _ = k.natAbs * d * j.natAbs * 2 ^ ((e - g - (q - r)).toNat + (q - e).toNat + (-(r - g)).toNat) := by congr 2; omega
    _ = k.natAbs * d * 2 ^ (e - g - (q - r)).toNat * (j.natAbs * (2 ^ (q - e).toNat * 2 ^ (-(r - g)).toNat)) := by rw [Nat.pow_add, Nat.pow_add]; ac_rfl
theorem Dy.scale {i e : Int} {a : UInt64} (h : Dy i e a) (k : Nat) : Dy (i * 2 ^ k) (e - k) a := by
  obtain ⟨s, c, q, a1, a2⟩ := h
  refine ⟨s, c, q, a1, ?_⟩
  have w : signed s (c * 2 ^ (q - e).toNat) = i * ((2 ^ (-(q - e)).toNat : Nat) : Int) := a2
  show signed s (c * 2 ^ (q - (e - k)).toNat) = i * 2 ^ k * ((2 ^ (-(q - (e - k))).toNat : Nat) : Int)
  have p2 : ((2 ^ ((-(q - e)).toNat) : Nat) : Int) ≠ 0 := by
    have := Nat.two_pow_pos ((-(q - e)).toNat); omega
  refine Int.eq_of_mul_eq_mul_right p2 ?_
  have hx : (q - (e - k)).toNat + (-(q - e)).toNat = (q - e).toNat + (k + (-(q - (e - k))).toNat) := by omega
  calc signed s (c * 2 ^ (q - (e - k)).toNat) * ((2 ^ ((-(q - e)).toNat) : Nat) : Int)
      = signed s (c * 2 ^ ((q - (e - k)).toNat + (-(q - e)).toNat)) := by rw [← signed_mul, Nat.pow_add, Nat.mul_assoc]
    _ = signed s (c * 2 ^ (q - e).toNat * 2 ^ (k + (-(q - (e - k))).toNat)) := by rw [hx, Nat.pow_add, Nat.mul_assoc]
    _ = i * ((2 ^ (-(q - e)).toNat : Nat) : Int) * ((2 ^ (k + (-(q - (e - k))).toNat) : Nat) : Int) := by rw [signed_mul, w]
    _ = i * 2 ^ k * ((2 ^ (-(q - (e - k))).toNat : Nat) : Int) * ((2 ^ ((-(q - e)).toNat) : Nat) : Int) := by
        rw [Nat.pow_add, Int.natCast_mul, Int.natCast_pow 2 k]
        show i * _ * ((2 : Int) ^ k * _) = _
        ac_rfl
theorem Dy.unscale {i e : Int} {a : UInt64} (k : Nat) (h : Dy (i * 2 ^ k) e a) : Dy i (e + k) a := by
  obtain ⟨s, c, q, a1, a2⟩ := h
  refine ⟨s, c, q, a1, ?_⟩
  have w : signed s (c * 2 ^ (q - e).toNat) = i * 2 ^ k * ((2 ^ (-(q - e)).toNat : Nat) : Int) := a2
  show signed s (c * 2 ^ (q - (e + k)).toNat) = i * ((2 ^ (-(q - (e + k))).toNat : Nat) : Int)
  have p2 : ((2 ^ (k + (-(q - e)).toNat) : Nat) : Int) ≠ 0 := by
    have := Nat.two_pow_pos (k + (-(q - e)).toNat); omega
  refine Int.eq_of_mul_eq_mul_right p2 ?_
  have hx : (q - (e + k)).toNat + (k + (-(q - e)).toNat) = (q - e).toNat + (-(q - (e + k))).toNat := by omega
  calc signed s (c * 2 ^ (q - (e + k)).toNat) * ((2 ^ (k + (-(q - e)).toNat) : Nat) : Int)
      = signed s (c * 2 ^ ((q - (e + k)).toNat + (k + (-(q - e)).toNat))) := by rw [← signed_mul, Nat.pow_add 2 (q - (e + k)).toNat, Nat.mul_assoc]
    _ = signed s (c * 2 ^ (q - e).toNat * 2 ^ ((-(q - (e + k))).toNat)) := by rw [hx, Nat.pow_add, Nat.mul_assoc]
    _ = i * 2 ^ k * ((2 ^ (-(q - e)).toNat : Nat) : Int) * ((2 ^ ((-(q - (e + k))).toNat) : Nat) : Int) := by rw [signed_mul, w]
    _ = i * ((2 ^ (-(q - (e + k))).toNat : Nat) : Int) * ((2 ^ (k + (-(q - e)).toNat) : Nat) : Int) := by
        rw [Nat.pow_add, Int.natCast_mul, Int.natCast_pow 2 k]
        show i * (2 : Int) ^ k * _ * _ = _ * ((2 : Int) ^ k * _)
        ac_rfl
theorem Dy.cmp {i j e : Int} {a b : UInt64} (ha : Dy i e a) (hb : Dy j e b) : FP.dcmp a b = some (compare i j) := by
  obtain ⟨s, c, q, a1, a2⟩ := ha
  obtain ⟨t, d, r, b1, b2⟩ := hb
  have w := order_whole a2 b2
  have hm : min (q - e) (r - e) = min q r - e := by omega
  simp only [order] at w
  rw [hm] at w
  unfold inUnits at w
  rw [show q - e - (min q r - e) = q - min q r by omega, show r - e - (min q r - e) = r - min q r by omega] at w
  show order (val64 a) (val64 b) = _
  rw [a1, b1]
  exact w
theorem Dy.of_int {i : Int} {a : UInt64} (h : DInt i a) : Dy i 0 a := by
  unfold DInt at h
  cases hv : val64 a with
  | nan => rw [hv] at h; exact h.elim
  | inf => rw [hv] at h; exact h.elim
  | fin s c q => rw [hv] at h; exact ⟨s, c, q, hv, by rw [Int.sub_zero]; exact h⟩
theorem Dy.i2d (x : Int32) : Dy x.toInt 0 (FP.i2d x) := Dy.of_int (i2d_int x)
theorem Dy.l2d {x : Int64} (h : x.toInt.natAbs ≤ 9007199254740992) : Dy x.toInt 0 (FP.l2d x) := Dy.of_int (l2d_int (Nat.le_trans h (by decide)))
/-- the int that a comparison pushes -/
def own_ci (i j : Int) : Int32 := if i < j then -1 else if i = j then 0 else 1
theorem Dy.cmpV {i j e : Int} {a b : UInt64} (ha : Dy i e a) (hb : Dy j e b) (o : Jvm.ClassFile.CmpOp) : Jvm.Op.cmpValue (FP.dcmp a b) o = own_ci i j := by
  rw [ha.cmp hb, compare_ite]
  unfold own_ci
  by_cases h1 : i < j
  · simp only [if_pos h1]; cases o <;> rfl
  · by_cases h2 : i = j
    · simp only [if_neg h1, if_pos h2]; cases o <;> rfl
    · simp only [if_neg h1, if_neg h2]; cases o <;> rfl
theorem own_ci_lt {i j : Int} : own_ci i j < 0 ↔ i < j := by
  unfold own_ci
  by_cases h1 : i < j
  · simp [h1]
  · by_cases h2 : i = j <;> simp [h1, h2]
theorem own_ci_gt {i j : Int} : 0 < own_ci i j ↔ j < i := by
  unfold own_ci
  by_cases h1 : i < j
  · simp [h1]; omega
  · by_cases h2 : i = j
    · simp [h2]
    · simp [h1, h2]; omega
theorem own_ci_eq {i j : Int} : own_ci i j = 0 ↔ i = j := by
  unfold own_ci
  by_cases h1 : i < j
  · simp [h1]; omega
  · by_cases h2 : i = j <;> simp [h1, h2]
theorem Dy.cast {i j e f : Int} {a : UInt64} (h : Dy i e a) (hi : i = j) (he : e = f) : Dy j f a := by subst hi he; exact h
theorem own_zero (e : Int) : Dy 0 e (0 : UInt64) := ⟨false, 0, -1074, by decide +kernel, by
  show signed false (0 * _) = 0 * _
  rw [Nat.zero_mul, Int.zero_mul]; rfl⟩
end Jvm.OwnFp
namespace Jvm.OwnNum
theorem own_mulb {a b A B : Int} (a1 : -A ≤ a) (a2 : a ≤ A) (b1 : -B ≤ b) (b2 : b ≤ B) : -(A * B) ≤ a * b ∧ a * b ≤ A * B := by
  have hm : (a * b).natAbs ≤ A.toNat * B.toNat := by rw [Int.natAbs_mul]; exact Nat.mul_le_mul (by omega) (by omega)
  have hm2 : ((A.toNat * B.toNat : Nat) : Int) = A * B := by rw [Int.natCast_mul, Int.toNat_of_nonneg (by omega), Int.toNat_of_nonneg (by omega)]
  omega
theorem own_i2l (x : Int32) : x.toInt64.toInt = x.toInt := by simp
/-- a remainder by a positive literal -/
theorem own_rem {x k : Int32} {K : Int} (hk : k.toInt = K) (h : 0 < K) : -K < (x % k).toInt ∧ (x % k).toInt < K := by
  rw [Int32.toInt_mod, hk]
  have h1 := Int.tmod_lt_of_pos x.toInt h
  have h2 := Int.lt_tmod_of_pos x.toInt h
  omega
theorem own_and {x k : Int32} {K : Nat} (hk : k.toInt = K) (h0 : K < 2 ^ 31) : 0 ≤ (x &&& k).toInt ∧ (x &&& k).toInt ≤ K := by
  have e : k.toBitVec.toNat = K := by
    have := k.toBitVec.isLt
    have q : k.toInt = k.toBitVec.toInt := rfl
    rw [q, BitVec.toInt_eq_toNat_cond] at hk
    split at hk <;> omega
  have b : (x &&& k).toBitVec.toNat ≤ K := by
    show (x.toBitVec &&& k.toBitVec).toNat ≤ K
    rw [BitVec.toNat_and, e]; exact Nat.and_le_right
  have q : (x &&& k).toInt = (x &&& k).toBitVec.toInt := rfl
  rw [q, BitVec.toInt_eq_toNat_cond]
  split <;> omega
theorem own_add32 {a b : Int32} (h1 : -2147483648 ≤ a.toInt + b.toInt) (h2 : a.toInt + b.toInt < 2147483648) : (a + b).toInt = a.toInt + b.toInt := by
  rw [Int32.toInt_add]; exact Int.bmod_eq_of_le (by omega) (by omega)
theorem own_sub32 {a b : Int32} (h1 : -2147483648 ≤ a.toInt - b.toInt) (h2 : a.toInt - b.toInt < 2147483648) : (a - b).toInt = a.toInt - b.toInt := by
  rw [Int32.toInt_sub]; exact Int.bmod_eq_of_le (by omega) (by omega)
theorem own_mul32 {a b : Int32} (h1 : -2147483648 ≤ a.toInt * b.toInt) (h2 : a.toInt * b.toInt < 2147483648) : (a * b).toInt = a.toInt * b.toInt := by
  rw [Int32.toInt_mul]; exact Int.bmod_eq_of_le (by omega) (by omega)
theorem own_min (a b : Int32) : (if b < a then b else a).toInt = min a.toInt b.toInt := by
  split
  · rename_i h; rw [Int32.lt_iff_toInt_lt] at h; omega
  · rename_i h; rw [Int32.lt_iff_toInt_lt] at h; omega
theorem own_max (a b : Int32) : (if a < b then b else a).toInt = max a.toInt b.toInt := by
  split
  · rename_i h; rw [Int32.lt_iff_toInt_lt] at h; omega
  · rename_i h; rw [Int32.lt_iff_toInt_lt] at h; omega
theorem own_shl {e : Int32} (h0 : 0 ≤ e.toInt) (h1 : e.toInt < 11) : ∃ k : Nat, k ≤ 10 ∧ ((1 : Int32) <<< (e &&& 31)).toInt = 2 ^ k := by
  have hk : e.toInt = 0 ∨ e.toInt = 1 ∨ e.toInt = 2 ∨ e.toInt = 3 ∨ e.toInt = 4 ∨ e.toInt = 5 ∨ e.toInt = 6 ∨ e.toInt = 7 ∨ e.toInt = 8 ∨ e.toInt = 9 ∨ e.toInt = 10 := by omega
  rcases hk with h | h | h | h | h | h | h | h | h | h | h
  · exact ⟨0, by decide, by rw [Int32.toInt_inj.mp (h.trans (by decide : (0 : Int) = (0 : Int32).toInt))]; decide⟩
  · exact ⟨1, by decide, by rw [Int32.toInt_inj.mp (h.trans (by decide : (1 : Int) = (1 : Int32).toInt))]; decide⟩
  · exact ⟨2, by decide, by rw [Int32.toInt_inj.mp (h.trans (by decide : (2 : Int) = (2 : Int32).toInt))]; decide⟩
  · exact ⟨3, by decide, by rw [Int32.toInt_inj.mp (h.trans (by decide : (3 : Int) = (3 : Int32).toInt))]; decide⟩
  · exact ⟨4, by decide, by rw [Int32.toInt_inj.mp (h.trans (by decide : (4 : Int) = (4 : Int32).toInt))]; decide⟩
  · exact ⟨5, by decide, by rw [Int32.toInt_inj.mp (h.trans (by decide : (5 : Int) = (5 : Int32).toInt))]; decide⟩
  · exact ⟨6, by decide, by rw [Int32.toInt_inj.mp (h.trans (by decide : (6 : Int) = (6 : Int32).toInt))]; decide⟩
  · exact ⟨7, by decide, by rw [Int32.toInt_inj.mp (h.trans (by decide : (7 : Int) = (7 : Int32).toInt))]; decide⟩
  · exact ⟨8, by decide, by rw [Int32.toInt_inj.mp (h.trans (by decide : (8 : Int) = (8 : Int32).toInt))]; decide⟩
  · exact ⟨9, by decide, by rw [Int32.toInt_inj.mp (h.trans (by decide : (9 : Int) = (9 : Int32).toInt))]; decide⟩
  · exact ⟨10, by decide, by rw [Int32.toInt_inj.mp (h.trans (by decide : (10 : Int) = (10 : Int32).toInt))]; decide⟩
theorem own_and3 (x : Int32) : (x &&& (3 : Int32)) = (0 : Int32) ∨ (x &&& (3 : Int32)) = (1 : Int32) ∨ (x &&& (3 : Int32)) = (2 : Int32) ∨ (x &&& (3 : Int32)) = (3 : Int32) := by
  have h := own_and (x := x) (k := 3) (K := 3) (by decide) (by decide)
  have q : (x &&& (3 : Int32)).toInt = 0 ∨ (x &&& (3 : Int32)).toInt = 1 ∨ (x &&& (3 : Int32)).toInt = 2 ∨ (x &&& (3 : Int32)).toInt = 3 := by omega
  rcases q with q | q | q | q
  · exact Or.inl (Int32.toInt_inj.mp (q.trans (by decide : (0 : Int) = (0 : Int32).toInt)))
  · exact Or.inr (Or.inl (Int32.toInt_inj.mp (q.trans (by decide : (1 : Int) = (1 : Int32).toInt))))
  · exact Or.inr (Or.inr (Or.inl (Int32.toInt_inj.mp (q.trans (by decide : (2 : Int) = (2 : Int32).toInt)))))
  · exact Or.inr (Or.inr (Or.inr (Int32.toInt_inj.mp (q.trans (by decide : (3 : Int) = (3 : Int32).toInt)))))
theorem own_pow10 {e : Nat} (h : e ≤ 10) : (2 : Int) ^ e ≤ 1024 ∧ 1 ≤ (2 : Int) ^ e := by
  have : ∀ e, e ≤ 10 → (2 : Int) ^ e ≤ 1024 ∧ 1 ≤ (2 : Int) ^ e := by decide
  exact this e h
end Jvm.OwnNum
namespace Jvm.OwnNat
open Jvm Sem ClassFile Op Lib Jvm.Stand Jvm.Free Jvm.LawKit Jvm.RoadKit
theorem own_bits {p : Program} {l : Launch} {e : Env} {R : Room} {s : State} {m : MethodId} {args : Array Value} {below : List Frame} {meth : Method} {c : Code} {T : State} {locs : List Loc} {cells slots : Nat} {Z : State} {h : Heap}
    (X : Stand p l e R s m args below meth c T locs cells slots) (hx : p.tables.exec = Jvm.exec) (hZ : Z.Warmed39 s.vm) {a0 : Array Value} {own : String} {index : Nat} (hown : s.vm.findClass own = some m.cls)
    (w1 : (Cond.methodLink own index Jvm.Free.NT.doubleBitsN).before a0 Z = true) (w2 : (Cond.static Jvm.Free.NT.doubleBitsN).before a0 Z = true) (w3 : (Cond.initialized "java/lang/Double").before a0 Z = true) (w4 : (Cond.native Jvm.Free.NT.doubleBitsN).before a0 Z = true)
    (eT : T.heap = h) {g : JFrame} (hg : g.method = m) (hsize : g.locals.size = c.maxLocals) {x : UInt64} {rest : List Value} (hst : g.stack = .double x :: rest) {W : Nat} (hW : 2 * g.monitorRoom + (rest.map fun v => v.category).sum ≤ W)
    (hd : decode c.code g.pc = .ok (.invokestatic index, 3)) (hf : 1 ≤ R.frames) (hlo : W + 15 ≤ R.locals) :
    ∃ T', Stand p l e R s m args below meth c T' locs cells slots ∧ T'.heap = h ∧ ∀ target, Steps p.tables e below (T'.setTop { g with pc := g.pc + 3, stack := .long x.toInt64 :: rest }) target → Steps p.tables e below (T.setTop g) target := by
  have c2 : (Cond.static Jvm.Free.NT.doubleBitsN).before args s = true := mvT hZ w2
  have c4 : (Cond.native Jvm.Free.NT.doubleBitsN).before args s = true := mvT hZ w4
  obtain ⟨mk, methM, hnamed, hmethM, -, -, -, hsig⟩ := Cond.native_spec c4
  obtain ⟨v, vm1, B, hW1, X', ⟨hB, hv⟩, st⟩ := Stand.staticBack (args := args) X hx hown (mvT hZ w1) c2 (mvT hZ w3) hnamed hmethM hsig (by decide) (Jvm.Free.NT.DoubleBits.pays c4 c2 hf hlo) hg hsize (Steps.refl _) (argsL := [.double x]) (rest := rest) (fun sig q => by have q2 := Jvm.Free.NT.descDJ.symm.trans q; cases q2; rfl) hst hW hd (fun vm1 _ => ⟨x, rfl⟩)
  have hv := hv x rfl
  subst hv hB
  exact ⟨_, X', eT, fun target k => st.trans k⟩
theorem own_selp {y : MethodName} {s : State} {args : Array Value} {n : Nat} (hy : y.cls ≠ "java/lang/invoke/MethodHandle" ∧ y.cls ≠ "java/lang/invoke/VarHandle")
    (hins : (Cond.instantiable y.cls n).before args s = true) (hpriv : s.PrivateAt y) (hinst : (Cond.instanceMethod y).before args s = true) :
    (Cond.selects y.cls y y).before args s = true := by
  obtain ⟨c, k, hc, hk, -, hniab, -, -⟩ := Cond.instantiable_spec hins
  exact selects_self_of_private hc hk (Bool.or_eq_false_iff.mp hniab).1 hpriv hinst hy
end Jvm.OwnNat
namespace Jvm.Pilot.@@N@@
open Jvm Jvm.ClassFile Sem Op Lib Jvm.Free Jvm.Stand Jvm.LawKit Jvm.RoadKit Bundle Jvm.OwnGo Jvm.OwnFp Jvm.Pilot.@@N@@.Jvm.D
open Jvm.OwnNum Jvm.OwnNat Jvm.FP Jvm.Free.Fl
theorem own_nn0 : NoNaN64 (0 : UInt64) := (own_zero 0).noNaN
/-- the heap of times: her fields, her two arrays, her size -/
def own_TH (Z : State) (h : Heap) (n0 : Nat) (a : Addr) (sz : Int32) : Prop :=
  Exa Z h a "com/example/mode_choice_loop/modechoiceloop/simulation/TimeHeap" ∧ n0 ≤ a ∧ ∃ (ti nu : Addr) (kt km : ClassId) (cc : Int32) (y0 y1 y2 y3 : UInt64) (i0 i1 i2 i3 : Int32),
    Fld Z h a "com/example/mode_choice_loop/modechoiceloop/simulation/TimeHeap" "times" "[D" (.ref ti) ∧ Fld Z h a "com/example/mode_choice_loop/modechoiceloop/simulation/TimeHeap" "numbers" "[I" (.ref nu) ∧ Fld Z h a "com/example/mode_choice_loop/modechoiceloop/simulation/TimeHeap" "size" "I" (.int sz) ∧ Arv Z h ti kt .double cc [(.double y0), (.double y1), (.double y2), (.double y3)] (.double (0 : UInt64)) ∧ Arv Z h nu km .int cc [(.int i0), (.int i1), (.int i2), (.int i3)] (.int (0 : Int32)) ∧
    n0 ≤ ti ∧ n0 ≤ nu ∧ a ≠ ti ∧ a ≠ nu ∧ ti ≠ nu ∧ NoNaN64 y0 ∧ NoNaN64 y1 ∧ NoNaN64 y2 ∧ NoNaN64 y3 ∧ 1 ≤ cc.toInt ∧ cc.toInt ≤ 4 ∧ sz.toInt ≤ cc.toInt
theorem d3_0 : decode jdk_29_method_65_code 0 = .ok (.iload_n 0, 1) := by decide +kernel
theorem d3_1 : decode jdk_29_method_65_code 1 = .ok (.iload_n 1, 1) := by decide +kernel
theorem d3_2 : decode jdk_29_method_65_code 2 = .ok (.if_icmp .lt 7, 3) := by decide +kernel
theorem d3_5 : decode jdk_29_method_65_code 5 = .ok (.iload_n 0, 1) := by decide +kernel
theorem d3_6 : decode jdk_29_method_65_code 6 = .ok (.goto 4, 3) := by decide +kernel
theorem d3_9 : decode jdk_29_method_65_code 9 = .ok (.iload_n 1, 1) := by decide +kernel
theorem d3_10 : decode jdk_29_method_65_code 10 = .ok (.ireturn, 1) := by decide +kernel
theorem ef_3 (m : MethodId) (x0 : Int32) (x1 : Int32) : entryFrame m #[(.int x0), (.int x1)] 2 = mkF m 0 #[.val (.int x0), .val (.int x1)] [] := by first | (simp [entryFrame, mkF, argsToLocals, Value.category]; done) | rfl
def Q3 (Z : State) (p1 : Int32) (p2 : Int32)  (h0 : Heap) (n0 : Nat) (v : Option Value) (h : Heap) (L : List Loc) : Prop := v = some (.int (if p1 < p2 then p2 else p1)) ∧ Fr n0 L ∧ h = h0
set_option maxRecDepth 65536 in
set_option maxHeartbeats 40000000 in
theorem rm3 (l : Launch) (Z : State) (a0 : Array Value) (hw : ∀ d ∈ tables_1, d.before a0 Z = true) (ws : List Jvm.Cond) (p1 : Int32) (p2 : Int32)  (h0 : Heap) (n0 : Nat) (Z0 : n0 ≤ h0.size)  :
    MetFree l (⟨"java/lang/Math", "max", "(II)I"⟩ : MethodName) (head1 (Jvm.Cond.code (⟨"java/lang/Math", "max", "(II)I"⟩ : MethodName) jdk_29_method_65_code 2 (some .int) :: ws) ({ frames := 0, cells := 0, slots := 0, locals := 0 } : Room)) (fun a U => a = #[(.int p1), (.int p2)] ∧ Z.Warmed39 U.vm ∧ U.heap = h0) (fun _ _ _ _ _ => True) (fun _ U o U' => ∃ v L, o = .returned v ∧ Q3 Z p1 p2 h0 n0 v U'.heap L ∧ FrameEnd U o U' L ({ frames := 0, cells := 0, slots := 0, locals := 0 } : Room).cells ({ frames := 0, cells := 0, slots := 0, locals := 0 } : Room).slots) := by
  refine MetFree.of_bodySF (Jvm.Free.JP.mathPlain rfl (by decide +kernel)) hisR ?_
  intro p e s m args below meth c s₁ Bd hml0 hP hK
  obtain ⟨rfl, hZ, hh⟩ := hP
  have hx := Bd.exec
  have hby := Bd.bytes
  have hml : c.maxLocals = 2 := hml0
  have hown : s.vm.findClass "java/lang/Math" = some m.cls := findClass_of_methodNamed Bd.named
  have hnm := (name_of_methodNamed Bd.named Bd.method).1
  have X : Stand p l e ({ frames := 0, cells := 0, slots := 0, locals := 0 } : Room) s m #[(.int p1), (.int p2)] below meth c s₁ [] 0 0 := Stand.of_body Bd
  have eT : s₁.heap = h0 := by rw [← hh, Bd.state]; rfl
  have N := Fr.nil n0
  have K := Keep.refl h0 []
  refine Go.out ?_
  obtain ⟨T, eTT⟩ : ∃ z, z = s₁ := ⟨_, rfl⟩
  rw [← eTT] at X eT ⊢
  refine Go.by (fun tt_ kk_ => castTop (ef_3 m p1 p2) kk_) ?_
  show Go p.tables e below (T.setTop (mkF m 0 #[.val (.int p1), .val (.int p2)] [])) _
  refine Go.by (fun tt_ kk_ => XS.iloadN X.here hx rfl (hb hby d3_0) rfl kk_) ?_
  show Go p.tables e below (T.setTop (mkF m 1 #[.val (.int p1), .val (.int p2)] [(.int p1)])) _
  refine Go.by (fun tt_ kk_ => XS.iloadN X.here hx rfl (hb hby d3_1) rfl kk_) ?_
  show Go p.tables e below (T.setTop (mkF m 2 #[.val (.int p1), .val (.int p2)] [(.int p2), (.int p1)])) _
  by_cases hc2 : p1 < p2
  · refine Go.by (fun tt_ kk_ => XS.icmpYes X.here hx rfl (pc0 := 2) (pc' := 9) rfl (hb hby d3_2) rfl (tlt hc2).1 (by decide) (by decide) kk_) ?_
    show Go p.tables e below (T.setTop (mkF m 9 #[.val (.int p1), .val (.int p2)] [])) _
    refine Go.by (fun tt_ kk_ => XS.iloadN X.here hx rfl (hb hby d3_9) rfl kk_) ?_
    show Go p.tables e below (T.setTop (mkF m 10 #[.val (.int p1), .val (.int p2)] [(.int p2)])) _
    exact Go.done X  (v := some (.int p2)) (fun h => by rw [Bd.returns] at h; cases h) Bd.notSynchronized (fun fs hr => retOut X hx Bd.returns rfl (by simp [Value.isRef, FieldType.isReference]) (hb hby d3_10) hr) (by rw [eT]; exact ⟨by rw [if_pos hc2], N, rfl⟩) (by decide) (by decide)
  · refine Go.by (fun tt_ kk_ => XS.icmpNo X.here hx rfl (hb hby d3_2) rfl (flt hc2).1 kk_) ?_
    show Go p.tables e below (T.setTop (mkF m 5 #[.val (.int p1), .val (.int p2)] [])) _
    refine Go.by (fun tt_ kk_ => XS.iloadN X.here hx rfl (hb hby d3_5) rfl kk_) ?_
    show Go p.tables e below (T.setTop (mkF m 6 #[.val (.int p1), .val (.int p2)] [(.int p1)])) _
    refine Go.by (fun tt_ kk_ => XS.goto X.here hx rfl (pc0 := 6) (pc' := 10) rfl (hb hby d3_6) (by decide) (by decide) kk_) ?_
    show Go p.tables e below (T.setTop (mkF m 10 #[.val (.int p1), .val (.int p2)] [(.int p1)])) _
    exact Go.done X  (v := some (.int p1)) (fun h => by rw [Bd.returns] at h; cases h) Bd.notSynchronized (fun fs hr => retOut X hx Bd.returns rfl (by simp [Value.isRef, FieldType.isReference]) (hb hby d3_10) hr) (by rw [eT]; exact ⟨by rw [if_neg hc2], N, rfl⟩) (by decide) (by decide)
theorem d7_0 : decode jdk_29_method_69_code 0 = .ok (.iload_n 0, 1) := by decide +kernel
theorem d7_1 : decode jdk_29_method_69_code 1 = .ok (.iload_n 1, 1) := by decide +kernel
theorem d7_2 : decode jdk_29_method_69_code 2 = .ok (.if_icmp .gt 7, 3) := by decide +kernel
theorem d7_5 : decode jdk_29_method_69_code 5 = .ok (.iload_n 0, 1) := by decide +kernel
theorem d7_6 : decode jdk_29_method_69_code 6 = .ok (.goto 4, 3) := by decide +kernel
theorem d7_9 : decode jdk_29_method_69_code 9 = .ok (.iload_n 1, 1) := by decide +kernel
theorem d7_10 : decode jdk_29_method_69_code 10 = .ok (.ireturn, 1) := by decide +kernel
theorem ef_7 (m : MethodId) (x0 : Int32) (x1 : Int32) : entryFrame m #[(.int x0), (.int x1)] 2 = mkF m 0 #[.val (.int x0), .val (.int x1)] [] := by first | (simp [entryFrame, mkF, argsToLocals, Value.category]; done) | rfl
def Q7 (Z : State) (p1 : Int32) (p2 : Int32)  (h0 : Heap) (n0 : Nat) (v : Option Value) (h : Heap) (L : List Loc) : Prop := v = some (.int (if p2 < p1 then p2 else p1)) ∧ Fr n0 L ∧ h = h0
set_option maxRecDepth 65536 in
set_option maxHeartbeats 40000000 in
theorem rm7 (l : Launch) (Z : State) (a0 : Array Value) (hw : ∀ d ∈ tables_1, d.before a0 Z = true) (ws : List Jvm.Cond) (p1 : Int32) (p2 : Int32)  (h0 : Heap) (n0 : Nat) (Z0 : n0 ≤ h0.size)  :
    MetFree l (⟨"java/lang/Math", "min", "(II)I"⟩ : MethodName) (head1 (Jvm.Cond.code (⟨"java/lang/Math", "min", "(II)I"⟩ : MethodName) jdk_29_method_69_code 2 (some .int) :: ws) ({ frames := 0, cells := 0, slots := 0, locals := 0 } : Room)) (fun a U => a = #[(.int p1), (.int p2)] ∧ Z.Warmed39 U.vm ∧ U.heap = h0) (fun _ _ _ _ _ => True) (fun _ U o U' => ∃ v L, o = .returned v ∧ Q7 Z p1 p2 h0 n0 v U'.heap L ∧ FrameEnd U o U' L ({ frames := 0, cells := 0, slots := 0, locals := 0 } : Room).cells ({ frames := 0, cells := 0, slots := 0, locals := 0 } : Room).slots) := by
  refine MetFree.of_bodySF (Jvm.Free.JP.mathPlain rfl (by decide +kernel)) hisR ?_
  intro p e s m args below meth c s₁ Bd hml0 hP hK
  obtain ⟨rfl, hZ, hh⟩ := hP
  have hx := Bd.exec
  have hby := Bd.bytes
  have hml : c.maxLocals = 2 := hml0
  have hown : s.vm.findClass "java/lang/Math" = some m.cls := findClass_of_methodNamed Bd.named
  have hnm := (name_of_methodNamed Bd.named Bd.method).1
  have X : Stand p l e ({ frames := 0, cells := 0, slots := 0, locals := 0 } : Room) s m #[(.int p1), (.int p2)] below meth c s₁ [] 0 0 := Stand.of_body Bd
  have eT : s₁.heap = h0 := by rw [← hh, Bd.state]; rfl
  have N := Fr.nil n0
  have K := Keep.refl h0 []
  refine Go.out ?_
  obtain ⟨T, eTT⟩ : ∃ z, z = s₁ := ⟨_, rfl⟩
  rw [← eTT] at X eT ⊢
  refine Go.by (fun tt_ kk_ => castTop (ef_7 m p1 p2) kk_) ?_
  show Go p.tables e below (T.setTop (mkF m 0 #[.val (.int p1), .val (.int p2)] [])) _
  refine Go.by (fun tt_ kk_ => XS.iloadN X.here hx rfl (hb hby d7_0) rfl kk_) ?_
  show Go p.tables e below (T.setTop (mkF m 1 #[.val (.int p1), .val (.int p2)] [(.int p1)])) _
  refine Go.by (fun tt_ kk_ => XS.iloadN X.here hx rfl (hb hby d7_1) rfl kk_) ?_
  show Go p.tables e below (T.setTop (mkF m 2 #[.val (.int p1), .val (.int p2)] [(.int p2), (.int p1)])) _
  by_cases hc2 : p2 < p1
  · refine Go.by (fun tt_ kk_ => XS.icmpYes X.here hx rfl (pc0 := 2) (pc' := 9) rfl (hb hby d7_2) rfl (tlt hc2).2.2.1 (by decide) (by decide) kk_) ?_
    show Go p.tables e below (T.setTop (mkF m 9 #[.val (.int p1), .val (.int p2)] [])) _
    refine Go.by (fun tt_ kk_ => XS.iloadN X.here hx rfl (hb hby d7_9) rfl kk_) ?_
    show Go p.tables e below (T.setTop (mkF m 10 #[.val (.int p1), .val (.int p2)] [(.int p2)])) _
    exact Go.done X  (v := some (.int p2)) (fun h => by rw [Bd.returns] at h; cases h) Bd.notSynchronized (fun fs hr => retOut X hx Bd.returns rfl (by simp [Value.isRef, FieldType.isReference]) (hb hby d7_10) hr) (by rw [eT]; exact ⟨by rw [if_pos hc2], N, rfl⟩) (by decide) (by decide)
  · refine Go.by (fun tt_ kk_ => XS.icmpNo X.here hx rfl (hb hby d7_2) rfl (flt hc2).2.2.1 kk_) ?_
    show Go p.tables e below (T.setTop (mkF m 5 #[.val (.int p1), .val (.int p2)] [])) _
    refine Go.by (fun tt_ kk_ => XS.iloadN X.here hx rfl (hb hby d7_5) rfl kk_) ?_
    show Go p.tables e below (T.setTop (mkF m 6 #[.val (.int p1), .val (.int p2)] [(.int p1)])) _
    refine Go.by (fun tt_ kk_ => XS.goto X.here hx rfl (pc0 := 6) (pc' := 10) rfl (hb hby d7_6) (by decide) (by decide) kk_) ?_
    show Go p.tables e below (T.setTop (mkF m 10 #[.val (.int p1), .val (.int p2)] [(.int p1)])) _
    exact Go.done X  (v := some (.int p1)) (fun h => by rw [Bd.returns] at h; cases h) Bd.notSynchronized (fun fs hr => retOut X hx Bd.returns rfl (by simp [Value.isRef, FieldType.isReference]) (hb hby d7_10) hr) (by rw [eT]; exact ⟨by rw [if_neg hc2], N, rfl⟩) (by decide) (by decide)
theorem d15_0 : decode jdk_117_method_6_code 0 = .ok (.dload_n 0, 1) := by decide +kernel
theorem d15_1 : decode jdk_117_method_6_code 1 = .ok (.dload_n 0, 1) := by decide +kernel
theorem d15_2 : decode jdk_117_method_6_code 2 = .ok (.dcmp .l, 1) := by decide +kernel
theorem d15_3 : decode jdk_117_method_6_code 3 = .ok (.ifCond .eq 7, 3) := by decide +kernel
theorem d15_6 : decode jdk_117_method_6_code 6 = .ok (.iconst 1, 1) := by decide +kernel
theorem d15_7 : decode jdk_117_method_6_code 7 = .ok (.goto 4, 3) := by decide +kernel
theorem d15_10 : decode jdk_117_method_6_code 10 = .ok (.iconst 0, 1) := by decide +kernel
theorem d15_11 : decode jdk_117_method_6_code 11 = .ok (.ireturn, 1) := by decide +kernel
theorem pn_0 : plainName "java/lang/Double" = true := by first | (simp [plainName, overriddenIn]; done) | decide +kernel
theorem ef_15 (m : MethodId) (x0 : UInt64) : entryFrame m #[(.double x0)] 2 = mkF m 0 #[.val (.double x0), .second] [] := by first | (simp [entryFrame, mkF, argsToLocals, Value.category]; done) | rfl
def Q15 (Z : State) (x1 : UInt64)  (h0 : Heap) (n0 : Nat) (v : Option Value) (h : Heap) (L : List Loc) : Prop := v = some (.int 0) ∧ Fr n0 L ∧ h = h0
set_option maxRecDepth 65536 in
set_option maxHeartbeats 40000000 in
theorem rm15 (l : Launch) (Z : State) (a0 : Array Value) (hw : ∀ d ∈ tables_1, d.before a0 Z = true) (ws : List Jvm.Cond) (x1 : UInt64)  (h0 : Heap) (n0 : Nat) (Z0 : n0 ≤ h0.size) (n1 : NoNaN64 x1) :
    MetFree l (⟨"java/lang/Double", "isNaN", "(D)Z"⟩ : MethodName) (head1 (Jvm.Cond.code (⟨"java/lang/Double", "isNaN", "(D)Z"⟩ : MethodName) jdk_117_method_6_code 2 (some .boolean) :: ws) ({ frames := 0, cells := 0, slots := 0, locals := 0 } : Room)) (fun a U => a = #[(.double x1)] ∧ Z.Warmed39 U.vm ∧ U.heap = h0) (fun _ _ _ _ _ => True) (fun _ U o U' => ∃ v L, o = .returned v ∧ Q15 Z x1 h0 n0 v U'.heap L ∧ FrameEnd U o U' L ({ frames := 0, cells := 0, slots := 0, locals := 0 } : Room).cells ({ frames := 0, cells := 0, slots := 0, locals := 0 } : Room).slots) := by
  refine MetFree.of_bodySF (plainFor_of_name pn_0) hisR ?_
  intro p e s m args below meth c s₁ Bd hml0 hP hK
  obtain ⟨rfl, hZ, hh⟩ := hP
  have hx := Bd.exec
  have hby := Bd.bytes
  have hml : c.maxLocals = 2 := hml0
  have hown : s.vm.findClass "java/lang/Double" = some m.cls := findClass_of_methodNamed Bd.named
  have hnm := (name_of_methodNamed Bd.named Bd.method).1
  have X : Stand p l e ({ frames := 0, cells := 0, slots := 0, locals := 0 } : Room) s m #[(.double x1)] below meth c s₁ [] 0 0 := Stand.of_body Bd
  have eT : s₁.heap = h0 := by rw [← hh, Bd.state]; rfl
  have N := Fr.nil n0
  have K := Keep.refl h0 []
  refine Go.out ?_
  obtain ⟨T, eTT⟩ : ∃ z, z = s₁ := ⟨_, rfl⟩
  rw [← eTT] at X eT ⊢
  refine Go.by (fun tt_ kk_ => castTop (ef_15 m x1) kk_) ?_
  show Go p.tables e below (T.setTop (mkF m 0 #[.val (.double x1), .second] [])) _
  refine Go.by (fun tt_ kk_ => XS.dloadN X.here hx rfl (hb hby d15_0) rfl kk_) ?_
  show Go p.tables e below (T.setTop (mkF m 1 #[.val (.double x1), .second] [(.double x1)])) _
  refine Go.by (fun tt_ kk_ => XS.dloadN X.here hx rfl (hb hby d15_1) rfl kk_) ?_
  show Go p.tables e below (T.setTop (mkF m 2 #[.val (.double x1), .second] [(.double x1), (.double x1)])) _
  refine Go.by (fun tt_ kk_ => XS.dcmpS X.here hx rfl (hb hby d15_2) rfl (dcmpV_self n1 .l) kk_) ?_
  show Go p.tables e below (T.setTop (mkF m 3 #[.val (.double x1), .second] [(.int (0 : Int32))])) _
  refine Go.by (fun tt_ kk_ => XS.ifYes X.here hx rfl (pc0 := 3) (pc' := 10) rfl (hb hby d15_3) rfl ((if0 _ _).trans (teq (rfl : (0 : Int32) = (0 : Int32))).1) (by decide) (by decide) kk_) ?_
  show Go p.tables e below (T.setTop (mkF m 10 #[.val (.double x1), .second] [])) _
  refine Go.by (fun tt_ kk_ => XS.iconst X.here hx rfl (hb hby d15_10) kk_) ?_
  show Go p.tables e below (T.setTop (mkF m 11 #[.val (.double x1), .second] [(.int (0 : Int32))])) _
  exact Go.done X  (v := some (.int (0 : Int32))) (fun h => by rw [Bd.returns] at h; cases h) Bd.notSynchronized (fun fs hr => retN X hx (z := (0 : Int32)) (t := .boolean) Bd.returns (by simp) (hb hby d15_11) hr) (by rw [eT]; exact ⟨rfl, N, rfl⟩) (by decide) (by decide)
theorem d14_0 : decode jdk_117_method_23_code 0 = .ok (.dload_n 0, 1) := by decide +kernel
theorem d14_1 : decode jdk_117_method_23_code 1 = .ok (.invokestatic 122, 3) := by decide +kernel
theorem d14_4 : decode jdk_117_method_23_code 4 = .ok (.ifCond .ne 8, 3) := by decide +kernel
theorem d14_7 : decode jdk_117_method_23_code 7 = .ok (.dload_n 0, 1) := by decide +kernel
theorem d14_8 : decode jdk_117_method_23_code 8 = .ok (.invokestatic 134, 3) := by decide +kernel
theorem d14_11 : decode jdk_117_method_23_code 11 = .ok (.lreturn, 1) := by decide +kernel
theorem d14_12 : decode jdk_117_method_23_code 12 = .ok (.ldc2_w 137, 3) := by decide +kernel
theorem d14_15 : decode jdk_117_method_23_code 15 = .ok (.lreturn, 1) := by decide +kernel
theorem pd_0 : parseMethodDescriptor "(D)Z" = some ⟨[.double], some .boolean⟩ := by decide +kernel
theorem ef_14 (m : MethodId) (x0 : UInt64) : entryFrame m #[(.double x0)] 2 = mkF m 0 #[.val (.double x0), .second] [] := by first | (simp [entryFrame, mkF, argsToLocals, Value.category]; done) | rfl
def Q14 (Z : State) (x1 : UInt64)  (h0 : Heap) (n0 : Nat) (v : Option Value) (h : Heap) (L : List Loc) : Prop := v = some (.long x1.toInt64) ∧ Fr n0 L ∧ h = h0
set_option maxRecDepth 65536 in
set_option maxHeartbeats 40000000 in
theorem rm14 (l : Launch) (Z : State) (a0 : Array Value) (hw : ∀ d ∈ tables_1, d.before a0 Z = true) (ws : List Jvm.Cond) (x1 : UInt64)  (h0 : Heap) (n0 : Nat) (Z0 : n0 ≤ h0.size) (n1 : NoNaN64 x1) :
    MetFree l (⟨"java/lang/Double", "doubleToLongBits", "(D)J"⟩ : MethodName) (head1 (Jvm.Cond.code (⟨"java/lang/Double", "doubleToLongBits", "(D)J"⟩ : MethodName) jdk_117_method_23_code 2 (some .long) :: ws) ({ frames := 1, cells := 0, slots := 0, locals := 15 } : Room)) (fun a U => a = #[(.double x1)] ∧ Z.Warmed39 U.vm ∧ U.heap = h0) (fun _ _ _ _ _ => True) (fun _ U o U' => ∃ v L, o = .returned v ∧ Q14 Z x1 h0 n0 v U'.heap L ∧ FrameEnd U o U' L ({ frames := 1, cells := 0, slots := 0, locals := 15 } : Room).cells ({ frames := 1, cells := 0, slots := 0, locals := 15 } : Room).slots) := by
  refine MetFree.of_bodySF (plainFor_of_name pn_0) hisR ?_
  intro p e s m args below meth c s₁ Bd hml0 hP hK
  obtain ⟨rfl, hZ, hh⟩ := hP
  have hx := Bd.exec
  have hby := Bd.bytes
  have hml : c.maxLocals = 2 := hml0
  have hown : s.vm.findClass "java/lang/Double" = some m.cls := findClass_of_methodNamed Bd.named
  have hnm := (name_of_methodNamed Bd.named Bd.method).1
  have X : Stand p l e ({ frames := 1, cells := 0, slots := 0, locals := 15 } : Room) s m #[(.double x1)] below meth c s₁ [] 0 0 := Stand.of_body Bd
  have eT : s₁.heap = h0 := by rw [← hh, Bd.state]; rfl
  have N := Fr.nil n0
  have K := Keep.refl h0 []
  refine Go.out ?_
  obtain ⟨T, eTT⟩ : ∃ z, z = s₁ := ⟨_, rfl⟩
  rw [← eTT] at X eT ⊢
  refine Go.by (fun tt_ kk_ => castTop (ef_14 m x1) kk_) ?_
  show Go p.tables e below (T.setTop (mkF m 0 #[.val (.double x1), .second] [])) _
  refine Go.by (fun tt_ kk_ => XS.dloadN X.here hx rfl (hb hby d14_0) rfl kk_) ?_
  show Go p.tables e below (T.setTop (mkF m 1 #[.val (.double x1), .second] [(.double x1)])) _
  obtain ⟨_, _, ⟨T, L_, k_, n_⟩, -, X, ⟨Lc_, hQ, l_, y_, z_⟩, st⟩ := Jvm.LawKit.callS X hx (y := (⟨"java/lang/Double", "isNaN", "(D)Z"⟩ : MethodName)) hown (mvT hZ (hw _ (List.mem_of_getElem? (i := 70) rfl))) (mvT hZ (hw _ (List.mem_of_getElem? (i := 71) rfl))) (mvT hZ (hw _ (List.mem_of_getElem? (i := 50) rfl))) (mvT hZ (hw _ (List.mem_of_getElem? (i := 72) rfl))) (by decide) (backOf (W := 0) (rm15 l Z a0 hw [] x1 h0 n0 (Nat.le_trans Z0 K.1) n1) hZ (hw _ (List.mem_of_getElem? (i := 72) rfl)) (hw _ (List.mem_of_getElem? (i := 50) rfl)) (by decide) (by decide)) (g := (mkF m 1 #[.val (.double x1), .second] [(.double x1)])) rfl (by rw [hml]; rfl) (argsL := [(.double x1)]) (rest := []) (lenOf pd_0 rfl) rfl (by show 2 * 0 + _ ≤ _; exact Nat.le_of_eq rfl) (hb hby d14_1) (fun _ _ => ⟨rfl, eT, (by decide : 0 + 0 ≤ _), (by decide : 0 + 0 ≤ _)⟩)
  dsimp only [Pt.U, Pt.locs, Pt.cells, Pt.slots] at X l_ y_ z_ st hQ
  subst l_ y_ z_
  obtain ⟨rfl, Nq, eh⟩ := hQ
  have N := Fr.app N Nq
  have eT := eh
  refine Go.by st ?_
  show Go p.tables e below (T.setTop (mkF m 4 #[.val (.double x1), .second] [(.int (0 : Int32))])) _
  refine Go.by (fun tt_ kk_ => XS.ifNo X.here hx rfl (hb hby d14_4) rfl ((if0 _ _).trans (teq (rfl : (0 : Int32) = (0 : Int32))).2) kk_) ?_
  show Go p.tables e below (T.setTop (mkF m 7 #[.val (.double x1), .second] [])) _
  refine Go.by (fun tt_ kk_ => XS.dloadN X.here hx rfl (hb hby d14_7) rfl kk_) ?_
  show Go p.tables e below (T.setTop (mkF m 8 #[.val (.double x1), .second] [(.double x1)])) _
  obtain ⟨T, X, eT, st⟩ := own_bits X hx hZ hown (hw _ (List.mem_of_getElem? (i := 73) rfl)) (hw _ (List.mem_of_getElem? (i := 74) rfl)) (hw _ (List.mem_of_getElem? (i := 50) rfl)) (hw _ (List.mem_of_getElem? (i := 75) rfl)) eT (g := (mkF m 8 #[.val (.double x1), .second] [(.double x1)])) rfl (by rw [hml]; rfl) rfl (W := 0) (by show 2 * 0 + _ ≤ _; exact Nat.le_of_eq rfl) (hb hby d14_8) (by decide) (by decide)
  refine Go.by st ?_
  show Go p.tables e below (T.setTop (mkF m 11 #[.val (.double x1), .second] [(.long (x1.toInt64))])) _
  exact Go.done X  (v := some (.long (x1.toInt64))) (fun h => by rw [Bd.returns] at h; cases h) Bd.notSynchronized (fun fs hr => retOut X hx Bd.returns rfl (by simp [Value.isRef, FieldType.isReference]) (hb hby d14_11) hr) (by rw [eT]; exact ⟨rfl, N, rfl⟩) (by decide) (by decide)
theorem d10_0 : decode jdk_117_method_27_code 0 = .ok (.dload_n 0, 1) := by decide +kernel
theorem d10_1 : decode jdk_117_method_27_code 1 = .ok (.dload_n 2, 1) := by decide +kernel
theorem d10_2 : decode jdk_117_method_27_code 2 = .ok (.dcmp .g, 1) := by decide +kernel
theorem d10_3 : decode jdk_117_method_27_code 3 = .ok (.ifCond .ge 5, 3) := by decide +kernel
theorem d10_6 : decode jdk_117_method_27_code 6 = .ok (.iconst (-1), 1) := by decide +kernel
theorem d10_7 : decode jdk_117_method_27_code 7 = .ok (.ireturn, 1) := by decide +kernel
theorem d10_8 : decode jdk_117_method_27_code 8 = .ok (.dload_n 0, 1) := by decide +kernel
theorem d10_9 : decode jdk_117_method_27_code 9 = .ok (.dload_n 2, 1) := by decide +kernel
theorem d10_10 : decode jdk_117_method_27_code 10 = .ok (.dcmp .l, 1) := by decide +kernel
theorem d10_11 : decode jdk_117_method_27_code 11 = .ok (.ifCond .le 5, 3) := by decide +kernel
theorem d10_14 : decode jdk_117_method_27_code 14 = .ok (.iconst 1, 1) := by decide +kernel
theorem d10_15 : decode jdk_117_method_27_code 15 = .ok (.ireturn, 1) := by decide +kernel
theorem d10_16 : decode jdk_117_method_27_code 16 = .ok (.dload_n 0, 1) := by decide +kernel
theorem d10_17 : decode jdk_117_method_27_code 17 = .ok (.invokestatic 46, 3) := by decide +kernel
theorem d10_20 : decode jdk_117_method_27_code 20 = .ok (.lstore 4, 2) := by decide +kernel
theorem d10_22 : decode jdk_117_method_27_code 22 = .ok (.dload_n 2, 1) := by decide +kernel
theorem d10_23 : decode jdk_117_method_27_code 23 = .ok (.invokestatic 46, 3) := by decide +kernel
theorem d10_26 : decode jdk_117_method_27_code 26 = .ok (.lstore 6, 2) := by decide +kernel
theorem d10_28 : decode jdk_117_method_27_code 28 = .ok (.lload 4, 2) := by decide +kernel
theorem d10_30 : decode jdk_117_method_27_code 30 = .ok (.lload 6, 2) := by decide +kernel
theorem d10_32 : decode jdk_117_method_27_code 32 = .ok (.lcmp, 1) := by decide +kernel
theorem d10_33 : decode jdk_117_method_27_code 33 = .ok (.ifCond .ne 7, 3) := by decide +kernel
theorem d10_36 : decode jdk_117_method_27_code 36 = .ok (.iconst 0, 1) := by decide +kernel
theorem d10_37 : decode jdk_117_method_27_code 37 = .ok (.goto 16, 3) := by decide +kernel
theorem d10_40 : decode jdk_117_method_27_code 40 = .ok (.lload 4, 2) := by decide +kernel
theorem d10_42 : decode jdk_117_method_27_code 42 = .ok (.lload 6, 2) := by decide +kernel
theorem d10_44 : decode jdk_117_method_27_code 44 = .ok (.lcmp, 1) := by decide +kernel
theorem d10_45 : decode jdk_117_method_27_code 45 = .ok (.ifCond .ge 7, 3) := by decide +kernel
theorem d10_48 : decode jdk_117_method_27_code 48 = .ok (.iconst (-1), 1) := by decide +kernel
theorem d10_49 : decode jdk_117_method_27_code 49 = .ok (.goto 4, 3) := by decide +kernel
theorem d10_52 : decode jdk_117_method_27_code 52 = .ok (.iconst 1, 1) := by decide +kernel
theorem d10_53 : decode jdk_117_method_27_code 53 = .ok (.ireturn, 1) := by decide +kernel
theorem pd_1 : parseMethodDescriptor "(D)J" = some ⟨[.double], some .long⟩ := by decide +kernel
theorem ef_10 (m : MethodId) (x0 : UInt64) (x1 : UInt64) : entryFrame m #[(.double x0), (.double x1)] 8 = mkF m 0 #[.val (.double x0), .second, .val (.double x1), .second, .unset, .unset, .unset, .unset] [] := by first | (simp [entryFrame, mkF, argsToLocals, Value.category]; done) | rfl
def Q10 (Z : State) (x1 : UInt64) (x2 : UInt64)  (h0 : Heap) (n0 : Nat) (v : Option Value) (h : Heap) (L : List Loc) : Prop := ∃ r : Int32, v = some (.int r) ∧ Fr n0 L ∧ h = h0
set_option maxRecDepth 65536 in
set_option maxHeartbeats 40000000 in
theorem rm10 (l : Launch) (Z : State) (a0 : Array Value) (hw : ∀ d ∈ tables_1, d.before a0 Z = true) (ws : List Jvm.Cond) (x1 : UInt64) (x2 : UInt64)  (h0 : Heap) (n0 : Nat) (Z0 : n0 ≤ h0.size) (n1 : NoNaN64 x1) (n2 : NoNaN64 x2) :
    MetFree l (⟨"java/lang/Double", "compare", "(DD)I"⟩ : MethodName) (head1 (Jvm.Cond.code (⟨"java/lang/Double", "compare", "(DD)I"⟩ : MethodName) jdk_117_method_27_code 8 (some .int) :: ws) ({ frames := 2, cells := 0, slots := 0, locals := 28 } : Room)) (fun a U => a = #[(.double x1), (.double x2)] ∧ Z.Warmed39 U.vm ∧ U.heap = h0) (fun _ _ _ _ _ => True) (fun _ U o U' => ∃ v L, o = .returned v ∧ Q10 Z x1 x2 h0 n0 v U'.heap L ∧ FrameEnd U o U' L ({ frames := 2, cells := 0, slots := 0, locals := 28 } : Room).cells ({ frames := 2, cells := 0, slots := 0, locals := 28 } : Room).slots) := by
  refine MetFree.of_bodySF (plainFor_of_name pn_0) hisR ?_
  intro p e s m args below meth c s₁ Bd hml0 hP hK
  obtain ⟨rfl, hZ, hh⟩ := hP
  have hx := Bd.exec
  have hby := Bd.bytes
  have hml : c.maxLocals = 8 := hml0
  have hown : s.vm.findClass "java/lang/Double" = some m.cls := findClass_of_methodNamed Bd.named
  have hnm := (name_of_methodNamed Bd.named Bd.method).1
  have X : Stand p l e ({ frames := 2, cells := 0, slots := 0, locals := 28 } : Room) s m #[(.double x1), (.double x2)] below meth c s₁ [] 0 0 := Stand.of_body Bd
  have eT : s₁.heap = h0 := by rw [← hh, Bd.state]; rfl
  have N := Fr.nil n0
  have K := Keep.refl h0 []
  refine Go.out ?_
  obtain ⟨T, eTT⟩ : ∃ z, z = s₁ := ⟨_, rfl⟩
  rw [← eTT] at X eT ⊢
  refine Go.by (fun tt_ kk_ => castTop (ef_10 m x1 x2) kk_) ?_
  show Go p.tables e below (T.setTop (mkF m 0 #[.val (.double x1), .second, .val (.double x2), .second, .unset, .unset, .unset, .unset] [])) _
  refine Go.by (fun tt_ kk_ => XS.dloadN X.here hx rfl (hb hby d10_0) rfl kk_) ?_
  show Go p.tables e below (T.setTop (mkF m 1 #[.val (.double x1), .second, .val (.double x2), .second, .unset, .unset, .unset, .unset] [(.double x1)])) _
  refine Go.by (fun tt_ kk_ => XS.dloadN X.here hx rfl (hb hby d10_1) rfl kk_) ?_
  show Go p.tables e below (T.setTop (mkF m 2 #[.val (.double x1), .second, .val (.double x2), .second, .unset, .unset, .unset, .unset] [(.double x2), (.double x1)])) _
  refine Go.by (fun tt_ kk_ => XS.dcmpS X.here hx rfl (hb hby d10_2) rfl rfl kk_) ?_
  show Go p.tables e below (T.setTop (mkF m 3 #[.val (.double x1), .second, .val (.double x2), .second, .unset, .unset, .unset, .unset] [(.int (cmpValue (FP.dcmp x1 x2) .g))])) _
  by_cases hc3 : (cmpValue (FP.dcmp x1 x2) .g) < (0 : Int32)
  · refine Go.by (fun tt_ kk_ => XS.ifNo X.here hx rfl (hb hby d10_3) rfl ((if0 _ _).trans (tlt hc3).2.1) kk_) ?_
    show Go p.tables e below (T.setTop (mkF m 6 #[.val (.double x1), .second, .val (.double x2), .second, .unset, .unset, .unset, .unset] [])) _
    refine Go.by (fun tt_ kk_ => XS.iconst X.here hx rfl (hb hby d10_6) kk_) ?_
    show Go p.tables e below (T.setTop (mkF m 7 #[.val (.double x1), .second, .val (.double x2), .second, .unset, .unset, .unset, .unset] [(.int (-1 : Int32))])) _
    exact Go.done X  (v := some (.int (-1 : Int32))) (fun h => by rw [Bd.returns] at h; cases h) Bd.notSynchronized (fun fs hr => retOut X hx Bd.returns rfl (by simp [Value.isRef, FieldType.isReference]) (hb hby d10_7) hr) (by rw [eT]; exact ⟨_, rfl, N, rfl⟩) (by decide) (by decide)
  · refine Go.by (fun tt_ kk_ => XS.ifYes X.here hx rfl (pc0 := 3) (pc' := 8) rfl (hb hby d10_3) rfl ((if0 _ _).trans (flt hc3).2.1) (by decide) (by decide) kk_) ?_
    show Go p.tables e below (T.setTop (mkF m 8 #[.val (.double x1), .second, .val (.double x2), .second, .unset, .unset, .unset, .unset] [])) _
    refine Go.by (fun tt_ kk_ => XS.dloadN X.here hx rfl (hb hby d10_8) rfl kk_) ?_
    show Go p.tables e below (T.setTop (mkF m 9 #[.val (.double x1), .second, .val (.double x2), .second, .unset, .unset, .unset, .unset] [(.double x1)])) _
    refine Go.by (fun tt_ kk_ => XS.dloadN X.here hx rfl (hb hby d10_9) rfl kk_) ?_
    show Go p.tables e below (T.setTop (mkF m 10 #[.val (.double x1), .second, .val (.double x2), .second, .unset, .unset, .unset, .unset] [(.double x2), (.double x1)])) _
    refine Go.by (fun tt_ kk_ => XS.dcmpS X.here hx rfl (hb hby d10_10) rfl rfl kk_) ?_
    show Go p.tables e below (T.setTop (mkF m 11 #[.val (.double x1), .second, .val (.double x2), .second, .unset, .unset, .unset, .unset] [(.int (cmpValue (FP.dcmp x1 x2) .l))])) _
    by_cases hc11 : (0 : Int32) < (cmpValue (FP.dcmp x1 x2) .l)
    · refine Go.by (fun tt_ kk_ => XS.ifNo X.here hx rfl (hb hby d10_11) rfl ((if0 _ _).trans (tlt hc11).2.2.2) kk_) ?_
      show Go p.tables e below (T.setTop (mkF m 14 #[.val (.double x1), .second, .val (.double x2), .second, .unset, .unset, .unset, .unset] [])) _
      refine Go.by (fun tt_ kk_ => XS.iconst X.here hx rfl (hb hby d10_14) kk_) ?_
      show Go p.tables e below (T.setTop (mkF m 15 #[.val (.double x1), .second, .val (.double x2), .second, .unset, .unset, .unset, .unset] [(.int (1 : Int32))])) _
      exact Go.done X  (v := some (.int (1 : Int32))) (fun h => by rw [Bd.returns] at h; cases h) Bd.notSynchronized (fun fs hr => retOut X hx Bd.returns rfl (by simp [Value.isRef, FieldType.isReference]) (hb hby d10_15) hr) (by rw [eT]; exact ⟨_, rfl, N, rfl⟩) (by decide) (by decide)
    · refine Go.by (fun tt_ kk_ => XS.ifYes X.here hx rfl (pc0 := 11) (pc' := 16) rfl (hb hby d10_11) rfl ((if0 _ _).trans (flt hc11).2.2.2) (by decide) (by decide) kk_) ?_
      show Go p.tables e below (T.setTop (mkF m 16 #[.val (.double x1), .second, .val (.double x2), .second, .unset, .unset, .unset, .unset] [])) _
      refine Go.by (fun tt_ kk_ => XS.dloadN X.here hx rfl (hb hby d10_16) rfl kk_) ?_
      show Go p.tables e below (T.setTop (mkF m 17 #[.val (.double x1), .second, .val (.double x2), .second, .unset, .unset, .unset, .unset] [(.double x1)])) _
      obtain ⟨_, _, ⟨T, L_, k_, n_⟩, -, X, ⟨Lc_, hQ, l_, y_, z_⟩, st⟩ := Jvm.LawKit.callS X hx (y := (⟨"java/lang/Double", "doubleToLongBits", "(D)J"⟩ : MethodName)) hown (mvT hZ (hw _ (List.mem_of_getElem? (i := 67) rfl))) (mvT hZ (hw _ (List.mem_of_getElem? (i := 68) rfl))) (mvT hZ (hw _ (List.mem_of_getElem? (i := 50) rfl))) (mvT hZ (hw _ (List.mem_of_getElem? (i := 69) rfl))) (by decide) (backOf (W := 0) (rm14 l Z a0 hw [] x1 h0 n0 (Nat.le_trans Z0 K.1) n1) hZ (hw _ (List.mem_of_getElem? (i := 69) rfl)) (hw _ (List.mem_of_getElem? (i := 50) rfl)) (by decide) (by decide)) (g := (mkF m 17 #[.val (.double x1), .second, .val (.double x2), .second, .unset, .unset, .unset, .unset] [(.double x1)])) rfl (by rw [hml]; rfl) (argsL := [(.double x1)]) (rest := []) (lenOf pd_1 rfl) rfl (by show 2 * 0 + _ ≤ _; exact Nat.le_of_eq rfl) (hb hby d10_17) (fun _ _ => ⟨rfl, eT, (by decide : 0 + 0 ≤ _), (by decide : 0 + 0 ≤ _)⟩)
      dsimp only [Pt.U, Pt.locs, Pt.cells, Pt.slots] at X l_ y_ z_ st hQ
      subst l_ y_ z_
      obtain ⟨rfl, Nq, eh⟩ := hQ
      have N := Fr.app N Nq
      have eT := eh
      refine Go.by st ?_
      show Go p.tables e below (T.setTop (mkF m 20 #[.val (.double x1), .second, .val (.double x2), .second, .unset, .unset, .unset, .unset] [(.long (x1.toInt64))])) _
      refine Go.by (fun tt_ kk_ => XS.lstore X.here hx rfl (hb hby d10_20) rfl (l' := #[.val (.double x1), .second, .val (.double x2), .second, .val (.long (x1.toInt64)), .second, .unset, .unset]) rfl kk_) ?_
      show Go p.tables e below (T.setTop (mkF m 22 #[.val (.double x1), .second, .val (.double x2), .second, .val (.long (x1.toInt64)), .second, .unset, .unset] [])) _
      refine Go.by (fun tt_ kk_ => XS.dloadN X.here hx rfl (hb hby d10_22) rfl kk_) ?_
      show Go p.tables e below (T.setTop (mkF m 23 #[.val (.double x1), .second, .val (.double x2), .second, .val (.long (x1.toInt64)), .second, .unset, .unset] [(.double x2)])) _
      obtain ⟨_, _, ⟨T, L_, k_, n_⟩, -, X, ⟨Lc_, hQ, l_, y_, z_⟩, st⟩ := Jvm.LawKit.callS X hx (y := (⟨"java/lang/Double", "doubleToLongBits", "(D)J"⟩ : MethodName)) hown (mvT hZ (hw _ (List.mem_of_getElem? (i := 67) rfl))) (mvT hZ (hw _ (List.mem_of_getElem? (i := 68) rfl))) (mvT hZ (hw _ (List.mem_of_getElem? (i := 50) rfl))) (mvT hZ (hw _ (List.mem_of_getElem? (i := 69) rfl))) (by decide) (backOf (W := 0) (rm14 l Z a0 hw [] x2 h0 n0 (Nat.le_trans Z0 K.1) n2) hZ (hw _ (List.mem_of_getElem? (i := 69) rfl)) (hw _ (List.mem_of_getElem? (i := 50) rfl)) (by decide) (by decide)) (g := (mkF m 23 #[.val (.double x1), .second, .val (.double x2), .second, .val (.long (x1.toInt64)), .second, .unset, .unset] [(.double x2)])) rfl (by rw [hml]; rfl) (argsL := [(.double x2)]) (rest := []) (lenOf pd_1 rfl) rfl (by show 2 * 0 + _ ≤ _; exact Nat.le_of_eq rfl) (hb hby d10_23) (fun _ _ => ⟨rfl, eT, (by decide : 0 + 0 ≤ _), (by decide : 0 + 0 ≤ _)⟩)
      dsimp only [Pt.U, Pt.locs, Pt.cells, Pt.slots] at X l_ y_ z_ st hQ
      subst l_ y_ z_
      obtain ⟨rfl, Nq, eh⟩ := hQ
      have N := Fr.app N Nq
      have eT := eh
      refine Go.by st ?_
      show Go p.tables e below (T.setTop (mkF m 26 #[.val (.double x1), .second, .val (.double x2), .second, .val (.long (x1.toInt64)), .second, .unset, .unset] [(.long (x2.toInt64))])) _
      refine Go.by (fun tt_ kk_ => XS.lstore X.here hx rfl (hb hby d10_26) rfl (l' := #[.val (.double x1), .second, .val (.double x2), .second, .val (.long (x1.toInt64)), .second, .val (.long (x2.toInt64)), .second]) rfl kk_) ?_
      show Go p.tables e below (T.setTop (mkF m 28 #[.val (.double x1), .second, .val (.double x2), .second, .val (.long (x1.toInt64)), .second, .val (.long (x2.toInt64)), .second] [])) _
      refine Go.by (fun tt_ kk_ => XS.lload X.here hx rfl (hb hby d10_28) rfl kk_) ?_
      show Go p.tables e below (T.setTop (mkF m 30 #[.val (.double x1), .second, .val (.double x2), .second, .val (.long (x1.toInt64)), .second, .val (.long (x2.toInt64)), .second] [(.long (x1.toInt64))])) _
      refine Go.by (fun tt_ kk_ => XS.lload X.here hx rfl (hb hby d10_30) rfl kk_) ?_
      show Go p.tables e below (T.setTop (mkF m 32 #[.val (.double x1), .second, .val (.double x2), .second, .val (.long (x1.toInt64)), .second, .val (.long (x2.toInt64)), .second] [(.long (x2.toInt64)), (.long (x1.toInt64))])) _
      refine Go.by (fun tt_ kk_ => XS.lcmp X.here hx rfl (hb hby d10_32) rfl kk_) ?_
      show Go p.tables e below (T.setTop (mkF m 33 #[.val (.double x1), .second, .val (.double x2), .second, .val (.long (x1.toInt64)), .second, .val (.long (x2.toInt64)), .second] [(.int (lcmpW (x1.toInt64) (x2.toInt64)))])) _
      by_cases hc33 : (lcmpW (x1.toInt64) (x2.toInt64)) = (0 : Int32)
      · refine Go.by (fun tt_ kk_ => XS.ifNo X.here hx rfl (hb hby d10_33) rfl ((if0 _ _).trans (teq hc33).2) kk_) ?_
        show Go p.tables e below (T.setTop (mkF m 36 #[.val (.double x1), .second, .val (.double x2), .second, .val (.long (x1.toInt64)), .second, .val (.long (x2.toInt64)), .second] [])) _
        refine Go.by (fun tt_ kk_ => XS.iconst X.here hx rfl (hb hby d10_36) kk_) ?_
        show Go p.tables e below (T.setTop (mkF m 37 #[.val (.double x1), .second, .val (.double x2), .second, .val (.long (x1.toInt64)), .second, .val (.long (x2.toInt64)), .second] [(.int (0 : Int32))])) _
        refine Go.by (fun tt_ kk_ => XS.goto X.here hx rfl (pc0 := 37) (pc' := 53) rfl (hb hby d10_37) (by decide) (by decide) kk_) ?_
        show Go p.tables e below (T.setTop (mkF m 53 #[.val (.double x1), .second, .val (.double x2), .second, .val (.long (x1.toInt64)), .second, .val (.long (x2.toInt64)), .second] [(.int (0 : Int32))])) _
        exact Go.done X  (v := some (.int (0 : Int32))) (fun h => by rw [Bd.returns] at h; cases h) Bd.notSynchronized (fun fs hr => retOut X hx Bd.returns rfl (by simp [Value.isRef, FieldType.isReference]) (hb hby d10_53) hr) (by rw [eT]; exact ⟨_, rfl, N, rfl⟩) (by decide) (by decide)
      · refine Go.by (fun tt_ kk_ => XS.ifYes X.here hx rfl (pc0 := 33) (pc' := 40) rfl (hb hby d10_33) rfl ((if0 _ _).trans (feq hc33).2) (by decide) (by decide) kk_) ?_
        show Go p.tables e below (T.setTop (mkF m 40 #[.val (.double x1), .second, .val (.double x2), .second, .val (.long (x1.toInt64)), .second, .val (.long (x2.toInt64)), .second] [])) _
        refine Go.by (fun tt_ kk_ => XS.lload X.here hx rfl (hb hby d10_40) rfl kk_) ?_
        show Go p.tables e below (T.setTop (mkF m 42 #[.val (.double x1), .second, .val (.double x2), .second, .val (.long (x1.toInt64)), .second, .val (.long (x2.toInt64)), .second] [(.long (x1.toInt64))])) _
        refine Go.by (fun tt_ kk_ => XS.lload X.here hx rfl (hb hby d10_42) rfl kk_) ?_
        show Go p.tables e below (T.setTop (mkF m 44 #[.val (.double x1), .second, .val (.double x2), .second, .val (.long (x1.toInt64)), .second, .val (.long (x2.toInt64)), .second] [(.long (x2.toInt64)), (.long (x1.toInt64))])) _
        refine Go.by (fun tt_ kk_ => XS.lcmp X.here hx rfl (hb hby d10_44) rfl kk_) ?_
        show Go p.tables e below (T.setTop (mkF m 45 #[.val (.double x1), .second, .val (.double x2), .second, .val (.long (x1.toInt64)), .second, .val (.long (x2.toInt64)), .second] [(.int (lcmpW (x1.toInt64) (x2.toInt64)))])) _
        by_cases hc45 : (lcmpW (x1.toInt64) (x2.toInt64)) < (0 : Int32)
        · refine Go.by (fun tt_ kk_ => XS.ifNo X.here hx rfl (hb hby d10_45) rfl ((if0 _ _).trans (tlt hc45).2.1) kk_) ?_
          show Go p.tables e below (T.setTop (mkF m 48 #[.val (.double x1), .second, .val (.double x2), .second, .val (.long (x1.toInt64)), .second, .val (.long (x2.toInt64)), .second] [])) _
          refine Go.by (fun tt_ kk_ => XS.iconst X.here hx rfl (hb hby d10_48) kk_) ?_
          show Go p.tables e below (T.setTop (mkF m 49 #[.val (.double x1), .second, .val (.double x2), .second, .val (.long (x1.toInt64)), .second, .val (.long (x2.toInt64)), .second] [(.int (-1 : Int32))])) _
          refine Go.by (fun tt_ kk_ => XS.goto X.here hx rfl (pc0 := 49) (pc' := 53) rfl (hb hby d10_49) (by decide) (by decide) kk_) ?_
          show Go p.tables e below (T.setTop (mkF m 53 #[.val (.double x1), .second, .val (.double x2), .second, .val (.long (x1.toInt64)), .second, .val (.long (x2.toInt64)), .second] [(.int (-1 : Int32))])) _
          exact Go.done X  (v := some (.int (-1 : Int32))) (fun h => by rw [Bd.returns] at h; cases h) Bd.notSynchronized (fun fs hr => retOut X hx Bd.returns rfl (by simp [Value.isRef, FieldType.isReference]) (hb hby d10_53) hr) (by rw [eT]; exact ⟨_, rfl, N, rfl⟩) (by decide) (by decide)
        · refine Go.by (fun tt_ kk_ => XS.ifYes X.here hx rfl (pc0 := 45) (pc' := 52) rfl (hb hby d10_45) rfl ((if0 _ _).trans (flt hc45).2.1) (by decide) (by decide) kk_) ?_
          show Go p.tables e below (T.setTop (mkF m 52 #[.val (.double x1), .second, .val (.double x2), .second, .val (.long (x1.toInt64)), .second, .val (.long (x2.toInt64)), .second] [])) _
          refine Go.by (fun tt_ kk_ => XS.iconst X.here hx rfl (hb hby d10_52) kk_) ?_
          show Go p.tables e below (T.setTop (mkF m 53 #[.val (.double x1), .second, .val (.double x2), .second, .val (.long (x1.toInt64)), .second, .val (.long (x2.toInt64)), .second] [(.int (1 : Int32))])) _
          exact Go.done X  (v := some (.int (1 : Int32))) (fun h => by rw [Bd.returns] at h; cases h) Bd.notSynchronized (fun fs hr => retOut X hx Bd.returns rfl (by simp [Value.isRef, FieldType.isReference]) (hb hby d10_53) hr) (by rw [eT]; exact ⟨_, rfl, N, rfl⟩) (by decide) (by decide)
theorem d9_0 : decode prog_86_method_7_code 0 = .ok (.dload_n 0, 1) := by decide +kernel
theorem d9_1 : decode prog_86_method_7_code 1 = .ok (.dload_n 3, 1) := by decide +kernel
theorem d9_2 : decode prog_86_method_7_code 2 = .ok (.invokestatic 47, 3) := by decide +kernel
theorem d9_5 : decode prog_86_method_7_code 5 = .ok (.istore 6, 2) := by decide +kernel
theorem d9_7 : decode prog_86_method_7_code 7 = .ok (.iload 6, 2) := by decide +kernel
theorem d9_9 : decode prog_86_method_7_code 9 = .ok (.ifCond .lt 14, 3) := by decide +kernel
theorem d9_12 : decode prog_86_method_7_code 12 = .ok (.iload 6, 2) := by decide +kernel
theorem d9_14 : decode prog_86_method_7_code 14 = .ok (.ifCond .ne 13, 3) := by decide +kernel
theorem d9_17 : decode prog_86_method_7_code 17 = .ok (.iload_n 2, 1) := by decide +kernel
theorem d9_18 : decode prog_86_method_7_code 18 = .ok (.iload 5, 2) := by decide +kernel
theorem d9_20 : decode prog_86_method_7_code 20 = .ok (.if_icmp .ge 7, 3) := by decide +kernel
theorem d9_23 : decode prog_86_method_7_code 23 = .ok (.iconst 1, 1) := by decide +kernel
theorem d9_24 : decode prog_86_method_7_code 24 = .ok (.goto 4, 3) := by decide +kernel
theorem d9_27 : decode prog_86_method_7_code 27 = .ok (.iconst 0, 1) := by decide +kernel
theorem d9_28 : decode prog_86_method_7_code 28 = .ok (.ireturn, 1) := by decide +kernel
theorem pn_1 : plainName "com/example/mode_choice_loop/modechoiceloop/simulation/TimeHeap" = true := by first | (simp [plainName, overriddenIn]; done) | decide +kernel
theorem pd_2 : parseMethodDescriptor "(DD)I" = some ⟨[.double, .double], some .int⟩ := by decide +kernel
theorem ef_9 (m : MethodId) (x0 : UInt64) (x1 : Int32) (x2 : UInt64) (x3 : Int32) : entryFrame m #[(.double x0), (.int x1), (.double x2), (.int x3)] 7 = mkF m 0 #[.val (.double x0), .second, .val (.int x1), .val (.double x2), .second, .val (.int x3), .unset] [] := by first | (simp [entryFrame, mkF, argsToLocals, Value.category]; done) | rfl
def Q9 (Z : State) (x1 : UInt64) (p2 : Int32) (x3 : UInt64) (p4 : Int32)  (h0 : Heap) (n0 : Nat) (v : Option Value) (h : Heap) (L : List Loc) : Prop := ∃ r : Int32, v = some (.int r) ∧ Fr n0 L ∧ h = h0
set_option maxRecDepth 65536 in
set_option maxHeartbeats 40000000 in
theorem rm9 (l : Launch) (Z : State) (a0 : Array Value) (hw : ∀ d ∈ tables_1, d.before a0 Z = true) (ws : List Jvm.Cond) (x1 : UInt64) (p2 : Int32) (x3 : UInt64) (p4 : Int32)  (h0 : Heap) (n0 : Nat) (Z0 : n0 ≤ h0.size) (n1 : NoNaN64 x1) (n3 : NoNaN64 x3) :
    MetFree l (⟨"com/example/mode_choice_loop/modechoiceloop/simulation/TimeHeap", "precedes", "(DIDI)Z"⟩ : MethodName) (head1 (Jvm.Cond.code (⟨"com/example/mode_choice_loop/modechoiceloop/simulation/TimeHeap", "precedes", "(DIDI)Z"⟩ : MethodName) prog_86_method_7_code 7 (some .boolean) :: ws) ({ frames := 3, cells := 0, slots := 0, locals := 47 } : Room)) (fun a U => a = #[(.double x1), (.int p2), (.double x3), (.int p4)] ∧ Z.Warmed39 U.vm ∧ U.heap = h0) (fun _ _ _ _ _ => True) (fun _ U o U' => ∃ v L, o = .returned v ∧ Q9 Z x1 p2 x3 p4 h0 n0 v U'.heap L ∧ FrameEnd U o U' L ({ frames := 3, cells := 0, slots := 0, locals := 47 } : Room).cells ({ frames := 3, cells := 0, slots := 0, locals := 47 } : Room).slots) := by
  refine MetFree.of_bodySF (plainFor_of_name pn_1) hisR ?_
  intro p e s m args below meth c s₁ Bd hml0 hP hK
  obtain ⟨rfl, hZ, hh⟩ := hP
  have hx := Bd.exec
  have hby := Bd.bytes
  have hml : c.maxLocals = 7 := hml0
  have hown : s.vm.findClass "com/example/mode_choice_loop/modechoiceloop/simulation/TimeHeap" = some m.cls := findClass_of_methodNamed Bd.named
  have hnm := (name_of_methodNamed Bd.named Bd.method).1
  have X : Stand p l e ({ frames := 3, cells := 0, slots := 0, locals := 47 } : Room) s m #[(.double x1), (.int p2), (.double x3), (.int p4)] below meth c s₁ [] 0 0 := Stand.of_body Bd
  have eT : s₁.heap = h0 := by rw [← hh, Bd.state]; rfl
  have N := Fr.nil n0
  have K := Keep.refl h0 []
  refine Go.out ?_
  obtain ⟨T, eTT⟩ : ∃ z, z = s₁ := ⟨_, rfl⟩
  rw [← eTT] at X eT ⊢
  refine Go.by (fun tt_ kk_ => castTop (ef_9 m x1 p2 x3 p4) kk_) ?_
  show Go p.tables e below (T.setTop (mkF m 0 #[.val (.double x1), .second, .val (.int p2), .val (.double x3), .second, .val (.int p4), .unset] [])) _
  refine Go.by (fun tt_ kk_ => XS.dloadN X.here hx rfl (hb hby d9_0) rfl kk_) ?_
  show Go p.tables e below (T.setTop (mkF m 1 #[.val (.double x1), .second, .val (.int p2), .val (.double x3), .second, .val (.int p4), .unset] [(.double x1)])) _
  refine Go.by (fun tt_ kk_ => XS.dloadN X.here hx rfl (hb hby d9_1) rfl kk_) ?_
  show Go p.tables e below (T.setTop (mkF m 2 #[.val (.double x1), .second, .val (.int p2), .val (.double x3), .second, .val (.int p4), .unset] [(.double x3), (.double x1)])) _
  obtain ⟨_, _, ⟨T, L_, k_, n_⟩, -, X, ⟨Lc_, hQ, l_, y_, z_⟩, st⟩ := Jvm.LawKit.callS X hx (y := (⟨"java/lang/Double", "compare", "(DD)I"⟩ : MethodName)) hown (mvT hZ (hw _ (List.mem_of_getElem? (i := 48) rfl))) (mvT hZ (hw _ (List.mem_of_getElem? (i := 49) rfl))) (mvT hZ (hw _ (List.mem_of_getElem? (i := 50) rfl))) (mvT hZ (hw _ (List.mem_of_getElem? (i := 51) rfl))) (by decide) (backOf (W := 0) (rm10 l Z a0 hw [] x1 x3 h0 n0 (Nat.le_trans Z0 K.1) n1 n3) hZ (hw _ (List.mem_of_getElem? (i := 51) rfl)) (hw _ (List.mem_of_getElem? (i := 50) rfl)) (by decide) (by decide)) (g := (mkF m 2 #[.val (.double x1), .second, .val (.int p2), .val (.double x3), .second, .val (.int p4), .unset] [(.double x3), (.double x1)])) rfl (by rw [hml]; rfl) (argsL := [(.double x1), (.double x3)]) (rest := []) (lenOf pd_2 rfl) rfl (by show 2 * 0 + _ ≤ _; exact Nat.le_of_eq rfl) (hb hby d9_2) (fun _ _ => ⟨rfl, eT, (by decide : 0 + 0 ≤ _), (by decide : 0 + 0 ≤ _)⟩)
  dsimp only [Pt.U, Pt.locs, Pt.cells, Pt.slots] at X l_ y_ z_ st hQ
  subst l_ y_ z_
  obtain ⟨r, rfl, Nq, eh⟩ := hQ
  have N := Fr.app N Nq
  have eT := eh
  refine Go.by st ?_
  show Go p.tables e below (T.setTop (mkF m 5 #[.val (.double x1), .second, .val (.int p2), .val (.double x3), .second, .val (.int p4), .unset] [(.int r)])) _
  refine Go.by (fun tt_ kk_ => XS.istore X.here hx rfl (hb hby d9_5) rfl (l' := #[.val (.double x1), .second, .val (.int p2), .val (.double x3), .second, .val (.int p4), .val (.int r)]) rfl kk_) ?_
  show Go p.tables e below (T.setTop (mkF m 7 #[.val (.double x1), .second, .val (.int p2), .val (.double x3), .second, .val (.int p4), .val (.int r)] [])) _
  refine Go.by (fun tt_ kk_ => XS.iload X.here hx rfl (hb hby d9_7) rfl kk_) ?_
  show Go p.tables e below (T.setTop (mkF m 9 #[.val (.double x1), .second, .val (.int p2), .val (.double x3), .second, .val (.int p4), .val (.int r)] [(.int r)])) _
  by_cases hc9 : r < (0 : Int32)
  · refine Go.by (fun tt_ kk_ => XS.ifYes X.here hx rfl (pc0 := 9) (pc' := 23) rfl (hb hby d9_9) rfl ((if0 _ _).trans (tlt hc9).1) (by decide) (by decide) kk_) ?_
    show Go p.tables e below (T.setTop (mkF m 23 #[.val (.double x1), .second, .val (.int p2), .val (.double x3), .second, .val (.int p4), .val (.int r)] [])) _
    refine Go.by (fun tt_ kk_ => XS.iconst X.here hx rfl (hb hby d9_23) kk_) ?_
    show Go p.tables e below (T.setTop (mkF m 24 #[.val (.double x1), .second, .val (.int p2), .val (.double x3), .second, .val (.int p4), .val (.int r)] [(.int (1 : Int32))])) _
    refine Go.by (fun tt_ kk_ => XS.goto X.here hx rfl (pc0 := 24) (pc' := 28) rfl (hb hby d9_24) (by decide) (by decide) kk_) ?_
    show Go p.tables e below (T.setTop (mkF m 28 #[.val (.double x1), .second, .val (.int p2), .val (.double x3), .second, .val (.int p4), .val (.int r)] [(.int (1 : Int32))])) _
    exact Go.done X  (v := some (.int (1 : Int32))) (fun h => by rw [Bd.returns] at h; cases h) Bd.notSynchronized (fun fs hr => retN X hx (z := (1 : Int32)) (t := .boolean) Bd.returns (by simp) (hb hby d9_28) hr) (by rw [eT]; exact ⟨_, rfl, N, rfl⟩) (by decide) (by decide)
  · refine Go.by (fun tt_ kk_ => XS.ifNo X.here hx rfl (hb hby d9_9) rfl ((if0 _ _).trans (flt hc9).1) kk_) ?_
    show Go p.tables e below (T.setTop (mkF m 12 #[.val (.double x1), .second, .val (.int p2), .val (.double x3), .second, .val (.int p4), .val (.int r)] [])) _
    refine Go.by (fun tt_ kk_ => XS.iload X.here hx rfl (hb hby d9_12) rfl kk_) ?_
    show Go p.tables e below (T.setTop (mkF m 14 #[.val (.double x1), .second, .val (.int p2), .val (.double x3), .second, .val (.int p4), .val (.int r)] [(.int r)])) _
    by_cases hc14 : r = (0 : Int32)
    · refine Go.by (fun tt_ kk_ => XS.ifNo X.here hx rfl (hb hby d9_14) rfl ((if0 _ _).trans (teq hc14).2) kk_) ?_
      show Go p.tables e below (T.setTop (mkF m 17 #[.val (.double x1), .second, .val (.int p2), .val (.double x3), .second, .val (.int p4), .val (.int r)] [])) _
      refine Go.by (fun tt_ kk_ => XS.iloadN X.here hx rfl (hb hby d9_17) rfl kk_) ?_
      show Go p.tables e below (T.setTop (mkF m 18 #[.val (.double x1), .second, .val (.int p2), .val (.double x3), .second, .val (.int p4), .val (.int r)] [(.int p2)])) _
      refine Go.by (fun tt_ kk_ => XS.iload X.here hx rfl (hb hby d9_18) rfl kk_) ?_
      show Go p.tables e below (T.setTop (mkF m 20 #[.val (.double x1), .second, .val (.int p2), .val (.double x3), .second, .val (.int p4), .val (.int r)] [(.int p4), (.int p2)])) _
      by_cases hc20 : p2 < p4
      · refine Go.by (fun tt_ kk_ => XS.icmpNo X.here hx rfl (hb hby d9_20) rfl (tlt hc20).2.1 kk_) ?_
        show Go p.tables e below (T.setTop (mkF m 23 #[.val (.double x1), .second, .val (.int p2), .val (.double x3), .second, .val (.int p4), .val (.int r)] [])) _
        refine Go.by (fun tt_ kk_ => XS.iconst X.here hx rfl (hb hby d9_23) kk_) ?_
        show Go p.tables e below (T.setTop (mkF m 24 #[.val (.double x1), .second, .val (.int p2), .val (.double x3), .second, .val (.int p4), .val (.int r)] [(.int (1 : Int32))])) _
        refine Go.by (fun tt_ kk_ => XS.goto X.here hx rfl (pc0 := 24) (pc' := 28) rfl (hb hby d9_24) (by decide) (by decide) kk_) ?_
        show Go p.tables e below (T.setTop (mkF m 28 #[.val (.double x1), .second, .val (.int p2), .val (.double x3), .second, .val (.int p4), .val (.int r)] [(.int (1 : Int32))])) _
        exact Go.done X  (v := some (.int (1 : Int32))) (fun h => by rw [Bd.returns] at h; cases h) Bd.notSynchronized (fun fs hr => retN X hx (z := (1 : Int32)) (t := .boolean) Bd.returns (by simp) (hb hby d9_28) hr) (by rw [eT]; exact ⟨_, rfl, N, rfl⟩) (by decide) (by decide)
      · refine Go.by (fun tt_ kk_ => XS.icmpYes X.here hx rfl (pc0 := 20) (pc' := 27) rfl (hb hby d9_20) rfl (flt hc20).2.1 (by decide) (by decide) kk_) ?_
        show Go p.tables e below (T.setTop (mkF m 27 #[.val (.double x1), .second, .val (.int p2), .val (.double x3), .second, .val (.int p4), .val (.int r)] [])) _
        refine Go.by (fun tt_ kk_ => XS.iconst X.here hx rfl (hb hby d9_27) kk_) ?_
        show Go p.tables e below (T.setTop (mkF m 28 #[.val (.double x1), .second, .val (.int p2), .val (.double x3), .second, .val (.int p4), .val (.int r)] [(.int (0 : Int32))])) _
        exact Go.done X  (v := some (.int (0 : Int32))) (fun h => by rw [Bd.returns] at h; cases h) Bd.notSynchronized (fun fs hr => retN X hx (z := (0 : Int32)) (t := .boolean) Bd.returns (by simp) (hb hby d9_28) hr) (by rw [eT]; exact ⟨_, rfl, N, rfl⟩) (by decide) (by decide)
    · refine Go.by (fun tt_ kk_ => XS.ifYes X.here hx rfl (pc0 := 14) (pc' := 27) rfl (hb hby d9_14) rfl ((if0 _ _).trans (feq hc14).2) (by decide) (by decide) kk_) ?_
      show Go p.tables e below (T.setTop (mkF m 27 #[.val (.double x1), .second, .val (.int p2), .val (.double x3), .second, .val (.int p4), .val (.int r)] [])) _
      refine Go.by (fun tt_ kk_ => XS.iconst X.here hx rfl (hb hby d9_27) kk_) ?_
      show Go p.tables e below (T.setTop (mkF m 28 #[.val (.double x1), .second, .val (.int p2), .val (.double x3), .second, .val (.int p4), .val (.int r)] [(.int (0 : Int32))])) _
      exact Go.done X  (v := some (.int (0 : Int32))) (fun h => by rw [Bd.returns] at h; cases h) Bd.notSynchronized (fun fs hr => retN X hx (z := (0 : Int32)) (t := .boolean) Bd.returns (by simp) (hb hby d9_28) hr) (by rw [eT]; exact ⟨_, rfl, N, rfl⟩) (by decide) (by decide)
theorem d6_0 : decode jdk_65_method_127_code 0 = .ok (.iload_n 1, 1) := by decide +kernel
theorem d6_1 : decode jdk_65_method_127_code 1 = .ok (.aload_n 0, 1) := by decide +kernel
theorem d6_2 : decode jdk_65_method_127_code 2 = .ok (.arraylength, 1) := by decide +kernel
theorem d6_3 : decode jdk_65_method_127_code 3 = .ok (.if_icmp .ne 11, 3) := by decide +kernel
theorem d6_6 : decode jdk_65_method_127_code 6 = .ok (.aload_n 0, 1) := by decide +kernel
theorem d6_7 : decode jdk_65_method_127_code 7 = .ok (.invokevirtual 328, 3) := by decide +kernel
theorem d6_10 : decode jdk_65_method_127_code 10 = .ok (.checkcast 329, 3) := by decide +kernel
theorem d6_13 : decode jdk_65_method_127_code 13 = .ok (.areturn, 1) := by decide +kernel
theorem d6_14 : decode jdk_65_method_127_code 14 = .ok (.iload_n 1, 1) := by decide +kernel
theorem d6_15 : decode jdk_65_method_127_code 15 = .ok (.newarray .double, 2) := by decide +kernel
theorem d6_17 : decode jdk_65_method_127_code 17 = .ok (.astore_n 2, 1) := by decide +kernel
theorem d6_18 : decode jdk_65_method_127_code 18 = .ok (.aload_n 0, 1) := by decide +kernel
theorem d6_19 : decode jdk_65_method_127_code 19 = .ok (.iconst 0, 1) := by decide +kernel
theorem d6_20 : decode jdk_65_method_127_code 20 = .ok (.aload_n 2, 1) := by decide +kernel
theorem d6_21 : decode jdk_65_method_127_code 21 = .ok (.iconst 0, 1) := by decide +kernel
theorem d6_22 : decode jdk_65_method_127_code 22 = .ok (.aload_n 0, 1) := by decide +kernel
theorem d6_23 : decode jdk_65_method_127_code 23 = .ok (.arraylength, 1) := by decide +kernel
theorem d6_24 : decode jdk_65_method_127_code 24 = .ok (.iload_n 1, 1) := by decide +kernel
theorem d6_25 : decode jdk_65_method_127_code 25 = .ok (.invokestatic 304, 3) := by decide +kernel
theorem d6_28 : decode jdk_65_method_127_code 28 = .ok (.invokestatic 150, 3) := by decide +kernel
theorem d6_31 : decode jdk_65_method_127_code 31 = .ok (.aload_n 2, 1) := by decide +kernel
theorem d6_32 : decode jdk_65_method_127_code 32 = .ok (.areturn, 1) := by decide +kernel
theorem pn_2 : plainName "java/util/Arrays" = true := by first | (simp [plainName, overriddenIn]; done) | decide +kernel
theorem pd_3 : parseMethodDescriptor "(II)I" = some ⟨[.int, .int], some .int⟩ := by decide +kernel
theorem ef_6 (m : MethodId) (x0 : Addr) (x1 : Int32) : entryFrame m #[(.ref x0), (.int x1)] 3 = mkF m 0 #[.val (.ref x0), .val (.int x1), .unset] [] := by first | (simp [entryFrame, mkF, argsToLocals, Value.category]; done) | rfl
def Q6_1 (Z : State) (a1 : Addr) (ka : ClassId) (y0 : UInt64) (y1 : UInt64) (y2 : UInt64) (y3 : UInt64) (h0 : Heap) (n0 : Nat) (v : Option Value) (h : Heap) (L : List Loc) : Prop := ∃ (b : Addr) (kb : ClassId), n0 ≤ b ∧ h0.size ≤ b ∧ v = some (.ref b) ∧ Fr n0 L ∧ Keep h0 h [] ∧ Arv Z h b kb .double (2 : Int32) [(.double y0), (.double (0 : UInt64)), (.double (0 : UInt64)), (.double (0 : UInt64))] (.double (0 : UInt64))
set_option maxRecDepth 65536 in
set_option maxHeartbeats 40000000 in
theorem rm6_1 (l : Launch) (Z : State) (a0 : Array Value) (hw : ∀ d ∈ tables_1, d.before a0 Z = true) (ws : List Jvm.Cond) (a1 : Addr) (ka : ClassId) (y0 : UInt64) (y1 : UInt64) (y2 : UInt64) (y3 : UInt64) (h0 : Heap) (n0 : Nat) (Z0 : n0 ≤ h0.size) (V_a1 : Arv Z h0 a1 ka .double (1 : Int32) [(.double y0), (.double y1), (.double y2), (.double y3)] (.double (0 : UInt64))) :
    MetFree l (⟨"java/util/Arrays", "copyOf", "([DI)[D"⟩ : MethodName) (head1 (Jvm.Cond.code (⟨"java/util/Arrays", "copyOf", "([DI)[D"⟩ : MethodName) jdk_65_method_127_code 3 (some (.array .double)) :: ws) ({ frames := 1, cells := 1, slots := 4, locals := 40 } : Room)) (fun a U => a = #[(.ref a1), (.int (2 : Int32))] ∧ Z.Warmed39 U.vm ∧ U.heap = h0) (fun _ _ _ _ _ => True) (fun _ U o U' => ∃ v L, o = .returned v ∧ Q6_1 Z a1 ka y0 y1 y2 y3 h0 n0 v U'.heap L ∧ FrameEnd U o U' L ({ frames := 1, cells := 1, slots := 4, locals := 40 } : Room).cells ({ frames := 1, cells := 1, slots := 4, locals := 40 } : Room).slots) := by
  refine MetFree.of_bodySF (plainFor_of_name pn_2) hisR ?_
  intro p e s m args below meth c s₁ Bd hml0 hP hK
  obtain ⟨rfl, hZ, hh⟩ := hP
  have hx := Bd.exec
  have hby := Bd.bytes
  have hml : c.maxLocals = 3 := hml0
  have hown : s.vm.findClass "java/util/Arrays" = some m.cls := findClass_of_methodNamed Bd.named
  have hnm := (name_of_methodNamed Bd.named Bd.method).1
  have X : Stand p l e ({ frames := 1, cells := 1, slots := 4, locals := 40 } : Room) s m #[(.ref a1), (.int (2 : Int32))] below meth c s₁ [] 0 0 := Stand.of_body Bd
  have eT : s₁.heap = h0 := by rw [← hh, Bd.state]; rfl
  have N := Fr.nil n0
  have K := Keep.refl h0 []
  refine Go.out ?_
  obtain ⟨T, eTT⟩ : ∃ z, z = s₁ := ⟨_, rfl⟩
  rw [← eTT] at X eT ⊢
  refine Go.by (fun tt_ kk_ => castTop (ef_6 m a1 (2 : Int32)) kk_) ?_
  show Go p.tables e below (T.setTop (mkF m 0 #[.val (.ref a1), .val (.int (2 : Int32)), .unset] [])) _
  refine Go.by (fun tt_ kk_ => XS.iloadN X.here hx rfl (hb hby d6_0) rfl kk_) ?_
  show Go p.tables e below (T.setTop (mkF m 1 #[.val (.ref a1), .val (.int (2 : Int32)), .unset] [(.int (2 : Int32))])) _
  refine Go.by (fun tt_ kk_ => XS.aloadN X.here hx rfl (hb hby d6_1) rfl rfl kk_) ?_
  show Go p.tables e below (T.setTop (mkF m 2 #[.val (.ref a1), .val (.int (2 : Int32)), .unset] [(.ref a1), (.int (2 : Int32))])) _
  have Vo_ := V_a1
  obtain ⟨cl_, Ar_, q_, S_, N_, H_, G_⟩ := Vo_
  refine Go.by (X.arraylength hx (by rw [eT]; exact Ar_.1) (State.isArrayOf_alike hZ.alike Ar_.2.1) (g := (mkF m 2 #[.val (.ref a1), .val (.int (2 : Int32)), .unset] [(.ref a1), (.int (2 : Int32))])) rfl rfl (hb hby d6_2)) ?_
  rw [len_of S_ N_]
  show Go p.tables e below (T.setTop (mkF m 3 #[.val (.ref a1), .val (.int (2 : Int32)), .unset] [(.int (1 : Int32)), (.int (2 : Int32))])) _
  refine Go.by (fun tt_ kk_ => XS.icmpYes X.here hx rfl (pc0 := 3) (pc' := 14) rfl (hb hby d6_3) rfl (feq (by decide : ¬ ((2 : Int32) = (1 : Int32)))).2 (by decide) (by decide) kk_) ?_
  show Go p.tables e below (T.setTop (mkF m 14 #[.val (.ref a1), .val (.int (2 : Int32)), .unset] [])) _
  refine Go.by (fun tt_ kk_ => XS.iloadN X.here hx rfl (hb hby d6_14) rfl kk_) ?_
  show Go p.tables e below (T.setTop (mkF m 15 #[.val (.ref a1), .val (.int (2 : Int32)), .unset] [(.int (2 : Int32))])) _
  obtain ⟨T, h1, k_b1, X, eT, E_, A_, st⟩ := newP X hx hZ (hw _ (List.mem_of_getElem? (i := 13) rfl)) eT (g := (mkF m 15 #[.val (.ref a1), .val (.int (2 : Int32)), .unset] [(.int (2 : Int32))])) rfl (hb hby d6_15) rfl (by decide) (cap := 2) (by decide) (by decide) (by decide) (by decide)
  obtain ⟨b1, g_b1'⟩ : ∃ z, z = h0.size := ⟨_, rfl⟩
  rw [← g_b1'] at A_ st
  have ne_a1_b1 : a1 ≠ b1 := Nat.ne_of_lt (Nat.lt_of_lt_of_le V_a1.lt (Nat.le_of_eq g_b1'.symm))
  have ne_b1_a1 : b1 ≠ a1 := Ne.symm ne_a1_b1
  have g_b1 : n0 ≤ b1 := Nat.le_trans Z0 (Nat.le_trans K.1 (Nat.le_of_eq g_b1'.symm))
  have sz_b1 : h0.size ≤ b1 := Nat.le_trans K.1 (Nat.le_of_eq g_b1'.symm)
  have K := K.ext E_
  have V_a1 := Arv.ext V_a1 E_
  have V_b1 := Arv.new A_ (by decide)
  refine Go.by st ?_
  show Go p.tables e below (T.setTop (mkF m 17 #[.val (.ref a1), .val (.int (2 : Int32)), .unset] [(.ref b1)])) _
  have V_b1 : Arv Z h1 b1 k_b1 .double (2 : Int32) [(.double (0 : UInt64)), (.double (0 : UInt64))] (.double (0 : UInt64)) := V_b1.pad (pad_rep [] (.double (0 : UInt64)) 2)
  refine Go.by (fun tt_ kk_ => XS.astoreN X.here hx rfl (hb hby d6_17) rfl rfl (l' := #[.val (.ref a1), .val (.int (2 : Int32)), .val (.ref b1)]) rfl kk_) ?_
  show Go p.tables e below (T.setTop (mkF m 18 #[.val (.ref a1), .val (.int (2 : Int32)), .val (.ref b1)] [])) _
  refine Go.by (fun tt_ kk_ => XS.aloadN X.here hx rfl (hb hby d6_18) rfl rfl kk_) ?_
  show Go p.tables e below (T.setTop (mkF m 19 #[.val (.ref a1), .val (.int (2 : Int32)), .val (.ref b1)] [(.ref a1)])) _
  refine Go.by (fun tt_ kk_ => XS.iconst X.here hx rfl (hb hby d6_19) kk_) ?_
  show Go p.tables e below (T.setTop (mkF m 20 #[.val (.ref a1), .val (.int (2 : Int32)), .val (.ref b1)] [(.int (0 : Int32)), (.ref a1)])) _
  refine Go.by (fun tt_ kk_ => XS.aloadN X.here hx rfl (hb hby d6_20) rfl rfl kk_) ?_
  show Go p.tables e below (T.setTop (mkF m 21 #[.val (.ref a1), .val (.int (2 : Int32)), .val (.ref b1)] [(.ref b1), (.int (0 : Int32)), (.ref a1)])) _
  refine Go.by (fun tt_ kk_ => XS.iconst X.here hx rfl (hb hby d6_21) kk_) ?_
  show Go p.tables e below (T.setTop (mkF m 22 #[.val (.ref a1), .val (.int (2 : Int32)), .val (.ref b1)] [(.int (0 : Int32)), (.ref b1), (.int (0 : Int32)), (.ref a1)])) _
  refine Go.by (fun tt_ kk_ => XS.aloadN X.here hx rfl (hb hby d6_22) rfl rfl kk_) ?_
  show Go p.tables e below (T.setTop (mkF m 23 #[.val (.ref a1), .val (.int (2 : Int32)), .val (.ref b1)] [(.ref a1), (.int (0 : Int32)), (.ref b1), (.int (0 : Int32)), (.ref a1)])) _
  have Vo_ := V_a1
  obtain ⟨cl_, Ar_, q_, S_, N_, H_, G_⟩ := Vo_
  refine Go.by (X.arraylength hx (by rw [eT]; exact Ar_.1) (State.isArrayOf_alike hZ.alike Ar_.2.1) (g := (mkF m 23 #[.val (.ref a1), .val (.int (2 : Int32)), .val (.ref b1)] [(.ref a1), (.int (0 : Int32)), (.ref b1), (.int (0 : Int32)), (.ref a1)])) rfl rfl (hb hby d6_23)) ?_
  rw [len_of S_ N_]
  show Go p.tables e below (T.setTop (mkF m 24 #[.val (.ref a1), .val (.int (2 : Int32)), .val (.ref b1)] [(.int (1 : Int32)), (.int (0 : Int32)), (.ref b1), (.int (0 : Int32)), (.ref a1)])) _
  refine Go.by (fun tt_ kk_ => XS.iloadN X.here hx rfl (hb hby d6_24) rfl kk_) ?_
  show Go p.tables e below (T.setTop (mkF m 25 #[.val (.ref a1), .val (.int (2 : Int32)), .val (.ref b1)] [(.int (2 : Int32)), (.int (1 : Int32)), (.int (0 : Int32)), (.ref b1), (.int (0 : Int32)), (.ref a1)])) _
  have hz : (if (2 : Int32) < (1 : Int32) then (2 : Int32) else (1 : Int32)) = (1 : Int32) := by decide
  obtain ⟨_, _, ⟨T, L_, k_, n_⟩, -, X, ⟨Lc_, hQ, l_, y_, z_⟩, st⟩ := Jvm.LawKit.callS X hx (y := (⟨"java/lang/Math", "min", "(II)I"⟩ : MethodName)) hown (mvT hZ (hw _ (List.mem_of_getElem? (i := 35) rfl))) (mvT hZ (hw _ (List.mem_of_getElem? (i := 36) rfl))) (mvT hZ (hw _ (List.mem_of_getElem? (i := 11) rfl))) (mvT hZ (hw _ (List.mem_of_getElem? (i := 37) rfl))) (by decide) (backOf (W := 4) (rm7 l Z a0 hw [] (1 : Int32) (2 : Int32) h1 n0 (Nat.le_trans Z0 K.1) ) hZ (hw _ (List.mem_of_getElem? (i := 37) rfl)) (hw _ (List.mem_of_getElem? (i := 11) rfl)) (by decide) (by decide)) (g := (mkF m 25 #[.val (.ref a1), .val (.int (2 : Int32)), .val (.ref b1)] [(.int (2 : Int32)), (.int (1 : Int32)), (.int (0 : Int32)), (.ref b1), (.int (0 : Int32)), (.ref a1)])) rfl (by rw [hml]; rfl) (argsL := [(.int (1 : Int32)), (.int (2 : Int32))]) (rest := [(.int (0 : Int32)), (.ref b1), (.int (0 : Int32)), (.ref a1)]) (lenOf pd_3 rfl) rfl (by show 2 * 0 + _ ≤ _; exact Nat.le_of_eq rfl) (hb hby d6_25) (fun _ _ => ⟨rfl, eT, (by decide : 1 + 0 ≤ _), (by decide : 2 + 0 ≤ _)⟩)
  dsimp only [Pt.U, Pt.locs, Pt.cells, Pt.slots] at X l_ y_ z_ st hQ
  subst l_ y_ z_
  obtain ⟨e_v, Nq, eh⟩ := hQ
  rw [hz] at e_v
  subst e_v
  have N := Fr.app N Nq
  have eT := eh
  refine Go.by st ?_
  show Go p.tables e below (T.setTop (mkF m 28 #[.val (.ref a1), .val (.int (2 : Int32)), .val (.ref b1)] [(.int (1 : Int32)), (.int (0 : Int32)), (.ref b1), (.int (0 : Int32)), (.ref a1)])) _
  obtain ⟨T, h3, L_, X, eT, N, Kq, A_, st⟩ := cpA X hx hZ hown (hw _ (List.mem_of_getElem? (i := 38) rfl)) (hw _ (List.mem_of_getElem? (i := 41) rfl)) (hw _ (List.mem_of_getElem? (i := 39) rfl)) (hw _ (List.mem_of_getElem? (i := 40) rfl)) eT V_a1 V_b1 (Or.inl ⟨rfl, rfl⟩) (by decide) (by decide) (by decide) (by decide) (by decide) rfl (Nat.le_of_ble_eq_true rfl) N g_b1 (g := (mkF m 28 #[.val (.ref a1), .val (.int (2 : Int32)), .val (.ref b1)] [(.int (1 : Int32)), (.int (0 : Int32)), (.ref b1), (.int (0 : Int32)), (.ref a1)])) rfl (by rw [hml]; rfl) rfl (hb hby d6_28) (by decide) (W := 0) (by show 2 * 0 + _ ≤ _; exact Nat.le_of_eq rfl) (by decide +kernel)
  have V_a1 := Arv.keep V_a1 Kq (ninS ne_a1_b1 nin0)
  have K := K.trans Kq (allS (Or.inr sz_b1) all0)
  have A2_ : Arv Z h3 b1 k_b1 .double (2 : Int32) [(.double y0), (.double (0 : UInt64))] (.double (0 : UInt64)) := A_
  have V_b1 : Arv Z h3 b1 k_b1 .double (2 : Int32) [(.double y0), (.double (0 : UInt64)), (.double (0 : UInt64)), (.double (0 : UInt64))] (.double (0 : UInt64)) := A2_.pad (pad_rep [(.double y0), (.double (0 : UInt64))] (.double (0 : UInt64)) 2)
  refine Go.by st ?_
  show Go p.tables e below (T.setTop (mkF m 31 #[.val (.ref a1), .val (.int (2 : Int32)), .val (.ref b1)] [])) _
  refine Go.by (fun tt_ kk_ => XS.aloadN X.here hx rfl (hb hby d6_31) rfl rfl kk_) ?_
  show Go p.tables e below (T.setTop (mkF m 32 #[.val (.ref a1), .val (.int (2 : Int32)), .val (.ref b1)] [(.ref b1)])) _
  exact Go.done X  (v := some (.ref b1)) (fun h => by rw [Bd.returns] at h; cases h) Bd.notSynchronized (fun fs hr => retOut X hx Bd.returns rfl (by simp [Value.isRef, FieldType.isReference]) (hb hby d6_32) hr) (by rw [eT]; exact ⟨b1, k_b1, g_b1, sz_b1, rfl, N, K, V_b1⟩) (by decide) (by decide)
theorem d8_0 : decode jdk_65_method_123_code 0 = .ok (.iload_n 1, 1) := by decide +kernel
theorem d8_1 : decode jdk_65_method_123_code 1 = .ok (.aload_n 0, 1) := by decide +kernel
theorem d8_2 : decode jdk_65_method_123_code 2 = .ok (.arraylength, 1) := by decide +kernel
theorem d8_3 : decode jdk_65_method_123_code 3 = .ok (.if_icmp .ne 11, 3) := by decide +kernel
theorem d8_6 : decode jdk_65_method_123_code 6 = .ok (.aload_n 0, 1) := by decide +kernel
theorem d8_7 : decode jdk_65_method_123_code 7 = .ok (.invokevirtual 316, 3) := by decide +kernel
theorem d8_10 : decode jdk_65_method_123_code 10 = .ok (.checkcast 317, 3) := by decide +kernel
theorem d8_13 : decode jdk_65_method_123_code 13 = .ok (.areturn, 1) := by decide +kernel
theorem d8_14 : decode jdk_65_method_123_code 14 = .ok (.iload_n 1, 1) := by decide +kernel
theorem d8_15 : decode jdk_65_method_123_code 15 = .ok (.newarray .int, 2) := by decide +kernel
theorem d8_17 : decode jdk_65_method_123_code 17 = .ok (.astore_n 2, 1) := by decide +kernel
theorem d8_18 : decode jdk_65_method_123_code 18 = .ok (.aload_n 0, 1) := by decide +kernel
theorem d8_19 : decode jdk_65_method_123_code 19 = .ok (.iconst 0, 1) := by decide +kernel
theorem d8_20 : decode jdk_65_method_123_code 20 = .ok (.aload_n 2, 1) := by decide +kernel
theorem d8_21 : decode jdk_65_method_123_code 21 = .ok (.iconst 0, 1) := by decide +kernel
theorem d8_22 : decode jdk_65_method_123_code 22 = .ok (.aload_n 0, 1) := by decide +kernel
theorem d8_23 : decode jdk_65_method_123_code 23 = .ok (.arraylength, 1) := by decide +kernel
theorem d8_24 : decode jdk_65_method_123_code 24 = .ok (.iload_n 1, 1) := by decide +kernel
theorem d8_25 : decode jdk_65_method_123_code 25 = .ok (.invokestatic 304, 3) := by decide +kernel
theorem d8_28 : decode jdk_65_method_123_code 28 = .ok (.invokestatic 150, 3) := by decide +kernel
theorem d8_31 : decode jdk_65_method_123_code 31 = .ok (.aload_n 2, 1) := by decide +kernel
theorem d8_32 : decode jdk_65_method_123_code 32 = .ok (.areturn, 1) := by decide +kernel
theorem ef_8 (m : MethodId) (x0 : Addr) (x1 : Int32) : entryFrame m #[(.ref x0), (.int x1)] 3 = mkF m 0 #[.val (.ref x0), .val (.int x1), .unset] [] := by first | (simp [entryFrame, mkF, argsToLocals, Value.category]; done) | rfl
def Q8_1 (Z : State) (a1 : Addr) (ka : ClassId) (i0 : Int32) (i1 : Int32) (i2 : Int32) (i3 : Int32) (h0 : Heap) (n0 : Nat) (v : Option Value) (h : Heap) (L : List Loc) : Prop := ∃ (b : Addr) (kb : ClassId), n0 ≤ b ∧ h0.size ≤ b ∧ v = some (.ref b) ∧ Fr n0 L ∧ Keep h0 h [] ∧ Arv Z h b kb .int (2 : Int32) [(.int i0), (.int (0 : Int32)), (.int (0 : Int32)), (.int (0 : Int32))] (.int (0 : Int32))
set_option maxRecDepth 65536 in
set_option maxHeartbeats 40000000 in
theorem rm8_1 (l : Launch) (Z : State) (a0 : Array Value) (hw : ∀ d ∈ tables_1, d.before a0 Z = true) (ws : List Jvm.Cond) (a1 : Addr) (ka : ClassId) (i0 : Int32) (i1 : Int32) (i2 : Int32) (i3 : Int32) (h0 : Heap) (n0 : Nat) (Z0 : n0 ≤ h0.size) (V_a1 : Arv Z h0 a1 ka .int (1 : Int32) [(.int i0), (.int i1), (.int i2), (.int i3)] (.int (0 : Int32))) :
    MetFree l (⟨"java/util/Arrays", "copyOf", "([II)[I"⟩ : MethodName) (head1 (Jvm.Cond.code (⟨"java/util/Arrays", "copyOf", "([II)[I"⟩ : MethodName) jdk_65_method_123_code 3 (some (.array .int)) :: ws) ({ frames := 1, cells := 1, slots := 4, locals := 40 } : Room)) (fun a U => a = #[(.ref a1), (.int (2 : Int32))] ∧ Z.Warmed39 U.vm ∧ U.heap = h0) (fun _ _ _ _ _ => True) (fun _ U o U' => ∃ v L, o = .returned v ∧ Q8_1 Z a1 ka i0 i1 i2 i3 h0 n0 v U'.heap L ∧ FrameEnd U o U' L ({ frames := 1, cells := 1, slots := 4, locals := 40 } : Room).cells ({ frames := 1, cells := 1, slots := 4, locals := 40 } : Room).slots) := by
  refine MetFree.of_bodySF (plainFor_of_name pn_2) hisR ?_
  intro p e s m args below meth c s₁ Bd hml0 hP hK
  obtain ⟨rfl, hZ, hh⟩ := hP
  have hx := Bd.exec
  have hby := Bd.bytes
  have hml : c.maxLocals = 3 := hml0
  have hown : s.vm.findClass "java/util/Arrays" = some m.cls := findClass_of_methodNamed Bd.named
  have hnm := (name_of_methodNamed Bd.named Bd.method).1
  have X : Stand p l e ({ frames := 1, cells := 1, slots := 4, locals := 40 } : Room) s m #[(.ref a1), (.int (2 : Int32))] below meth c s₁ [] 0 0 := Stand.of_body Bd
  have eT : s₁.heap = h0 := by rw [← hh, Bd.state]; rfl
  have N := Fr.nil n0
  have K := Keep.refl h0 []
  refine Go.out ?_
  obtain ⟨T, eTT⟩ : ∃ z, z = s₁ := ⟨_, rfl⟩
  rw [← eTT] at X eT ⊢
  refine Go.by (fun tt_ kk_ => castTop (ef_8 m a1 (2 : Int32)) kk_) ?_
  show Go p.tables e below (T.setTop (mkF m 0 #[.val (.ref a1), .val (.int (2 : Int32)), .unset] [])) _
  refine Go.by (fun tt_ kk_ => XS.iloadN X.here hx rfl (hb hby d8_0) rfl kk_) ?_
  show Go p.tables e below (T.setTop (mkF m 1 #[.val (.ref a1), .val (.int (2 : Int32)), .unset] [(.int (2 : Int32))])) _
  refine Go.by (fun tt_ kk_ => XS.aloadN X.here hx rfl (hb hby d8_1) rfl rfl kk_) ?_
  show Go p.tables e below (T.setTop (mkF m 2 #[.val (.ref a1), .val (.int (2 : Int32)), .unset] [(.ref a1), (.int (2 : Int32))])) _
  have Vo_ := V_a1
  obtain ⟨cl_, Ar_, q_, S_, N_, H_, G_⟩ := Vo_
  refine Go.by (X.arraylength hx (by rw [eT]; exact Ar_.1) (State.isArrayOf_alike hZ.alike Ar_.2.1) (g := (mkF m 2 #[.val (.ref a1), .val (.int (2 : Int32)), .unset] [(.ref a1), (.int (2 : Int32))])) rfl rfl (hb hby d8_2)) ?_
  rw [len_of S_ N_]
  show Go p.tables e below (T.setTop (mkF m 3 #[.val (.ref a1), .val (.int (2 : Int32)), .unset] [(.int (1 : Int32)), (.int (2 : Int32))])) _
  refine Go.by (fun tt_ kk_ => XS.icmpYes X.here hx rfl (pc0 := 3) (pc' := 14) rfl (hb hby d8_3) rfl (feq (by decide : ¬ ((2 : Int32) = (1 : Int32)))).2 (by decide) (by decide) kk_) ?_
  show Go p.tables e below (T.setTop (mkF m 14 #[.val (.ref a1), .val (.int (2 : Int32)), .unset] [])) _
  refine Go.by (fun tt_ kk_ => XS.iloadN X.here hx rfl (hb hby d8_14) rfl kk_) ?_
  show Go p.tables e below (T.setTop (mkF m 15 #[.val (.ref a1), .val (.int (2 : Int32)), .unset] [(.int (2 : Int32))])) _
  obtain ⟨T, h1, k_b1, X, eT, E_, A_, st⟩ := newP X hx hZ (hw _ (List.mem_of_getElem? (i := 16) rfl)) eT (g := (mkF m 15 #[.val (.ref a1), .val (.int (2 : Int32)), .unset] [(.int (2 : Int32))])) rfl (hb hby d8_15) rfl (by decide) (cap := 2) (by decide) (by decide) (by decide) (by decide)
  obtain ⟨b1, g_b1'⟩ : ∃ z, z = h0.size := ⟨_, rfl⟩
  rw [← g_b1'] at A_ st
  have ne_a1_b1 : a1 ≠ b1 := Nat.ne_of_lt (Nat.lt_of_lt_of_le V_a1.lt (Nat.le_of_eq g_b1'.symm))
  have ne_b1_a1 : b1 ≠ a1 := Ne.symm ne_a1_b1
  have g_b1 : n0 ≤ b1 := Nat.le_trans Z0 (Nat.le_trans K.1 (Nat.le_of_eq g_b1'.symm))
  have sz_b1 : h0.size ≤ b1 := Nat.le_trans K.1 (Nat.le_of_eq g_b1'.symm)
  have K := K.ext E_
  have V_a1 := Arv.ext V_a1 E_
  have V_b1 := Arv.new A_ (by decide)
  refine Go.by st ?_
  show Go p.tables e below (T.setTop (mkF m 17 #[.val (.ref a1), .val (.int (2 : Int32)), .unset] [(.ref b1)])) _
  have V_b1 : Arv Z h1 b1 k_b1 .int (2 : Int32) [(.int (0 : Int32)), (.int (0 : Int32))] (.int (0 : Int32)) := V_b1.pad (pad_rep [] (.int (0 : Int32)) 2)
  refine Go.by (fun tt_ kk_ => XS.astoreN X.here hx rfl (hb hby d8_17) rfl rfl (l' := #[.val (.ref a1), .val (.int (2 : Int32)), .val (.ref b1)]) rfl kk_) ?_
  show Go p.tables e below (T.setTop (mkF m 18 #[.val (.ref a1), .val (.int (2 : Int32)), .val (.ref b1)] [])) _
  refine Go.by (fun tt_ kk_ => XS.aloadN X.here hx rfl (hb hby d8_18) rfl rfl kk_) ?_
  show Go p.tables e below (T.setTop (mkF m 19 #[.val (.ref a1), .val (.int (2 : Int32)), .val (.ref b1)] [(.ref a1)])) _
  refine Go.by (fun tt_ kk_ => XS.iconst X.here hx rfl (hb hby d8_19) kk_) ?_
  show Go p.tables e below (T.setTop (mkF m 20 #[.val (.ref a1), .val (.int (2 : Int32)), .val (.ref b1)] [(.int (0 : Int32)), (.ref a1)])) _
  refine Go.by (fun tt_ kk_ => XS.aloadN X.here hx rfl (hb hby d8_20) rfl rfl kk_) ?_
  show Go p.tables e below (T.setTop (mkF m 21 #[.val (.ref a1), .val (.int (2 : Int32)), .val (.ref b1)] [(.ref b1), (.int (0 : Int32)), (.ref a1)])) _
  refine Go.by (fun tt_ kk_ => XS.iconst X.here hx rfl (hb hby d8_21) kk_) ?_
  show Go p.tables e below (T.setTop (mkF m 22 #[.val (.ref a1), .val (.int (2 : Int32)), .val (.ref b1)] [(.int (0 : Int32)), (.ref b1), (.int (0 : Int32)), (.ref a1)])) _
  refine Go.by (fun tt_ kk_ => XS.aloadN X.here hx rfl (hb hby d8_22) rfl rfl kk_) ?_
  show Go p.tables e below (T.setTop (mkF m 23 #[.val (.ref a1), .val (.int (2 : Int32)), .val (.ref b1)] [(.ref a1), (.int (0 : Int32)), (.ref b1), (.int (0 : Int32)), (.ref a1)])) _
  have Vo_ := V_a1
  obtain ⟨cl_, Ar_, q_, S_, N_, H_, G_⟩ := Vo_
  refine Go.by (X.arraylength hx (by rw [eT]; exact Ar_.1) (State.isArrayOf_alike hZ.alike Ar_.2.1) (g := (mkF m 23 #[.val (.ref a1), .val (.int (2 : Int32)), .val (.ref b1)] [(.ref a1), (.int (0 : Int32)), (.ref b1), (.int (0 : Int32)), (.ref a1)])) rfl rfl (hb hby d8_23)) ?_
  rw [len_of S_ N_]
  show Go p.tables e below (T.setTop (mkF m 24 #[.val (.ref a1), .val (.int (2 : Int32)), .val (.ref b1)] [(.int (1 : Int32)), (.int (0 : Int32)), (.ref b1), (.int (0 : Int32)), (.ref a1)])) _
  refine Go.by (fun tt_ kk_ => XS.iloadN X.here hx rfl (hb hby d8_24) rfl kk_) ?_
  show Go p.tables e below (T.setTop (mkF m 25 #[.val (.ref a1), .val (.int (2 : Int32)), .val (.ref b1)] [(.int (2 : Int32)), (.int (1 : Int32)), (.int (0 : Int32)), (.ref b1), (.int (0 : Int32)), (.ref a1)])) _
  have hz : (if (2 : Int32) < (1 : Int32) then (2 : Int32) else (1 : Int32)) = (1 : Int32) := by decide
  obtain ⟨_, _, ⟨T, L_, k_, n_⟩, -, X, ⟨Lc_, hQ, l_, y_, z_⟩, st⟩ := Jvm.LawKit.callS X hx (y := (⟨"java/lang/Math", "min", "(II)I"⟩ : MethodName)) hown (mvT hZ (hw _ (List.mem_of_getElem? (i := 35) rfl))) (mvT hZ (hw _ (List.mem_of_getElem? (i := 36) rfl))) (mvT hZ (hw _ (List.mem_of_getElem? (i := 11) rfl))) (mvT hZ (hw _ (List.mem_of_getElem? (i := 37) rfl))) (by decide) (backOf (W := 4) (rm7 l Z a0 hw [] (1 : Int32) (2 : Int32) h1 n0 (Nat.le_trans Z0 K.1) ) hZ (hw _ (List.mem_of_getElem? (i := 37) rfl)) (hw _ (List.mem_of_getElem? (i := 11) rfl)) (by decide) (by decide)) (g := (mkF m 25 #[.val (.ref a1), .val (.int (2 : Int32)), .val (.ref b1)] [(.int (2 : Int32)), (.int (1 : Int32)), (.int (0 : Int32)), (.ref b1), (.int (0 : Int32)), (.ref a1)])) rfl (by rw [hml]; rfl) (argsL := [(.int (1 : Int32)), (.int (2 : Int32))]) (rest := [(.int (0 : Int32)), (.ref b1), (.int (0 : Int32)), (.ref a1)]) (lenOf pd_3 rfl) rfl (by show 2 * 0 + _ ≤ _; exact Nat.le_of_eq rfl) (hb hby d8_25) (fun _ _ => ⟨rfl, eT, (by decide : 1 + 0 ≤ _), (by decide : 2 + 0 ≤ _)⟩)
  dsimp only [Pt.U, Pt.locs, Pt.cells, Pt.slots] at X l_ y_ z_ st hQ
  subst l_ y_ z_
  obtain ⟨e_v, Nq, eh⟩ := hQ
  rw [hz] at e_v
  subst e_v
  have N := Fr.app N Nq
  have eT := eh
  refine Go.by st ?_
  show Go p.tables e below (T.setTop (mkF m 28 #[.val (.ref a1), .val (.int (2 : Int32)), .val (.ref b1)] [(.int (1 : Int32)), (.int (0 : Int32)), (.ref b1), (.int (0 : Int32)), (.ref a1)])) _
  obtain ⟨T, h3, L_, X, eT, N, Kq, A_, st⟩ := cpA X hx hZ hown (hw _ (List.mem_of_getElem? (i := 38) rfl)) (hw _ (List.mem_of_getElem? (i := 41) rfl)) (hw _ (List.mem_of_getElem? (i := 39) rfl)) (hw _ (List.mem_of_getElem? (i := 40) rfl)) eT V_a1 V_b1 (Or.inl ⟨rfl, rfl⟩) (by decide) (by decide) (by decide) (by decide) (by decide) rfl (Nat.le_of_ble_eq_true rfl) N g_b1 (g := (mkF m 28 #[.val (.ref a1), .val (.int (2 : Int32)), .val (.ref b1)] [(.int (1 : Int32)), (.int (0 : Int32)), (.ref b1), (.int (0 : Int32)), (.ref a1)])) rfl (by rw [hml]; rfl) rfl (hb hby d8_28) (by decide) (W := 0) (by show 2 * 0 + _ ≤ _; exact Nat.le_of_eq rfl) (by decide +kernel)
  have V_a1 := Arv.keep V_a1 Kq (ninS ne_a1_b1 nin0)
  have K := K.trans Kq (allS (Or.inr sz_b1) all0)
  have A2_ : Arv Z h3 b1 k_b1 .int (2 : Int32) [(.int i0), (.int (0 : Int32))] (.int (0 : Int32)) := A_
  have V_b1 : Arv Z h3 b1 k_b1 .int (2 : Int32) [(.int i0), (.int (0 : Int32)), (.int (0 : Int32)), (.int (0 : Int32))] (.int (0 : Int32)) := A2_.pad (pad_rep [(.int i0), (.int (0 : Int32))] (.int (0 : Int32)) 2)
  refine Go.by st ?_
  show Go p.tables e below (T.setTop (mkF m 31 #[.val (.ref a1), .val (.int (2 : Int32)), .val (.ref b1)] [])) _
  refine Go.by (fun tt_ kk_ => XS.aloadN X.here hx rfl (hb hby d8_31) rfl rfl kk_) ?_
  show Go p.tables e below (T.setTop (mkF m 32 #[.val (.ref a1), .val (.int (2 : Int32)), .val (.ref b1)] [(.ref b1)])) _
  exact Go.done X  (v := some (.ref b1)) (fun h => by rw [Bd.returns] at h; cases h) Bd.notSynchronized (fun fs hr => retOut X hx Bd.returns rfl (by simp [Value.isRef, FieldType.isReference]) (hb hby d8_32) hr) (by rw [eT]; exact ⟨b1, k_b1, g_b1, sz_b1, rfl, N, K, V_b1⟩) (by decide) (by decide)
def Q6_2 (Z : State) (a1 : Addr) (ka : ClassId) (y0 : UInt64) (y1 : UInt64) (y2 : UInt64) (y3 : UInt64) (h0 : Heap) (n0 : Nat) (v : Option Value) (h : Heap) (L : List Loc) : Prop := ∃ (b : Addr) (kb : ClassId), n0 ≤ b ∧ h0.size ≤ b ∧ v = some (.ref b) ∧ Fr n0 L ∧ Keep h0 h [] ∧ Arv Z h b kb .double (4 : Int32) [(.double y0), (.double y1), (.double (0 : UInt64)), (.double (0 : UInt64))] (.double (0 : UInt64))
set_option maxRecDepth 65536 in
set_option maxHeartbeats 40000000 in
theorem rm6_2 (l : Launch) (Z : State) (a0 : Array Value) (hw : ∀ d ∈ tables_1, d.before a0 Z = true) (ws : List Jvm.Cond) (a1 : Addr) (ka : ClassId) (y0 : UInt64) (y1 : UInt64) (y2 : UInt64) (y3 : UInt64) (h0 : Heap) (n0 : Nat) (Z0 : n0 ≤ h0.size) (V_a1 : Arv Z h0 a1 ka .double (2 : Int32) [(.double y0), (.double y1), (.double y2), (.double y3)] (.double (0 : UInt64))) :
    MetFree l (⟨"java/util/Arrays", "copyOf", "([DI)[D"⟩ : MethodName) (head1 (Jvm.Cond.code (⟨"java/util/Arrays", "copyOf", "([DI)[D"⟩ : MethodName) jdk_65_method_127_code 3 (some (.array .double)) :: ws) ({ frames := 1, cells := 1, slots := 4, locals := 40 } : Room)) (fun a U => a = #[(.ref a1), (.int (4 : Int32))] ∧ Z.Warmed39 U.vm ∧ U.heap = h0) (fun _ _ _ _ _ => True) (fun _ U o U' => ∃ v L, o = .returned v ∧ Q6_2 Z a1 ka y0 y1 y2 y3 h0 n0 v U'.heap L ∧ FrameEnd U o U' L ({ frames := 1, cells := 1, slots := 4, locals := 40 } : Room).cells ({ frames := 1, cells := 1, slots := 4, locals := 40 } : Room).slots) := by
  refine MetFree.of_bodySF (plainFor_of_name pn_2) hisR ?_
  intro p e s m args below meth c s₁ Bd hml0 hP hK
  obtain ⟨rfl, hZ, hh⟩ := hP
  have hx := Bd.exec
  have hby := Bd.bytes
  have hml : c.maxLocals = 3 := hml0
  have hown : s.vm.findClass "java/util/Arrays" = some m.cls := findClass_of_methodNamed Bd.named
  have hnm := (name_of_methodNamed Bd.named Bd.method).1
  have X : Stand p l e ({ frames := 1, cells := 1, slots := 4, locals := 40 } : Room) s m #[(.ref a1), (.int (4 : Int32))] below meth c s₁ [] 0 0 := Stand.of_body Bd
  have eT : s₁.heap = h0 := by rw [← hh, Bd.state]; rfl
  have N := Fr.nil n0
  have K := Keep.refl h0 []
  refine Go.out ?_
  obtain ⟨T, eTT⟩ : ∃ z, z = s₁ := ⟨_, rfl⟩
  rw [← eTT] at X eT ⊢
  refine Go.by (fun tt_ kk_ => castTop (ef_6 m a1 (4 : Int32)) kk_) ?_
  show Go p.tables e below (T.setTop (mkF m 0 #[.val (.ref a1), .val (.int (4 : Int32)), .unset] [])) _
  refine Go.by (fun tt_ kk_ => XS.iloadN X.here hx rfl (hb hby d6_0) rfl kk_) ?_
  show Go p.tables e below (T.setTop (mkF m 1 #[.val (.ref a1), .val (.int (4 : Int32)), .unset] [(.int (4 : Int32))])) _
  refine Go.by (fun tt_ kk_ => XS.aloadN X.here hx rfl (hb hby d6_1) rfl rfl kk_) ?_
  show Go p.tables e below (T.setTop (mkF m 2 #[.val (.ref a1), .val (.int (4 : Int32)), .unset] [(.ref a1), (.int (4 : Int32))])) _
  have Vo_ := V_a1
  obtain ⟨cl_, Ar_, q_, S_, N_, H_, G_⟩ := Vo_
  refine Go.by (X.arraylength hx (by rw [eT]; exact Ar_.1) (State.isArrayOf_alike hZ.alike Ar_.2.1) (g := (mkF m 2 #[.val (.ref a1), .val (.int (4 : Int32)), .unset] [(.ref a1), (.int (4 : Int32))])) rfl rfl (hb hby d6_2)) ?_
  rw [len_of S_ N_]
  show Go p.tables e below (T.setTop (mkF m 3 #[.val (.ref a1), .val (.int (4 : Int32)), .unset] [(.int (2 : Int32)), (.int (4 : Int32))])) _
  refine Go.by (fun tt_ kk_ => XS.icmpYes X.here hx rfl (pc0 := 3) (pc' := 14) rfl (hb hby d6_3) rfl (feq (by decide : ¬ ((4 : Int32) = (2 : Int32)))).2 (by decide) (by decide) kk_) ?_
  show Go p.tables e below (T.setTop (mkF m 14 #[.val (.ref a1), .val (.int (4 : Int32)), .unset] [])) _
  refine Go.by (fun tt_ kk_ => XS.iloadN X.here hx rfl (hb hby d6_14) rfl kk_) ?_
  show Go p.tables e below (T.setTop (mkF m 15 #[.val (.ref a1), .val (.int (4 : Int32)), .unset] [(.int (4 : Int32))])) _
  obtain ⟨T, h1, k_b1, X, eT, E_, A_, st⟩ := newP X hx hZ (hw _ (List.mem_of_getElem? (i := 13) rfl)) eT (g := (mkF m 15 #[.val (.ref a1), .val (.int (4 : Int32)), .unset] [(.int (4 : Int32))])) rfl (hb hby d6_15) rfl (by decide) (cap := 4) (by decide) (by decide) (by decide) (by decide)
  obtain ⟨b1, g_b1'⟩ : ∃ z, z = h0.size := ⟨_, rfl⟩
  rw [← g_b1'] at A_ st
  have ne_a1_b1 : a1 ≠ b1 := Nat.ne_of_lt (Nat.lt_of_lt_of_le V_a1.lt (Nat.le_of_eq g_b1'.symm))
  have ne_b1_a1 : b1 ≠ a1 := Ne.symm ne_a1_b1
  have g_b1 : n0 ≤ b1 := Nat.le_trans Z0 (Nat.le_trans K.1 (Nat.le_of_eq g_b1'.symm))
  have sz_b1 : h0.size ≤ b1 := Nat.le_trans K.1 (Nat.le_of_eq g_b1'.symm)
  have K := K.ext E_
  have V_a1 := Arv.ext V_a1 E_
  have V_b1 := Arv.new A_ (by decide)
  refine Go.by st ?_
  show Go p.tables e below (T.setTop (mkF m 17 #[.val (.ref a1), .val (.int (4 : Int32)), .unset] [(.ref b1)])) _
  have V_b1 : Arv Z h1 b1 k_b1 .double (4 : Int32) [(.double (0 : UInt64)), (.double (0 : UInt64)), (.double (0 : UInt64)), (.double (0 : UInt64))] (.double (0 : UInt64)) := V_b1.pad (pad_rep [] (.double (0 : UInt64)) 4)
  refine Go.by (fun tt_ kk_ => XS.astoreN X.here hx rfl (hb hby d6_17) rfl rfl (l' := #[.val (.ref a1), .val (.int (4 : Int32)), .val (.ref b1)]) rfl kk_) ?_
  show Go p.tables e below (T.setTop (mkF m 18 #[.val (.ref a1), .val (.int (4 : Int32)), .val (.ref b1)] [])) _
  refine Go.by (fun tt_ kk_ => XS.aloadN X.here hx rfl (hb hby d6_18) rfl rfl kk_) ?_
  show Go p.tables e below (T.setTop (mkF m 19 #[.val (.ref a1), .val (.int (4 : Int32)), .val (.ref b1)] [(.ref a1)])) _
  refine Go.by (fun tt_ kk_ => XS.iconst X.here hx rfl (hb hby d6_19) kk_) ?_
  show Go p.tables e below (T.setTop (mkF m 20 #[.val (.ref a1), .val (.int (4 : Int32)), .val (.ref b1)] [(.int (0 : Int32)), (.ref a1)])) _
  refine Go.by (fun tt_ kk_ => XS.aloadN X.here hx rfl (hb hby d6_20) rfl rfl kk_) ?_
  show Go p.tables e below (T.setTop (mkF m 21 #[.val (.ref a1), .val (.int (4 : Int32)), .val (.ref b1)] [(.ref b1), (.int (0 : Int32)), (.ref a1)])) _
  refine Go.by (fun tt_ kk_ => XS.iconst X.here hx rfl (hb hby d6_21) kk_) ?_
  show Go p.tables e below (T.setTop (mkF m 22 #[.val (.ref a1), .val (.int (4 : Int32)), .val (.ref b1)] [(.int (0 : Int32)), (.ref b1), (.int (0 : Int32)), (.ref a1)])) _
  refine Go.by (fun tt_ kk_ => XS.aloadN X.here hx rfl (hb hby d6_22) rfl rfl kk_) ?_
  show Go p.tables e below (T.setTop (mkF m 23 #[.val (.ref a1), .val (.int (4 : Int32)), .val (.ref b1)] [(.ref a1), (.int (0 : Int32)), (.ref b1), (.int (0 : Int32)), (.ref a1)])) _
  have Vo_ := V_a1
  obtain ⟨cl_, Ar_, q_, S_, N_, H_, G_⟩ := Vo_
  refine Go.by (X.arraylength hx (by rw [eT]; exact Ar_.1) (State.isArrayOf_alike hZ.alike Ar_.2.1) (g := (mkF m 23 #[.val (.ref a1), .val (.int (4 : Int32)), .val (.ref b1)] [(.ref a1), (.int (0 : Int32)), (.ref b1), (.int (0 : Int32)), (.ref a1)])) rfl rfl (hb hby d6_23)) ?_
  rw [len_of S_ N_]
  show Go p.tables e below (T.setTop (mkF m 24 #[.val (.ref a1), .val (.int (4 : Int32)), .val (.ref b1)] [(.int (2 : Int32)), (.int (0 : Int32)), (.ref b1), (.int (0 : Int32)), (.ref a1)])) _
  refine Go.by (fun tt_ kk_ => XS.iloadN X.here hx rfl (hb hby d6_24) rfl kk_) ?_
  show Go p.tables e below (T.setTop (mkF m 25 #[.val (.ref a1), .val (.int (4 : Int32)), .val (.ref b1)] [(.int (4 : Int32)), (.int (2 : Int32)), (.int (0 : Int32)), (.ref b1), (.int (0 : Int32)), (.ref a1)])) _
  have hz : (if (4 : Int32) < (2 : Int32) then (4 : Int32) else (2 : Int32)) = (2 : Int32) := by decide
  obtain ⟨_, _, ⟨T, L_, k_, n_⟩, -, X, ⟨Lc_, hQ, l_, y_, z_⟩, st⟩ := Jvm.LawKit.callS X hx (y := (⟨"java/lang/Math", "min", "(II)I"⟩ : MethodName)) hown (mvT hZ (hw _ (List.mem_of_getElem? (i := 35) rfl))) (mvT hZ (hw _ (List.mem_of_getElem? (i := 36) rfl))) (mvT hZ (hw _ (List.mem_of_getElem? (i := 11) rfl))) (mvT hZ (hw _ (List.mem_of_getElem? (i := 37) rfl))) (by decide) (backOf (W := 4) (rm7 l Z a0 hw [] (2 : Int32) (4 : Int32) h1 n0 (Nat.le_trans Z0 K.1) ) hZ (hw _ (List.mem_of_getElem? (i := 37) rfl)) (hw _ (List.mem_of_getElem? (i := 11) rfl)) (by decide) (by decide)) (g := (mkF m 25 #[.val (.ref a1), .val (.int (4 : Int32)), .val (.ref b1)] [(.int (4 : Int32)), (.int (2 : Int32)), (.int (0 : Int32)), (.ref b1), (.int (0 : Int32)), (.ref a1)])) rfl (by rw [hml]; rfl) (argsL := [(.int (2 : Int32)), (.int (4 : Int32))]) (rest := [(.int (0 : Int32)), (.ref b1), (.int (0 : Int32)), (.ref a1)]) (lenOf pd_3 rfl) rfl (by show 2 * 0 + _ ≤ _; exact Nat.le_of_eq rfl) (hb hby d6_25) (fun _ _ => ⟨rfl, eT, (by decide : 1 + 0 ≤ _), (by decide : 4 + 0 ≤ _)⟩)
  dsimp only [Pt.U, Pt.locs, Pt.cells, Pt.slots] at X l_ y_ z_ st hQ
  subst l_ y_ z_
  obtain ⟨e_v, Nq, eh⟩ := hQ
  rw [hz] at e_v
  subst e_v
  have N := Fr.app N Nq
  have eT := eh
  refine Go.by st ?_
  show Go p.tables e below (T.setTop (mkF m 28 #[.val (.ref a1), .val (.int (4 : Int32)), .val (.ref b1)] [(.int (2 : Int32)), (.int (0 : Int32)), (.ref b1), (.int (0 : Int32)), (.ref a1)])) _
  obtain ⟨T, h3, L_, X, eT, N, Kq, A_, st⟩ := cpA X hx hZ hown (hw _ (List.mem_of_getElem? (i := 38) rfl)) (hw _ (List.mem_of_getElem? (i := 41) rfl)) (hw _ (List.mem_of_getElem? (i := 39) rfl)) (hw _ (List.mem_of_getElem? (i := 40) rfl)) eT V_a1 V_b1 (Or.inl ⟨rfl, rfl⟩) (by decide) (by decide) (by decide) (by decide) (by decide) rfl (Nat.le_of_ble_eq_true rfl) N g_b1 (g := (mkF m 28 #[.val (.ref a1), .val (.int (4 : Int32)), .val (.ref b1)] [(.int (2 : Int32)), (.int (0 : Int32)), (.ref b1), (.int (0 : Int32)), (.ref a1)])) rfl (by rw [hml]; rfl) rfl (hb hby d6_28) (by decide) (W := 0) (by show 2 * 0 + _ ≤ _; exact Nat.le_of_eq rfl) (by decide +kernel)
  have V_a1 := Arv.keep V_a1 Kq (ninS ne_a1_b1 nin0)
  have K := K.trans Kq (allS (Or.inr sz_b1) all0)
  have A2_ : Arv Z h3 b1 k_b1 .double (4 : Int32) [(.double y0), (.double y1), (.double (0 : UInt64)), (.double (0 : UInt64))] (.double (0 : UInt64)) := A_
  have V_b1 : Arv Z h3 b1 k_b1 .double (4 : Int32) [(.double y0), (.double y1), (.double (0 : UInt64)), (.double (0 : UInt64))] (.double (0 : UInt64)) := A2_.pad (pad_rep [(.double y0), (.double y1), (.double (0 : UInt64)), (.double (0 : UInt64))] (.double (0 : UInt64)) 0)
  refine Go.by st ?_
  show Go p.tables e below (T.setTop (mkF m 31 #[.val (.ref a1), .val (.int (4 : Int32)), .val (.ref b1)] [])) _
  refine Go.by (fun tt_ kk_ => XS.aloadN X.here hx rfl (hb hby d6_31) rfl rfl kk_) ?_
  show Go p.tables e below (T.setTop (mkF m 32 #[.val (.ref a1), .val (.int (4 : Int32)), .val (.ref b1)] [(.ref b1)])) _
  exact Go.done X  (v := some (.ref b1)) (fun h => by rw [Bd.returns] at h; cases h) Bd.notSynchronized (fun fs hr => retOut X hx Bd.returns rfl (by simp [Value.isRef, FieldType.isReference]) (hb hby d6_32) hr) (by rw [eT]; exact ⟨b1, k_b1, g_b1, sz_b1, rfl, N, K, V_b1⟩) (by decide) (by decide)
def Q8_2 (Z : State) (a1 : Addr) (ka : ClassId) (i0 : Int32) (i1 : Int32) (i2 : Int32) (i3 : Int32) (h0 : Heap) (n0 : Nat) (v : Option Value) (h : Heap) (L : List Loc) : Prop := ∃ (b : Addr) (kb : ClassId), n0 ≤ b ∧ h0.size ≤ b ∧ v = some (.ref b) ∧ Fr n0 L ∧ Keep h0 h [] ∧ Arv Z h b kb .int (4 : Int32) [(.int i0), (.int i1), (.int (0 : Int32)), (.int (0 : Int32))] (.int (0 : Int32))
set_option maxRecDepth 65536 in
set_option maxHeartbeats 40000000 in
theorem rm8_2 (l : Launch) (Z : State) (a0 : Array Value) (hw : ∀ d ∈ tables_1, d.before a0 Z = true) (ws : List Jvm.Cond) (a1 : Addr) (ka : ClassId) (i0 : Int32) (i1 : Int32) (i2 : Int32) (i3 : Int32) (h0 : Heap) (n0 : Nat) (Z0 : n0 ≤ h0.size) (V_a1 : Arv Z h0 a1 ka .int (2 : Int32) [(.int i0), (.int i1), (.int i2), (.int i3)] (.int (0 : Int32))) :
    MetFree l (⟨"java/util/Arrays", "copyOf", "([II)[I"⟩ : MethodName) (head1 (Jvm.Cond.code (⟨"java/util/Arrays", "copyOf", "([II)[I"⟩ : MethodName) jdk_65_method_123_code 3 (some (.array .int)) :: ws) ({ frames := 1, cells := 1, slots := 4, locals := 40 } : Room)) (fun a U => a = #[(.ref a1), (.int (4 : Int32))] ∧ Z.Warmed39 U.vm ∧ U.heap = h0) (fun _ _ _ _ _ => True) (fun _ U o U' => ∃ v L, o = .returned v ∧ Q8_2 Z a1 ka i0 i1 i2 i3 h0 n0 v U'.heap L ∧ FrameEnd U o U' L ({ frames := 1, cells := 1, slots := 4, locals := 40 } : Room).cells ({ frames := 1, cells := 1, slots := 4, locals := 40 } : Room).slots) := by
  refine MetFree.of_bodySF (plainFor_of_name pn_2) hisR ?_
  intro p e s m args below meth c s₁ Bd hml0 hP hK
  obtain ⟨rfl, hZ, hh⟩ := hP
  have hx := Bd.exec
  have hby := Bd.bytes
  have hml : c.maxLocals = 3 := hml0
  have hown : s.vm.findClass "java/util/Arrays" = some m.cls := findClass_of_methodNamed Bd.named
  have hnm := (name_of_methodNamed Bd.named Bd.method).1
  have X : Stand p l e ({ frames := 1, cells := 1, slots := 4, locals := 40 } : Room) s m #[(.ref a1), (.int (4 : Int32))] below meth c s₁ [] 0 0 := Stand.of_body Bd
  have eT : s₁.heap = h0 := by rw [← hh, Bd.state]; rfl
  have N := Fr.nil n0
  have K := Keep.refl h0 []
  refine Go.out ?_
  obtain ⟨T, eTT⟩ : ∃ z, z = s₁ := ⟨_, rfl⟩
  rw [← eTT] at X eT ⊢
  refine Go.by (fun tt_ kk_ => castTop (ef_8 m a1 (4 : Int32)) kk_) ?_
  show Go p.tables e below (T.setTop (mkF m 0 #[.val (.ref a1), .val (.int (4 : Int32)), .unset] [])) _
  refine Go.by (fun tt_ kk_ => XS.iloadN X.here hx rfl (hb hby d8_0) rfl kk_) ?_
  show Go p.tables e below (T.setTop (mkF m 1 #[.val (.ref a1), .val (.int (4 : Int32)), .unset] [(.int (4 : Int32))])) _
  refine Go.by (fun tt_ kk_ => XS.aloadN X.here hx rfl (hb hby d8_1) rfl rfl kk_) ?_
  show Go p.tables e below (T.setTop (mkF m 2 #[.val (.ref a1), .val (.int (4 : Int32)), .unset] [(.ref a1), (.int (4 : Int32))])) _
  have Vo_ := V_a1
  obtain ⟨cl_, Ar_, q_, S_, N_, H_, G_⟩ := Vo_
  refine Go.by (X.arraylength hx (by rw [eT]; exact Ar_.1) (State.isArrayOf_alike hZ.alike Ar_.2.1) (g := (mkF m 2 #[.val (.ref a1), .val (.int (4 : Int32)), .unset] [(.ref a1), (.int (4 : Int32))])) rfl rfl (hb hby d8_2)) ?_
  rw [len_of S_ N_]
  show Go p.tables e below (T.setTop (mkF m 3 #[.val (.ref a1), .val (.int (4 : Int32)), .unset] [(.int (2 : Int32)), (.int (4 : Int32))])) _
  refine Go.by (fun tt_ kk_ => XS.icmpYes X.here hx rfl (pc0 := 3) (pc' := 14) rfl (hb hby d8_3) rfl (feq (by decide : ¬ ((4 : Int32) = (2 : Int32)))).2 (by decide) (by decide) kk_) ?_
  show Go p.tables e below (T.setTop (mkF m 14 #[.val (.ref a1), .val (.int (4 : Int32)), .unset] [])) _
  refine Go.by (fun tt_ kk_ => XS.iloadN X.here hx rfl (hb hby d8_14) rfl kk_) ?_
  show Go p.tables e below (T.setTop (mkF m 15 #[.val (.ref a1), .val (.int (4 : Int32)), .unset] [(.int (4 : Int32))])) _
  obtain ⟨T, h1, k_b1, X, eT, E_, A_, st⟩ := newP X hx hZ (hw _ (List.mem_of_getElem? (i := 16) rfl)) eT (g := (mkF m 15 #[.val (.ref a1), .val (.int (4 : Int32)), .unset] [(.int (4 : Int32))])) rfl (hb hby d8_15) rfl (by decide) (cap := 4) (by decide) (by decide) (by decide) (by decide)
  obtain ⟨b1, g_b1'⟩ : ∃ z, z = h0.size := ⟨_, rfl⟩
  rw [← g_b1'] at A_ st
  have ne_a1_b1 : a1 ≠ b1 := Nat.ne_of_lt (Nat.lt_of_lt_of_le V_a1.lt (Nat.le_of_eq g_b1'.symm))
  have ne_b1_a1 : b1 ≠ a1 := Ne.symm ne_a1_b1
  have g_b1 : n0 ≤ b1 := Nat.le_trans Z0 (Nat.le_trans K.1 (Nat.le_of_eq g_b1'.symm))
  have sz_b1 : h0.size ≤ b1 := Nat.le_trans K.1 (Nat.le_of_eq g_b1'.symm)
  have K := K.ext E_
  have V_a1 := Arv.ext V_a1 E_
  have V_b1 := Arv.new A_ (by decide)
  refine Go.by st ?_
  show Go p.tables e below (T.setTop (mkF m 17 #[.val (.ref a1), .val (.int (4 : Int32)), .unset] [(.ref b1)])) _
  have V_b1 : Arv Z h1 b1 k_b1 .int (4 : Int32) [(.int (0 : Int32)), (.int (0 : Int32)), (.int (0 : Int32)), (.int (0 : Int32))] (.int (0 : Int32)) := V_b1.pad (pad_rep [] (.int (0 : Int32)) 4)
  refine Go.by (fun tt_ kk_ => XS.astoreN X.here hx rfl (hb hby d8_17) rfl rfl (l' := #[.val (.ref a1), .val (.int (4 : Int32)), .val (.ref b1)]) rfl kk_) ?_
  show Go p.tables e below (T.setTop (mkF m 18 #[.val (.ref a1), .val (.int (4 : Int32)), .val (.ref b1)] [])) _
  refine Go.by (fun tt_ kk_ => XS.aloadN X.here hx rfl (hb hby d8_18) rfl rfl kk_) ?_
  show Go p.tables e below (T.setTop (mkF m 19 #[.val (.ref a1), .val (.int (4 : Int32)), .val (.ref b1)] [(.ref a1)])) _
  refine Go.by (fun tt_ kk_ => XS.iconst X.here hx rfl (hb hby d8_19) kk_) ?_
  show Go p.tables e below (T.setTop (mkF m 20 #[.val (.ref a1), .val (.int (4 : Int32)), .val (.ref b1)] [(.int (0 : Int32)), (.ref a1)])) _
  refine Go.by (fun tt_ kk_ => XS.aloadN X.here hx rfl (hb hby d8_20) rfl rfl kk_) ?_
  show Go p.tables e below (T.setTop (mkF m 21 #[.val (.ref a1), .val (.int (4 : Int32)), .val (.ref b1)] [(.ref b1), (.int (0 : Int32)), (.ref a1)])) _
  refine Go.by (fun tt_ kk_ => XS.iconst X.here hx rfl (hb hby d8_21) kk_) ?_
  show Go p.tables e below (T.setTop (mkF m 22 #[.val (.ref a1), .val (.int (4 : Int32)), .val (.ref b1)] [(.int (0 : Int32)), (.ref b1), (.int (0 : Int32)), (.ref a1)])) _
  refine Go.by (fun tt_ kk_ => XS.aloadN X.here hx rfl (hb hby d8_22) rfl rfl kk_) ?_
  show Go p.tables e below (T.setTop (mkF m 23 #[.val (.ref a1), .val (.int (4 : Int32)), .val (.ref b1)] [(.ref a1), (.int (0 : Int32)), (.ref b1), (.int (0 : Int32)), (.ref a1)])) _
  have Vo_ := V_a1
  obtain ⟨cl_, Ar_, q_, S_, N_, H_, G_⟩ := Vo_
  refine Go.by (X.arraylength hx (by rw [eT]; exact Ar_.1) (State.isArrayOf_alike hZ.alike Ar_.2.1) (g := (mkF m 23 #[.val (.ref a1), .val (.int (4 : Int32)), .val (.ref b1)] [(.ref a1), (.int (0 : Int32)), (.ref b1), (.int (0 : Int32)), (.ref a1)])) rfl rfl (hb hby d8_23)) ?_
  rw [len_of S_ N_]
  show Go p.tables e below (T.setTop (mkF m 24 #[.val (.ref a1), .val (.int (4 : Int32)), .val (.ref b1)] [(.int (2 : Int32)), (.int (0 : Int32)), (.ref b1), (.int (0 : Int32)), (.ref a1)])) _
  refine Go.by (fun tt_ kk_ => XS.iloadN X.here hx rfl (hb hby d8_24) rfl kk_) ?_
  show Go p.tables e below (T.setTop (mkF m 25 #[.val (.ref a1), .val (.int (4 : Int32)), .val (.ref b1)] [(.int (4 : Int32)), (.int (2 : Int32)), (.int (0 : Int32)), (.ref b1), (.int (0 : Int32)), (.ref a1)])) _
  have hz : (if (4 : Int32) < (2 : Int32) then (4 : Int32) else (2 : Int32)) = (2 : Int32) := by decide
  obtain ⟨_, _, ⟨T, L_, k_, n_⟩, -, X, ⟨Lc_, hQ, l_, y_, z_⟩, st⟩ := Jvm.LawKit.callS X hx (y := (⟨"java/lang/Math", "min", "(II)I"⟩ : MethodName)) hown (mvT hZ (hw _ (List.mem_of_getElem? (i := 35) rfl))) (mvT hZ (hw _ (List.mem_of_getElem? (i := 36) rfl))) (mvT hZ (hw _ (List.mem_of_getElem? (i := 11) rfl))) (mvT hZ (hw _ (List.mem_of_getElem? (i := 37) rfl))) (by decide) (backOf (W := 4) (rm7 l Z a0 hw [] (2 : Int32) (4 : Int32) h1 n0 (Nat.le_trans Z0 K.1) ) hZ (hw _ (List.mem_of_getElem? (i := 37) rfl)) (hw _ (List.mem_of_getElem? (i := 11) rfl)) (by decide) (by decide)) (g := (mkF m 25 #[.val (.ref a1), .val (.int (4 : Int32)), .val (.ref b1)] [(.int (4 : Int32)), (.int (2 : Int32)), (.int (0 : Int32)), (.ref b1), (.int (0 : Int32)), (.ref a1)])) rfl (by rw [hml]; rfl) (argsL := [(.int (2 : Int32)), (.int (4 : Int32))]) (rest := [(.int (0 : Int32)), (.ref b1), (.int (0 : Int32)), (.ref a1)]) (lenOf pd_3 rfl) rfl (by show 2 * 0 + _ ≤ _; exact Nat.le_of_eq rfl) (hb hby d8_25) (fun _ _ => ⟨rfl, eT, (by decide : 1 + 0 ≤ _), (by decide : 4 + 0 ≤ _)⟩)
  dsimp only [Pt.U, Pt.locs, Pt.cells, Pt.slots] at X l_ y_ z_ st hQ
  subst l_ y_ z_
  obtain ⟨e_v, Nq, eh⟩ := hQ
  rw [hz] at e_v
  subst e_v
  have N := Fr.app N Nq
  have eT := eh
  refine Go.by st ?_
  show Go p.tables e below (T.setTop (mkF m 28 #[.val (.ref a1), .val (.int (4 : Int32)), .val (.ref b1)] [(.int (2 : Int32)), (.int (0 : Int32)), (.ref b1), (.int (0 : Int32)), (.ref a1)])) _
  obtain ⟨T, h3, L_, X, eT, N, Kq, A_, st⟩ := cpA X hx hZ hown (hw _ (List.mem_of_getElem? (i := 38) rfl)) (hw _ (List.mem_of_getElem? (i := 41) rfl)) (hw _ (List.mem_of_getElem? (i := 39) rfl)) (hw _ (List.mem_of_getElem? (i := 40) rfl)) eT V_a1 V_b1 (Or.inl ⟨rfl, rfl⟩) (by decide) (by decide) (by decide) (by decide) (by decide) rfl (Nat.le_of_ble_eq_true rfl) N g_b1 (g := (mkF m 28 #[.val (.ref a1), .val (.int (4 : Int32)), .val (.ref b1)] [(.int (2 : Int32)), (.int (0 : Int32)), (.ref b1), (.int (0 : Int32)), (.ref a1)])) rfl (by rw [hml]; rfl) rfl (hb hby d8_28) (by decide) (W := 0) (by show 2 * 0 + _ ≤ _; exact Nat.le_of_eq rfl) (by decide +kernel)
  have V_a1 := Arv.keep V_a1 Kq (ninS ne_a1_b1 nin0)
  have K := K.trans Kq (allS (Or.inr sz_b1) all0)
  have A2_ : Arv Z h3 b1 k_b1 .int (4 : Int32) [(.int i0), (.int i1), (.int (0 : Int32)), (.int (0 : Int32))] (.int (0 : Int32)) := A_
  have V_b1 : Arv Z h3 b1 k_b1 .int (4 : Int32) [(.int i0), (.int i1), (.int (0 : Int32)), (.int (0 : Int32))] (.int (0 : Int32)) := A2_.pad (pad_rep [(.int i0), (.int i1), (.int (0 : Int32)), (.int (0 : Int32))] (.int (0 : Int32)) 0)
  refine Go.by st ?_
  show Go p.tables e below (T.setTop (mkF m 31 #[.val (.ref a1), .val (.int (4 : Int32)), .val (.ref b1)] [])) _
  refine Go.by (fun tt_ kk_ => XS.aloadN X.here hx rfl (hb hby d8_31) rfl rfl kk_) ?_
  show Go p.tables e below (T.setTop (mkF m 32 #[.val (.ref a1), .val (.int (4 : Int32)), .val (.ref b1)] [(.ref b1)])) _
  exact Go.done X  (v := some (.ref b1)) (fun h => by rw [Bd.returns] at h; cases h) Bd.notSynchronized (fun fs hr => retOut X hx Bd.returns rfl (by simp [Value.isRef, FieldType.isReference]) (hb hby d8_32) hr) (by rw [eT]; exact ⟨b1, k_b1, g_b1, sz_b1, rfl, N, K, V_b1⟩) (by decide) (by decide)
theorem d1_0 : decode prog_86_method_1_code 0 = .ok (.aload_n 0, 1) := by decide +kernel
theorem d1_1 : decode prog_86_method_1_code 1 = .ok (.invokespecial 1, 3) := by decide +kernel
theorem d1_4 : decode prog_86_method_1_code 4 = .ok (.aload_n 0, 1) := by decide +kernel
theorem d1_5 : decode prog_86_method_1_code 5 = .ok (.iconst 1, 1) := by decide +kernel
theorem d1_6 : decode prog_86_method_1_code 6 = .ok (.iload_n 1, 1) := by decide +kernel
theorem d1_7 : decode prog_86_method_1_code 7 = .ok (.invokestatic 7, 3) := by decide +kernel
theorem d1_10 : decode prog_86_method_1_code 10 = .ok (.newarray .double, 2) := by decide +kernel
theorem d1_12 : decode prog_86_method_1_code 12 = .ok (.putfield 13, 3) := by decide +kernel
theorem d1_15 : decode prog_86_method_1_code 15 = .ok (.aload_n 0, 1) := by decide +kernel
theorem d1_16 : decode prog_86_method_1_code 16 = .ok (.aload_n 0, 1) := by decide +kernel
theorem d1_17 : decode prog_86_method_1_code 17 = .ok (.getfield 13, 3) := by decide +kernel
theorem d1_20 : decode prog_86_method_1_code 20 = .ok (.arraylength, 1) := by decide +kernel
theorem d1_21 : decode prog_86_method_1_code 21 = .ok (.newarray .int, 2) := by decide +kernel
theorem d1_23 : decode prog_86_method_1_code 23 = .ok (.putfield 19, 3) := by decide +kernel
theorem d1_26 : decode prog_86_method_1_code 26 = .ok (.return_, 1) := by decide +kernel
theorem ef_1 (m : MethodId) (x0 : Addr) (x1 : Int32) : entryFrame m #[(.ref x0), (.int x1)] 2 = mkF m 0 #[.val (.ref x0), .val (.int x1)] [] := by first | (simp [entryFrame, mkF, argsToLocals, Value.category]; done) | rfl
def Q1 (Z : State) (a1 : Addr) (p2 : Int32)  (h0 : Heap) (n0 : Nat) (v : Option Value) (h : Heap) (L : List Loc) : Prop := v = none ∧ Fr n0 L ∧ (h0.size ≤ h.size ∧ True) ∧ own_TH Z h n0 a1 (0 : Int32)
set_option maxRecDepth 65536 in
set_option maxHeartbeats 40000000 in
theorem rm1 (l : Launch) (Z : State) (a0 : Array Value) (hw : ∀ d ∈ tables_1, d.before a0 Z = true) (ws : List Jvm.Cond) (a1 : Addr) (p2 : Int32)  (h0 : Heap) (n0 : Nat) (Z0 : n0 ≤ h0.size) (E_a1 : Exa Z h0 a1 "com/example/mode_choice_loop/modechoiceloop/simulation/TimeHeap") (g_a1 : n0 ≤ a1) (F_times_a1 : Fld Z h0 a1 "com/example/mode_choice_loop/modechoiceloop/simulation/TimeHeap" "times" "[D" .null) (F_numbers_a1 : Fld Z h0 a1 "com/example/mode_choice_loop/modechoiceloop/simulation/TimeHeap" "numbers" "[I" .null) (F_size_a1 : Fld Z h0 a1 "com/example/mode_choice_loop/modechoiceloop/simulation/TimeHeap" "size" "I" (.int (0 : Int32))) (hp : p2.toInt ≤ 4) :
    MetFree l (⟨"com/example/mode_choice_loop/modechoiceloop/simulation/TimeHeap", "<init>", "(I)V"⟩ : MethodName) (head1 (Jvm.Cond.code (⟨"com/example/mode_choice_loop/modechoiceloop/simulation/TimeHeap", "<init>", "(I)V"⟩ : MethodName) prog_86_method_1_code 2 none :: ws) ({ frames := 1, cells := 2, slots := 8, locals := 20 } : Room)) (fun a U => a = #[(.ref a1), (.int p2)] ∧ Z.Warmed39 U.vm ∧ U.heap = h0) (fun _ _ _ _ _ => True) (fun _ U o U' => ∃ v L, o = .returned v ∧ Q1 Z a1 p2 h0 n0 v U'.heap L ∧ FrameEnd U o U' L ({ frames := 1, cells := 2, slots := 8, locals := 20 } : Room).cells ({ frames := 1, cells := 2, slots := 8, locals := 20 } : Room).slots) := by
  refine MetFree.of_bodySF (plainFor_of_name pn_1) hisR ?_
  intro p e s m args below meth c s₁ Bd hml0 hP hK
  obtain ⟨rfl, hZ, hh⟩ := hP
  have hx := Bd.exec
  have hby := Bd.bytes
  have hml : c.maxLocals = 2 := hml0
  have hown : s.vm.findClass "com/example/mode_choice_loop/modechoiceloop/simulation/TimeHeap" = some m.cls := findClass_of_methodNamed Bd.named
  have hnm := (name_of_methodNamed Bd.named Bd.method).1
  have X : Stand p l e ({ frames := 1, cells := 2, slots := 8, locals := 20 } : Room) s m #[(.ref a1), (.int p2)] below meth c s₁ [] 0 0 := Stand.of_body Bd
  have eT : s₁.heap = h0 := by rw [← hh, Bd.state]; rfl
  have N := Fr.nil n0
  have K : h0.size ≤ h0.size ∧ True := ⟨Nat.le_refl _, trivial⟩
  refine Go.out ?_
  obtain ⟨T, eTT⟩ : ∃ z, z = s₁ := ⟨_, rfl⟩
  rw [← eTT] at X eT ⊢
  refine Go.by (fun tt_ kk_ => castTop (ef_1 m a1 p2) kk_) ?_
  show Go p.tables e below (T.setTop (mkF m 0 #[.val (.ref a1), .val (.int p2)] [])) _
  refine Go.by (fun tt_ kk_ => XS.aloadN X.here hx rfl (hb hby d1_0) rfl rfl kk_) ?_
  show Go p.tables e below (T.setTop (mkF m 1 #[.val (.ref a1), .val (.int p2)] [(.ref a1)])) _
  obtain ⟨T, X, eT, st⟩ := initO X hx hZ hown (hw _ (List.mem_of_getElem? (i := 6) rfl)) (hw _ (List.mem_of_getElem? (i := 7) rfl)) (hw _ (List.mem_of_getElem? (i := 8) rfl)) eT (g := (mkF m 1 #[.val (.ref a1), .val (.int p2)] [(.ref a1)])) rfl (by rw [hml]; rfl) rfl (hb hby d1_1) (by decide) (W := 0) (by show 2 * 0 + _ ≤ _; exact Nat.le_of_eq rfl) (by decide)
  refine Go.by st ?_
  show Go p.tables e below (T.setTop (mkF m 4 #[.val (.ref a1), .val (.int p2)] [])) _
  refine Go.by (fun tt_ kk_ => XS.aloadN X.here hx rfl (hb hby d1_4) rfl rfl kk_) ?_
  show Go p.tables e below (T.setTop (mkF m 5 #[.val (.ref a1), .val (.int p2)] [(.ref a1)])) _
  refine Go.by (fun tt_ kk_ => XS.iconst X.here hx rfl (hb hby d1_5) kk_) ?_
  show Go p.tables e below (T.setTop (mkF m 6 #[.val (.ref a1), .val (.int p2)] [(.int (1 : Int32)), (.ref a1)])) _
  refine Go.by (fun tt_ kk_ => XS.iloadN X.here hx rfl (hb hby d1_6) rfl kk_) ?_
  show Go p.tables e below (T.setTop (mkF m 7 #[.val (.ref a1), .val (.int p2)] [(.int p2), (.int (1 : Int32)), (.ref a1)])) _
  obtain ⟨_, _, ⟨T, L_, k_, n_⟩, -, X, ⟨Lc_, hQ, l_, y_, z_⟩, st⟩ := Jvm.LawKit.callS X hx (y := (⟨"java/lang/Math", "max", "(II)I"⟩ : MethodName)) hown (mvT hZ (hw _ (List.mem_of_getElem? (i := 9) rfl))) (mvT hZ (hw _ (List.mem_of_getElem? (i := 10) rfl))) (mvT hZ (hw _ (List.mem_of_getElem? (i := 11) rfl))) (mvT hZ (hw _ (List.mem_of_getElem? (i := 12) rfl))) (by decide) (backOf (W := 1) (rm3 l Z a0 hw [] (1 : Int32) p2 h0 n0 (Nat.le_trans Z0 K.1) ) hZ (hw _ (List.mem_of_getElem? (i := 12) rfl)) (hw _ (List.mem_of_getElem? (i := 11) rfl)) (by decide) (by decide)) (g := (mkF m 7 #[.val (.ref a1), .val (.int p2)] [(.int p2), (.int (1 : Int32)), (.ref a1)])) rfl (by rw [hml]; rfl) (argsL := [(.int (1 : Int32)), (.int p2)]) (rest := [(.ref a1)]) (lenOf pd_3 rfl) rfl (by show 2 * 0 + _ ≤ _; exact Nat.le_of_eq rfl) (hb hby d1_7) (fun _ _ => ⟨rfl, eT, (by decide : 0 + 0 ≤ _), (by decide : 0 + 0 ≤ _)⟩)
  dsimp only [Pt.U, Pt.locs, Pt.cells, Pt.slots] at X l_ y_ z_ st hQ
  subst l_ y_ z_
  obtain ⟨rfl, Nq, eh⟩ := hQ
  have N := Fr.app N Nq
  have eT := eh
  refine Go.by st ?_
  show Go p.tables e below (T.setTop (mkF m 10 #[.val (.ref a1), .val (.int p2)] [(.int (if (1 : Int32) < p2 then p2 else (1 : Int32))), (.ref a1)])) _
  obtain ⟨cc, e_cc⟩ : ∃ z, z = (if (1 : Int32) < p2 then p2 else (1 : Int32)) := ⟨_, rfl⟩
  rw [← e_cc]
  show Go p.tables e below (T.setTop (mkF m 10 #[.val (.ref a1), .val (.int p2)] [(.int cc), (.ref a1)])) _
  have bc : 1 ≤ cc.toInt ∧ cc.toInt ≤ 4 := by
    rw [e_cc, own_max, show (1 : Int32).toInt = 1 by decide]; omega
  have bc1 := bc.1
  have bc2 := bc.2
  have bs_0 : (0 : Int32).toInt ≤ cc.toInt := by rw [show (0 : Int32).toInt = 0 by decide]; omega
  have hneg : ¬ cc < 0 := by rw [Int32.lt_iff_toInt_lt, show (0 : Int32).toInt = 0 by decide]; omega
  have hcap : cc.toNatClampNeg ≤ 4 := by simp only [Int32.toNatClampNeg]; omega
  obtain ⟨T, h2, k_b2, X, eT, E_, A_, st⟩ := newP X hx hZ (hw _ (List.mem_of_getElem? (i := 13) rfl)) eT (g := (mkF m 10 #[.val (.ref a1), .val (.int p2)] [(.int cc), (.ref a1)])) rfl (hb hby d1_10) rfl hneg (cap := 4) hcap (by decide) (by decide) (by decide)
  obtain ⟨b2, g_b2'⟩ : ∃ z, z = h0.size := ⟨_, rfl⟩
  rw [← g_b2'] at A_ st
  have ne_a1_b2 : a1 ≠ b2 := Nat.ne_of_lt (Nat.lt_of_lt_of_le E_a1.lt (Nat.le_of_eq g_b2'.symm))
  have ne_b2_a1 : b2 ≠ a1 := Ne.symm ne_a1_b2
  have g_b2 : n0 ≤ b2 := Nat.le_trans Z0 (Nat.le_trans K.1 (Nat.le_of_eq g_b2'.symm))
  have sz_b2 : h0.size ≤ b2 := Nat.le_trans K.1 (Nat.le_of_eq g_b2'.symm)
  have K := And.intro (Nat.le_trans K.1 E_.1) trivial
  have E_a1 := Exa.ext E_ E_a1
  have F_times_a1 := Fld.ext E_ F_times_a1
  have F_numbers_a1 := Fld.ext E_ F_numbers_a1
  have F_size_a1 := Fld.ext E_ F_size_a1
  have V_b2 := Arv.new A_ hneg
  refine Go.by st ?_
  show Go p.tables e below (T.setTop (mkF m 12 #[.val (.ref a1), .val (.int p2)] [(.ref b2), (.ref a1)])) _
  have V_b2 : Arv Z h2 b2 k_b2 .double cc [(.double (0 : UInt64)), (.double (0 : UInt64)), (.double (0 : UInt64)), (.double (0 : UInt64))] (.double (0 : UInt64)) := V_b2.pad (pad_rep [] (.double (0 : UInt64)) 4)
  obtain ⟨T, h3, X, eT, Wh3, st⟩ := putF X hx hZ hown (host := "") (Or.inl (hw _ (List.mem_of_getElem? (i := 14) rfl))) Via.refl eT F_times_a1 E_a1 (Or.inl (hw _ (List.mem_of_getElem? (i := 15) rfl))) (hw _ (List.mem_of_getElem? (i := 1) rfl)) (ty := (.array .double)) (by decide) rfl rfl (g := (mkF m 12 #[.val (.ref a1), .val (.int p2)] [(.ref b2), (.ref a1)])) rfl rfl (hb hby d1_12)
  have F_times_a1 := Fld.same Wh3 F_times_a1
  have E_a1 := Exa.wr Wh3 E_a1
  have F_numbers_a1 := Fld.other Wh3 F_numbers_a1 (Or.inr (slot_ne (Or.inl (hw _ (List.mem_of_getElem? (i := 18) rfl))) (Or.inl (hw _ (List.mem_of_getElem? (i := 15) rfl))) (by decide) (t := (.array .int)) (t' := (.array .double)) (by decide) (by decide)))
  have F_size_a1 := Fld.other Wh3 F_size_a1 (Or.inr (slot_ne (Or.inl (hw _ (List.mem_of_getElem? (i := 25) rfl))) (Or.inl (hw _ (List.mem_of_getElem? (i := 15) rfl))) (by decide) (t := .int) (t' := (.array .double)) (by decide) (by decide)))
  have V_b2 := Arv.other V_b2 Wh3 ne_b2_a1
  have N := Fr.snoc X N g_a1
  have K := And.intro (Nat.le_trans K.1 (Nat.le_of_eq (Wr.size Wh3).symm)) trivial
  refine Go.by st ?_
  show Go p.tables e below (T.setTop (mkF m 15 #[.val (.ref a1), .val (.int p2)] [])) _
  refine Go.by (fun tt_ kk_ => XS.aloadN X.here hx rfl (hb hby d1_15) rfl rfl kk_) ?_
  show Go p.tables e below (T.setTop (mkF m 16 #[.val (.ref a1), .val (.int p2)] [(.ref a1)])) _
  refine Go.by (fun tt_ kk_ => XS.aloadN X.here hx rfl (hb hby d1_16) rfl rfl kk_) ?_
  show Go p.tables e below (T.setTop (mkF m 17 #[.val (.ref a1), .val (.int p2)] [(.ref a1), (.ref a1)])) _
  obtain ⟨T, X, eT, st⟩ := getF X hx hZ hown (host := "") (Or.inl (hw _ (List.mem_of_getElem? (i := 14) rfl))) Via.refl eT F_times_a1 (g := (mkF m 17 #[.val (.ref a1), .val (.int p2)] [(.ref a1), (.ref a1)])) rfl rfl (hb hby d1_17)
  refine Go.by st ?_
  show Go p.tables e below (T.setTop (mkF m 20 #[.val (.ref a1), .val (.int p2)] [(.ref b2), (.ref a1)])) _
  have Vo_ := V_b2
  obtain ⟨cl_, Ar_, q_, S_, N_, H_, G_⟩ := Vo_
  refine Go.by (X.arraylength hx (by rw [eT]; exact Ar_.1) (State.isArrayOf_alike hZ.alike Ar_.2.1) (g := (mkF m 20 #[.val (.ref a1), .val (.int p2)] [(.ref b2), (.ref a1)])) rfl rfl (hb hby d1_20)) ?_
  rw [len_of S_ N_]
  show Go p.tables e below (T.setTop (mkF m 21 #[.val (.ref a1), .val (.int p2)] [(.int cc), (.ref a1)])) _
  obtain ⟨T, h4, k_b4, X, eT, E_, A_, st⟩ := newP X hx hZ (hw _ (List.mem_of_getElem? (i := 16) rfl)) eT (g := (mkF m 21 #[.val (.ref a1), .val (.int p2)] [(.int cc), (.ref a1)])) rfl (hb hby d1_21) rfl hneg (cap := 4) hcap (by decide) (by decide) (by decide)
  obtain ⟨b4, g_b4'⟩ : ∃ z, z = h3.size := ⟨_, rfl⟩
  rw [← g_b4'] at A_ st
  have ne_a1_b4 : a1 ≠ b4 := Nat.ne_of_lt (Nat.lt_of_lt_of_le E_a1.lt (Nat.le_of_eq g_b4'.symm))
  have ne_b4_a1 : b4 ≠ a1 := Ne.symm ne_a1_b4
  have ne_b2_b4 : b2 ≠ b4 := Nat.ne_of_lt (Nat.lt_of_lt_of_le V_b2.lt (Nat.le_of_eq g_b4'.symm))
  have ne_b4_b2 : b4 ≠ b2 := Ne.symm ne_b2_b4
  have g_b4 : n0 ≤ b4 := Nat.le_trans Z0 (Nat.le_trans K.1 (Nat.le_of_eq g_b4'.symm))
  have sz_b4 : h0.size ≤ b4 := Nat.le_trans K.1 (Nat.le_of_eq g_b4'.symm)
  have K := And.intro (Nat.le_trans K.1 E_.1) trivial
  have E_a1 := Exa.ext E_ E_a1
  have F_times_a1 := Fld.ext E_ F_times_a1
  have F_numbers_a1 := Fld.ext E_ F_numbers_a1
  have F_size_a1 := Fld.ext E_ F_size_a1
  have V_b2 := Arv.ext V_b2 E_
  have V_b4 := Arv.new A_ hneg
  refine Go.by st ?_
  show Go p.tables e below (T.setTop (mkF m 23 #[.val (.ref a1), .val (.int p2)] [(.ref b4), (.ref a1)])) _
  have V_b4 : Arv Z h4 b4 k_b4 .int cc [(.int (0 : Int32)), (.int (0 : Int32)), (.int (0 : Int32)), (.int (0 : Int32))] (.int (0 : Int32)) := V_b4.pad (pad_rep [] (.int (0 : Int32)) 4)
  obtain ⟨T, h5, X, eT, Wh5, st⟩ := putF X hx hZ hown (host := "") (Or.inl (hw _ (List.mem_of_getElem? (i := 17) rfl))) Via.refl eT F_numbers_a1 E_a1 (Or.inl (hw _ (List.mem_of_getElem? (i := 18) rfl))) (hw _ (List.mem_of_getElem? (i := 1) rfl)) (ty := (.array .int)) (by decide) rfl rfl (g := (mkF m 23 #[.val (.ref a1), .val (.int p2)] [(.ref b4), (.ref a1)])) rfl rfl (hb hby d1_23)
  have F_numbers_a1 := Fld.same Wh5 F_numbers_a1
  have E_a1 := Exa.wr Wh5 E_a1
  have F_times_a1 := Fld.other Wh5 F_times_a1 (Or.inr (slot_ne (Or.inl (hw _ (List.mem_of_getElem? (i := 15) rfl))) (Or.inl (hw _ (List.mem_of_getElem? (i := 18) rfl))) (by decide) (t := (.array .double)) (t' := (.array .int)) (by decide) (by decide)))
  have F_size_a1 := Fld.other Wh5 F_size_a1 (Or.inr (slot_ne (Or.inl (hw _ (List.mem_of_getElem? (i := 25) rfl))) (Or.inl (hw _ (List.mem_of_getElem? (i := 18) rfl))) (by decide) (t := .int) (t' := (.array .int)) (by decide) (by decide)))
  have V_b2 := Arv.other V_b2 Wh5 ne_b2_a1
  have V_b4 := Arv.other V_b4 Wh5 ne_b4_a1
  have N := Fr.snoc X N g_a1
  have K := And.intro (Nat.le_trans K.1 (Nat.le_of_eq (Wr.size Wh5).symm)) trivial
  refine Go.by st ?_
  show Go p.tables e below (T.setTop (mkF m 26 #[.val (.ref a1), .val (.int p2)] [])) _
  exact Go.done X  (v := none) (fun _ => rfl) Bd.notSynchronized (fun fs hr => X.returnOut hx Bd.returns (hb hby d1_26) hr) (by rw [eT]; exact ⟨rfl, N, K, ⟨E_a1, g_a1, b2, b4, _, _, _, _, _, _, _, _, _, _, _, F_times_a1, F_numbers_a1, F_size_a1, V_b2, V_b4, g_b2, g_b4, ne_a1_b2, ne_a1_b4, ne_b2_b4, own_nn0, own_nn0, own_nn0, own_nn0, bc1, bc2, bs_0⟩⟩) (by decide) (by decide)
theorem d4_0 : decode prog_86_method_2_code 0 = .ok (.aload_n 0, 1) := by decide +kernel
theorem d4_1 : decode prog_86_method_2_code 1 = .ok (.getfield 23, 3) := by decide +kernel
theorem d4_4 : decode prog_86_method_2_code 4 = .ok (.ifCond .ne 7, 3) := by decide +kernel
theorem d4_7 : decode prog_86_method_2_code 7 = .ok (.iconst 1, 1) := by decide +kernel
theorem d4_8 : decode prog_86_method_2_code 8 = .ok (.goto 4, 3) := by decide +kernel
theorem d4_11 : decode prog_86_method_2_code 11 = .ok (.iconst 0, 1) := by decide +kernel
theorem d4_12 : decode prog_86_method_2_code 12 = .ok (.ireturn, 1) := by decide +kernel
theorem ef_4 (m : MethodId) (x0 : Addr) : entryFrame m #[(.ref x0)] 1 = mkF m 0 #[.val (.ref x0)] [] := by first | (simp [entryFrame, mkF, argsToLocals, Value.category]; done) | rfl
def Q4 (Z : State) (a1 : Addr) (sz : Int32) (h0 : Heap) (n0 : Nat) (v : Option Value) (h : Heap) (L : List Loc) : Prop := v = some (.int (if sz = 0 then 1 else 0)) ∧ Fr n0 L ∧ h = h0
set_option maxRecDepth 65536 in
set_option maxHeartbeats 40000000 in
theorem rm4 (l : Launch) (Z : State) (a0 : Array Value) (hw : ∀ d ∈ tables_1, d.before a0 Z = true) (ws : List Jvm.Cond) (a1 : Addr) (sz : Int32) (h0 : Heap) (n0 : Nat) (Z0 : n0 ≤ h0.size) (TH : own_TH Z h0 n0 a1 sz) :
    MetFree l (⟨"com/example/mode_choice_loop/modechoiceloop/simulation/TimeHeap", "isEmpty", "()Z"⟩ : MethodName) (head1 (Jvm.Cond.code (⟨"com/example/mode_choice_loop/modechoiceloop/simulation/TimeHeap", "isEmpty", "()Z"⟩ : MethodName) prog_86_method_2_code 1 (some .boolean) :: ws) ({ frames := 0, cells := 0, slots := 0, locals := 0 } : Room)) (fun a U => a = #[(.ref a1)] ∧ Z.Warmed39 U.vm ∧ U.heap = h0) (fun _ _ _ _ _ => True) (fun _ U o U' => ∃ v L, o = .returned v ∧ Q4 Z a1 sz h0 n0 v U'.heap L ∧ FrameEnd U o U' L ({ frames := 0, cells := 0, slots := 0, locals := 0 } : Room).cells ({ frames := 0, cells := 0, slots := 0, locals := 0 } : Room).slots) := by
  have E_a1 := TH.1
  obtain ⟨E_a1, g_a1, ti, nu, kt, km, cc, y0, y1, y2, y3, i0, i1, i2, i3, F_times_a1, F_numbers_a1, F_size_a1, V_ti, V_nu, g_ti, g_nu, ne_a1_ti, ne_a1_nu, ne_ti_nu, nn_y0, nn_y1, nn_y2, nn_y3, bc1, bc2, bs⟩ := TH
  have ne_ti_a1 := Ne.symm ne_a1_ti
  have ne_nu_a1 := Ne.symm ne_a1_nu
  have ne_nu_ti := Ne.symm ne_ti_nu
  refine MetFree.of_bodySF (plainFor_of_name pn_1) hisR ?_
  intro p e s m args below meth c s₁ Bd hml0 hP hK
  obtain ⟨rfl, hZ, hh⟩ := hP
  have hx := Bd.exec
  have hby := Bd.bytes
  have hml : c.maxLocals = 1 := hml0
  have hown : s.vm.findClass "com/example/mode_choice_loop/modechoiceloop/simulation/TimeHeap" = some m.cls := findClass_of_methodNamed Bd.named
  have hnm := (name_of_methodNamed Bd.named Bd.method).1
  have X : Stand p l e ({ frames := 0, cells := 0, slots := 0, locals := 0 } : Room) s m #[(.ref a1)] below meth c s₁ [] 0 0 := Stand.of_body Bd
  have eT : s₁.heap = h0 := by rw [← hh, Bd.state]; rfl
  have N := Fr.nil n0
  have K := Keep.refl h0 []
  refine Go.out ?_
  obtain ⟨T, eTT⟩ : ∃ z, z = s₁ := ⟨_, rfl⟩
  rw [← eTT] at X eT ⊢
  refine Go.by (fun tt_ kk_ => castTop (ef_4 m a1) kk_) ?_
  show Go p.tables e below (T.setTop (mkF m 0 #[.val (.ref a1)] [])) _
  refine Go.by (fun tt_ kk_ => XS.aloadN X.here hx rfl (hb hby d4_0) rfl rfl kk_) ?_
  show Go p.tables e below (T.setTop (mkF m 1 #[.val (.ref a1)] [(.ref a1)])) _
  obtain ⟨T, X, eT, st⟩ := getF X hx hZ hown (host := "") (Or.inl (hw _ (List.mem_of_getElem? (i := 24) rfl))) Via.refl eT F_size_a1 (g := (mkF m 1 #[.val (.ref a1)] [(.ref a1)])) rfl rfl (hb hby d4_1)
  refine Go.by st ?_
  show Go p.tables e below (T.setTop (mkF m 4 #[.val (.ref a1)] [(.int sz)])) _
  by_cases hc4 : sz = (0 : Int32)
  · refine Go.by (fun tt_ kk_ => XS.ifNo X.here hx rfl (hb hby d4_4) rfl ((if0 _ _).trans (teq hc4).2) kk_) ?_
    show Go p.tables e below (T.setTop (mkF m 7 #[.val (.ref a1)] [])) _
    refine Go.by (fun tt_ kk_ => XS.iconst X.here hx rfl (hb hby d4_7) kk_) ?_
    show Go p.tables e below (T.setTop (mkF m 8 #[.val (.ref a1)] [(.int (1 : Int32))])) _
    refine Go.by (fun tt_ kk_ => XS.goto X.here hx rfl (pc0 := 8) (pc' := 12) rfl (hb hby d4_8) (by decide) (by decide) kk_) ?_
    show Go p.tables e below (T.setTop (mkF m 12 #[.val (.ref a1)] [(.int (1 : Int32))])) _
    exact Go.done X  (v := some (.int (1 : Int32))) (fun h => by rw [Bd.returns] at h; cases h) Bd.notSynchronized (fun fs hr => retN X hx (z := (1 : Int32)) (t := .boolean) Bd.returns (by simp) (hb hby d4_12) hr) (by rw [eT]; exact ⟨by rw [if_pos hc4], N, rfl⟩) (by decide) (by decide)
  · refine Go.by (fun tt_ kk_ => XS.ifYes X.here hx rfl (pc0 := 4) (pc' := 11) rfl (hb hby d4_4) rfl ((if0 _ _).trans (feq hc4).2) (by decide) (by decide) kk_) ?_
    show Go p.tables e below (T.setTop (mkF m 11 #[.val (.ref a1)] [])) _
    refine Go.by (fun tt_ kk_ => XS.iconst X.here hx rfl (hb hby d4_11) kk_) ?_
    show Go p.tables e below (T.setTop (mkF m 12 #[.val (.ref a1)] [(.int (0 : Int32))])) _
    exact Go.done X  (v := some (.int (0 : Int32))) (fun h => by rw [Bd.returns] at h; cases h) Bd.notSynchronized (fun fs hr => retN X hx (z := (0 : Int32)) (t := .boolean) Bd.returns (by simp) (hb hby d4_12) hr) (by rw [eT]; exact ⟨by rw [if_neg hc4], N, rfl⟩) (by decide) (by decide)
theorem d12_0 : decode prog_86_method_9_code 0 = .ok (.aload_n 0, 1) := by decide +kernel
theorem d12_1 : decode prog_86_method_9_code 1 = .ok (.getfield 23, 3) := by decide +kernel
theorem d12_4 : decode prog_86_method_9_code 4 = .ok (.ifCond .ne 13, 3) := by decide +kernel
theorem d12_7 : decode prog_86_method_9_code 7 = .ok (.new 56, 3) := by decide +kernel
theorem d12_10 : decode prog_86_method_9_code 10 = .ok (.dup, 1) := by decide +kernel
theorem d12_11 : decode prog_86_method_9_code 11 = .ok (.ldc 58, 2) := by decide +kernel
theorem d12_13 : decode prog_86_method_9_code 13 = .ok (.invokespecial 60, 3) := by decide +kernel
theorem d12_16 : decode prog_86_method_9_code 16 = .ok (.athrow, 1) := by decide +kernel
theorem d12_17 : decode prog_86_method_9_code 17 = .ok (.return_, 1) := by decide +kernel
theorem ef_12 (m : MethodId) (x0 : Addr) : entryFrame m #[(.ref x0)] 1 = mkF m 0 #[.val (.ref x0)] [] := by first | (simp [entryFrame, mkF, argsToLocals, Value.category]; done) | rfl
def Q12 (Z : State) (a1 : Addr) (sz : Int32) (h0 : Heap) (n0 : Nat) (v : Option Value) (h : Heap) (L : List Loc) : Prop := v = none ∧ Fr n0 L ∧ h = h0
set_option maxRecDepth 65536 in
set_option maxHeartbeats 40000000 in
theorem rm12 (l : Launch) (Z : State) (a0 : Array Value) (hw : ∀ d ∈ tables_1, d.before a0 Z = true) (ws : List Jvm.Cond) (a1 : Addr) (sz : Int32) (h0 : Heap) (n0 : Nat) (Z0 : n0 ≤ h0.size) (F_size_a1 : Fld Z h0 a1 "com/example/mode_choice_loop/modechoiceloop/simulation/TimeHeap" "size" "I" (.int sz)) (hs : ¬ sz = 0) :
    MetFree l (⟨"com/example/mode_choice_loop/modechoiceloop/simulation/TimeHeap", "requireNumber", "()V"⟩ : MethodName) (head1 (Jvm.Cond.code (⟨"com/example/mode_choice_loop/modechoiceloop/simulation/TimeHeap", "requireNumber", "()V"⟩ : MethodName) prog_86_method_9_code 1 none :: ws) ({ frames := 0, cells := 0, slots := 0, locals := 0 } : Room)) (fun a U => a = #[(.ref a1)] ∧ Z.Warmed39 U.vm ∧ U.heap = h0) (fun _ _ _ _ _ => True) (fun _ U o U' => ∃ v L, o = .returned v ∧ Q12 Z a1 sz h0 n0 v U'.heap L ∧ FrameEnd U o U' L ({ frames := 0, cells := 0, slots := 0, locals := 0 } : Room).cells ({ frames := 0, cells := 0, slots := 0, locals := 0 } : Room).slots) := by
  refine MetFree.of_bodySF (plainFor_of_name pn_1) hisR ?_
  intro p e s m args below meth c s₁ Bd hml0 hP hK
  obtain ⟨rfl, hZ, hh⟩ := hP
  have hx := Bd.exec
  have hby := Bd.bytes
  have hml : c.maxLocals = 1 := hml0
  have hown : s.vm.findClass "com/example/mode_choice_loop/modechoiceloop/simulation/TimeHeap" = some m.cls := findClass_of_methodNamed Bd.named
  have hnm := (name_of_methodNamed Bd.named Bd.method).1
  have X : Stand p l e ({ frames := 0, cells := 0, slots := 0, locals := 0 } : Room) s m #[(.ref a1)] below meth c s₁ [] 0 0 := Stand.of_body Bd
  have eT : s₁.heap = h0 := by rw [← hh, Bd.state]; rfl
  have N := Fr.nil n0
  have K := Keep.refl h0 []
  refine Go.out ?_
  obtain ⟨T, eTT⟩ : ∃ z, z = s₁ := ⟨_, rfl⟩
  rw [← eTT] at X eT ⊢
  refine Go.by (fun tt_ kk_ => castTop (ef_12 m a1) kk_) ?_
  show Go p.tables e below (T.setTop (mkF m 0 #[.val (.ref a1)] [])) _
  refine Go.by (fun tt_ kk_ => XS.aloadN X.here hx rfl (hb hby d12_0) rfl rfl kk_) ?_
  show Go p.tables e below (T.setTop (mkF m 1 #[.val (.ref a1)] [(.ref a1)])) _
  obtain ⟨T, X, eT, st⟩ := getF X hx hZ hown (host := "") (Or.inl (hw _ (List.mem_of_getElem? (i := 24) rfl))) Via.refl eT F_size_a1 (g := (mkF m 1 #[.val (.ref a1)] [(.ref a1)])) rfl rfl (hb hby d12_1)
  refine Go.by st ?_
  show Go p.tables e below (T.setTop (mkF m 4 #[.val (.ref a1)] [(.int sz)])) _
  refine Go.by (fun tt_ kk_ => XS.ifYes X.here hx rfl (pc0 := 4) (pc' := 17) rfl (hb hby d12_4) rfl ((if0 _ _).trans (feq hs).2) (by decide) (by decide) kk_) ?_
  show Go p.tables e below (T.setTop (mkF m 17 #[.val (.ref a1)] [])) _
  exact Go.done X  (v := none) (fun _ => rfl) Bd.notSynchronized (fun fs hr => X.returnOut hx Bd.returns (hb hby d12_17) hr) (by rw [eT]; exact ⟨rfl, N, rfl⟩) (by decide) (by decide)
theorem d13_0 : decode prog_86_method_8_code 0 = .ok (.iload_n 1, 1) := by decide +kernel
theorem d13_1 : decode prog_86_method_8_code 1 = .ok (.iconst 4, 1) := by decide +kernel
theorem d13_2 : decode prog_86_method_8_code 2 = .ok (.imul, 1) := by decide +kernel
theorem d13_3 : decode prog_86_method_8_code 3 = .ok (.iconst 1, 1) := by decide +kernel
theorem d13_4 : decode prog_86_method_8_code 4 = .ok (.iadd, 1) := by decide +kernel
theorem d13_5 : decode prog_86_method_8_code 5 = .ok (.istore_n 2, 1) := by decide +kernel
theorem d13_6 : decode prog_86_method_8_code 6 = .ok (.iload_n 2, 1) := by decide +kernel
theorem d13_7 : decode prog_86_method_8_code 7 = .ok (.iconst 4, 1) := by decide +kernel
theorem d13_8 : decode prog_86_method_8_code 8 = .ok (.iadd, 1) := by decide +kernel
theorem d13_9 : decode prog_86_method_8_code 9 = .ok (.aload_n 0, 1) := by decide +kernel
theorem d13_10 : decode prog_86_method_8_code 10 = .ok (.getfield 23, 3) := by decide +kernel
theorem d13_13 : decode prog_86_method_8_code 13 = .ok (.invokestatic 53, 3) := by decide +kernel
theorem d13_16 : decode prog_86_method_8_code 16 = .ok (.istore_n 3, 1) := by decide +kernel
theorem d13_17 : decode prog_86_method_8_code 17 = .ok (.iload_n 2, 1) := by decide +kernel
theorem d13_18 : decode prog_86_method_8_code 18 = .ok (.istore 4, 2) := by decide +kernel
theorem d13_20 : decode prog_86_method_8_code 20 = .ok (.iload_n 2, 1) := by decide +kernel
theorem d13_21 : decode prog_86_method_8_code 21 = .ok (.iconst 1, 1) := by decide +kernel
theorem d13_22 : decode prog_86_method_8_code 22 = .ok (.iadd, 1) := by decide +kernel
theorem d13_23 : decode prog_86_method_8_code 23 = .ok (.istore 5, 2) := by decide +kernel
theorem d13_25 : decode prog_86_method_8_code 25 = .ok (.iload 5, 2) := by decide +kernel
theorem d13_27 : decode prog_86_method_8_code 27 = .ok (.iload_n 3, 1) := by decide +kernel
theorem d13_28 : decode prog_86_method_8_code 28 = .ok (.if_icmp .ge 47, 3) := by decide +kernel
theorem d13_31 : decode prog_86_method_8_code 31 = .ok (.aload_n 0, 1) := by decide +kernel
theorem d13_32 : decode prog_86_method_8_code 32 = .ok (.getfield 13, 3) := by decide +kernel
theorem d13_35 : decode prog_86_method_8_code 35 = .ok (.iload 5, 2) := by decide +kernel
theorem d13_37 : decode prog_86_method_8_code 37 = .ok (.daload, 1) := by decide +kernel
theorem d13_38 : decode prog_86_method_8_code 38 = .ok (.aload_n 0, 1) := by decide +kernel
theorem d13_39 : decode prog_86_method_8_code 39 = .ok (.getfield 19, 3) := by decide +kernel
theorem d13_42 : decode prog_86_method_8_code 42 = .ok (.iload 5, 2) := by decide +kernel
theorem d13_44 : decode prog_86_method_8_code 44 = .ok (.iaload, 1) := by decide +kernel
theorem d13_45 : decode prog_86_method_8_code 45 = .ok (.aload_n 0, 1) := by decide +kernel
theorem d13_46 : decode prog_86_method_8_code 46 = .ok (.getfield 13, 3) := by decide +kernel
theorem d13_49 : decode prog_86_method_8_code 49 = .ok (.iload 4, 2) := by decide +kernel
theorem d13_51 : decode prog_86_method_8_code 51 = .ok (.daload, 1) := by decide +kernel
theorem d13_52 : decode prog_86_method_8_code 52 = .ok (.aload_n 0, 1) := by decide +kernel
theorem d13_53 : decode prog_86_method_8_code 53 = .ok (.getfield 19, 3) := by decide +kernel
theorem d13_56 : decode prog_86_method_8_code 56 = .ok (.iload 4, 2) := by decide +kernel
theorem d13_58 : decode prog_86_method_8_code 58 = .ok (.iaload, 1) := by decide +kernel
theorem d13_59 : decode prog_86_method_8_code 59 = .ok (.invokestatic 36, 3) := by decide +kernel
theorem d13_62 : decode prog_86_method_8_code 62 = .ok (.ifCond .eq 7, 3) := by decide +kernel
theorem d13_65 : decode prog_86_method_8_code 65 = .ok (.iload 5, 2) := by decide +kernel
theorem d13_67 : decode prog_86_method_8_code 67 = .ok (.istore 4, 2) := by decide +kernel
theorem d13_69 : decode prog_86_method_8_code 69 = .ok (.iinc 5 1, 3) := by decide +kernel
theorem d13_72 : decode prog_86_method_8_code 72 = .ok (.goto (-47), 3) := by decide +kernel
theorem d13_75 : decode prog_86_method_8_code 75 = .ok (.iload 4, 2) := by decide +kernel
theorem d13_77 : decode prog_86_method_8_code 77 = .ok (.ireturn, 1) := by decide +kernel
theorem ef_13 (m : MethodId) (x0 : Addr) (x1 : Int32) : entryFrame m #[(.ref x0), (.int x1)] 6 = mkF m 0 #[.val (.ref x0), .val (.int x1), .unset, .unset, .unset, .unset] [] := by first | (simp [entryFrame, mkF, argsToLocals, Value.category]; done) | rfl
def Q13 (Z : State) (a1 : Addr)  (h0 : Heap) (n0 : Nat) (v : Option Value) (h : Heap) (L : List Loc) : Prop := v = some (.int 1) ∧ Fr n0 L ∧ h = h0
set_option maxRecDepth 65536 in
set_option maxHeartbeats 40000000 in
theorem rm13 (l : Launch) (Z : State) (a0 : Array Value) (hw : ∀ d ∈ tables_1, d.before a0 Z = true) (ws : List Jvm.Cond) (a1 : Addr)  (h0 : Heap) (n0 : Nat) (Z0 : n0 ≤ h0.size) (F_size_a1 : Fld Z h0 a1 "com/example/mode_choice_loop/modechoiceloop/simulation/TimeHeap" "size" "I" (.int (2 : Int32))) :
    MetFree l (⟨"com/example/mode_choice_loop/modechoiceloop/simulation/TimeHeap", "firstChild", "(I)I"⟩ : MethodName) (head1 (Jvm.Cond.code (⟨"com/example/mode_choice_loop/modechoiceloop/simulation/TimeHeap", "firstChild", "(I)I"⟩ : MethodName) prog_86_method_8_code 6 (some .int) :: ws) ({ frames := 1, cells := 0, slots := 0, locals := 13 } : Room)) (fun a U => a = #[(.ref a1), (.int (0 : Int32))] ∧ Z.Warmed39 U.vm ∧ U.heap = h0) (fun _ _ _ _ _ => True) (fun _ U o U' => ∃ v L, o = .returned v ∧ Q13 Z a1 h0 n0 v U'.heap L ∧ FrameEnd U o U' L ({ frames := 1, cells := 0, slots := 0, locals := 13 } : Room).cells ({ frames := 1, cells := 0, slots := 0, locals := 13 } : Room).slots) := by
  refine MetFree.of_bodySF (plainFor_of_name pn_1) hisR ?_
  intro p e s m args below meth c s₁ Bd hml0 hP hK
  obtain ⟨rfl, hZ, hh⟩ := hP
  have hx := Bd.exec
  have hby := Bd.bytes
  have hml : c.maxLocals = 6 := hml0
  have hown : s.vm.findClass "com/example/mode_choice_loop/modechoiceloop/simulation/TimeHeap" = some m.cls := findClass_of_methodNamed Bd.named
  have hnm := (name_of_methodNamed Bd.named Bd.method).1
  have X : Stand p l e ({ frames := 1, cells := 0, slots := 0, locals := 13 } : Room) s m #[(.ref a1), (.int (0 : Int32))] below meth c s₁ [] 0 0 := Stand.of_body Bd
  have eT : s₁.heap = h0 := by rw [← hh, Bd.state]; rfl
  have N := Fr.nil n0
  have K := Keep.refl h0 []
  refine Go.out ?_
  obtain ⟨T, eTT⟩ : ∃ z, z = s₁ := ⟨_, rfl⟩
  rw [← eTT] at X eT ⊢
  refine Go.by (fun tt_ kk_ => castTop (ef_13 m a1 (0 : Int32)) kk_) ?_
  show Go p.tables e below (T.setTop (mkF m 0 #[.val (.ref a1), .val (.int (0 : Int32)), .unset, .unset, .unset, .unset] [])) _
  refine Go.by (fun tt_ kk_ => XS.iloadN X.here hx rfl (hb hby d13_0) rfl kk_) ?_
  show Go p.tables e below (T.setTop (mkF m 1 #[.val (.ref a1), .val (.int (0 : Int32)), .unset, .unset, .unset, .unset] [(.int (0 : Int32))])) _
  refine Go.by (fun tt_ kk_ => XS.iconst X.here hx rfl (hb hby d13_1) kk_) ?_
  show Go p.tables e below (T.setTop (mkF m 2 #[.val (.ref a1), .val (.int (0 : Int32)), .unset, .unset, .unset, .unset] [(.int (4 : Int32)), (.int (0 : Int32))])) _
  refine Go.by (fun tt_ kk_ => XS.imul X.here hx rfl (hb hby d13_2) rfl kk_) ?_
  show Go p.tables e below (T.setTop (mkF m 3 #[.val (.ref a1), .val (.int (0 : Int32)), .unset, .unset, .unset, .unset] [(.int (0 : Int32))])) _
  refine Go.by (fun tt_ kk_ => XS.iconst X.here hx rfl (hb hby d13_3) kk_) ?_
  show Go p.tables e below (T.setTop (mkF m 4 #[.val (.ref a1), .val (.int (0 : Int32)), .unset, .unset, .unset, .unset] [(.int (1 : Int32)), (.int (0 : Int32))])) _
  refine Go.by (fun tt_ kk_ => XS.iadd X.here hx rfl (hb hby d13_4) rfl kk_) ?_
  show Go p.tables e below (T.setTop (mkF m 5 #[.val (.ref a1), .val (.int (0 : Int32)), .unset, .unset, .unset, .unset] [(.int (1 : Int32))])) _
  refine Go.by (fun tt_ kk_ => XS.istoreN X.here hx rfl (hb hby d13_5) rfl (l' := #[.val (.ref a1), .val (.int (0 : Int32)), .val (.int (1 : Int32)), .unset, .unset, .unset]) rfl kk_) ?_
  show Go p.tables e below (T.setTop (mkF m 6 #[.val (.ref a1), .val (.int (0 : Int32)), .val (.int (1 : Int32)), .unset, .unset, .unset] [])) _
  refine Go.by (fun tt_ kk_ => XS.iloadN X.here hx rfl (hb hby d13_6) rfl kk_) ?_
  show Go p.tables e below (T.setTop (mkF m 7 #[.val (.ref a1), .val (.int (0 : Int32)), .val (.int (1 : Int32)), .unset, .unset, .unset] [(.int (1 : Int32))])) _
  refine Go.by (fun tt_ kk_ => XS.iconst X.here hx rfl (hb hby d13_7) kk_) ?_
  show Go p.tables e below (T.setTop (mkF m 8 #[.val (.ref a1), .val (.int (0 : Int32)), .val (.int (1 : Int32)), .unset, .unset, .unset] [(.int (4 : Int32)), (.int (1 : Int32))])) _
  refine Go.by (fun tt_ kk_ => XS.iadd X.here hx rfl (hb hby d13_8) rfl kk_) ?_
  show Go p.tables e below (T.setTop (mkF m 9 #[.val (.ref a1), .val (.int (0 : Int32)), .val (.int (1 : Int32)), .unset, .unset, .unset] [(.int (5 : Int32))])) _
  refine Go.by (fun tt_ kk_ => XS.aloadN X.here hx rfl (hb hby d13_9) rfl rfl kk_) ?_
  show Go p.tables e below (T.setTop (mkF m 10 #[.val (.ref a1), .val (.int (0 : Int32)), .val (.int (1 : Int32)), .unset, .unset, .unset] [(.ref a1), (.int (5 : Int32))])) _
  obtain ⟨T, X, eT, st⟩ := getF X hx hZ hown (host := "") (Or.inl (hw _ (List.mem_of_getElem? (i := 24) rfl))) Via.refl eT F_size_a1 (g := (mkF m 10 #[.val (.ref a1), .val (.int (0 : Int32)), .val (.int (1 : Int32)), .unset, .unset, .unset] [(.ref a1), (.int (5 : Int32))])) rfl rfl (hb hby d13_10)
  refine Go.by st ?_
  show Go p.tables e below (T.setTop (mkF m 13 #[.val (.ref a1), .val (.int (0 : Int32)), .val (.int (1 : Int32)), .unset, .unset, .unset] [(.int (2 : Int32)), (.int (5 : Int32))])) _
  have hz : (if (2 : Int32) < (5 : Int32) then (2 : Int32) else (5 : Int32)) = (2 : Int32) := by decide
  obtain ⟨_, _, ⟨T, L_, k_, n_⟩, -, X, ⟨Lc_, hQ, l_, y_, z_⟩, st⟩ := Jvm.LawKit.callS X hx (y := (⟨"java/lang/Math", "min", "(II)I"⟩ : MethodName)) hown (mvT hZ (hw _ (List.mem_of_getElem? (i := 66) rfl))) (mvT hZ (hw _ (List.mem_of_getElem? (i := 36) rfl))) (mvT hZ (hw _ (List.mem_of_getElem? (i := 11) rfl))) (mvT hZ (hw _ (List.mem_of_getElem? (i := 37) rfl))) (by decide) (backOf (W := 0) (rm7 l Z a0 hw [] (5 : Int32) (2 : Int32) h0 n0 (Nat.le_trans Z0 K.1) ) hZ (hw _ (List.mem_of_getElem? (i := 37) rfl)) (hw _ (List.mem_of_getElem? (i := 11) rfl)) (by decide) (by decide)) (g := (mkF m 13 #[.val (.ref a1), .val (.int (0 : Int32)), .val (.int (1 : Int32)), .unset, .unset, .unset] [(.int (2 : Int32)), (.int (5 : Int32))])) rfl (by rw [hml]; rfl) (argsL := [(.int (5 : Int32)), (.int (2 : Int32))]) (rest := []) (lenOf pd_3 rfl) rfl (by show 2 * 0 + _ ≤ _; exact Nat.le_of_eq rfl) (hb hby d13_13) (fun _ _ => ⟨rfl, eT, (by decide : 0 + 0 ≤ _), (by decide : 0 + 0 ≤ _)⟩)
  dsimp only [Pt.U, Pt.locs, Pt.cells, Pt.slots] at X l_ y_ z_ st hQ
  subst l_ y_ z_
  obtain ⟨e_v, Nq, eh⟩ := hQ
  rw [hz] at e_v
  subst e_v
  have N := Fr.app N Nq
  have eT := eh
  refine Go.by st ?_
  show Go p.tables e below (T.setTop (mkF m 16 #[.val (.ref a1), .val (.int (0 : Int32)), .val (.int (1 : Int32)), .unset, .unset, .unset] [(.int (2 : Int32))])) _
  refine Go.by (fun tt_ kk_ => XS.istoreN X.here hx rfl (hb hby d13_16) rfl (l' := #[.val (.ref a1), .val (.int (0 : Int32)), .val (.int (1 : Int32)), .val (.int (2 : Int32)), .unset, .unset]) rfl kk_) ?_
  show Go p.tables e below (T.setTop (mkF m 17 #[.val (.ref a1), .val (.int (0 : Int32)), .val (.int (1 : Int32)), .val (.int (2 : Int32)), .unset, .unset] [])) _
  refine Go.by (fun tt_ kk_ => XS.iloadN X.here hx rfl (hb hby d13_17) rfl kk_) ?_
  show Go p.tables e below (T.setTop (mkF m 18 #[.val (.ref a1), .val (.int (0 : Int32)), .val (.int (1 : Int32)), .val (.int (2 : Int32)), .unset, .unset] [(.int (1 : Int32))])) _
  refine Go.by (fun tt_ kk_ => XS.istore X.here hx rfl (hb hby d13_18) rfl (l' := #[.val (.ref a1), .val (.int (0 : Int32)), .val (.int (1 : Int32)), .val (.int (2 : Int32)), .val (.int (1 : Int32)), .unset]) rfl kk_) ?_
  show Go p.tables e below (T.setTop (mkF m 20 #[.val (.ref a1), .val (.int (0 : Int32)), .val (.int (1 : Int32)), .val (.int (2 : Int32)), .val (.int (1 : Int32)), .unset] [])) _
  refine Go.by (fun tt_ kk_ => XS.iloadN X.here hx rfl (hb hby d13_20) rfl kk_) ?_
  show Go p.tables e below (T.setTop (mkF m 21 #[.val (.ref a1), .val (.int (0 : Int32)), .val (.int (1 : Int32)), .val (.int (2 : Int32)), .val (.int (1 : Int32)), .unset] [(.int (1 : Int32))])) _
  refine Go.by (fun tt_ kk_ => XS.iconst X.here hx rfl (hb hby d13_21) kk_) ?_
  show Go p.tables e below (T.setTop (mkF m 22 #[.val (.ref a1), .val (.int (0 : Int32)), .val (.int (1 : Int32)), .val (.int (2 : Int32)), .val (.int (1 : Int32)), .unset] [(.int (1 : Int32)), (.int (1 : Int32))])) _
  refine Go.by (fun tt_ kk_ => XS.iadd X.here hx rfl (hb hby d13_22) rfl kk_) ?_
  show Go p.tables e below (T.setTop (mkF m 23 #[.val (.ref a1), .val (.int (0 : Int32)), .val (.int (1 : Int32)), .val (.int (2 : Int32)), .val (.int (1 : Int32)), .unset] [(.int (2 : Int32))])) _
  refine Go.by (fun tt_ kk_ => XS.istore X.here hx rfl (hb hby d13_23) rfl (l' := #[.val (.ref a1), .val (.int (0 : Int32)), .val (.int (1 : Int32)), .val (.int (2 : Int32)), .val (.int (1 : Int32)), .val (.int (2 : Int32))]) rfl kk_) ?_
  show Go p.tables e below (T.setTop (mkF m 25 #[.val (.ref a1), .val (.int (0 : Int32)), .val (.int (1 : Int32)), .val (.int (2 : Int32)), .val (.int (1 : Int32)), .val (.int (2 : Int32))] [])) _
  refine Go.by (fun tt_ kk_ => XS.iload X.here hx rfl (hb hby d13_25) rfl kk_) ?_
  show Go p.tables e below (T.setTop (mkF m 27 #[.val (.ref a1), .val (.int (0 : Int32)), .val (.int (1 : Int32)), .val (.int (2 : Int32)), .val (.int (1 : Int32)), .val (.int (2 : Int32))] [(.int (2 : Int32))])) _
  refine Go.by (fun tt_ kk_ => XS.iloadN X.here hx rfl (hb hby d13_27) rfl kk_) ?_
  show Go p.tables e below (T.setTop (mkF m 28 #[.val (.ref a1), .val (.int (0 : Int32)), .val (.int (1 : Int32)), .val (.int (2 : Int32)), .val (.int (1 : Int32)), .val (.int (2 : Int32))] [(.int (2 : Int32)), (.int (2 : Int32))])) _
  refine Go.by (fun tt_ kk_ => XS.icmpYes X.here hx rfl (pc0 := 28) (pc' := 75) rfl (hb hby d13_28) rfl (flt (by decide : ¬ ((2 : Int32) < (2 : Int32)))).2.1 (by decide) (by decide) kk_) ?_
  show Go p.tables e below (T.setTop (mkF m 75 #[.val (.ref a1), .val (.int (0 : Int32)), .val (.int (1 : Int32)), .val (.int (2 : Int32)), .val (.int (1 : Int32)), .val (.int (2 : Int32))] [])) _
  refine Go.by (fun tt_ kk_ => XS.iload X.here hx rfl (hb hby d13_75) rfl kk_) ?_
  show Go p.tables e below (T.setTop (mkF m 77 #[.val (.ref a1), .val (.int (0 : Int32)), .val (.int (1 : Int32)), .val (.int (2 : Int32)), .val (.int (1 : Int32)), .val (.int (2 : Int32))] [(.int (1 : Int32))])) _
  exact Go.done X  (v := some (.int (1 : Int32))) (fun h => by rw [Bd.returns] at h; cases h) Bd.notSynchronized (fun fs hr => retOut X hx Bd.returns rfl (by simp [Value.isRef, FieldType.isReference]) (hb hby d13_77) hr) (by rw [eT]; exact ⟨rfl, N, rfl⟩) (by decide) (by decide)
theorem d5_0 : decode prog_86_method_3_code 0 = .ok (.aload_n 0, 1) := by decide +kernel
theorem d5_1 : decode prog_86_method_3_code 1 = .ok (.getfield 23, 3) := by decide +kernel
theorem d5_4 : decode prog_86_method_3_code 4 = .ok (.aload_n 0, 1) := by decide +kernel
theorem d5_5 : decode prog_86_method_3_code 5 = .ok (.getfield 13, 3) := by decide +kernel
theorem d5_8 : decode prog_86_method_3_code 8 = .ok (.arraylength, 1) := by decide +kernel
theorem d5_9 : decode prog_86_method_3_code 9 = .ok (.if_icmp .ne 37, 3) := by decide +kernel
theorem d5_12 : decode prog_86_method_3_code 12 = .ok (.aload_n 0, 1) := by decide +kernel
theorem d5_13 : decode prog_86_method_3_code 13 = .ok (.aload_n 0, 1) := by decide +kernel
theorem d5_14 : decode prog_86_method_3_code 14 = .ok (.getfield 13, 3) := by decide +kernel
theorem d5_17 : decode prog_86_method_3_code 17 = .ok (.iconst 2, 1) := by decide +kernel
theorem d5_18 : decode prog_86_method_3_code 18 = .ok (.aload_n 0, 1) := by decide +kernel
theorem d5_19 : decode prog_86_method_3_code 19 = .ok (.getfield 23, 3) := by decide +kernel
theorem d5_22 : decode prog_86_method_3_code 22 = .ok (.imul, 1) := by decide +kernel
theorem d5_23 : decode prog_86_method_3_code 23 = .ok (.invokestatic 27, 3) := by decide +kernel
theorem d5_26 : decode prog_86_method_3_code 26 = .ok (.putfield 13, 3) := by decide +kernel
theorem d5_29 : decode prog_86_method_3_code 29 = .ok (.aload_n 0, 1) := by decide +kernel
theorem d5_30 : decode prog_86_method_3_code 30 = .ok (.aload_n 0, 1) := by decide +kernel
theorem d5_31 : decode prog_86_method_3_code 31 = .ok (.getfield 19, 3) := by decide +kernel
theorem d5_34 : decode prog_86_method_3_code 34 = .ok (.iconst 2, 1) := by decide +kernel
theorem d5_35 : decode prog_86_method_3_code 35 = .ok (.aload_n 0, 1) := by decide +kernel
theorem d5_36 : decode prog_86_method_3_code 36 = .ok (.getfield 23, 3) := by decide +kernel
theorem d5_39 : decode prog_86_method_3_code 39 = .ok (.imul, 1) := by decide +kernel
theorem d5_40 : decode prog_86_method_3_code 40 = .ok (.invokestatic 33, 3) := by decide +kernel
theorem d5_43 : decode prog_86_method_3_code 43 = .ok (.putfield 19, 3) := by decide +kernel
theorem d5_46 : decode prog_86_method_3_code 46 = .ok (.aload_n 0, 1) := by decide +kernel
theorem d5_47 : decode prog_86_method_3_code 47 = .ok (.dup, 1) := by decide +kernel
theorem d5_48 : decode prog_86_method_3_code 48 = .ok (.getfield 23, 3) := by decide +kernel
theorem d5_51 : decode prog_86_method_3_code 51 = .ok (.dup_x1, 1) := by decide +kernel
theorem d5_52 : decode prog_86_method_3_code 52 = .ok (.iconst 1, 1) := by decide +kernel
theorem d5_53 : decode prog_86_method_3_code 53 = .ok (.iadd, 1) := by decide +kernel
theorem d5_54 : decode prog_86_method_3_code 54 = .ok (.putfield 23, 3) := by decide +kernel
theorem d5_57 : decode prog_86_method_3_code 57 = .ok (.istore 4, 2) := by decide +kernel
theorem d5_59 : decode prog_86_method_3_code 59 = .ok (.iload 4, 2) := by decide +kernel
theorem d5_61 : decode prog_86_method_3_code 61 = .ok (.ifCond .le 71, 3) := by decide +kernel
theorem d5_64 : decode prog_86_method_3_code 64 = .ok (.iload 4, 2) := by decide +kernel
theorem d5_66 : decode prog_86_method_3_code 66 = .ok (.iconst 1, 1) := by decide +kernel
theorem d5_67 : decode prog_86_method_3_code 67 = .ok (.isub, 1) := by decide +kernel
theorem d5_68 : decode prog_86_method_3_code 68 = .ok (.iconst 4, 1) := by decide +kernel
theorem d5_69 : decode prog_86_method_3_code 69 = .ok (.idiv, 1) := by decide +kernel
theorem d5_70 : decode prog_86_method_3_code 70 = .ok (.istore 5, 2) := by decide +kernel
theorem d5_72 : decode prog_86_method_3_code 72 = .ok (.dload_n 2, 1) := by decide +kernel
theorem d5_73 : decode prog_86_method_3_code 73 = .ok (.iload_n 1, 1) := by decide +kernel
theorem d5_74 : decode prog_86_method_3_code 74 = .ok (.aload_n 0, 1) := by decide +kernel
theorem d5_75 : decode prog_86_method_3_code 75 = .ok (.getfield 13, 3) := by decide +kernel
theorem d5_78 : decode prog_86_method_3_code 78 = .ok (.iload 5, 2) := by decide +kernel
theorem d5_80 : decode prog_86_method_3_code 80 = .ok (.daload, 1) := by decide +kernel
theorem d5_81 : decode prog_86_method_3_code 81 = .ok (.aload_n 0, 1) := by decide +kernel
theorem d5_82 : decode prog_86_method_3_code 82 = .ok (.getfield 19, 3) := by decide +kernel
theorem d5_85 : decode prog_86_method_3_code 85 = .ok (.iload 5, 2) := by decide +kernel
theorem d5_87 : decode prog_86_method_3_code 87 = .ok (.iaload, 1) := by decide +kernel
theorem d5_88 : decode prog_86_method_3_code 88 = .ok (.invokestatic 36, 3) := by decide +kernel
theorem d5_91 : decode prog_86_method_3_code 91 = .ok (.ifCond .ne 6, 3) := by decide +kernel
theorem d5_94 : decode prog_86_method_3_code 94 = .ok (.goto 38, 3) := by decide +kernel
theorem d5_97 : decode prog_86_method_3_code 97 = .ok (.aload_n 0, 1) := by decide +kernel
theorem d5_98 : decode prog_86_method_3_code 98 = .ok (.getfield 13, 3) := by decide +kernel
theorem d5_101 : decode prog_86_method_3_code 101 = .ok (.iload 4, 2) := by decide +kernel
theorem d5_103 : decode prog_86_method_3_code 103 = .ok (.aload_n 0, 1) := by decide +kernel
theorem d5_104 : decode prog_86_method_3_code 104 = .ok (.getfield 13, 3) := by decide +kernel
theorem d5_107 : decode prog_86_method_3_code 107 = .ok (.iload 5, 2) := by decide +kernel
theorem d5_109 : decode prog_86_method_3_code 109 = .ok (.daload, 1) := by decide +kernel
theorem d5_110 : decode prog_86_method_3_code 110 = .ok (.dastore, 1) := by decide +kernel
theorem d5_111 : decode prog_86_method_3_code 111 = .ok (.aload_n 0, 1) := by decide +kernel
theorem d5_112 : decode prog_86_method_3_code 112 = .ok (.getfield 19, 3) := by decide +kernel
theorem d5_115 : decode prog_86_method_3_code 115 = .ok (.iload 4, 2) := by decide +kernel
theorem d5_117 : decode prog_86_method_3_code 117 = .ok (.aload_n 0, 1) := by decide +kernel
theorem d5_118 : decode prog_86_method_3_code 118 = .ok (.getfield 19, 3) := by decide +kernel
theorem d5_121 : decode prog_86_method_3_code 121 = .ok (.iload 5, 2) := by decide +kernel
theorem d5_123 : decode prog_86_method_3_code 123 = .ok (.iaload, 1) := by decide +kernel
theorem d5_124 : decode prog_86_method_3_code 124 = .ok (.iastore, 1) := by decide +kernel
theorem d5_125 : decode prog_86_method_3_code 125 = .ok (.iload 5, 2) := by decide +kernel
theorem d5_127 : decode prog_86_method_3_code 127 = .ok (.istore 4, 2) := by decide +kernel
theorem d5_129 : decode prog_86_method_3_code 129 = .ok (.goto (-70), 3) := by decide +kernel
theorem d5_132 : decode prog_86_method_3_code 132 = .ok (.aload_n 0, 1) := by decide +kernel
theorem d5_133 : decode prog_86_method_3_code 133 = .ok (.getfield 13, 3) := by decide +kernel
theorem d5_136 : decode prog_86_method_3_code 136 = .ok (.iload 4, 2) := by decide +kernel
theorem d5_138 : decode prog_86_method_3_code 138 = .ok (.dload_n 2, 1) := by decide +kernel
theorem d5_139 : decode prog_86_method_3_code 139 = .ok (.dastore, 1) := by decide +kernel
theorem d5_140 : decode prog_86_method_3_code 140 = .ok (.aload_n 0, 1) := by decide +kernel
theorem d5_141 : decode prog_86_method_3_code 141 = .ok (.getfield 19, 3) := by decide +kernel
theorem d5_144 : decode prog_86_method_3_code 144 = .ok (.iload 4, 2) := by decide +kernel
theorem d5_146 : decode prog_86_method_3_code 146 = .ok (.iload_n 1, 1) := by decide +kernel
theorem d5_147 : decode prog_86_method_3_code 147 = .ok (.iastore, 1) := by decide +kernel
theorem d5_148 : decode prog_86_method_3_code 148 = .ok (.iload 4, 2) := by decide +kernel
theorem d5_150 : decode prog_86_method_3_code 150 = .ok (.ifCond .ne 7, 3) := by decide +kernel
theorem d5_153 : decode prog_86_method_3_code 153 = .ok (.iconst 1, 1) := by decide +kernel
theorem d5_154 : decode prog_86_method_3_code 154 = .ok (.goto 4, 3) := by decide +kernel
theorem d5_157 : decode prog_86_method_3_code 157 = .ok (.iconst 0, 1) := by decide +kernel
theorem d5_158 : decode prog_86_method_3_code 158 = .ok (.ireturn, 1) := by decide +kernel
theorem ef_5 (m : MethodId) (x0 : Addr) (x1 : Int32) (x2 : UInt64) : entryFrame m #[(.ref x0), (.int x1), (.double x2)] 6 = mkF m 0 #[.val (.ref x0), .val (.int x1), .val (.double x2), .second, .unset, .unset] [] := by first | (simp [entryFrame, mkF, argsToLocals, Value.category]; done) | rfl
def Q5_0 (Z : State) (a1 : Addr) (p2 : Int32) (x3 : UInt64)  (h0 : Heap) (n0 : Nat) (v : Option Value) (h : Heap) (L : List Loc) : Prop := ∃ r : Int32, v = some (.int r) ∧ Fr n0 L ∧ (h0.size ≤ h.size ∧ True) ∧ own_TH Z h n0 a1 (1 : Int32)
set_option maxRecDepth 65536 in
set_option maxHeartbeats 40000000 in
theorem rm5_0 (l : Launch) (Z : State) (a0 : Array Value) (hw : ∀ d ∈ tables_1, d.before a0 Z = true) (ws : List Jvm.Cond) (a1 : Addr) (p2 : Int32) (x3 : UInt64)  (h0 : Heap) (n0 : Nat) (Z0 : n0 ≤ h0.size) (TH : own_TH Z h0 n0 a1 (0 : Int32)) (nn_x3 : NoNaN64 x3) :
    MetFree l (⟨"com/example/mode_choice_loop/modechoiceloop/simulation/TimeHeap", "add", "(ID)Z"⟩ : MethodName) (head1 (Jvm.Cond.code (⟨"com/example/mode_choice_loop/modechoiceloop/simulation/TimeHeap", "add", "(ID)Z"⟩ : MethodName) prog_86_method_3_code 6 (some .boolean) :: ws) ({ frames := 4, cells := 2, slots := 8, locals := 65 } : Room)) (fun a U => a = #[(.ref a1), (.int p2), (.double x3)] ∧ Z.Warmed39 U.vm ∧ U.heap = h0) (fun _ _ _ _ _ => True) (fun _ U o U' => ∃ v L, o = .returned v ∧ Q5_0 Z a1 p2 x3 h0 n0 v U'.heap L ∧ FrameEnd U o U' L ({ frames := 4, cells := 2, slots := 8, locals := 65 } : Room).cells ({ frames := 4, cells := 2, slots := 8, locals := 65 } : Room).slots) := by
  obtain ⟨E_a1, g_a1, ti, nu, kt, km, cc, y0, y1, y2, y3, i0, i1, i2, i3, F_times_a1, F_numbers_a1, F_size_a1, V_ti, V_nu, g_ti, g_nu, ne_a1_ti, ne_a1_nu, ne_ti_nu, nn_y0, nn_y1, nn_y2, nn_y3, bc1, bc2, bs⟩ := TH
  have ne_ti_a1 := Ne.symm ne_a1_ti
  have ne_nu_a1 := Ne.symm ne_a1_nu
  have ne_nu_ti := Ne.symm ne_ti_nu
  have bs' := bs
  rw [show ((0 : Int32)).toInt = 0 by decide] at bs'
  have hl0 : (0 : Int32) < cc := by rw [Int32.lt_iff_toInt_lt, show ((0 : Int32)).toInt = 0 by decide]; omega
  have bs_0 : ((0 : Int32)).toInt ≤ cc.toInt := by rw [show ((0 : Int32)).toInt = 0 by decide]; omega
  refine MetFree.of_bodySF (plainFor_of_name pn_1) hisR ?_
  intro p e s m args below meth c s₁ Bd hml0 hP hK
  obtain ⟨rfl, hZ, hh⟩ := hP
  have hx := Bd.exec
  have hby := Bd.bytes
  have hml : c.maxLocals = 6 := hml0
  have hown : s.vm.findClass "com/example/mode_choice_loop/modechoiceloop/simulation/TimeHeap" = some m.cls := findClass_of_methodNamed Bd.named
  have hnm := (name_of_methodNamed Bd.named Bd.method).1
  have X : Stand p l e ({ frames := 4, cells := 2, slots := 8, locals := 65 } : Room) s m #[(.ref a1), (.int p2), (.double x3)] below meth c s₁ [] 0 0 := Stand.of_body Bd
  have eT : s₁.heap = h0 := by rw [← hh, Bd.state]; rfl
  have N := Fr.nil n0
  have K : h0.size ≤ h0.size ∧ True := ⟨Nat.le_refl _, trivial⟩
  refine Go.out ?_
  obtain ⟨T, eTT⟩ : ∃ z, z = s₁ := ⟨_, rfl⟩
  rw [← eTT] at X eT ⊢
  refine Go.by (fun tt_ kk_ => castTop (ef_5 m a1 p2 x3) kk_) ?_
  show Go p.tables e below (T.setTop (mkF m 0 #[.val (.ref a1), .val (.int p2), .val (.double x3), .second, .unset, .unset] [])) _
  refine Go.by (fun tt_ kk_ => XS.aloadN X.here hx rfl (hb hby d5_0) rfl rfl kk_) ?_
  show Go p.tables e below (T.setTop (mkF m 1 #[.val (.ref a1), .val (.int p2), .val (.double x3), .second, .unset, .unset] [(.ref a1)])) _
  obtain ⟨T, X, eT, st⟩ := getF X hx hZ hown (host := "") (Or.inl (hw _ (List.mem_of_getElem? (i := 24) rfl))) Via.refl eT F_size_a1 (g := (mkF m 1 #[.val (.ref a1), .val (.int p2), .val (.double x3), .second, .unset, .unset] [(.ref a1)])) rfl rfl (hb hby d5_1)
  refine Go.by st ?_
  show Go p.tables e below (T.setTop (mkF m 4 #[.val (.ref a1), .val (.int p2), .val (.double x3), .second, .unset, .unset] [(.int (0 : Int32))])) _
  refine Go.by (fun tt_ kk_ => XS.aloadN X.here hx rfl (hb hby d5_4) rfl rfl kk_) ?_
  show Go p.tables e below (T.setTop (mkF m 5 #[.val (.ref a1), .val (.int p2), .val (.double x3), .second, .unset, .unset] [(.ref a1), (.int (0 : Int32))])) _
  obtain ⟨T, X, eT, st⟩ := getF X hx hZ hown (host := "") (Or.inl (hw _ (List.mem_of_getElem? (i := 14) rfl))) Via.refl eT F_times_a1 (g := (mkF m 5 #[.val (.ref a1), .val (.int p2), .val (.double x3), .second, .unset, .unset] [(.ref a1), (.int (0 : Int32))])) rfl rfl (hb hby d5_5)
  refine Go.by st ?_
  show Go p.tables e below (T.setTop (mkF m 8 #[.val (.ref a1), .val (.int p2), .val (.double x3), .second, .unset, .unset] [(.ref ti), (.int (0 : Int32))])) _
  have Vo_ := V_ti
  obtain ⟨cl_, Ar_, q_, S_, N_, H_, G_⟩ := Vo_
  refine Go.by (X.arraylength hx (by rw [eT]; exact Ar_.1) (State.isArrayOf_alike hZ.alike Ar_.2.1) (g := (mkF m 8 #[.val (.ref a1), .val (.int p2), .val (.double x3), .second, .unset, .unset] [(.ref ti), (.int (0 : Int32))])) rfl rfl (hb hby d5_8)) ?_
  rw [len_of S_ N_]
  show Go p.tables e below (T.setTop (mkF m 9 #[.val (.ref a1), .val (.int p2), .val (.double x3), .second, .unset, .unset] [(.int cc), (.int (0 : Int32))])) _
  have hc9 : ¬ (0 : Int32) = cc := fun q => by rw [← q] at bc1; exact absurd bc1 (by decide)
  have bs_1 : (1 : Int32).toInt ≤ cc.toInt := bc1
  refine Go.by (fun tt_ kk_ => XS.icmpYes X.here hx rfl (pc0 := 9) (pc' := 46) rfl (hb hby d5_9) rfl (feq hc9).2 (by decide) (by decide) kk_) ?_
  show Go p.tables e below (T.setTop (mkF m 46 #[.val (.ref a1), .val (.int p2), .val (.double x3), .second, .unset, .unset] [])) _
  refine Go.by (fun tt_ kk_ => XS.aloadN X.here hx rfl (hb hby d5_46) rfl rfl kk_) ?_
  show Go p.tables e below (T.setTop (mkF m 47 #[.val (.ref a1), .val (.int p2), .val (.double x3), .second, .unset, .unset] [(.ref a1)])) _
  refine Go.by (fun tt_ kk_ => XS.dup X.here hx rfl (hb hby d5_47) rfl rfl kk_) ?_
  show Go p.tables e below (T.setTop (mkF m 48 #[.val (.ref a1), .val (.int p2), .val (.double x3), .second, .unset, .unset] [(.ref a1), (.ref a1)])) _
  obtain ⟨T, X, eT, st⟩ := getF X hx hZ hown (host := "") (Or.inl (hw _ (List.mem_of_getElem? (i := 24) rfl))) Via.refl eT F_size_a1 (g := (mkF m 48 #[.val (.ref a1), .val (.int p2), .val (.double x3), .second, .unset, .unset] [(.ref a1), (.ref a1)])) rfl rfl (hb hby d5_48)
  refine Go.by st ?_
  show Go p.tables e below (T.setTop (mkF m 51 #[.val (.ref a1), .val (.int p2), .val (.double x3), .second, .unset, .unset] [(.int (0 : Int32)), (.ref a1)])) _
  refine Go.by (fun tt_ kk_ => XS.dupX1 X.here hx rfl (hb hby d5_51) rfl rfl rfl kk_) ?_
  show Go p.tables e below (T.setTop (mkF m 52 #[.val (.ref a1), .val (.int p2), .val (.double x3), .second, .unset, .unset] [(.int (0 : Int32)), (.ref a1), (.int (0 : Int32))])) _
  refine Go.by (fun tt_ kk_ => XS.iconst X.here hx rfl (hb hby d5_52) kk_) ?_
  show Go p.tables e below (T.setTop (mkF m 53 #[.val (.ref a1), .val (.int p2), .val (.double x3), .second, .unset, .unset] [(.int (1 : Int32)), (.int (0 : Int32)), (.ref a1), (.int (0 : Int32))])) _
  refine Go.by (fun tt_ kk_ => XS.iadd X.here hx rfl (hb hby d5_53) rfl kk_) ?_
  show Go p.tables e below (T.setTop (mkF m 54 #[.val (.ref a1), .val (.int p2), .val (.double x3), .second, .unset, .unset] [(.int (1 : Int32)), (.ref a1), (.int (0 : Int32))])) _
  obtain ⟨T, h1, X, eT, Wh1, st⟩ := putF X hx hZ hown (host := "") (Or.inl (hw _ (List.mem_of_getElem? (i := 24) rfl))) Via.refl eT F_size_a1 E_a1 (Or.inl (hw _ (List.mem_of_getElem? (i := 25) rfl))) (hw _ (List.mem_of_getElem? (i := 1) rfl)) (ty := .int) (by decide) rfl rfl (g := (mkF m 54 #[.val (.ref a1), .val (.int p2), .val (.double x3), .second, .unset, .unset] [(.int (1 : Int32)), (.ref a1), (.int (0 : Int32))])) rfl rfl (hb hby d5_54)
  have F_size_a1 := Fld.same Wh1 F_size_a1
  have E_a1 := Exa.wr Wh1 E_a1
  have F_times_a1 := Fld.other Wh1 F_times_a1 (Or.inr (slot_ne (Or.inl (hw _ (List.mem_of_getElem? (i := 15) rfl))) (Or.inl (hw _ (List.mem_of_getElem? (i := 25) rfl))) (by decide) (t := (.array .double)) (t' := .int) (by decide) (by decide)))
  have F_numbers_a1 := Fld.other Wh1 F_numbers_a1 (Or.inr (slot_ne (Or.inl (hw _ (List.mem_of_getElem? (i := 18) rfl))) (Or.inl (hw _ (List.mem_of_getElem? (i := 25) rfl))) (by decide) (t := (.array .int)) (t' := .int) (by decide) (by decide)))
  have V_ti := Arv.other V_ti Wh1 ne_ti_a1
  have V_nu := Arv.other V_nu Wh1 ne_nu_a1
  have N := Fr.snoc X N g_a1
  have K := And.intro (Nat.le_trans K.1 (Nat.le_of_eq (Wr.size Wh1).symm)) trivial
  refine Go.by st ?_
  show Go p.tables e below (T.setTop (mkF m 57 #[.val (.ref a1), .val (.int p2), .val (.double x3), .second, .unset, .unset] [(.int (0 : Int32))])) _
  refine Go.by (fun tt_ kk_ => XS.istore X.here hx rfl (hb hby d5_57) rfl (l' := #[.val (.ref a1), .val (.int p2), .val (.double x3), .second, .val (.int (0 : Int32)), .unset]) rfl kk_) ?_
  show Go p.tables e below (T.setTop (mkF m 59 #[.val (.ref a1), .val (.int p2), .val (.double x3), .second, .val (.int (0 : Int32)), .unset] [])) _
  refine Go.by (fun tt_ kk_ => XS.iload X.here hx rfl (hb hby d5_59) rfl kk_) ?_
  show Go p.tables e below (T.setTop (mkF m 61 #[.val (.ref a1), .val (.int p2), .val (.double x3), .second, .val (.int (0 : Int32)), .unset] [(.int (0 : Int32))])) _
  refine Go.by (fun tt_ kk_ => XS.ifYes X.here hx rfl (pc0 := 61) (pc' := 132) rfl (hb hby d5_61) rfl ((if0 _ _).trans (flt (by decide : ¬ ((0 : Int32) < (0 : Int32)))).2.2.2) (by decide) (by decide) kk_) ?_
  show Go p.tables e below (T.setTop (mkF m 132 #[.val (.ref a1), .val (.int p2), .val (.double x3), .second, .val (.int (0 : Int32)), .unset] [])) _
  refine Go.by (fun tt_ kk_ => XS.aloadN X.here hx rfl (hb hby d5_132) rfl rfl kk_) ?_
  show Go p.tables e below (T.setTop (mkF m 133 #[.val (.ref a1), .val (.int p2), .val (.double x3), .second, .val (.int (0 : Int32)), .unset] [(.ref a1)])) _
  obtain ⟨T, X, eT, st⟩ := getF X hx hZ hown (host := "") (Or.inl (hw _ (List.mem_of_getElem? (i := 14) rfl))) Via.refl eT F_times_a1 (g := (mkF m 133 #[.val (.ref a1), .val (.int p2), .val (.double x3), .second, .val (.int (0 : Int32)), .unset] [(.ref a1)])) rfl rfl (hb hby d5_133)
  refine Go.by st ?_
  show Go p.tables e below (T.setTop (mkF m 136 #[.val (.ref a1), .val (.int p2), .val (.double x3), .second, .val (.int (0 : Int32)), .unset] [(.ref ti)])) _
  refine Go.by (fun tt_ kk_ => XS.iload X.here hx rfl (hb hby d5_136) rfl kk_) ?_
  show Go p.tables e below (T.setTop (mkF m 138 #[.val (.ref a1), .val (.int p2), .val (.double x3), .second, .val (.int (0 : Int32)), .unset] [(.int (0 : Int32)), (.ref ti)])) _
  refine Go.by (fun tt_ kk_ => XS.dloadN X.here hx rfl (hb hby d5_138) rfl kk_) ?_
  show Go p.tables e below (T.setTop (mkF m 139 #[.val (.ref a1), .val (.int p2), .val (.double x3), .second, .val (.int (0 : Int32)), .unset] [(.double x3), (.int (0 : Int32)), (.ref ti)])) _
  have Vo_ := V_ti
  obtain ⟨cl_, Ar_, q_, S_, N_, H_, G_⟩ := Vo_
  obtain ⟨T, h2, X, eT, Wh2, st⟩ := stD X hx hZ eT Ar_ (j := (0 : Int32)) (inb_of S_ ⟨by decide, hl0⟩) (g := (mkF m 139 #[.val (.ref a1), .val (.int p2), .val (.double x3), .second, .val (.int (0 : Int32)), .unset] [(.double x3), (.int (0 : Int32)), (.ref ti)])) rfl rfl (hb hby d5_139)
  have V_ti := Arv.set Ar_ q_ S_ N_ H_ G_ rfl Wh2 0 rfl (Nat.le_of_ble_eq_true rfl)
  have E_a1 := Exa.wr Wh2 E_a1
  have F_times_a1 := Fld.other Wh2 F_times_a1 (Or.inl ne_a1_ti)
  have F_numbers_a1 := Fld.other Wh2 F_numbers_a1 (Or.inl ne_a1_ti)
  have F_size_a1 := Fld.other Wh2 F_size_a1 (Or.inl ne_a1_ti)
  have V_nu := Arv.other V_nu Wh2 ne_nu_ti
  have N := Fr.snoc X N g_ti
  have K := And.intro (Nat.le_trans K.1 (Nat.le_of_eq (Wr.size Wh2).symm)) trivial
  refine Go.by st ?_
  show Go p.tables e below (T.setTop (mkF m 140 #[.val (.ref a1), .val (.int p2), .val (.double x3), .second, .val (.int (0 : Int32)), .unset] [])) _
  refine Go.by (fun tt_ kk_ => XS.aloadN X.here hx rfl (hb hby d5_140) rfl rfl kk_) ?_
  show Go p.tables e below (T.setTop (mkF m 141 #[.val (.ref a1), .val (.int p2), .val (.double x3), .second, .val (.int (0 : Int32)), .unset] [(.ref a1)])) _
  obtain ⟨T, X, eT, st⟩ := getF X hx hZ hown (host := "") (Or.inl (hw _ (List.mem_of_getElem? (i := 17) rfl))) Via.refl eT F_numbers_a1 (g := (mkF m 141 #[.val (.ref a1), .val (.int p2), .val (.double x3), .second, .val (.int (0 : Int32)), .unset] [(.ref a1)])) rfl rfl (hb hby d5_141)
  refine Go.by st ?_
  show Go p.tables e below (T.setTop (mkF m 144 #[.val (.ref a1), .val (.int p2), .val (.double x3), .second, .val (.int (0 : Int32)), .unset] [(.ref nu)])) _
  refine Go.by (fun tt_ kk_ => XS.iload X.here hx rfl (hb hby d5_144) rfl kk_) ?_
  show Go p.tables e below (T.setTop (mkF m 146 #[.val (.ref a1), .val (.int p2), .val (.double x3), .second, .val (.int (0 : Int32)), .unset] [(.int (0 : Int32)), (.ref nu)])) _
  refine Go.by (fun tt_ kk_ => XS.iloadN X.here hx rfl (hb hby d5_146) rfl kk_) ?_
  show Go p.tables e below (T.setTop (mkF m 147 #[.val (.ref a1), .val (.int p2), .val (.double x3), .second, .val (.int (0 : Int32)), .unset] [(.int p2), (.int (0 : Int32)), (.ref nu)])) _
  have Vo_ := V_nu
  obtain ⟨cl_, Ar_, q_, S_, N_, H_, G_⟩ := Vo_
  obtain ⟨T, h3, X, eT, Wh3, st⟩ := stI X hx hZ eT Ar_ (j := (0 : Int32)) (inb_of S_ ⟨by decide, hl0⟩) (g := (mkF m 147 #[.val (.ref a1), .val (.int p2), .val (.double x3), .second, .val (.int (0 : Int32)), .unset] [(.int p2), (.int (0 : Int32)), (.ref nu)])) rfl rfl (hb hby d5_147)
  have V_nu := Arv.set Ar_ q_ S_ N_ H_ G_ rfl Wh3 0 rfl (Nat.le_of_ble_eq_true rfl)
  have E_a1 := Exa.wr Wh3 E_a1
  have F_times_a1 := Fld.other Wh3 F_times_a1 (Or.inl ne_a1_nu)
  have F_numbers_a1 := Fld.other Wh3 F_numbers_a1 (Or.inl ne_a1_nu)
  have F_size_a1 := Fld.other Wh3 F_size_a1 (Or.inl ne_a1_nu)
  have V_ti := Arv.other V_ti Wh3 ne_ti_nu
  have N := Fr.snoc X N g_nu
  have K := And.intro (Nat.le_trans K.1 (Nat.le_of_eq (Wr.size Wh3).symm)) trivial
  refine Go.by st ?_
  show Go p.tables e below (T.setTop (mkF m 148 #[.val (.ref a1), .val (.int p2), .val (.double x3), .second, .val (.int (0 : Int32)), .unset] [])) _
  refine Go.by (fun tt_ kk_ => XS.iload X.here hx rfl (hb hby d5_148) rfl kk_) ?_
  show Go p.tables e below (T.setTop (mkF m 150 #[.val (.ref a1), .val (.int p2), .val (.double x3), .second, .val (.int (0 : Int32)), .unset] [(.int (0 : Int32))])) _
  refine Go.by (fun tt_ kk_ => XS.ifNo X.here hx rfl (hb hby d5_150) rfl ((if0 _ _).trans (teq (rfl : (0 : Int32) = (0 : Int32))).2) kk_) ?_
  show Go p.tables e below (T.setTop (mkF m 153 #[.val (.ref a1), .val (.int p2), .val (.double x3), .second, .val (.int (0 : Int32)), .unset] [])) _
  refine Go.by (fun tt_ kk_ => XS.iconst X.here hx rfl (hb hby d5_153) kk_) ?_
  show Go p.tables e below (T.setTop (mkF m 154 #[.val (.ref a1), .val (.int p2), .val (.double x3), .second, .val (.int (0 : Int32)), .unset] [(.int (1 : Int32))])) _
  refine Go.by (fun tt_ kk_ => XS.goto X.here hx rfl (pc0 := 154) (pc' := 158) rfl (hb hby d5_154) (by decide) (by decide) kk_) ?_
  show Go p.tables e below (T.setTop (mkF m 158 #[.val (.ref a1), .val (.int p2), .val (.double x3), .second, .val (.int (0 : Int32)), .unset] [(.int (1 : Int32))])) _
  exact Go.done X  (v := some (.int (1 : Int32))) (fun h => by rw [Bd.returns] at h; cases h) Bd.notSynchronized (fun fs hr => retN X hx (z := (1 : Int32)) (t := .boolean) Bd.returns (by simp) (hb hby d5_158) hr) (by rw [eT]; exact ⟨_, rfl, N, K, ⟨E_a1, g_a1, ti, nu, _, _, _, _, _, _, _, _, _, _, _, F_times_a1, F_numbers_a1, F_size_a1, V_ti, V_nu, g_ti, g_nu, ne_a1_ti, ne_a1_nu, ne_ti_nu, nn_x3, nn_y1, nn_y2, nn_y3, bc1, bc2, bs_1⟩⟩) (by decide) (by decide)
theorem pd_4 : parseMethodDescriptor "([DI)[D" = some ⟨[(.array .double), .int], some (.array .double)⟩ := by decide +kernel
theorem pd_5 : parseMethodDescriptor "([II)[I" = some ⟨[(.array .int), .int], some (.array .int)⟩ := by decide +kernel
theorem pd_6 : parseMethodDescriptor "(DIDI)Z" = some ⟨[.double, .int, .double, .int], some .boolean⟩ := by decide +kernel
def Q5_1 (Z : State) (a1 : Addr) (p2 : Int32) (x3 : UInt64)  (h0 : Heap) (n0 : Nat) (v : Option Value) (h : Heap) (L : List Loc) : Prop := ∃ r : Int32, v = some (.int r) ∧ Fr n0 L ∧ (h0.size ≤ h.size ∧ True) ∧ own_TH Z h n0 a1 (2 : Int32)
set_option maxRecDepth 65536 in
set_option maxHeartbeats 40000000 in
theorem rm5_1 (l : Launch) (Z : State) (a0 : Array Value) (hw : ∀ d ∈ tables_1, d.before a0 Z = true) (ws : List Jvm.Cond) (a1 : Addr) (p2 : Int32) (x3 : UInt64)  (h0 : Heap) (n0 : Nat) (Z0 : n0 ≤ h0.size) (TH : own_TH Z h0 n0 a1 (1 : Int32)) (nn_x3 : NoNaN64 x3) :
    MetFree l (⟨"com/example/mode_choice_loop/modechoiceloop/simulation/TimeHeap", "add", "(ID)Z"⟩ : MethodName) (head1 (Jvm.Cond.code (⟨"com/example/mode_choice_loop/modechoiceloop/simulation/TimeHeap", "add", "(ID)Z"⟩ : MethodName) prog_86_method_3_code 6 (some .boolean) :: ws) ({ frames := 4, cells := 2, slots := 8, locals := 65 } : Room)) (fun a U => a = #[(.ref a1), (.int p2), (.double x3)] ∧ Z.Warmed39 U.vm ∧ U.heap = h0) (fun _ _ _ _ _ => True) (fun _ U o U' => ∃ v L, o = .returned v ∧ Q5_1 Z a1 p2 x3 h0 n0 v U'.heap L ∧ FrameEnd U o U' L ({ frames := 4, cells := 2, slots := 8, locals := 65 } : Room).cells ({ frames := 4, cells := 2, slots := 8, locals := 65 } : Room).slots) := by
  obtain ⟨E_a1, g_a1, ti, nu, kt, km, cc, y0, y1, y2, y3, i0, i1, i2, i3, F_times_a1, F_numbers_a1, F_size_a1, V_ti, V_nu, g_ti, g_nu, ne_a1_ti, ne_a1_nu, ne_ti_nu, nn_y0, nn_y1, nn_y2, nn_y3, bc1, bc2, bs⟩ := TH
  have ne_ti_a1 := Ne.symm ne_a1_ti
  have ne_nu_a1 := Ne.symm ne_a1_nu
  have ne_nu_ti := Ne.symm ne_ti_nu
  have bs' := bs
  rw [show ((1 : Int32)).toInt = 1 by decide] at bs'
  have hl0 : (0 : Int32) < cc := by rw [Int32.lt_iff_toInt_lt, show ((0 : Int32)).toInt = 0 by decide]; omega
  have bs_0 : ((0 : Int32)).toInt ≤ cc.toInt := by rw [show ((0 : Int32)).toInt = 0 by decide]; omega
  have bs_1 : ((1 : Int32)).toInt ≤ cc.toInt := by rw [show ((1 : Int32)).toInt = 1 by decide]; omega
  refine MetFree.of_bodySF (plainFor_of_name pn_1) hisR ?_
  intro p e s m args below meth c s₁ Bd hml0 hP hK
  obtain ⟨rfl, hZ, hh⟩ := hP
  have hx := Bd.exec
  have hby := Bd.bytes
  have hml : c.maxLocals = 6 := hml0
  have hown : s.vm.findClass "com/example/mode_choice_loop/modechoiceloop/simulation/TimeHeap" = some m.cls := findClass_of_methodNamed Bd.named
  have hnm := (name_of_methodNamed Bd.named Bd.method).1
  have X : Stand p l e ({ frames := 4, cells := 2, slots := 8, locals := 65 } : Room) s m #[(.ref a1), (.int p2), (.double x3)] below meth c s₁ [] 0 0 := Stand.of_body Bd
  have eT : s₁.heap = h0 := by rw [← hh, Bd.state]; rfl
  have N := Fr.nil n0
  have K : h0.size ≤ h0.size ∧ True := ⟨Nat.le_refl _, trivial⟩
  refine Go.out ?_
  obtain ⟨T, eTT⟩ : ∃ z, z = s₁ := ⟨_, rfl⟩
  rw [← eTT] at X eT ⊢
  refine Go.by (fun tt_ kk_ => castTop (ef_5 m a1 p2 x3) kk_) ?_
  show Go p.tables e below (T.setTop (mkF m 0 #[.val (.ref a1), .val (.int p2), .val (.double x3), .second, .unset, .unset] [])) _
  refine Go.by (fun tt_ kk_ => XS.aloadN X.here hx rfl (hb hby d5_0) rfl rfl kk_) ?_
  show Go p.tables e below (T.setTop (mkF m 1 #[.val (.ref a1), .val (.int p2), .val (.double x3), .second, .unset, .unset] [(.ref a1)])) _
  obtain ⟨T, X, eT, st⟩ := getF X hx hZ hown (host := "") (Or.inl (hw _ (List.mem_of_getElem? (i := 24) rfl))) Via.refl eT F_size_a1 (g := (mkF m 1 #[.val (.ref a1), .val (.int p2), .val (.double x3), .second, .unset, .unset] [(.ref a1)])) rfl rfl (hb hby d5_1)
  refine Go.by st ?_
  show Go p.tables e below (T.setTop (mkF m 4 #[.val (.ref a1), .val (.int p2), .val (.double x3), .second, .unset, .unset] [(.int (1 : Int32))])) _
  refine Go.by (fun tt_ kk_ => XS.aloadN X.here hx rfl (hb hby d5_4) rfl rfl kk_) ?_
  show Go p.tables e below (T.setTop (mkF m 5 #[.val (.ref a1), .val (.int p2), .val (.double x3), .second, .unset, .unset] [(.ref a1), (.int (1 : Int32))])) _
  obtain ⟨T, X, eT, st⟩ := getF X hx hZ hown (host := "") (Or.inl (hw _ (List.mem_of_getElem? (i := 14) rfl))) Via.refl eT F_times_a1 (g := (mkF m 5 #[.val (.ref a1), .val (.int p2), .val (.double x3), .second, .unset, .unset] [(.ref a1), (.int (1 : Int32))])) rfl rfl (hb hby d5_5)
  refine Go.by st ?_
  show Go p.tables e below (T.setTop (mkF m 8 #[.val (.ref a1), .val (.int p2), .val (.double x3), .second, .unset, .unset] [(.ref ti), (.int (1 : Int32))])) _
  have Vo_ := V_ti
  obtain ⟨cl_, Ar_, q_, S_, N_, H_, G_⟩ := Vo_
  refine Go.by (X.arraylength hx (by rw [eT]; exact Ar_.1) (State.isArrayOf_alike hZ.alike Ar_.2.1) (g := (mkF m 8 #[.val (.ref a1), .val (.int p2), .val (.double x3), .second, .unset, .unset] [(.ref ti), (.int (1 : Int32))])) rfl rfl (hb hby d5_8)) ?_
  rw [len_of S_ N_]
  show Go p.tables e below (T.setTop (mkF m 9 #[.val (.ref a1), .val (.int p2), .val (.double x3), .second, .unset, .unset] [(.int cc), (.int (1 : Int32))])) _
  by_cases hc9 : (1 : Int32) = cc
  · have hcq := hc9
    subst hcq
    refine Go.by (fun tt_ kk_ => XS.icmpNo X.here hx rfl (hb hby d5_9) rfl (teq hc9).2 kk_) ?_
    show Go p.tables e below (T.setTop (mkF m 12 #[.val (.ref a1), .val (.int p2), .val (.double x3), .second, .unset, .unset] [])) _
    refine Go.by (fun tt_ kk_ => XS.aloadN X.here hx rfl (hb hby d5_12) rfl rfl kk_) ?_
    show Go p.tables e below (T.setTop (mkF m 13 #[.val (.ref a1), .val (.int p2), .val (.double x3), .second, .unset, .unset] [(.ref a1)])) _
    refine Go.by (fun tt_ kk_ => XS.aloadN X.here hx rfl (hb hby d5_13) rfl rfl kk_) ?_
    show Go p.tables e below (T.setTop (mkF m 14 #[.val (.ref a1), .val (.int p2), .val (.double x3), .second, .unset, .unset] [(.ref a1), (.ref a1)])) _
    obtain ⟨T, X, eT, st⟩ := getF X hx hZ hown (host := "") (Or.inl (hw _ (List.mem_of_getElem? (i := 14) rfl))) Via.refl eT F_times_a1 (g := (mkF m 14 #[.val (.ref a1), .val (.int p2), .val (.double x3), .second, .unset, .unset] [(.ref a1), (.ref a1)])) rfl rfl (hb hby d5_14)
    refine Go.by st ?_
    show Go p.tables e below (T.setTop (mkF m 17 #[.val (.ref a1), .val (.int p2), .val (.double x3), .second, .unset, .unset] [(.ref ti), (.ref a1)])) _
    refine Go.by (fun tt_ kk_ => XS.iconst X.here hx rfl (hb hby d5_17) kk_) ?_
    show Go p.tables e below (T.setTop (mkF m 18 #[.val (.ref a1), .val (.int p2), .val (.double x3), .second, .unset, .unset] [(.int (2 : Int32)), (.ref ti), (.ref a1)])) _
    refine Go.by (fun tt_ kk_ => XS.aloadN X.here hx rfl (hb hby d5_18) rfl rfl kk_) ?_
    show Go p.tables e below (T.setTop (mkF m 19 #[.val (.ref a1), .val (.int p2), .val (.double x3), .second, .unset, .unset] [(.ref a1), (.int (2 : Int32)), (.ref ti), (.ref a1)])) _
    obtain ⟨T, X, eT, st⟩ := getF X hx hZ hown (host := "") (Or.inl (hw _ (List.mem_of_getElem? (i := 24) rfl))) Via.refl eT F_size_a1 (g := (mkF m 19 #[.val (.ref a1), .val (.int p2), .val (.double x3), .second, .unset, .unset] [(.ref a1), (.int (2 : Int32)), (.ref ti), (.ref a1)])) rfl rfl (hb hby d5_19)
    refine Go.by st ?_
    show Go p.tables e below (T.setTop (mkF m 22 #[.val (.ref a1), .val (.int p2), .val (.double x3), .second, .unset, .unset] [(.int (1 : Int32)), (.int (2 : Int32)), (.ref ti), (.ref a1)])) _
    refine Go.by (fun tt_ kk_ => XS.imul X.here hx rfl (hb hby d5_22) rfl kk_) ?_
    show Go p.tables e below (T.setTop (mkF m 23 #[.val (.ref a1), .val (.int p2), .val (.double x3), .second, .unset, .unset] [(.int (2 : Int32)), (.ref ti), (.ref a1)])) _
    have lt_a1 := E_a1.lt
    have lt_nu := V_nu.lt
    have lt_ti := V_ti.lt
    obtain ⟨_, _, ⟨T, L_, k_, n_⟩, -, X, ⟨Lc_, hQ, l_, y_, z_⟩, st⟩ := Jvm.LawKit.callS X hx (y := (⟨"java/util/Arrays", "copyOf", "([DI)[D"⟩ : MethodName)) hown (mvT hZ (hw _ (List.mem_of_getElem? (i := 31) rfl))) (mvT hZ (hw _ (List.mem_of_getElem? (i := 32) rfl))) (mvT hZ (hw _ (List.mem_of_getElem? (i := 33) rfl))) (mvT hZ (hw _ (List.mem_of_getElem? (i := 34) rfl))) (by decide) (backOf (W := 1) (rm6_1 l Z a0 hw [] ti kt y0 y1 y2 y3 h0 n0 (Nat.le_trans Z0 K.1) V_ti) hZ (hw _ (List.mem_of_getElem? (i := 34) rfl)) (hw _ (List.mem_of_getElem? (i := 33) rfl)) (by decide) (by decide)) (g := (mkF m 23 #[.val (.ref a1), .val (.int p2), .val (.double x3), .second, .unset, .unset] [(.int (2 : Int32)), (.ref ti), (.ref a1)])) rfl (by rw [hml]; rfl) (argsL := [(.ref ti), (.int (2 : Int32))]) (rest := [(.ref a1)]) (lenOf pd_4 rfl) rfl (by show 2 * 0 + _ ≤ _; exact Nat.le_of_eq rfl) (hb hby d5_23) (fun _ _ => ⟨rfl, eT, (by decide : 0 + 1 ≤ _), (by decide : 0 + 4 ≤ _)⟩)
    dsimp only [Pt.U, Pt.locs, Pt.cells, Pt.slots] at X l_ y_ z_ st hQ
    subst l_ y_ z_
    obtain ⟨h2, eT⟩ : ∃ z, T.heap = z := ⟨_, rfl⟩
    rw [eT] at hQ
    obtain ⟨b1, k_b1, g_b1, sq_b1, rfl, Nq, Kq, V_b1⟩ := hQ
    have N := Fr.app N Nq
    have E_a1 := Exa.keep E_a1 Kq
    have F_times_a1 := Fld.keep F_times_a1 Kq nin0
    have F_numbers_a1 := Fld.keep F_numbers_a1 Kq nin0
    have F_size_a1 := Fld.keep F_size_a1 Kq nin0
    have V_ti := Arv.keep V_ti Kq nin0
    have V_nu := Arv.keep V_nu Kq nin0
    have K := And.intro (Nat.le_trans K.1 Kq.1) trivial
    have ne_a1_b1 : a1 ≠ b1 := Nat.ne_of_lt (Nat.lt_of_lt_of_le lt_a1 sq_b1)
    have ne_b1_a1 := Ne.symm ne_a1_b1
    have ne_nu_b1 : nu ≠ b1 := Nat.ne_of_lt (Nat.lt_of_lt_of_le lt_nu sq_b1)
    have ne_b1_nu := Ne.symm ne_nu_b1
    have ne_ti_b1 : ti ≠ b1 := Nat.ne_of_lt (Nat.lt_of_lt_of_le lt_ti sq_b1)
    have ne_b1_ti := Ne.symm ne_ti_b1
    refine Go.by st ?_
    show Go p.tables e below (T.setTop (mkF m 26 #[.val (.ref a1), .val (.int p2), .val (.double x3), .second, .unset, .unset] [(.ref b1), (.ref a1)])) _
    obtain ⟨T, h3, X, eT, Wh3, st⟩ := putF X hx hZ hown (host := "") (Or.inl (hw _ (List.mem_of_getElem? (i := 14) rfl))) Via.refl eT F_times_a1 E_a1 (Or.inl (hw _ (List.mem_of_getElem? (i := 15) rfl))) (hw _ (List.mem_of_getElem? (i := 1) rfl)) (ty := (.array .double)) (by decide) rfl rfl (g := (mkF m 26 #[.val (.ref a1), .val (.int p2), .val (.double x3), .second, .unset, .unset] [(.ref b1), (.ref a1)])) rfl rfl (hb hby d5_26)
    have F_times_a1 := Fld.same Wh3 F_times_a1
    have E_a1 := Exa.wr Wh3 E_a1
    have F_numbers_a1 := Fld.other Wh3 F_numbers_a1 (Or.inr (slot_ne (Or.inl (hw _ (List.mem_of_getElem? (i := 18) rfl))) (Or.inl (hw _ (List.mem_of_getElem? (i := 15) rfl))) (by decide) (t := (.array .int)) (t' := (.array .double)) (by decide) (by decide)))
    have F_size_a1 := Fld.other Wh3 F_size_a1 (Or.inr (slot_ne (Or.inl (hw _ (List.mem_of_getElem? (i := 25) rfl))) (Or.inl (hw _ (List.mem_of_getElem? (i := 15) rfl))) (by decide) (t := .int) (t' := (.array .double)) (by decide) (by decide)))
    have V_ti := Arv.other V_ti Wh3 ne_ti_a1
    have V_nu := Arv.other V_nu Wh3 ne_nu_a1
    have V_b1 := Arv.other V_b1 Wh3 ne_b1_a1
    have N := Fr.snoc X N g_a1
    have K := And.intro (Nat.le_trans K.1 (Nat.le_of_eq (Wr.size Wh3).symm)) trivial
    refine Go.by st ?_
    show Go p.tables e below (T.setTop (mkF m 29 #[.val (.ref a1), .val (.int p2), .val (.double x3), .second, .unset, .unset] [])) _
    refine Go.by (fun tt_ kk_ => XS.aloadN X.here hx rfl (hb hby d5_29) rfl rfl kk_) ?_
    show Go p.tables e below (T.setTop (mkF m 30 #[.val (.ref a1), .val (.int p2), .val (.double x3), .second, .unset, .unset] [(.ref a1)])) _
    refine Go.by (fun tt_ kk_ => XS.aloadN X.here hx rfl (hb hby d5_30) rfl rfl kk_) ?_
    show Go p.tables e below (T.setTop (mkF m 31 #[.val (.ref a1), .val (.int p2), .val (.double x3), .second, .unset, .unset] [(.ref a1), (.ref a1)])) _
    obtain ⟨T, X, eT, st⟩ := getF X hx hZ hown (host := "") (Or.inl (hw _ (List.mem_of_getElem? (i := 17) rfl))) Via.refl eT F_numbers_a1 (g := (mkF m 31 #[.val (.ref a1), .val (.int p2), .val (.double x3), .second, .unset, .unset] [(.ref a1), (.ref a1)])) rfl rfl (hb hby d5_31)
    refine Go.by st ?_
    show Go p.tables e below (T.setTop (mkF m 34 #[.val (.ref a1), .val (.int p2), .val (.double x3), .second, .unset, .unset] [(.ref nu), (.ref a1)])) _
    refine Go.by (fun tt_ kk_ => XS.iconst X.here hx rfl (hb hby d5_34) kk_) ?_
    show Go p.tables e below (T.setTop (mkF m 35 #[.val (.ref a1), .val (.int p2), .val (.double x3), .second, .unset, .unset] [(.int (2 : Int32)), (.ref nu), (.ref a1)])) _
    refine Go.by (fun tt_ kk_ => XS.aloadN X.here hx rfl (hb hby d5_35) rfl rfl kk_) ?_
    show Go p.tables e below (T.setTop (mkF m 36 #[.val (.ref a1), .val (.int p2), .val (.double x3), .second, .unset, .unset] [(.ref a1), (.int (2 : Int32)), (.ref nu), (.ref a1)])) _
    obtain ⟨T, X, eT, st⟩ := getF X hx hZ hown (host := "") (Or.inl (hw _ (List.mem_of_getElem? (i := 24) rfl))) Via.refl eT F_size_a1 (g := (mkF m 36 #[.val (.ref a1), .val (.int p2), .val (.double x3), .second, .unset, .unset] [(.ref a1), (.int (2 : Int32)), (.ref nu), (.ref a1)])) rfl rfl (hb hby d5_36)
    refine Go.by st ?_
    show Go p.tables e below (T.setTop (mkF m 39 #[.val (.ref a1), .val (.int p2), .val (.double x3), .second, .unset, .unset] [(.int (1 : Int32)), (.int (2 : Int32)), (.ref nu), (.ref a1)])) _
    refine Go.by (fun tt_ kk_ => XS.imul X.here hx rfl (hb hby d5_39) rfl kk_) ?_
    show Go p.tables e below (T.setTop (mkF m 40 #[.val (.ref a1), .val (.int p2), .val (.double x3), .second, .unset, .unset] [(.int (2 : Int32)), (.ref nu), (.ref a1)])) _
    have lt_a1 := E_a1.lt
    have lt_b1 := V_b1.lt
    have lt_nu := V_nu.lt
    obtain ⟨_, _, ⟨T, L_, k_, n_⟩, -, X, ⟨Lc_, hQ, l_, y_, z_⟩, st⟩ := Jvm.LawKit.callS X hx (y := (⟨"java/util/Arrays", "copyOf", "([II)[I"⟩ : MethodName)) hown (mvT hZ (hw _ (List.mem_of_getElem? (i := 42) rfl))) (mvT hZ (hw _ (List.mem_of_getElem? (i := 43) rfl))) (mvT hZ (hw _ (List.mem_of_getElem? (i := 33) rfl))) (mvT hZ (hw _ (List.mem_of_getElem? (i := 44) rfl))) (by decide) (backOf (W := 1) (rm8_1 l Z a0 hw [] nu km i0 i1 i2 i3 h3 n0 (Nat.le_trans Z0 K.1) V_nu) hZ (hw _ (List.mem_of_getElem? (i := 44) rfl)) (hw _ (List.mem_of_getElem? (i := 33) rfl)) (by decide) (by decide)) (g := (mkF m 40 #[.val (.ref a1), .val (.int p2), .val (.double x3), .second, .unset, .unset] [(.int (2 : Int32)), (.ref nu), (.ref a1)])) rfl (by rw [hml]; rfl) (argsL := [(.ref nu), (.int (2 : Int32))]) (rest := [(.ref a1)]) (lenOf pd_5 rfl) rfl (by show 2 * 0 + _ ≤ _; exact Nat.le_of_eq rfl) (hb hby d5_40) (fun _ _ => ⟨rfl, eT, (by decide : 1 + 1 ≤ _), (by decide : 4 + 4 ≤ _)⟩)
    dsimp only [Pt.U, Pt.locs, Pt.cells, Pt.slots] at X l_ y_ z_ st hQ
    subst l_ y_ z_
    obtain ⟨h5, eT⟩ : ∃ z, T.heap = z := ⟨_, rfl⟩
    rw [eT] at hQ
    obtain ⟨b4, k_b4, g_b4, sq_b4, rfl, Nq, Kq, V_b4⟩ := hQ
    have N := Fr.app N Nq
    have E_a1 := Exa.keep E_a1 Kq
    have F_times_a1 := Fld.keep F_times_a1 Kq nin0
    have F_numbers_a1 := Fld.keep F_numbers_a1 Kq nin0
    have F_size_a1 := Fld.keep F_size_a1 Kq nin0
    have V_nu := Arv.keep V_nu Kq nin0
    have V_b1 := Arv.keep V_b1 Kq nin0
    have K := And.intro (Nat.le_trans K.1 Kq.1) trivial
    have ne_a1_b4 : a1 ≠ b4 := Nat.ne_of_lt (Nat.lt_of_lt_of_le lt_a1 sq_b4)
    have ne_b4_a1 := Ne.symm ne_a1_b4
    have ne_b1_b4 : b1 ≠ b4 := Nat.ne_of_lt (Nat.lt_of_lt_of_le lt_b1 sq_b4)
    have ne_b4_b1 := Ne.symm ne_b1_b4
    have ne_nu_b4 : nu ≠ b4 := Nat.ne_of_lt (Nat.lt_of_lt_of_le lt_nu sq_b4)
    have ne_b4_nu := Ne.symm ne_nu_b4
    refine Go.by st ?_
    show Go p.tables e below (T.setTop (mkF m 43 #[.val (.ref a1), .val (.int p2), .val (.double x3), .second, .unset, .unset] [(.ref b4), (.ref a1)])) _
    obtain ⟨T, h6, X, eT, Wh6, st⟩ := putF X hx hZ hown (host := "") (Or.inl (hw _ (List.mem_of_getElem? (i := 17) rfl))) Via.refl eT F_numbers_a1 E_a1 (Or.inl (hw _ (List.mem_of_getElem? (i := 18) rfl))) (hw _ (List.mem_of_getElem? (i := 1) rfl)) (ty := (.array .int)) (by decide) rfl rfl (g := (mkF m 43 #[.val (.ref a1), .val (.int p2), .val (.double x3), .second, .unset, .unset] [(.ref b4), (.ref a1)])) rfl rfl (hb hby d5_43)
    have F_numbers_a1 := Fld.same Wh6 F_numbers_a1
    have E_a1 := Exa.wr Wh6 E_a1
    have F_times_a1 := Fld.other Wh6 F_times_a1 (Or.inr (slot_ne (Or.inl (hw _ (List.mem_of_getElem? (i := 15) rfl))) (Or.inl (hw _ (List.mem_of_getElem? (i := 18) rfl))) (by decide) (t := (.array .double)) (t' := (.array .int)) (by decide) (by decide)))
    have F_size_a1 := Fld.other Wh6 F_size_a1 (Or.inr (slot_ne (Or.inl (hw _ (List.mem_of_getElem? (i := 25) rfl))) (Or.inl (hw _ (List.mem_of_getElem? (i := 18) rfl))) (by decide) (t := .int) (t' := (.array .int)) (by decide) (by decide)))
    have V_nu := Arv.other V_nu Wh6 ne_nu_a1
    have V_b1 := Arv.other V_b1 Wh6 ne_b1_a1
    have V_b4 := Arv.other V_b4 Wh6 ne_b4_a1
    have N := Fr.snoc X N g_a1
    have K := And.intro (Nat.le_trans K.1 (Nat.le_of_eq (Wr.size Wh6).symm)) trivial
    refine Go.by st ?_
    show Go p.tables e below (T.setTop (mkF m 46 #[.val (.ref a1), .val (.int p2), .val (.double x3), .second, .unset, .unset] [])) _
    refine Go.by (fun tt_ kk_ => XS.aloadN X.here hx rfl (hb hby d5_46) rfl rfl kk_) ?_
    show Go p.tables e below (T.setTop (mkF m 47 #[.val (.ref a1), .val (.int p2), .val (.double x3), .second, .unset, .unset] [(.ref a1)])) _
    refine Go.by (fun tt_ kk_ => XS.dup X.here hx rfl (hb hby d5_47) rfl rfl kk_) ?_
    show Go p.tables e below (T.setTop (mkF m 48 #[.val (.ref a1), .val (.int p2), .val (.double x3), .second, .unset, .unset] [(.ref a1), (.ref a1)])) _
    obtain ⟨T, X, eT, st⟩ := getF X hx hZ hown (host := "") (Or.inl (hw _ (List.mem_of_getElem? (i := 24) rfl))) Via.refl eT F_size_a1 (g := (mkF m 48 #[.val (.ref a1), .val (.int p2), .val (.double x3), .second, .unset, .unset] [(.ref a1), (.ref a1)])) rfl rfl (hb hby d5_48)
    refine Go.by st ?_
    show Go p.tables e below (T.setTop (mkF m 51 #[.val (.ref a1), .val (.int p2), .val (.double x3), .second, .unset, .unset] [(.int (1 : Int32)), (.ref a1)])) _
    refine Go.by (fun tt_ kk_ => XS.dupX1 X.here hx rfl (hb hby d5_51) rfl rfl rfl kk_) ?_
    show Go p.tables e below (T.setTop (mkF m 52 #[.val (.ref a1), .val (.int p2), .val (.double x3), .second, .unset, .unset] [(.int (1 : Int32)), (.ref a1), (.int (1 : Int32))])) _
    refine Go.by (fun tt_ kk_ => XS.iconst X.here hx rfl (hb hby d5_52) kk_) ?_
    show Go p.tables e below (T.setTop (mkF m 53 #[.val (.ref a1), .val (.int p2), .val (.double x3), .second, .unset, .unset] [(.int (1 : Int32)), (.int (1 : Int32)), (.ref a1), (.int (1 : Int32))])) _
    refine Go.by (fun tt_ kk_ => XS.iadd X.here hx rfl (hb hby d5_53) rfl kk_) ?_
    show Go p.tables e below (T.setTop (mkF m 54 #[.val (.ref a1), .val (.int p2), .val (.double x3), .second, .unset, .unset] [(.int (2 : Int32)), (.ref a1), (.int (1 : Int32))])) _
    obtain ⟨T, h7, X, eT, Wh7, st⟩ := putF X hx hZ hown (host := "") (Or.inl (hw _ (List.mem_of_getElem? (i := 24) rfl))) Via.refl eT F_size_a1 E_a1 (Or.inl (hw _ (List.mem_of_getElem? (i := 25) rfl))) (hw _ (List.mem_of_getElem? (i := 1) rfl)) (ty := .int) (by decide) rfl rfl (g := (mkF m 54 #[.val (.ref a1), .val (.int p2), .val (.double x3), .second, .unset, .unset] [(.int (2 : Int32)), (.ref a1), (.int (1 : Int32))])) rfl rfl (hb hby d5_54)
    have F_size_a1 := Fld.same Wh7 F_size_a1
    have E_a1 := Exa.wr Wh7 E_a1
    have F_times_a1 := Fld.other Wh7 F_times_a1 (Or.inr (slot_ne (Or.inl (hw _ (List.mem_of_getElem? (i := 15) rfl))) (Or.inl (hw _ (List.mem_of_getElem? (i := 25) rfl))) (by decide) (t := (.array .double)) (t' := .int) (by decide) (by decide)))
    have F_numbers_a1 := Fld.other Wh7 F_numbers_a1 (Or.inr (slot_ne (Or.inl (hw _ (List.mem_of_getElem? (i := 18) rfl))) (Or.inl (hw _ (List.mem_of_getElem? (i := 25) rfl))) (by decide) (t := (.array .int)) (t' := .int) (by decide) (by decide)))
    have V_b1 := Arv.other V_b1 Wh7 ne_b1_a1
    have V_b4 := Arv.other V_b4 Wh7 ne_b4_a1
    have N := Fr.snoc X N g_a1
    have K := And.intro (Nat.le_trans K.1 (Nat.le_of_eq (Wr.size Wh7).symm)) trivial
    refine Go.by st ?_
    show Go p.tables e below (T.setTop (mkF m 57 #[.val (.ref a1), .val (.int p2), .val (.double x3), .second, .unset, .unset] [(.int (1 : Int32))])) _
    refine Go.by (fun tt_ kk_ => XS.istore X.here hx rfl (hb hby d5_57) rfl (l' := #[.val (.ref a1), .val (.int p2), .val (.double x3), .second, .val (.int (1 : Int32)), .unset]) rfl kk_) ?_
    show Go p.tables e below (T.setTop (mkF m 59 #[.val (.ref a1), .val (.int p2), .val (.double x3), .second, .val (.int (1 : Int32)), .unset] [])) _
    refine Go.by (fun tt_ kk_ => XS.iload X.here hx rfl (hb hby d5_59) rfl kk_) ?_
    show Go p.tables e below (T.setTop (mkF m 61 #[.val (.ref a1), .val (.int p2), .val (.double x3), .second, .val (.int (1 : Int32)), .unset] [(.int (1 : Int32))])) _
    refine Go.by (fun tt_ kk_ => XS.ifNo X.here hx rfl (hb hby d5_61) rfl ((if0 _ _).trans (tlt (by decide : (0 : Int32) < (1 : Int32))).2.2.2) kk_) ?_
    show Go p.tables e below (T.setTop (mkF m 64 #[.val (.ref a1), .val (.int p2), .val (.double x3), .second, .val (.int (1 : Int32)), .unset] [])) _
    refine Go.by (fun tt_ kk_ => XS.iload X.here hx rfl (hb hby d5_64) rfl kk_) ?_
    show Go p.tables e below (T.setTop (mkF m 66 #[.val (.ref a1), .val (.int p2), .val (.double x3), .second, .val (.int (1 : Int32)), .unset] [(.int (1 : Int32))])) _
    refine Go.by (fun tt_ kk_ => XS.iconst X.here hx rfl (hb hby d5_66) kk_) ?_
    show Go p.tables e below (T.setTop (mkF m 67 #[.val (.ref a1), .val (.int p2), .val (.double x3), .second, .val (.int (1 : Int32)), .unset] [(.int (1 : Int32)), (.int (1 : Int32))])) _
    refine Go.by (fun tt_ kk_ => XS.isub X.here hx rfl (hb hby d5_67) rfl kk_) ?_
    show Go p.tables e below (T.setTop (mkF m 68 #[.val (.ref a1), .val (.int p2), .val (.double x3), .second, .val (.int (1 : Int32)), .unset] [(.int (0 : Int32))])) _
    refine Go.by (fun tt_ kk_ => XS.iconst X.here hx rfl (hb hby d5_68) kk_) ?_
    show Go p.tables e below (T.setTop (mkF m 69 #[.val (.ref a1), .val (.int p2), .val (.double x3), .second, .val (.int (1 : Int32)), .unset] [(.int (4 : Int32)), (.int (0 : Int32))])) _
    refine Go.by (fun tt_ kk_ => XS.idiv X.here hx rfl (hb hby d5_69) rfl (by decide) kk_) ?_
    show Go p.tables e below (T.setTop (mkF m 70 #[.val (.ref a1), .val (.int p2), .val (.double x3), .second, .val (.int (1 : Int32)), .unset] [(.int (0 : Int32))])) _
    refine Go.by (fun tt_ kk_ => XS.istore X.here hx rfl (hb hby d5_70) rfl (l' := #[.val (.ref a1), .val (.int p2), .val (.double x3), .second, .val (.int (1 : Int32)), .val (.int (0 : Int32))]) rfl kk_) ?_
    show Go p.tables e below (T.setTop (mkF m 72 #[.val (.ref a1), .val (.int p2), .val (.double x3), .second, .val (.int (1 : Int32)), .val (.int (0 : Int32))] [])) _
    refine Go.by (fun tt_ kk_ => XS.dloadN X.here hx rfl (hb hby d5_72) rfl kk_) ?_
    show Go p.tables e below (T.setTop (mkF m 73 #[.val (.ref a1), .val (.int p2), .val (.double x3), .second, .val (.int (1 : Int32)), .val (.int (0 : Int32))] [(.double x3)])) _
    refine Go.by (fun tt_ kk_ => XS.iloadN X.here hx rfl (hb hby d5_73) rfl kk_) ?_
    show Go p.tables e below (T.setTop (mkF m 74 #[.val (.ref a1), .val (.int p2), .val (.double x3), .second, .val (.int (1 : Int32)), .val (.int (0 : Int32))] [(.int p2), (.double x3)])) _
    refine Go.by (fun tt_ kk_ => XS.aloadN X.here hx rfl (hb hby d5_74) rfl rfl kk_) ?_
    show Go p.tables e below (T.setTop (mkF m 75 #[.val (.ref a1), .val (.int p2), .val (.double x3), .second, .val (.int (1 : Int32)), .val (.int (0 : Int32))] [(.ref a1), (.int p2), (.double x3)])) _
    obtain ⟨T, X, eT, st⟩ := getF X hx hZ hown (host := "") (Or.inl (hw _ (List.mem_of_getElem? (i := 14) rfl))) Via.refl eT F_times_a1 (g := (mkF m 75 #[.val (.ref a1), .val (.int p2), .val (.double x3), .second, .val (.int (1 : Int32)), .val (.int (0 : Int32))] [(.ref a1), (.int p2), (.double x3)])) rfl rfl (hb hby d5_75)
    refine Go.by st ?_
    show Go p.tables e below (T.setTop (mkF m 78 #[.val (.ref a1), .val (.int p2), .val (.double x3), .second, .val (.int (1 : Int32)), .val (.int (0 : Int32))] [(.ref b1), (.int p2), (.double x3)])) _
    refine Go.by (fun tt_ kk_ => XS.iload X.here hx rfl (hb hby d5_78) rfl kk_) ?_
    show Go p.tables e below (T.setTop (mkF m 80 #[.val (.ref a1), .val (.int p2), .val (.double x3), .second, .val (.int (1 : Int32)), .val (.int (0 : Int32))] [(.int (0 : Int32)), (.ref b1), (.int p2), (.double x3)])) _
    have Vo_ := V_b1
    obtain ⟨cl_, Ar_, q_, S_, N_, H_, G_⟩ := Vo_
    refine Go.by (X.daload hx (j := (0 : Int32)) (v := (.double y0)) (by rw [eT]; exact Ar_.1) (State.isArrayOf_alike hZ.alike Ar_.2.1) Ar_.2.2 (inb_of S_ ⟨by decide, by decide⟩) (Has.at H_ (inb_of S_ ⟨by decide, by decide⟩) rfl) (g := (mkF m 80 #[.val (.ref a1), .val (.int p2), .val (.double x3), .second, .val (.int (1 : Int32)), .val (.int (0 : Int32))] [(.int (0 : Int32)), (.ref b1), (.int p2), (.double x3)])) rfl rfl (hb hby d5_80)) ?_
    show Go p.tables e below (T.setTop (mkF m 81 #[.val (.ref a1), .val (.int p2), .val (.double x3), .second, .val (.int (1 : Int32)), .val (.int (0 : Int32))] [(.double y0), (.int p2), (.double x3)])) _
    refine Go.by (fun tt_ kk_ => XS.aloadN X.here hx rfl (hb hby d5_81) rfl rfl kk_) ?_
    show Go p.tables e below (T.setTop (mkF m 82 #[.val (.ref a1), .val (.int p2), .val (.double x3), .second, .val (.int (1 : Int32)), .val (.int (0 : Int32))] [(.ref a1), (.double y0), (.int p2), (.double x3)])) _
    obtain ⟨T, X, eT, st⟩ := getF X hx hZ hown (host := "") (Or.inl (hw _ (List.mem_of_getElem? (i := 17) rfl))) Via.refl eT F_numbers_a1 (g := (mkF m 82 #[.val (.ref a1), .val (.int p2), .val (.double x3), .second, .val (.int (1 : Int32)), .val (.int (0 : Int32))] [(.ref a1), (.double y0), (.int p2), (.double x3)])) rfl rfl (hb hby d5_82)
    refine Go.by st ?_
    show Go p.tables e below (T.setTop (mkF m 85 #[.val (.ref a1), .val (.int p2), .val (.double x3), .second, .val (.int (1 : Int32)), .val (.int (0 : Int32))] [(.ref b4), (.double y0), (.int p2), (.double x3)])) _
    refine Go.by (fun tt_ kk_ => XS.iload X.here hx rfl (hb hby d5_85) rfl kk_) ?_
    show Go p.tables e below (T.setTop (mkF m 87 #[.val (.ref a1), .val (.int p2), .val (.double x3), .second, .val (.int (1 : Int32)), .val (.int (0 : Int32))] [(.int (0 : Int32)), (.ref b4), (.double y0), (.int p2), (.double x3)])) _
    have Vo_ := V_b4
    obtain ⟨cl_, Ar_, q_, S_, N_, H_, G_⟩ := Vo_
    refine Go.by (X.iaload hx (j := (0 : Int32)) (v := (.int i0)) (by rw [eT]; exact Ar_.1) (State.isArrayOf_alike hZ.alike Ar_.2.1) Ar_.2.2 (inb_of S_ ⟨by decide, by decide⟩) (Has.at H_ (inb_of S_ ⟨by decide, by decide⟩) rfl) (g := (mkF m 87 #[.val (.ref a1), .val (.int p2), .val (.double x3), .second, .val (.int (1 : Int32)), .val (.int (0 : Int32))] [(.int (0 : Int32)), (.ref b4), (.double y0), (.int p2), (.double x3)])) rfl rfl (hb hby d5_87)) ?_
    show Go p.tables e below (T.setTop (mkF m 88 #[.val (.ref a1), .val (.int p2), .val (.double x3), .second, .val (.int (1 : Int32)), .val (.int (0 : Int32))] [(.int i0), (.double y0), (.int p2), (.double x3)])) _
    obtain ⟨_, _, ⟨T, L_, k_, n_⟩, -, X, ⟨Lc_, hQ, l_, y_, z_⟩, st⟩ := Jvm.LawKit.callS X hx (y := (⟨"com/example/mode_choice_loop/modechoiceloop/simulation/TimeHeap", "precedes", "(DIDI)Z"⟩ : MethodName)) hown (mvT hZ (hw _ (List.mem_of_getElem? (i := 45) rfl))) (mvT hZ (hw _ (List.mem_of_getElem? (i := 46) rfl))) (mvT hZ (hw _ (List.mem_of_getElem? (i := 2) rfl))) (mvT hZ (hw _ (List.mem_of_getElem? (i := 47) rfl))) (by decide) (backOf (W := 0) (rm9 l Z a0 hw [] x3 p2 y0 i0 h7 n0 (Nat.le_trans Z0 K.1) nn_x3 nn_y0) hZ (hw _ (List.mem_of_getElem? (i := 47) rfl)) (hw _ (List.mem_of_getElem? (i := 2) rfl)) (by decide) (by decide)) (g := (mkF m 88 #[.val (.ref a1), .val (.int p2), .val (.double x3), .second, .val (.int (1 : Int32)), .val (.int (0 : Int32))] [(.int i0), (.double y0), (.int p2), (.double x3)])) rfl (by rw [hml]; rfl) (argsL := [(.double x3), (.int p2), (.double y0), (.int i0)]) (rest := []) (lenOf pd_6 rfl) rfl (by show 2 * 0 + _ ≤ _; exact Nat.le_of_eq rfl) (hb hby d5_88) (fun _ _ => ⟨rfl, eT, (by decide : 2 + 0 ≤ _), (by decide : 8 + 0 ≤ _)⟩)
    dsimp only [Pt.U, Pt.locs, Pt.cells, Pt.slots] at X l_ y_ z_ st hQ
    subst l_ y_ z_
    obtain ⟨r8, rfl, Nq, eh⟩ := hQ
    have N := Fr.app N Nq
    have eT := eh
    refine Go.by st ?_
    show Go p.tables e below (T.setTop (mkF m 91 #[.val (.ref a1), .val (.int p2), .val (.double x3), .second, .val (.int (1 : Int32)), .val (.int (0 : Int32))] [(.int r8)])) _
    by_cases hc91 : r8 = (0 : Int32)
    · refine Go.by (fun tt_ kk_ => XS.ifNo X.here hx rfl (hb hby d5_91) rfl ((if0 _ _).trans (teq hc91).2) kk_) ?_
      show Go p.tables e below (T.setTop (mkF m 94 #[.val (.ref a1), .val (.int p2), .val (.double x3), .second, .val (.int (1 : Int32)), .val (.int (0 : Int32))] [])) _
      refine Go.by (fun tt_ kk_ => XS.goto X.here hx rfl (pc0 := 94) (pc' := 132) rfl (hb hby d5_94) (by decide) (by decide) kk_) ?_
      show Go p.tables e below (T.setTop (mkF m 132 #[.val (.ref a1), .val (.int p2), .val (.double x3), .second, .val (.int (1 : Int32)), .val (.int (0 : Int32))] [])) _
      refine Go.by (fun tt_ kk_ => XS.aloadN X.here hx rfl (hb hby d5_132) rfl rfl kk_) ?_
      show Go p.tables e below (T.setTop (mkF m 133 #[.val (.ref a1), .val (.int p2), .val (.double x3), .second, .val (.int (1 : Int32)), .val (.int (0 : Int32))] [(.ref a1)])) _
      obtain ⟨T, X, eT, st⟩ := getF X hx hZ hown (host := "") (Or.inl (hw _ (List.mem_of_getElem? (i := 14) rfl))) Via.refl eT F_times_a1 (g := (mkF m 133 #[.val (.ref a1), .val (.int p2), .val (.double x3), .second, .val (.int (1 : Int32)), .val (.int (0 : Int32))] [(.ref a1)])) rfl rfl (hb hby d5_133)
      refine Go.by st ?_
      show Go p.tables e below (T.setTop (mkF m 136 #[.val (.ref a1), .val (.int p2), .val (.double x3), .second, .val (.int (1 : Int32)), .val (.int (0 : Int32))] [(.ref b1)])) _
      refine Go.by (fun tt_ kk_ => XS.iload X.here hx rfl (hb hby d5_136) rfl kk_) ?_
      show Go p.tables e below (T.setTop (mkF m 138 #[.val (.ref a1), .val (.int p2), .val (.double x3), .second, .val (.int (1 : Int32)), .val (.int (0 : Int32))] [(.int (1 : Int32)), (.ref b1)])) _
      refine Go.by (fun tt_ kk_ => XS.dloadN X.here hx rfl (hb hby d5_138) rfl kk_) ?_
      show Go p.tables e below (T.setTop (mkF m 139 #[.val (.ref a1), .val (.int p2), .val (.double x3), .second, .val (.int (1 : Int32)), .val (.int (0 : Int32))] [(.double x3), (.int (1 : Int32)), (.ref b1)])) _
      have Vo_ := V_b1
      obtain ⟨cl_, Ar_, q_, S_, N_, H_, G_⟩ := Vo_
      obtain ⟨T, h10, X, eT, Wh10, st⟩ := stD X hx hZ eT Ar_ (j := (1 : Int32)) (inb_of S_ ⟨by decide, by decide⟩) (g := (mkF m 139 #[.val (.ref a1), .val (.int p2), .val (.double x3), .second, .val (.int (1 : Int32)), .val (.int (0 : Int32))] [(.double x3), (.int (1 : Int32)), (.ref b1)])) rfl rfl (hb hby d5_139)
      have V_b1 := Arv.set Ar_ q_ S_ N_ H_ G_ rfl Wh10 1 rfl (Nat.le_of_ble_eq_true rfl)
      have E_a1 := Exa.wr Wh10 E_a1
      have F_times_a1 := Fld.other Wh10 F_times_a1 (Or.inl ne_a1_b1)
      have F_numbers_a1 := Fld.other Wh10 F_numbers_a1 (Or.inl ne_a1_b1)
      have F_size_a1 := Fld.other Wh10 F_size_a1 (Or.inl ne_a1_b1)
      have V_b4 := Arv.other V_b4 Wh10 ne_b4_b1
      have N := Fr.snoc X N g_b1
      have K := And.intro (Nat.le_trans K.1 (Nat.le_of_eq (Wr.size Wh10).symm)) trivial
      refine Go.by st ?_
      show Go p.tables e below (T.setTop (mkF m 140 #[.val (.ref a1), .val (.int p2), .val (.double x3), .second, .val (.int (1 : Int32)), .val (.int (0 : Int32))] [])) _
      refine Go.by (fun tt_ kk_ => XS.aloadN X.here hx rfl (hb hby d5_140) rfl rfl kk_) ?_
      show Go p.tables e below (T.setTop (mkF m 141 #[.val (.ref a1), .val (.int p2), .val (.double x3), .second, .val (.int (1 : Int32)), .val (.int (0 : Int32))] [(.ref a1)])) _
      obtain ⟨T, X, eT, st⟩ := getF X hx hZ hown (host := "") (Or.inl (hw _ (List.mem_of_getElem? (i := 17) rfl))) Via.refl eT F_numbers_a1 (g := (mkF m 141 #[.val (.ref a1), .val (.int p2), .val (.double x3), .second, .val (.int (1 : Int32)), .val (.int (0 : Int32))] [(.ref a1)])) rfl rfl (hb hby d5_141)
      refine Go.by st ?_
      show Go p.tables e below (T.setTop (mkF m 144 #[.val (.ref a1), .val (.int p2), .val (.double x3), .second, .val (.int (1 : Int32)), .val (.int (0 : Int32))] [(.ref b4)])) _
      refine Go.by (fun tt_ kk_ => XS.iload X.here hx rfl (hb hby d5_144) rfl kk_) ?_
      show Go p.tables e below (T.setTop (mkF m 146 #[.val (.ref a1), .val (.int p2), .val (.double x3), .second, .val (.int (1 : Int32)), .val (.int (0 : Int32))] [(.int (1 : Int32)), (.ref b4)])) _
      refine Go.by (fun tt_ kk_ => XS.iloadN X.here hx rfl (hb hby d5_146) rfl kk_) ?_
      show Go p.tables e below (T.setTop (mkF m 147 #[.val (.ref a1), .val (.int p2), .val (.double x3), .second, .val (.int (1 : Int32)), .val (.int (0 : Int32))] [(.int p2), (.int (1 : Int32)), (.ref b4)])) _
      have Vo_ := V_b4
      obtain ⟨cl_, Ar_, q_, S_, N_, H_, G_⟩ := Vo_
      obtain ⟨T, h11, X, eT, Wh11, st⟩ := stI X hx hZ eT Ar_ (j := (1 : Int32)) (inb_of S_ ⟨by decide, by decide⟩) (g := (mkF m 147 #[.val (.ref a1), .val (.int p2), .val (.double x3), .second, .val (.int (1 : Int32)), .val (.int (0 : Int32))] [(.int p2), (.int (1 : Int32)), (.ref b4)])) rfl rfl (hb hby d5_147)
      have V_b4 := Arv.set Ar_ q_ S_ N_ H_ G_ rfl Wh11 1 rfl (Nat.le_of_ble_eq_true rfl)
      have E_a1 := Exa.wr Wh11 E_a1
      have F_times_a1 := Fld.other Wh11 F_times_a1 (Or.inl ne_a1_b4)
      have F_numbers_a1 := Fld.other Wh11 F_numbers_a1 (Or.inl ne_a1_b4)
      have F_size_a1 := Fld.other Wh11 F_size_a1 (Or.inl ne_a1_b4)
      have V_b1 := Arv.other V_b1 Wh11 ne_b1_b4
      have N := Fr.snoc X N g_b4
      have K := And.intro (Nat.le_trans K.1 (Nat.le_of_eq (Wr.size Wh11).symm)) trivial
      refine Go.by st ?_
      show Go p.tables e below (T.setTop (mkF m 148 #[.val (.ref a1), .val (.int p2), .val (.double x3), .second, .val (.int (1 : Int32)), .val (.int (0 : Int32))] [])) _
      refine Go.by (fun tt_ kk_ => XS.iload X.here hx rfl (hb hby d5_148) rfl kk_) ?_
      show Go p.tables e below (T.setTop (mkF m 150 #[.val (.ref a1), .val (.int p2), .val (.double x3), .second, .val (.int (1 : Int32)), .val (.int (0 : Int32))] [(.int (1 : Int32))])) _
      refine Go.by (fun tt_ kk_ => XS.ifYes X.here hx rfl (pc0 := 150) (pc' := 157) rfl (hb hby d5_150) rfl ((if0 _ _).trans (feq (by decide : ¬ ((1 : Int32) = (0 : Int32)))).2) (by decide) (by decide) kk_) ?_
      show Go p.tables e below (T.setTop (mkF m 157 #[.val (.ref a1), .val (.int p2), .val (.double x3), .second, .val (.int (1 : Int32)), .val (.int (0 : Int32))] [])) _
      refine Go.by (fun tt_ kk_ => XS.iconst X.here hx rfl (hb hby d5_157) kk_) ?_
      show Go p.tables e below (T.setTop (mkF m 158 #[.val (.ref a1), .val (.int p2), .val (.double x3), .second, .val (.int (1 : Int32)), .val (.int (0 : Int32))] [(.int (0 : Int32))])) _
      exact Go.done X  (v := some (.int (0 : Int32))) (fun h => by rw [Bd.returns] at h; cases h) Bd.notSynchronized (fun fs hr => retN X hx (z := (0 : Int32)) (t := .boolean) Bd.returns (by simp) (hb hby d5_158) hr) (by rw [eT]; exact ⟨_, rfl, N, K, ⟨E_a1, g_a1, b1, b4, _, _, _, _, _, _, _, _, _, _, _, F_times_a1, F_numbers_a1, F_size_a1, V_b1, V_b4, g_b1, g_b4, ne_a1_b1, ne_a1_b4, ne_b1_b4, nn_y0, nn_x3, own_nn0, own_nn0, by decide, by decide, by decide⟩⟩) (by decide) (by decide)
    · refine Go.by (fun tt_ kk_ => XS.ifYes X.here hx rfl (pc0 := 91) (pc' := 97) rfl (hb hby d5_91) rfl ((if0 _ _).trans (feq hc91).2) (by decide) (by decide) kk_) ?_
      show Go p.tables e below (T.setTop (mkF m 97 #[.val (.ref a1), .val (.int p2), .val (.double x3), .second, .val (.int (1 : Int32)), .val (.int (0 : Int32))] [])) _
      refine Go.by (fun tt_ kk_ => XS.aloadN X.here hx rfl (hb hby d5_97) rfl rfl kk_) ?_
      show Go p.tables e below (T.setTop (mkF m 98 #[.val (.ref a1), .val (.int p2), .val (.double x3), .second, .val (.int (1 : Int32)), .val (.int (0 : Int32))] [(.ref a1)])) _
      obtain ⟨T, X, eT, st⟩ := getF X hx hZ hown (host := "") (Or.inl (hw _ (List.mem_of_getElem? (i := 14) rfl))) Via.refl eT F_times_a1 (g := (mkF m 98 #[.val (.ref a1), .val (.int p2), .val (.double x3), .second, .val (.int (1 : Int32)), .val (.int (0 : Int32))] [(.ref a1)])) rfl rfl (hb hby d5_98)
      refine Go.by st ?_
      show Go p.tables e below (T.setTop (mkF m 101 #[.val (.ref a1), .val (.int p2), .val (.double x3), .second, .val (.int (1 : Int32)), .val (.int (0 : Int32))] [(.ref b1)])) _
      refine Go.by (fun tt_ kk_ => XS.iload X.here hx rfl (hb hby d5_101) rfl kk_) ?_
      show Go p.tables e below (T.setTop (mkF m 103 #[.val (.ref a1), .val (.int p2), .val (.double x3), .second, .val (.int (1 : Int32)), .val (.int (0 : Int32))] [(.int (1 : Int32)), (.ref b1)])) _
      refine Go.by (fun tt_ kk_ => XS.aloadN X.here hx rfl (hb hby d5_103) rfl rfl kk_) ?_
      show Go p.tables e below (T.setTop (mkF m 104 #[.val (.ref a1), .val (.int p2), .val (.double x3), .second, .val (.int (1 : Int32)), .val (.int (0 : Int32))] [(.ref a1), (.int (1 : Int32)), (.ref b1)])) _
      obtain ⟨T, X, eT, st⟩ := getF X hx hZ hown (host := "") (Or.inl (hw _ (List.mem_of_getElem? (i := 14) rfl))) Via.refl eT F_times_a1 (g := (mkF m 104 #[.val (.ref a1), .val (.int p2), .val (.double x3), .second, .val (.int (1 : Int32)), .val (.int (0 : Int32))] [(.ref a1), (.int (1 : Int32)), (.ref b1)])) rfl rfl (hb hby d5_104)
      refine Go.by st ?_
      show Go p.tables e below (T.setTop (mkF m 107 #[.val (.ref a1), .val (.int p2), .val (.double x3), .second, .val (.int (1 : Int32)), .val (.int (0 : Int32))] [(.ref b1), (.int (1 : Int32)), (.ref b1)])) _
      refine Go.by (fun tt_ kk_ => XS.iload X.here hx rfl (hb hby d5_107) rfl kk_) ?_
      show Go p.tables e below (T.setTop (mkF m 109 #[.val (.ref a1), .val (.int p2), .val (.double x3), .second, .val (.int (1 : Int32)), .val (.int (0 : Int32))] [(.int (0 : Int32)), (.ref b1), (.int (1 : Int32)), (.ref b1)])) _
      have Vo_ := V_b1
      obtain ⟨cl_, Ar_, q_, S_, N_, H_, G_⟩ := Vo_
      refine Go.by (X.daload hx (j := (0 : Int32)) (v := (.double y0)) (by rw [eT]; exact Ar_.1) (State.isArrayOf_alike hZ.alike Ar_.2.1) Ar_.2.2 (inb_of S_ ⟨by decide, by decide⟩) (Has.at H_ (inb_of S_ ⟨by decide, by decide⟩) rfl) (g := (mkF m 109 #[.val (.ref a1), .val (.int p2), .val (.double x3), .second, .val (.int (1 : Int32)), .val (.int (0 : Int32))] [(.int (0 : Int32)), (.ref b1), (.int (1 : Int32)), (.ref b1)])) rfl rfl (hb hby d5_109)) ?_
      show Go p.tables e below (T.setTop (mkF m 110 #[.val (.ref a1), .val (.int p2), .val (.double x3), .second, .val (.int (1 : Int32)), .val (.int (0 : Int32))] [(.double y0), (.int (1 : Int32)), (.ref b1)])) _
      have Vo_ := V_b1
      obtain ⟨cl_, Ar_, q_, S_, N_, H_, G_⟩ := Vo_
      obtain ⟨T, h12, X, eT, Wh12, st⟩ := stD X hx hZ eT Ar_ (j := (1 : Int32)) (inb_of S_ ⟨by decide, by decide⟩) (g := (mkF m 110 #[.val (.ref a1), .val (.int p2), .val (.double x3), .second, .val (.int (1 : Int32)), .val (.int (0 : Int32))] [(.double y0), (.int (1 : Int32)), (.ref b1)])) rfl rfl (hb hby d5_110)
      have V_b1 := Arv.set Ar_ q_ S_ N_ H_ G_ rfl Wh12 1 rfl (Nat.le_of_ble_eq_true rfl)
      have E_a1 := Exa.wr Wh12 E_a1
      have F_times_a1 := Fld.other Wh12 F_times_a1 (Or.inl ne_a1_b1)
      have F_numbers_a1 := Fld.other Wh12 F_numbers_a1 (Or.inl ne_a1_b1)
      have F_size_a1 := Fld.other Wh12 F_size_a1 (Or.inl ne_a1_b1)
      have V_b4 := Arv.other V_b4 Wh12 ne_b4_b1
      have N := Fr.snoc X N g_b1
      have K := And.intro (Nat.le_trans K.1 (Nat.le_of_eq (Wr.size Wh12).symm)) trivial
      refine Go.by st ?_
      show Go p.tables e below (T.setTop (mkF m 111 #[.val (.ref a1), .val (.int p2), .val (.double x3), .second, .val (.int (1 : Int32)), .val (.int (0 : Int32))] [])) _
      refine Go.by (fun tt_ kk_ => XS.aloadN X.here hx rfl (hb hby d5_111) rfl rfl kk_) ?_
      show Go p.tables e below (T.setTop (mkF m 112 #[.val (.ref a1), .val (.int p2), .val (.double x3), .second, .val (.int (1 : Int32)), .val (.int (0 : Int32))] [(.ref a1)])) _
      obtain ⟨T, X, eT, st⟩ := getF X hx hZ hown (host := "") (Or.inl (hw _ (List.mem_of_getElem? (i := 17) rfl))) Via.refl eT F_numbers_a1 (g := (mkF m 112 #[.val (.ref a1), .val (.int p2), .val (.double x3), .second, .val (.int (1 : Int32)), .val (.int (0 : Int32))] [(.ref a1)])) rfl rfl (hb hby d5_112)
      refine Go.by st ?_
      show Go p.tables e below (T.setTop (mkF m 115 #[.val (.ref a1), .val (.int p2), .val (.double x3), .second, .val (.int (1 : Int32)), .val (.int (0 : Int32))] [(.ref b4)])) _
      refine Go.by (fun tt_ kk_ => XS.iload X.here hx rfl (hb hby d5_115) rfl kk_) ?_
      show Go p.tables e below (T.setTop (mkF m 117 #[.val (.ref a1), .val (.int p2), .val (.double x3), .second, .val (.int (1 : Int32)), .val (.int (0 : Int32))] [(.int (1 : Int32)), (.ref b4)])) _
      refine Go.by (fun tt_ kk_ => XS.aloadN X.here hx rfl (hb hby d5_117) rfl rfl kk_) ?_
      show Go p.tables e below (T.setTop (mkF m 118 #[.val (.ref a1), .val (.int p2), .val (.double x3), .second, .val (.int (1 : Int32)), .val (.int (0 : Int32))] [(.ref a1), (.int (1 : Int32)), (.ref b4)])) _
      obtain ⟨T, X, eT, st⟩ := getF X hx hZ hown (host := "") (Or.inl (hw _ (List.mem_of_getElem? (i := 17) rfl))) Via.refl eT F_numbers_a1 (g := (mkF m 118 #[.val (.ref a1), .val (.int p2), .val (.double x3), .second, .val (.int (1 : Int32)), .val (.int (0 : Int32))] [(.ref a1), (.int (1 : Int32)), (.ref b4)])) rfl rfl (hb hby d5_118)
      refine Go.by st ?_
      show Go p.tables e below (T.setTop (mkF m 121 #[.val (.ref a1), .val (.int p2), .val (.double x3), .second, .val (.int (1 : Int32)), .val (.int (0 : Int32))] [(.ref b4), (.int (1 : Int32)), (.ref b4)])) _
      refine Go.by (fun tt_ kk_ => XS.iload X.here hx rfl (hb hby d5_121) rfl kk_) ?_
      show Go p.tables e below (T.setTop (mkF m 123 #[.val (.ref a1), .val (.int p2), .val (.double x3), .second, .val (.int (1 : Int32)), .val (.int (0 : Int32))] [(.int (0 : Int32)), (.ref b4), (.int (1 : Int32)), (.ref b4)])) _
      have Vo_ := V_b4
      obtain ⟨cl_, Ar_, q_, S_, N_, H_, G_⟩ := Vo_
      refine Go.by (X.iaload hx (j := (0 : Int32)) (v := (.int i0)) (by rw [eT]; exact Ar_.1) (State.isArrayOf_alike hZ.alike Ar_.2.1) Ar_.2.2 (inb_of S_ ⟨by decide, by decide⟩) (Has.at H_ (inb_of S_ ⟨by decide, by decide⟩) rfl) (g := (mkF m 123 #[.val (.ref a1), .val (.int p2), .val (.double x3), .second, .val (.int (1 : Int32)), .val (.int (0 : Int32))] [(.int (0 : Int32)), (.ref b4), (.int (1 : Int32)), (.ref b4)])) rfl rfl (hb hby d5_123)) ?_
      show Go p.tables e below (T.setTop (mkF m 124 #[.val (.ref a1), .val (.int p2), .val (.double x3), .second, .val (.int (1 : Int32)), .val (.int (0 : Int32))] [(.int i0), (.int (1 : Int32)), (.ref b4)])) _
      have Vo_ := V_b4
      obtain ⟨cl_, Ar_, q_, S_, N_, H_, G_⟩ := Vo_
      obtain ⟨T, h13, X, eT, Wh13, st⟩ := stI X hx hZ eT Ar_ (j := (1 : Int32)) (inb_of S_ ⟨by decide, by decide⟩) (g := (mkF m 124 #[.val (.ref a1), .val (.int p2), .val (.double x3), .second, .val (.int (1 : Int32)), .val (.int (0 : Int32))] [(.int i0), (.int (1 : Int32)), (.ref b4)])) rfl rfl (hb hby d5_124)
      have V_b4 := Arv.set Ar_ q_ S_ N_ H_ G_ rfl Wh13 1 rfl (Nat.le_of_ble_eq_true rfl)
      have E_a1 := Exa.wr Wh13 E_a1
      have F_times_a1 := Fld.other Wh13 F_times_a1 (Or.inl ne_a1_b4)
      have F_numbers_a1 := Fld.other Wh13 F_numbers_a1 (Or.inl ne_a1_b4)
      have F_size_a1 := Fld.other Wh13 F_size_a1 (Or.inl ne_a1_b4)
      have V_b1 := Arv.other V_b1 Wh13 ne_b1_b4
      have N := Fr.snoc X N g_b4
      have K := And.intro (Nat.le_trans K.1 (Nat.le_of_eq (Wr.size Wh13).symm)) trivial
      refine Go.by st ?_
      show Go p.tables e below (T.setTop (mkF m 125 #[.val (.ref a1), .val (.int p2), .val (.double x3), .second, .val (.int (1 : Int32)), .val (.int (0 : Int32))] [])) _
      refine Go.by (fun tt_ kk_ => XS.iload X.here hx rfl (hb hby d5_125) rfl kk_) ?_
      show Go p.tables e below (T.setTop (mkF m 127 #[.val (.ref a1), .val (.int p2), .val (.double x3), .second, .val (.int (1 : Int32)), .val (.int (0 : Int32))] [(.int (0 : Int32))])) _
      refine Go.by (fun tt_ kk_ => XS.istore X.here hx rfl (hb hby d5_127) rfl (l' := #[.val (.ref a1), .val (.int p2), .val (.double x3), .second, .val (.int (0 : Int32)), .val (.int (0 : Int32))]) rfl kk_) ?_
      show Go p.tables e below (T.setTop (mkF m 129 #[.val (.ref a1), .val (.int p2), .val (.double x3), .second, .val (.int (0 : Int32)), .val (.int (0 : Int32))] [])) _
      refine Go.by (fun tt_ kk_ => XS.goto X.here hx rfl (pc0 := 129) (pc' := 59) rfl (hb hby d5_129) (by decide) (by decide) kk_) ?_
      show Go p.tables e below (T.setTop (mkF m 59 #[.val (.ref a1), .val (.int p2), .val (.double x3), .second, .val (.int (0 : Int32)), .val (.int (0 : Int32))] [])) _
      refine Go.by (fun tt_ kk_ => XS.iload X.here hx rfl (hb hby d5_59) rfl kk_) ?_
      show Go p.tables e below (T.setTop (mkF m 61 #[.val (.ref a1), .val (.int p2), .val (.double x3), .second, .val (.int (0 : Int32)), .val (.int (0 : Int32))] [(.int (0 : Int32))])) _
      refine Go.by (fun tt_ kk_ => XS.ifYes X.here hx rfl (pc0 := 61) (pc' := 132) rfl (hb hby d5_61) rfl ((if0 _ _).trans (flt (by decide : ¬ ((0 : Int32) < (0 : Int32)))).2.2.2) (by decide) (by decide) kk_) ?_
      show Go p.tables e below (T.setTop (mkF m 132 #[.val (.ref a1), .val (.int p2), .val (.double x3), .second, .val (.int (0 : Int32)), .val (.int (0 : Int32))] [])) _
      refine Go.by (fun tt_ kk_ => XS.aloadN X.here hx rfl (hb hby d5_132) rfl rfl kk_) ?_
      show Go p.tables e below (T.setTop (mkF m 133 #[.val (.ref a1), .val (.int p2), .val (.double x3), .second, .val (.int (0 : Int32)), .val (.int (0 : Int32))] [(.ref a1)])) _
      obtain ⟨T, X, eT, st⟩ := getF X hx hZ hown (host := "") (Or.inl (hw _ (List.mem_of_getElem? (i := 14) rfl))) Via.refl eT F_times_a1 (g := (mkF m 133 #[.val (.ref a1), .val (.int p2), .val (.double x3), .second, .val (.int (0 : Int32)), .val (.int (0 : Int32))] [(.ref a1)])) rfl rfl (hb hby d5_133)
      refine Go.by st ?_
      show Go p.tables e below (T.setTop (mkF m 136 #[.val (.ref a1), .val (.int p2), .val (.double x3), .second, .val (.int (0 : Int32)), .val (.int (0 : Int32))] [(.ref b1)])) _
      refine Go.by (fun tt_ kk_ => XS.iload X.here hx rfl (hb hby d5_136) rfl kk_) ?_
      show Go p.tables e below (T.setTop (mkF m 138 #[.val (.ref a1), .val (.int p2), .val (.double x3), .second, .val (.int (0 : Int32)), .val (.int (0 : Int32))] [(.int (0 : Int32)), (.ref b1)])) _
      refine Go.by (fun tt_ kk_ => XS.dloadN X.here hx rfl (hb hby d5_138) rfl kk_) ?_
      show Go p.tables e below (T.setTop (mkF m 139 #[.val (.ref a1), .val (.int p2), .val (.double x3), .second, .val (.int (0 : Int32)), .val (.int (0 : Int32))] [(.double x3), (.int (0 : Int32)), (.ref b1)])) _
      have Vo_ := V_b1
      obtain ⟨cl_, Ar_, q_, S_, N_, H_, G_⟩ := Vo_
      obtain ⟨T, h14, X, eT, Wh14, st⟩ := stD X hx hZ eT Ar_ (j := (0 : Int32)) (inb_of S_ ⟨by decide, by decide⟩) (g := (mkF m 139 #[.val (.ref a1), .val (.int p2), .val (.double x3), .second, .val (.int (0 : Int32)), .val (.int (0 : Int32))] [(.double x3), (.int (0 : Int32)), (.ref b1)])) rfl rfl (hb hby d5_139)
      have V_b1 := Arv.set Ar_ q_ S_ N_ H_ G_ rfl Wh14 0 rfl (Nat.le_of_ble_eq_true rfl)
      have E_a1 := Exa.wr Wh14 E_a1
      have F_times_a1 := Fld.other Wh14 F_times_a1 (Or.inl ne_a1_b1)
      have F_numbers_a1 := Fld.other Wh14 F_numbers_a1 (Or.inl ne_a1_b1)
      have F_size_a1 := Fld.other Wh14 F_size_a1 (Or.inl ne_a1_b1)
      have V_b4 := Arv.other V_b4 Wh14 ne_b4_b1
      have N := Fr.snoc X N g_b1
      have K := And.intro (Nat.le_trans K.1 (Nat.le_of_eq (Wr.size Wh14).symm)) trivial
      refine Go.by st ?_
      show Go p.tables e below (T.setTop (mkF m 140 #[.val (.ref a1), .val (.int p2), .val (.double x3), .second, .val (.int (0 : Int32)), .val (.int (0 : Int32))] [])) _
      refine Go.by (fun tt_ kk_ => XS.aloadN X.here hx rfl (hb hby d5_140) rfl rfl kk_) ?_
      show Go p.tables e below (T.setTop (mkF m 141 #[.val (.ref a1), .val (.int p2), .val (.double x3), .second, .val (.int (0 : Int32)), .val (.int (0 : Int32))] [(.ref a1)])) _
      obtain ⟨T, X, eT, st⟩ := getF X hx hZ hown (host := "") (Or.inl (hw _ (List.mem_of_getElem? (i := 17) rfl))) Via.refl eT F_numbers_a1 (g := (mkF m 141 #[.val (.ref a1), .val (.int p2), .val (.double x3), .second, .val (.int (0 : Int32)), .val (.int (0 : Int32))] [(.ref a1)])) rfl rfl (hb hby d5_141)
      refine Go.by st ?_
      show Go p.tables e below (T.setTop (mkF m 144 #[.val (.ref a1), .val (.int p2), .val (.double x3), .second, .val (.int (0 : Int32)), .val (.int (0 : Int32))] [(.ref b4)])) _
      refine Go.by (fun tt_ kk_ => XS.iload X.here hx rfl (hb hby d5_144) rfl kk_) ?_
      show Go p.tables e below (T.setTop (mkF m 146 #[.val (.ref a1), .val (.int p2), .val (.double x3), .second, .val (.int (0 : Int32)), .val (.int (0 : Int32))] [(.int (0 : Int32)), (.ref b4)])) _
      refine Go.by (fun tt_ kk_ => XS.iloadN X.here hx rfl (hb hby d5_146) rfl kk_) ?_
      show Go p.tables e below (T.setTop (mkF m 147 #[.val (.ref a1), .val (.int p2), .val (.double x3), .second, .val (.int (0 : Int32)), .val (.int (0 : Int32))] [(.int p2), (.int (0 : Int32)), (.ref b4)])) _
      have Vo_ := V_b4
      obtain ⟨cl_, Ar_, q_, S_, N_, H_, G_⟩ := Vo_
      obtain ⟨T, h15, X, eT, Wh15, st⟩ := stI X hx hZ eT Ar_ (j := (0 : Int32)) (inb_of S_ ⟨by decide, by decide⟩) (g := (mkF m 147 #[.val (.ref a1), .val (.int p2), .val (.double x3), .second, .val (.int (0 : Int32)), .val (.int (0 : Int32))] [(.int p2), (.int (0 : Int32)), (.ref b4)])) rfl rfl (hb hby d5_147)
      have V_b4 := Arv.set Ar_ q_ S_ N_ H_ G_ rfl Wh15 0 rfl (Nat.le_of_ble_eq_true rfl)
      have E_a1 := Exa.wr Wh15 E_a1
      have F_times_a1 := Fld.other Wh15 F_times_a1 (Or.inl ne_a1_b4)
      have F_numbers_a1 := Fld.other Wh15 F_numbers_a1 (Or.inl ne_a1_b4)
      have F_size_a1 := Fld.other Wh15 F_size_a1 (Or.inl ne_a1_b4)
      have V_b1 := Arv.other V_b1 Wh15 ne_b1_b4
      have N := Fr.snoc X N g_b4
      have K := And.intro (Nat.le_trans K.1 (Nat.le_of_eq (Wr.size Wh15).symm)) trivial
      refine Go.by st ?_
      show Go p.tables e below (T.setTop (mkF m 148 #[.val (.ref a1), .val (.int p2), .val (.double x3), .second, .val (.int (0 : Int32)), .val (.int (0 : Int32))] [])) _
      refine Go.by (fun tt_ kk_ => XS.iload X.here hx rfl (hb hby d5_148) rfl kk_) ?_
      show Go p.tables e below (T.setTop (mkF m 150 #[.val (.ref a1), .val (.int p2), .val (.double x3), .second, .val (.int (0 : Int32)), .val (.int (0 : Int32))] [(.int (0 : Int32))])) _
      refine Go.by (fun tt_ kk_ => XS.ifNo X.here hx rfl (hb hby d5_150) rfl ((if0 _ _).trans (teq (rfl : (0 : Int32) = (0 : Int32))).2) kk_) ?_
      show Go p.tables e below (T.setTop (mkF m 153 #[.val (.ref a1), .val (.int p2), .val (.double x3), .second, .val (.int (0 : Int32)), .val (.int (0 : Int32))] [])) _
      refine Go.by (fun tt_ kk_ => XS.iconst X.here hx rfl (hb hby d5_153) kk_) ?_
      show Go p.tables e below (T.setTop (mkF m 154 #[.val (.ref a1), .val (.int p2), .val (.double x3), .second, .val (.int (0 : Int32)), .val (.int (0 : Int32))] [(.int (1 : Int32))])) _
      refine Go.by (fun tt_ kk_ => XS.goto X.here hx rfl (pc0 := 154) (pc' := 158) rfl (hb hby d5_154) (by decide) (by decide) kk_) ?_
      show Go p.tables e below (T.setTop (mkF m 158 #[.val (.ref a1), .val (.int p2), .val (.double x3), .second, .val (.int (0 : Int32)), .val (.int (0 : Int32))] [(.int (1 : Int32))])) _
      exact Go.done X  (v := some (.int (1 : Int32))) (fun h => by rw [Bd.returns] at h; cases h) Bd.notSynchronized (fun fs hr => retN X hx (z := (1 : Int32)) (t := .boolean) Bd.returns (by simp) (hb hby d5_158) hr) (by rw [eT]; exact ⟨_, rfl, N, K, ⟨E_a1, g_a1, b1, b4, _, _, _, _, _, _, _, _, _, _, _, F_times_a1, F_numbers_a1, F_size_a1, V_b1, V_b4, g_b1, g_b4, ne_a1_b1, ne_a1_b4, ne_b1_b4, nn_x3, nn_y0, own_nn0, own_nn0, by decide, by decide, by decide⟩⟩) (by decide) (by decide)
  · have hl1 : (1 : Int32) < cc := by
      have q : ¬ cc.toInt = 1 := fun q => hc9 (Int32.toInt_inj.mp (by rw [q]; decide))
      rw [Int32.lt_iff_toInt_lt, show ((1 : Int32)).toInt = 1 by decide]; omega
    have bs_2 : ((2 : Int32)).toInt ≤ cc.toInt := by
      rw [Int32.lt_iff_toInt_lt, show ((1 : Int32)).toInt = 1 by decide] at hl1
      rw [show ((2 : Int32)).toInt = 2 by decide]; omega
    refine Go.by (fun tt_ kk_ => XS.icmpYes X.here hx rfl (pc0 := 9) (pc' := 46) rfl (hb hby d5_9) rfl (feq hc9).2 (by decide) (by decide) kk_) ?_
    show Go p.tables e below (T.setTop (mkF m 46 #[.val (.ref a1), .val (.int p2), .val (.double x3), .second, .unset, .unset] [])) _
    refine Go.by (fun tt_ kk_ => XS.aloadN X.here hx rfl (hb hby d5_46) rfl rfl kk_) ?_
    show Go p.tables e below (T.setTop (mkF m 47 #[.val (.ref a1), .val (.int p2), .val (.double x3), .second, .unset, .unset] [(.ref a1)])) _
    refine Go.by (fun tt_ kk_ => XS.dup X.here hx rfl (hb hby d5_47) rfl rfl kk_) ?_
    show Go p.tables e below (T.setTop (mkF m 48 #[.val (.ref a1), .val (.int p2), .val (.double x3), .second, .unset, .unset] [(.ref a1), (.ref a1)])) _
    obtain ⟨T, X, eT, st⟩ := getF X hx hZ hown (host := "") (Or.inl (hw _ (List.mem_of_getElem? (i := 24) rfl))) Via.refl eT F_size_a1 (g := (mkF m 48 #[.val (.ref a1), .val (.int p2), .val (.double x3), .second, .unset, .unset] [(.ref a1), (.ref a1)])) rfl rfl (hb hby d5_48)
    refine Go.by st ?_
    show Go p.tables e below (T.setTop (mkF m 51 #[.val (.ref a1), .val (.int p2), .val (.double x3), .second, .unset, .unset] [(.int (1 : Int32)), (.ref a1)])) _
    refine Go.by (fun tt_ kk_ => XS.dupX1 X.here hx rfl (hb hby d5_51) rfl rfl rfl kk_) ?_
    show Go p.tables e below (T.setTop (mkF m 52 #[.val (.ref a1), .val (.int p2), .val (.double x3), .second, .unset, .unset] [(.int (1 : Int32)), (.ref a1), (.int (1 : Int32))])) _
    refine Go.by (fun tt_ kk_ => XS.iconst X.here hx rfl (hb hby d5_52) kk_) ?_
    show Go p.tables e below (T.setTop (mkF m 53 #[.val (.ref a1), .val (.int p2), .val (.double x3), .second, .unset, .unset] [(.int (1 : Int32)), (.int (1 : Int32)), (.ref a1), (.int (1 : Int32))])) _
    refine Go.by (fun tt_ kk_ => XS.iadd X.here hx rfl (hb hby d5_53) rfl kk_) ?_
    show Go p.tables e below (T.setTop (mkF m 54 #[.val (.ref a1), .val (.int p2), .val (.double x3), .second, .unset, .unset] [(.int (2 : Int32)), (.ref a1), (.int (1 : Int32))])) _
    obtain ⟨T, h16, X, eT, Wh16, st⟩ := putF X hx hZ hown (host := "") (Or.inl (hw _ (List.mem_of_getElem? (i := 24) rfl))) Via.refl eT F_size_a1 E_a1 (Or.inl (hw _ (List.mem_of_getElem? (i := 25) rfl))) (hw _ (List.mem_of_getElem? (i := 1) rfl)) (ty := .int) (by decide) rfl rfl (g := (mkF m 54 #[.val (.ref a1), .val (.int p2), .val (.double x3), .second, .unset, .unset] [(.int (2 : Int32)), (.ref a1), (.int (1 : Int32))])) rfl rfl (hb hby d5_54)
    have F_size_a1 := Fld.same Wh16 F_size_a1
    have E_a1 := Exa.wr Wh16 E_a1
    have F_times_a1 := Fld.other Wh16 F_times_a1 (Or.inr (slot_ne (Or.inl (hw _ (List.mem_of_getElem? (i := 15) rfl))) (Or.inl (hw _ (List.mem_of_getElem? (i := 25) rfl))) (by decide) (t := (.array .double)) (t' := .int) (by decide) (by decide)))
    have F_numbers_a1 := Fld.other Wh16 F_numbers_a1 (Or.inr (slot_ne (Or.inl (hw _ (List.mem_of_getElem? (i := 18) rfl))) (Or.inl (hw _ (List.mem_of_getElem? (i := 25) rfl))) (by decide) (t := (.array .int)) (t' := .int) (by decide) (by decide)))
    have V_ti := Arv.other V_ti Wh16 ne_ti_a1
    have V_nu := Arv.other V_nu Wh16 ne_nu_a1
    have N := Fr.snoc X N g_a1
    have K := And.intro (Nat.le_trans K.1 (Nat.le_of_eq (Wr.size Wh16).symm)) trivial
    refine Go.by st ?_
    show Go p.tables e below (T.setTop (mkF m 57 #[.val (.ref a1), .val (.int p2), .val (.double x3), .second, .unset, .unset] [(.int (1 : Int32))])) _
    refine Go.by (fun tt_ kk_ => XS.istore X.here hx rfl (hb hby d5_57) rfl (l' := #[.val (.ref a1), .val (.int p2), .val (.double x3), .second, .val (.int (1 : Int32)), .unset]) rfl kk_) ?_
    show Go p.tables e below (T.setTop (mkF m 59 #[.val (.ref a1), .val (.int p2), .val (.double x3), .second, .val (.int (1 : Int32)), .unset] [])) _
    refine Go.by (fun tt_ kk_ => XS.iload X.here hx rfl (hb hby d5_59) rfl kk_) ?_
    show Go p.tables e below (T.setTop (mkF m 61 #[.val (.ref a1), .val (.int p2), .val (.double x3), .second, .val (.int (1 : Int32)), .unset] [(.int (1 : Int32))])) _
    refine Go.by (fun tt_ kk_ => XS.ifNo X.here hx rfl (hb hby d5_61) rfl ((if0 _ _).trans (tlt (by decide : (0 : Int32) < (1 : Int32))).2.2.2) kk_) ?_
    show Go p.tables e below (T.setTop (mkF m 64 #[.val (.ref a1), .val (.int p2), .val (.double x3), .second, .val (.int (1 : Int32)), .unset] [])) _
    refine Go.by (fun tt_ kk_ => XS.iload X.here hx rfl (hb hby d5_64) rfl kk_) ?_
    show Go p.tables e below (T.setTop (mkF m 66 #[.val (.ref a1), .val (.int p2), .val (.double x3), .second, .val (.int (1 : Int32)), .unset] [(.int (1 : Int32))])) _
    refine Go.by (fun tt_ kk_ => XS.iconst X.here hx rfl (hb hby d5_66) kk_) ?_
    show Go p.tables e below (T.setTop (mkF m 67 #[.val (.ref a1), .val (.int p2), .val (.double x3), .second, .val (.int (1 : Int32)), .unset] [(.int (1 : Int32)), (.int (1 : Int32))])) _
    refine Go.by (fun tt_ kk_ => XS.isub X.here hx rfl (hb hby d5_67) rfl kk_) ?_
    show Go p.tables e below (T.setTop (mkF m 68 #[.val (.ref a1), .val (.int p2), .val (.double x3), .second, .val (.int (1 : Int32)), .unset] [(.int (0 : Int32))])) _
    refine Go.by (fun tt_ kk_ => XS.iconst X.here hx rfl (hb hby d5_68) kk_) ?_
    show Go p.tables e below (T.setTop (mkF m 69 #[.val (.ref a1), .val (.int p2), .val (.double x3), .second, .val (.int (1 : Int32)), .unset] [(.int (4 : Int32)), (.int (0 : Int32))])) _
    refine Go.by (fun tt_ kk_ => XS.idiv X.here hx rfl (hb hby d5_69) rfl (by decide) kk_) ?_
    show Go p.tables e below (T.setTop (mkF m 70 #[.val (.ref a1), .val (.int p2), .val (.double x3), .second, .val (.int (1 : Int32)), .unset] [(.int (0 : Int32))])) _
    refine Go.by (fun tt_ kk_ => XS.istore X.here hx rfl (hb hby d5_70) rfl (l' := #[.val (.ref a1), .val (.int p2), .val (.double x3), .second, .val (.int (1 : Int32)), .val (.int (0 : Int32))]) rfl kk_) ?_
    show Go p.tables e below (T.setTop (mkF m 72 #[.val (.ref a1), .val (.int p2), .val (.double x3), .second, .val (.int (1 : Int32)), .val (.int (0 : Int32))] [])) _
    refine Go.by (fun tt_ kk_ => XS.dloadN X.here hx rfl (hb hby d5_72) rfl kk_) ?_
    show Go p.tables e below (T.setTop (mkF m 73 #[.val (.ref a1), .val (.int p2), .val (.double x3), .second, .val (.int (1 : Int32)), .val (.int (0 : Int32))] [(.double x3)])) _
    refine Go.by (fun tt_ kk_ => XS.iloadN X.here hx rfl (hb hby d5_73) rfl kk_) ?_
    show Go p.tables e below (T.setTop (mkF m 74 #[.val (.ref a1), .val (.int p2), .val (.double x3), .second, .val (.int (1 : Int32)), .val (.int (0 : Int32))] [(.int p2), (.double x3)])) _
    refine Go.by (fun tt_ kk_ => XS.aloadN X.here hx rfl (hb hby d5_74) rfl rfl kk_) ?_
    show Go p.tables e below (T.setTop (mkF m 75 #[.val (.ref a1), .val (.int p2), .val (.double x3), .second, .val (.int (1 : Int32)), .val (.int (0 : Int32))] [(.ref a1), (.int p2), (.double x3)])) _
    obtain ⟨T, X, eT, st⟩ := getF X hx hZ hown (host := "") (Or.inl (hw _ (List.mem_of_getElem? (i := 14) rfl))) Via.refl eT F_times_a1 (g := (mkF m 75 #[.val (.ref a1), .val (.int p2), .val (.double x3), .second, .val (.int (1 : Int32)), .val (.int (0 : Int32))] [(.ref a1), (.int p2), (.double x3)])) rfl rfl (hb hby d5_75)
    refine Go.by st ?_
    show Go p.tables e below (T.setTop (mkF m 78 #[.val (.ref a1), .val (.int p2), .val (.double x3), .second, .val (.int (1 : Int32)), .val (.int (0 : Int32))] [(.ref ti), (.int p2), (.double x3)])) _
    refine Go.by (fun tt_ kk_ => XS.iload X.here hx rfl (hb hby d5_78) rfl kk_) ?_
    show Go p.tables e below (T.setTop (mkF m 80 #[.val (.ref a1), .val (.int p2), .val (.double x3), .second, .val (.int (1 : Int32)), .val (.int (0 : Int32))] [(.int (0 : Int32)), (.ref ti), (.int p2), (.double x3)])) _
    have Vo_ := V_ti
    obtain ⟨cl_, Ar_, q_, S_, N_, H_, G_⟩ := Vo_
    refine Go.by (X.daload hx (j := (0 : Int32)) (v := (.double y0)) (by rw [eT]; exact Ar_.1) (State.isArrayOf_alike hZ.alike Ar_.2.1) Ar_.2.2 (inb_of S_ ⟨by decide, hl0⟩) (Has.at H_ (inb_of S_ ⟨by decide, hl0⟩) rfl) (g := (mkF m 80 #[.val (.ref a1), .val (.int p2), .val (.double x3), .second, .val (.int (1 : Int32)), .val (.int (0 : Int32))] [(.int (0 : Int32)), (.ref ti), (.int p2), (.double x3)])) rfl rfl (hb hby d5_80)) ?_
    show Go p.tables e below (T.setTop (mkF m 81 #[.val (.ref a1), .val (.int p2), .val (.double x3), .second, .val (.int (1 : Int32)), .val (.int (0 : Int32))] [(.double y0), (.int p2), (.double x3)])) _
    refine Go.by (fun tt_ kk_ => XS.aloadN X.here hx rfl (hb hby d5_81) rfl rfl kk_) ?_
    show Go p.tables e below (T.setTop (mkF m 82 #[.val (.ref a1), .val (.int p2), .val (.double x3), .second, .val (.int (1 : Int32)), .val (.int (0 : Int32))] [(.ref a1), (.double y0), (.int p2), (.double x3)])) _
    obtain ⟨T, X, eT, st⟩ := getF X hx hZ hown (host := "") (Or.inl (hw _ (List.mem_of_getElem? (i := 17) rfl))) Via.refl eT F_numbers_a1 (g := (mkF m 82 #[.val (.ref a1), .val (.int p2), .val (.double x3), .second, .val (.int (1 : Int32)), .val (.int (0 : Int32))] [(.ref a1), (.double y0), (.int p2), (.double x3)])) rfl rfl (hb hby d5_82)
    refine Go.by st ?_
    show Go p.tables e below (T.setTop (mkF m 85 #[.val (.ref a1), .val (.int p2), .val (.double x3), .second, .val (.int (1 : Int32)), .val (.int (0 : Int32))] [(.ref nu), (.double y0), (.int p2), (.double x3)])) _
    refine Go.by (fun tt_ kk_ => XS.iload X.here hx rfl (hb hby d5_85) rfl kk_) ?_
    show Go p.tables e below (T.setTop (mkF m 87 #[.val (.ref a1), .val (.int p2), .val (.double x3), .second, .val (.int (1 : Int32)), .val (.int (0 : Int32))] [(.int (0 : Int32)), (.ref nu), (.double y0), (.int p2), (.double x3)])) _
    have Vo_ := V_nu
    obtain ⟨cl_, Ar_, q_, S_, N_, H_, G_⟩ := Vo_
    refine Go.by (X.iaload hx (j := (0 : Int32)) (v := (.int i0)) (by rw [eT]; exact Ar_.1) (State.isArrayOf_alike hZ.alike Ar_.2.1) Ar_.2.2 (inb_of S_ ⟨by decide, hl0⟩) (Has.at H_ (inb_of S_ ⟨by decide, hl0⟩) rfl) (g := (mkF m 87 #[.val (.ref a1), .val (.int p2), .val (.double x3), .second, .val (.int (1 : Int32)), .val (.int (0 : Int32))] [(.int (0 : Int32)), (.ref nu), (.double y0), (.int p2), (.double x3)])) rfl rfl (hb hby d5_87)) ?_
    show Go p.tables e below (T.setTop (mkF m 88 #[.val (.ref a1), .val (.int p2), .val (.double x3), .second, .val (.int (1 : Int32)), .val (.int (0 : Int32))] [(.int i0), (.double y0), (.int p2), (.double x3)])) _
    obtain ⟨_, _, ⟨T, L_, k_, n_⟩, -, X, ⟨Lc_, hQ, l_, y_, z_⟩, st⟩ := Jvm.LawKit.callS X hx (y := (⟨"com/example/mode_choice_loop/modechoiceloop/simulation/TimeHeap", "precedes", "(DIDI)Z"⟩ : MethodName)) hown (mvT hZ (hw _ (List.mem_of_getElem? (i := 45) rfl))) (mvT hZ (hw _ (List.mem_of_getElem? (i := 46) rfl))) (mvT hZ (hw _ (List.mem_of_getElem? (i := 2) rfl))) (mvT hZ (hw _ (List.mem_of_getElem? (i := 47) rfl))) (by decide) (backOf (W := 0) (rm9 l Z a0 hw [] x3 p2 y0 i0 h16 n0 (Nat.le_trans Z0 K.1) nn_x3 nn_y0) hZ (hw _ (List.mem_of_getElem? (i := 47) rfl)) (hw _ (List.mem_of_getElem? (i := 2) rfl)) (by decide) (by decide)) (g := (mkF m 88 #[.val (.ref a1), .val (.int p2), .val (.double x3), .second, .val (.int (1 : Int32)), .val (.int (0 : Int32))] [(.int i0), (.double y0), (.int p2), (.double x3)])) rfl (by rw [hml]; rfl) (argsL := [(.double x3), (.int p2), (.double y0), (.int i0)]) (rest := []) (lenOf pd_6 rfl) rfl (by show 2 * 0 + _ ≤ _; exact Nat.le_of_eq rfl) (hb hby d5_88) (fun _ _ => ⟨rfl, eT, (by decide : 0 + 0 ≤ _), (by decide : 0 + 0 ≤ _)⟩)
    dsimp only [Pt.U, Pt.locs, Pt.cells, Pt.slots] at X l_ y_ z_ st hQ
    subst l_ y_ z_
    obtain ⟨r17, rfl, Nq, eh⟩ := hQ
    have N := Fr.app N Nq
    have eT := eh
    refine Go.by st ?_
    show Go p.tables e below (T.setTop (mkF m 91 #[.val (.ref a1), .val (.int p2), .val (.double x3), .second, .val (.int (1 : Int32)), .val (.int (0 : Int32))] [(.int r17)])) _
    by_cases hc91 : r17 = (0 : Int32)
    · refine Go.by (fun tt_ kk_ => XS.ifNo X.here hx rfl (hb hby d5_91) rfl ((if0 _ _).trans (teq hc91).2) kk_) ?_
      show Go p.tables e below (T.setTop (mkF m 94 #[.val (.ref a1), .val (.int p2), .val (.double x3), .second, .val (.int (1 : Int32)), .val (.int (0 : Int32))] [])) _
      refine Go.by (fun tt_ kk_ => XS.goto X.here hx rfl (pc0 := 94) (pc' := 132) rfl (hb hby d5_94) (by decide) (by decide) kk_) ?_
      show Go p.tables e below (T.setTop (mkF m 132 #[.val (.ref a1), .val (.int p2), .val (.double x3), .second, .val (.int (1 : Int32)), .val (.int (0 : Int32))] [])) _
      refine Go.by (fun tt_ kk_ => XS.aloadN X.here hx rfl (hb hby d5_132) rfl rfl kk_) ?_
      show Go p.tables e below (T.setTop (mkF m 133 #[.val (.ref a1), .val (.int p2), .val (.double x3), .second, .val (.int (1 : Int32)), .val (.int (0 : Int32))] [(.ref a1)])) _
      obtain ⟨T, X, eT, st⟩ := getF X hx hZ hown (host := "") (Or.inl (hw _ (List.mem_of_getElem? (i := 14) rfl))) Via.refl eT F_times_a1 (g := (mkF m 133 #[.val (.ref a1), .val (.int p2), .val (.double x3), .second, .val (.int (1 : Int32)), .val (.int (0 : Int32))] [(.ref a1)])) rfl rfl (hb hby d5_133)
      refine Go.by st ?_
      show Go p.tables e below (T.setTop (mkF m 136 #[.val (.ref a1), .val (.int p2), .val (.double x3), .second, .val (.int (1 : Int32)), .val (.int (0 : Int32))] [(.ref ti)])) _
      refine Go.by (fun tt_ kk_ => XS.iload X.here hx rfl (hb hby d5_136) rfl kk_) ?_
      show Go p.tables e below (T.setTop (mkF m 138 #[.val (.ref a1), .val (.int p2), .val (.double x3), .second, .val (.int (1 : Int32)), .val (.int (0 : Int32))] [(.int (1 : Int32)), (.ref ti)])) _
      refine Go.by (fun tt_ kk_ => XS.dloadN X.here hx rfl (hb hby d5_138) rfl kk_) ?_
      show Go p.tables e below (T.setTop (mkF m 139 #[.val (.ref a1), .val (.int p2), .val (.double x3), .second, .val (.int (1 : Int32)), .val (.int (0 : Int32))] [(.double x3), (.int (1 : Int32)), (.ref ti)])) _
      have Vo_ := V_ti
      obtain ⟨cl_, Ar_, q_, S_, N_, H_, G_⟩ := Vo_
      obtain ⟨T, h19, X, eT, Wh19, st⟩ := stD X hx hZ eT Ar_ (j := (1 : Int32)) (inb_of S_ ⟨by decide, hl1⟩) (g := (mkF m 139 #[.val (.ref a1), .val (.int p2), .val (.double x3), .second, .val (.int (1 : Int32)), .val (.int (0 : Int32))] [(.double x3), (.int (1 : Int32)), (.ref ti)])) rfl rfl (hb hby d5_139)
      have V_ti := Arv.set Ar_ q_ S_ N_ H_ G_ rfl Wh19 1 rfl (Nat.le_of_ble_eq_true rfl)
      have E_a1 := Exa.wr Wh19 E_a1
      have F_times_a1 := Fld.other Wh19 F_times_a1 (Or.inl ne_a1_ti)
      have F_numbers_a1 := Fld.other Wh19 F_numbers_a1 (Or.inl ne_a1_ti)
      have F_size_a1 := Fld.other Wh19 F_size_a1 (Or.inl ne_a1_ti)
      have V_nu := Arv.other V_nu Wh19 ne_nu_ti
      have N := Fr.snoc X N g_ti
      have K := And.intro (Nat.le_trans K.1 (Nat.le_of_eq (Wr.size Wh19).symm)) trivial
      refine Go.by st ?_
      show Go p.tables e below (T.setTop (mkF m 140 #[.val (.ref a1), .val (.int p2), .val (.double x3), .second, .val (.int (1 : Int32)), .val (.int (0 : Int32))] [])) _
      refine Go.by (fun tt_ kk_ => XS.aloadN X.here hx rfl (hb hby d5_140) rfl rfl kk_) ?_
      show Go p.tables e below (T.setTop (mkF m 141 #[.val (.ref a1), .val (.int p2), .val (.double x3), .second, .val (.int (1 : Int32)), .val (.int (0 : Int32))] [(.ref a1)])) _
      obtain ⟨T, X, eT, st⟩ := getF X hx hZ hown (host := "") (Or.inl (hw _ (List.mem_of_getElem? (i := 17) rfl))) Via.refl eT F_numbers_a1 (g := (mkF m 141 #[.val (.ref a1), .val (.int p2), .val (.double x3), .second, .val (.int (1 : Int32)), .val (.int (0 : Int32))] [(.ref a1)])) rfl rfl (hb hby d5_141)
      refine Go.by st ?_
      show Go p.tables e below (T.setTop (mkF m 144 #[.val (.ref a1), .val (.int p2), .val (.double x3), .second, .val (.int (1 : Int32)), .val (.int (0 : Int32))] [(.ref nu)])) _
      refine Go.by (fun tt_ kk_ => XS.iload X.here hx rfl (hb hby d5_144) rfl kk_) ?_
      show Go p.tables e below (T.setTop (mkF m 146 #[.val (.ref a1), .val (.int p2), .val (.double x3), .second, .val (.int (1 : Int32)), .val (.int (0 : Int32))] [(.int (1 : Int32)), (.ref nu)])) _
      refine Go.by (fun tt_ kk_ => XS.iloadN X.here hx rfl (hb hby d5_146) rfl kk_) ?_
      show Go p.tables e below (T.setTop (mkF m 147 #[.val (.ref a1), .val (.int p2), .val (.double x3), .second, .val (.int (1 : Int32)), .val (.int (0 : Int32))] [(.int p2), (.int (1 : Int32)), (.ref nu)])) _
      have Vo_ := V_nu
      obtain ⟨cl_, Ar_, q_, S_, N_, H_, G_⟩ := Vo_
      obtain ⟨T, h20, X, eT, Wh20, st⟩ := stI X hx hZ eT Ar_ (j := (1 : Int32)) (inb_of S_ ⟨by decide, hl1⟩) (g := (mkF m 147 #[.val (.ref a1), .val (.int p2), .val (.double x3), .second, .val (.int (1 : Int32)), .val (.int (0 : Int32))] [(.int p2), (.int (1 : Int32)), (.ref nu)])) rfl rfl (hb hby d5_147)
      have V_nu := Arv.set Ar_ q_ S_ N_ H_ G_ rfl Wh20 1 rfl (Nat.le_of_ble_eq_true rfl)
      have E_a1 := Exa.wr Wh20 E_a1
      have F_times_a1 := Fld.other Wh20 F_times_a1 (Or.inl ne_a1_nu)
      have F_numbers_a1 := Fld.other Wh20 F_numbers_a1 (Or.inl ne_a1_nu)
      have F_size_a1 := Fld.other Wh20 F_size_a1 (Or.inl ne_a1_nu)
      have V_ti := Arv.other V_ti Wh20 ne_ti_nu
      have N := Fr.snoc X N g_nu
      have K := And.intro (Nat.le_trans K.1 (Nat.le_of_eq (Wr.size Wh20).symm)) trivial
      refine Go.by st ?_
      show Go p.tables e below (T.setTop (mkF m 148 #[.val (.ref a1), .val (.int p2), .val (.double x3), .second, .val (.int (1 : Int32)), .val (.int (0 : Int32))] [])) _
      refine Go.by (fun tt_ kk_ => XS.iload X.here hx rfl (hb hby d5_148) rfl kk_) ?_
      show Go p.tables e below (T.setTop (mkF m 150 #[.val (.ref a1), .val (.int p2), .val (.double x3), .second, .val (.int (1 : Int32)), .val (.int (0 : Int32))] [(.int (1 : Int32))])) _
      refine Go.by (fun tt_ kk_ => XS.ifYes X.here hx rfl (pc0 := 150) (pc' := 157) rfl (hb hby d5_150) rfl ((if0 _ _).trans (feq (by decide : ¬ ((1 : Int32) = (0 : Int32)))).2) (by decide) (by decide) kk_) ?_
      show Go p.tables e below (T.setTop (mkF m 157 #[.val (.ref a1), .val (.int p2), .val (.double x3), .second, .val (.int (1 : Int32)), .val (.int (0 : Int32))] [])) _
      refine Go.by (fun tt_ kk_ => XS.iconst X.here hx rfl (hb hby d5_157) kk_) ?_
      show Go p.tables e below (T.setTop (mkF m 158 #[.val (.ref a1), .val (.int p2), .val (.double x3), .second, .val (.int (1 : Int32)), .val (.int (0 : Int32))] [(.int (0 : Int32))])) _
      exact Go.done X  (v := some (.int (0 : Int32))) (fun h => by rw [Bd.returns] at h; cases h) Bd.notSynchronized (fun fs hr => retN X hx (z := (0 : Int32)) (t := .boolean) Bd.returns (by simp) (hb hby d5_158) hr) (by rw [eT]; exact ⟨_, rfl, N, K, ⟨E_a1, g_a1, ti, nu, _, _, _, _, _, _, _, _, _, _, _, F_times_a1, F_numbers_a1, F_size_a1, V_ti, V_nu, g_ti, g_nu, ne_a1_ti, ne_a1_nu, ne_ti_nu, nn_y0, nn_x3, nn_y2, nn_y3, bc1, bc2, bs_2⟩⟩) (by decide) (by decide)
    · refine Go.by (fun tt_ kk_ => XS.ifYes X.here hx rfl (pc0 := 91) (pc' := 97) rfl (hb hby d5_91) rfl ((if0 _ _).trans (feq hc91).2) (by decide) (by decide) kk_) ?_
      show Go p.tables e below (T.setTop (mkF m 97 #[.val (.ref a1), .val (.int p2), .val (.double x3), .second, .val (.int (1 : Int32)), .val (.int (0 : Int32))] [])) _
      refine Go.by (fun tt_ kk_ => XS.aloadN X.here hx rfl (hb hby d5_97) rfl rfl kk_) ?_
      show Go p.tables e below (T.setTop (mkF m 98 #[.val (.ref a1), .val (.int p2), .val (.double x3), .second, .val (.int (1 : Int32)), .val (.int (0 : Int32))] [(.ref a1)])) _
      obtain ⟨T, X, eT, st⟩ := getF X hx hZ hown (host := "") (Or.inl (hw _ (List.mem_of_getElem? (i := 14) rfl))) Via.refl eT F_times_a1 (g := (mkF m 98 #[.val (.ref a1), .val (.int p2), .val (.double x3), .second, .val (.int (1 : Int32)), .val (.int (0 : Int32))] [(.ref a1)])) rfl rfl (hb hby d5_98)
      refine Go.by st ?_
      show Go p.tables e below (T.setTop (mkF m 101 #[.val (.ref a1), .val (.int p2), .val (.double x3), .second, .val (.int (1 : Int32)), .val (.int (0 : Int32))] [(.ref ti)])) _
      refine Go.by (fun tt_ kk_ => XS.iload X.here hx rfl (hb hby d5_101) rfl kk_) ?_
      show Go p.tables e below (T.setTop (mkF m 103 #[.val (.ref a1), .val (.int p2), .val (.double x3), .second, .val (.int (1 : Int32)), .val (.int (0 : Int32))] [(.int (1 : Int32)), (.ref ti)])) _
      refine Go.by (fun tt_ kk_ => XS.aloadN X.here hx rfl (hb hby d5_103) rfl rfl kk_) ?_
      show Go p.tables e below (T.setTop (mkF m 104 #[.val (.ref a1), .val (.int p2), .val (.double x3), .second, .val (.int (1 : Int32)), .val (.int (0 : Int32))] [(.ref a1), (.int (1 : Int32)), (.ref ti)])) _
      obtain ⟨T, X, eT, st⟩ := getF X hx hZ hown (host := "") (Or.inl (hw _ (List.mem_of_getElem? (i := 14) rfl))) Via.refl eT F_times_a1 (g := (mkF m 104 #[.val (.ref a1), .val (.int p2), .val (.double x3), .second, .val (.int (1 : Int32)), .val (.int (0 : Int32))] [(.ref a1), (.int (1 : Int32)), (.ref ti)])) rfl rfl (hb hby d5_104)
      refine Go.by st ?_
      show Go p.tables e below (T.setTop (mkF m 107 #[.val (.ref a1), .val (.int p2), .val (.double x3), .second, .val (.int (1 : Int32)), .val (.int (0 : Int32))] [(.ref ti), (.int (1 : Int32)), (.ref ti)])) _
      refine Go.by (fun tt_ kk_ => XS.iload X.here hx rfl (hb hby d5_107) rfl kk_) ?_
      show Go p.tables e below (T.setTop (mkF m 109 #[.val (.ref a1), .val (.int p2), .val (.double x3), .second, .val (.int (1 : Int32)), .val (.int (0 : Int32))] [(.int (0 : Int32)), (.ref ti), (.int (1 : Int32)), (.ref ti)])) _
      have Vo_ := V_ti
      obtain ⟨cl_, Ar_, q_, S_, N_, H_, G_⟩ := Vo_
      refine Go.by (X.daload hx (j := (0 : Int32)) (v := (.double y0)) (by rw [eT]; exact Ar_.1) (State.isArrayOf_alike hZ.alike Ar_.2.1) Ar_.2.2 (inb_of S_ ⟨by decide, hl0⟩) (Has.at H_ (inb_of S_ ⟨by decide, hl0⟩) rfl) (g := (mkF m 109 #[.val (.ref a1), .val (.int p2), .val (.double x3), .second, .val (.int (1 : Int32)), .val (.int (0 : Int32))] [(.int (0 : Int32)), (.ref ti), (.int (1 : Int32)), (.ref ti)])) rfl rfl (hb hby d5_109)) ?_
      show Go p.tables e below (T.setTop (mkF m 110 #[.val (.ref a1), .val (.int p2), .val (.double x3), .second, .val (.int (1 : Int32)), .val (.int (0 : Int32))] [(.double y0), (.int (1 : Int32)), (.ref ti)])) _
      have Vo_ := V_ti
      obtain ⟨cl_, Ar_, q_, S_, N_, H_, G_⟩ := Vo_
      obtain ⟨T, h21, X, eT, Wh21, st⟩ := stD X hx hZ eT Ar_ (j := (1 : Int32)) (inb_of S_ ⟨by decide, hl1⟩) (g := (mkF m 110 #[.val (.ref a1), .val (.int p2), .val (.double x3), .second, .val (.int (1 : Int32)), .val (.int (0 : Int32))] [(.double y0), (.int (1 : Int32)), (.ref ti)])) rfl rfl (hb hby d5_110)
      have V_ti := Arv.set Ar_ q_ S_ N_ H_ G_ rfl Wh21 1 rfl (Nat.le_of_ble_eq_true rfl)
      have E_a1 := Exa.wr Wh21 E_a1
      have F_times_a1 := Fld.other Wh21 F_times_a1 (Or.inl ne_a1_ti)
      have F_numbers_a1 := Fld.other Wh21 F_numbers_a1 (Or.inl ne_a1_ti)
      have F_size_a1 := Fld.other Wh21 F_size_a1 (Or.inl ne_a1_ti)
      have V_nu := Arv.other V_nu Wh21 ne_nu_ti
      have N := Fr.snoc X N g_ti
      have K := And.intro (Nat.le_trans K.1 (Nat.le_of_eq (Wr.size Wh21).symm)) trivial
      refine Go.by st ?_
      show Go p.tables e below (T.setTop (mkF m 111 #[.val (.ref a1), .val (.int p2), .val (.double x3), .second, .val (.int (1 : Int32)), .val (.int (0 : Int32))] [])) _
      refine Go.by (fun tt_ kk_ => XS.aloadN X.here hx rfl (hb hby d5_111) rfl rfl kk_) ?_
      show Go p.tables e below (T.setTop (mkF m 112 #[.val (.ref a1), .val (.int p2), .val (.double x3), .second, .val (.int (1 : Int32)), .val (.int (0 : Int32))] [(.ref a1)])) _
      obtain ⟨T, X, eT, st⟩ := getF X hx hZ hown (host := "") (Or.inl (hw _ (List.mem_of_getElem? (i := 17) rfl))) Via.refl eT F_numbers_a1 (g := (mkF m 112 #[.val (.ref a1), .val (.int p2), .val (.double x3), .second, .val (.int (1 : Int32)), .val (.int (0 : Int32))] [(.ref a1)])) rfl rfl (hb hby d5_112)
      refine Go.by st ?_
      show Go p.tables e below (T.setTop (mkF m 115 #[.val (.ref a1), .val (.int p2), .val (.double x3), .second, .val (.int (1 : Int32)), .val (.int (0 : Int32))] [(.ref nu)])) _
      refine Go.by (fun tt_ kk_ => XS.iload X.here hx rfl (hb hby d5_115) rfl kk_) ?_
      show Go p.tables e below (T.setTop (mkF m 117 #[.val (.ref a1), .val (.int p2), .val (.double x3), .second, .val (.int (1 : Int32)), .val (.int (0 : Int32))] [(.int (1 : Int32)), (.ref nu)])) _
      refine Go.by (fun tt_ kk_ => XS.aloadN X.here hx rfl (hb hby d5_117) rfl rfl kk_) ?_
      show Go p.tables e below (T.setTop (mkF m 118 #[.val (.ref a1), .val (.int p2), .val (.double x3), .second, .val (.int (1 : Int32)), .val (.int (0 : Int32))] [(.ref a1), (.int (1 : Int32)), (.ref nu)])) _
      obtain ⟨T, X, eT, st⟩ := getF X hx hZ hown (host := "") (Or.inl (hw _ (List.mem_of_getElem? (i := 17) rfl))) Via.refl eT F_numbers_a1 (g := (mkF m 118 #[.val (.ref a1), .val (.int p2), .val (.double x3), .second, .val (.int (1 : Int32)), .val (.int (0 : Int32))] [(.ref a1), (.int (1 : Int32)), (.ref nu)])) rfl rfl (hb hby d5_118)
      refine Go.by st ?_
      show Go p.tables e below (T.setTop (mkF m 121 #[.val (.ref a1), .val (.int p2), .val (.double x3), .second, .val (.int (1 : Int32)), .val (.int (0 : Int32))] [(.ref nu), (.int (1 : Int32)), (.ref nu)])) _
      refine Go.by (fun tt_ kk_ => XS.iload X.here hx rfl (hb hby d5_121) rfl kk_) ?_
      show Go p.tables e below (T.setTop (mkF m 123 #[.val (.ref a1), .val (.int p2), .val (.double x3), .second, .val (.int (1 : Int32)), .val (.int (0 : Int32))] [(.int (0 : Int32)), (.ref nu), (.int (1 : Int32)), (.ref nu)])) _
      have Vo_ := V_nu
      obtain ⟨cl_, Ar_, q_, S_, N_, H_, G_⟩ := Vo_
      refine Go.by (X.iaload hx (j := (0 : Int32)) (v := (.int i0)) (by rw [eT]; exact Ar_.1) (State.isArrayOf_alike hZ.alike Ar_.2.1) Ar_.2.2 (inb_of S_ ⟨by decide, hl0⟩) (Has.at H_ (inb_of S_ ⟨by decide, hl0⟩) rfl) (g := (mkF m 123 #[.val (.ref a1), .val (.int p2), .val (.double x3), .second, .val (.int (1 : Int32)), .val (.int (0 : Int32))] [(.int (0 : Int32)), (.ref nu), (.int (1 : Int32)), (.ref nu)])) rfl rfl (hb hby d5_123)) ?_
      show Go p.tables e below (T.setTop (mkF m 124 #[.val (.ref a1), .val (.int p2), .val (.double x3), .second, .val (.int (1 : Int32)), .val (.int (0 : Int32))] [(.int i0), (.int (1 : Int32)), (.ref nu)])) _
      have Vo_ := V_nu
      obtain ⟨cl_, Ar_, q_, S_, N_, H_, G_⟩ := Vo_
      obtain ⟨T, h22, X, eT, Wh22, st⟩ := stI X hx hZ eT Ar_ (j := (1 : Int32)) (inb_of S_ ⟨by decide, hl1⟩) (g := (mkF m 124 #[.val (.ref a1), .val (.int p2), .val (.double x3), .second, .val (.int (1 : Int32)), .val (.int (0 : Int32))] [(.int i0), (.int (1 : Int32)), (.ref nu)])) rfl rfl (hb hby d5_124)
      have V_nu := Arv.set Ar_ q_ S_ N_ H_ G_ rfl Wh22 1 rfl (Nat.le_of_ble_eq_true rfl)
      have E_a1 := Exa.wr Wh22 E_a1
      have F_times_a1 := Fld.other Wh22 F_times_a1 (Or.inl ne_a1_nu)
      have F_numbers_a1 := Fld.other Wh22 F_numbers_a1 (Or.inl ne_a1_nu)
      have F_size_a1 := Fld.other Wh22 F_size_a1 (Or.inl ne_a1_nu)
      have V_ti := Arv.other V_ti Wh22 ne_ti_nu
      have N := Fr.snoc X N g_nu
      have K := And.intro (Nat.le_trans K.1 (Nat.le_of_eq (Wr.size Wh22).symm)) trivial
      refine Go.by st ?_
      show Go p.tables e below (T.setTop (mkF m 125 #[.val (.ref a1), .val (.int p2), .val (.double x3), .second, .val (.int (1 : Int32)), .val (.int (0 : Int32))] [])) _
      refine Go.by (fun tt_ kk_ => XS.iload X.here hx rfl (hb hby d5_125) rfl kk_) ?_
      show Go p.tables e below (T.setTop (mkF m 127 #[.val (.ref a1), .val (.int p2), .val (.double x3), .second, .val (.int (1 : Int32)), .val (.int (0 : Int32))] [(.int (0 : Int32))])) _
      refine Go.by (fun tt_ kk_ => XS.istore X.here hx rfl (hb hby d5_127) rfl (l' := #[.val (.ref a1), .val (.int p2), .val (.double x3), .second, .val (.int (0 : Int32)), .val (.int (0 : Int32))]) rfl kk_) ?_
      show Go p.tables e below (T.setTop (mkF m 129 #[.val (.ref a1), .val (.int p2), .val (.double x3), .second, .val (.int (0 : Int32)), .val (.int (0 : Int32))] [])) _
      refine Go.by (fun tt_ kk_ => XS.goto X.here hx rfl (pc0 := 129) (pc' := 59) rfl (hb hby d5_129) (by decide) (by decide) kk_) ?_
      show Go p.tables e below (T.setTop (mkF m 59 #[.val (.ref a1), .val (.int p2), .val (.double x3), .second, .val (.int (0 : Int32)), .val (.int (0 : Int32))] [])) _
      refine Go.by (fun tt_ kk_ => XS.iload X.here hx rfl (hb hby d5_59) rfl kk_) ?_
      show Go p.tables e below (T.setTop (mkF m 61 #[.val (.ref a1), .val (.int p2), .val (.double x3), .second, .val (.int (0 : Int32)), .val (.int (0 : Int32))] [(.int (0 : Int32))])) _
      refine Go.by (fun tt_ kk_ => XS.ifYes X.here hx rfl (pc0 := 61) (pc' := 132) rfl (hb hby d5_61) rfl ((if0 _ _).trans (flt (by decide : ¬ ((0 : Int32) < (0 : Int32)))).2.2.2) (by decide) (by decide) kk_) ?_
      show Go p.tables e below (T.setTop (mkF m 132 #[.val (.ref a1), .val (.int p2), .val (.double x3), .second, .val (.int (0 : Int32)), .val (.int (0 : Int32))] [])) _
      refine Go.by (fun tt_ kk_ => XS.aloadN X.here hx rfl (hb hby d5_132) rfl rfl kk_) ?_
      show Go p.tables e below (T.setTop (mkF m 133 #[.val (.ref a1), .val (.int p2), .val (.double x3), .second, .val (.int (0 : Int32)), .val (.int (0 : Int32))] [(.ref a1)])) _
      obtain ⟨T, X, eT, st⟩ := getF X hx hZ hown (host := "") (Or.inl (hw _ (List.mem_of_getElem? (i := 14) rfl))) Via.refl eT F_times_a1 (g := (mkF m 133 #[.val (.ref a1), .val (.int p2), .val (.double x3), .second, .val (.int (0 : Int32)), .val (.int (0 : Int32))] [(.ref a1)])) rfl rfl (hb hby d5_133)
      refine Go.by st ?_
      show Go p.tables e below (T.setTop (mkF m 136 #[.val (.ref a1), .val (.int p2), .val (.double x3), .second, .val (.int (0 : Int32)), .val (.int (0 : Int32))] [(.ref ti)])) _
      refine Go.by (fun tt_ kk_ => XS.iload X.here hx rfl (hb hby d5_136) rfl kk_) ?_
      show Go p.tables e below (T.setTop (mkF m 138 #[.val (.ref a1), .val (.int p2), .val (.double x3), .second, .val (.int (0 : Int32)), .val (.int (0 : Int32))] [(.int (0 : Int32)), (.ref ti)])) _
      refine Go.by (fun tt_ kk_ => XS.dloadN X.here hx rfl (hb hby d5_138) rfl kk_) ?_
      show Go p.tables e below (T.setTop (mkF m 139 #[.val (.ref a1), .val (.int p2), .val (.double x3), .second, .val (.int (0 : Int32)), .val (.int (0 : Int32))] [(.double x3), (.int (0 : Int32)), (.ref ti)])) _
      have Vo_ := V_ti
      obtain ⟨cl_, Ar_, q_, S_, N_, H_, G_⟩ := Vo_
      obtain ⟨T, h23, X, eT, Wh23, st⟩ := stD X hx hZ eT Ar_ (j := (0 : Int32)) (inb_of S_ ⟨by decide, hl0⟩) (g := (mkF m 139 #[.val (.ref a1), .val (.int p2), .val (.double x3), .second, .val (.int (0 : Int32)), .val (.int (0 : Int32))] [(.double x3), (.int (0 : Int32)), (.ref ti)])) rfl rfl (hb hby d5_139)
      have V_ti := Arv.set Ar_ q_ S_ N_ H_ G_ rfl Wh23 0 rfl (Nat.le_of_ble_eq_true rfl)
      have E_a1 := Exa.wr Wh23 E_a1
      have F_times_a1 := Fld.other Wh23 F_times_a1 (Or.inl ne_a1_ti)
      have F_numbers_a1 := Fld.other Wh23 F_numbers_a1 (Or.inl ne_a1_ti)
      have F_size_a1 := Fld.other Wh23 F_size_a1 (Or.inl ne_a1_ti)
      have V_nu := Arv.other V_nu Wh23 ne_nu_ti
      have N := Fr.snoc X N g_ti
      have K := And.intro (Nat.le_trans K.1 (Nat.le_of_eq (Wr.size Wh23).symm)) trivial
      refine Go.by st ?_
      show Go p.tables e below (T.setTop (mkF m 140 #[.val (.ref a1), .val (.int p2), .val (.double x3), .second, .val (.int (0 : Int32)), .val (.int (0 : Int32))] [])) _
      refine Go.by (fun tt_ kk_ => XS.aloadN X.here hx rfl (hb hby d5_140) rfl rfl kk_) ?_
      show Go p.tables e below (T.setTop (mkF m 141 #[.val (.ref a1), .val (.int p2), .val (.double x3), .second, .val (.int (0 : Int32)), .val (.int (0 : Int32))] [(.ref a1)])) _
      obtain ⟨T, X, eT, st⟩ := getF X hx hZ hown (host := "") (Or.inl (hw _ (List.mem_of_getElem? (i := 17) rfl))) Via.refl eT F_numbers_a1 (g := (mkF m 141 #[.val (.ref a1), .val (.int p2), .val (.double x3), .second, .val (.int (0 : Int32)), .val (.int (0 : Int32))] [(.ref a1)])) rfl rfl (hb hby d5_141)
      refine Go.by st ?_
      show Go p.tables e below (T.setTop (mkF m 144 #[.val (.ref a1), .val (.int p2), .val (.double x3), .second, .val (.int (0 : Int32)), .val (.int (0 : Int32))] [(.ref nu)])) _
      refine Go.by (fun tt_ kk_ => XS.iload X.here hx rfl (hb hby d5_144) rfl kk_) ?_
      show Go p.tables e below (T.setTop (mkF m 146 #[.val (.ref a1), .val (.int p2), .val (.double x3), .second, .val (.int (0 : Int32)), .val (.int (0 : Int32))] [(.int (0 : Int32)), (.ref nu)])) _
      refine Go.by (fun tt_ kk_ => XS.iloadN X.here hx rfl (hb hby d5_146) rfl kk_) ?_
      show Go p.tables e below (T.setTop (mkF m 147 #[.val (.ref a1), .val (.int p2), .val (.double x3), .second, .val (.int (0 : Int32)), .val (.int (0 : Int32))] [(.int p2), (.int (0 : Int32)), (.ref nu)])) _
      have Vo_ := V_nu
      obtain ⟨cl_, Ar_, q_, S_, N_, H_, G_⟩ := Vo_
      obtain ⟨T, h24, X, eT, Wh24, st⟩ := stI X hx hZ eT Ar_ (j := (0 : Int32)) (inb_of S_ ⟨by decide, hl0⟩) (g := (mkF m 147 #[.val (.ref a1), .val (.int p2), .val (.double x3), .second, .val (.int (0 : Int32)), .val (.int (0 : Int32))] [(.int p2), (.int (0 : Int32)), (.ref nu)])) rfl rfl (hb hby d5_147)
      have V_nu := Arv.set Ar_ q_ S_ N_ H_ G_ rfl Wh24 0 rfl (Nat.le_of_ble_eq_true rfl)
      have E_a1 := Exa.wr Wh24 E_a1
      have F_times_a1 := Fld.other Wh24 F_times_a1 (Or.inl ne_a1_nu)
      have F_numbers_a1 := Fld.other Wh24 F_numbers_a1 (Or.inl ne_a1_nu)
      have F_size_a1 := Fld.other Wh24 F_size_a1 (Or.inl ne_a1_nu)
      have V_ti := Arv.other V_ti Wh24 ne_ti_nu
      have N := Fr.snoc X N g_nu
      have K := And.intro (Nat.le_trans K.1 (Nat.le_of_eq (Wr.size Wh24).symm)) trivial
      refine Go.by st ?_
      show Go p.tables e below (T.setTop (mkF m 148 #[.val (.ref a1), .val (.int p2), .val (.double x3), .second, .val (.int (0 : Int32)), .val (.int (0 : Int32))] [])) _
      refine Go.by (fun tt_ kk_ => XS.iload X.here hx rfl (hb hby d5_148) rfl kk_) ?_
      show Go p.tables e below (T.setTop (mkF m 150 #[.val (.ref a1), .val (.int p2), .val (.double x3), .second, .val (.int (0 : Int32)), .val (.int (0 : Int32))] [(.int (0 : Int32))])) _
      refine Go.by (fun tt_ kk_ => XS.ifNo X.here hx rfl (hb hby d5_150) rfl ((if0 _ _).trans (teq (rfl : (0 : Int32) = (0 : Int32))).2) kk_) ?_
      show Go p.tables e below (T.setTop (mkF m 153 #[.val (.ref a1), .val (.int p2), .val (.double x3), .second, .val (.int (0 : Int32)), .val (.int (0 : Int32))] [])) _
      refine Go.by (fun tt_ kk_ => XS.iconst X.here hx rfl (hb hby d5_153) kk_) ?_
      show Go p.tables e below (T.setTop (mkF m 154 #[.val (.ref a1), .val (.int p2), .val (.double x3), .second, .val (.int (0 : Int32)), .val (.int (0 : Int32))] [(.int (1 : Int32))])) _
      refine Go.by (fun tt_ kk_ => XS.goto X.here hx rfl (pc0 := 154) (pc' := 158) rfl (hb hby d5_154) (by decide) (by decide) kk_) ?_
      show Go p.tables e below (T.setTop (mkF m 158 #[.val (.ref a1), .val (.int p2), .val (.double x3), .second, .val (.int (0 : Int32)), .val (.int (0 : Int32))] [(.int (1 : Int32))])) _
      exact Go.done X  (v := some (.int (1 : Int32))) (fun h => by rw [Bd.returns] at h; cases h) Bd.notSynchronized (fun fs hr => retN X hx (z := (1 : Int32)) (t := .boolean) Bd.returns (by simp) (hb hby d5_158) hr) (by rw [eT]; exact ⟨_, rfl, N, K, ⟨E_a1, g_a1, ti, nu, _, _, _, _, _, _, _, _, _, _, _, F_times_a1, F_numbers_a1, F_size_a1, V_ti, V_nu, g_ti, g_nu, ne_a1_ti, ne_a1_nu, ne_ti_nu, nn_x3, nn_y0, nn_y2, nn_y3, bc1, bc2, bs_2⟩⟩) (by decide) (by decide)
def Q5_2 (Z : State) (a1 : Addr) (p2 : Int32) (x3 : UInt64)  (h0 : Heap) (n0 : Nat) (v : Option Value) (h : Heap) (L : List Loc) : Prop := ∃ r : Int32, v = some (.int r) ∧ Fr n0 L ∧ (h0.size ≤ h.size ∧ True) ∧ own_TH Z h n0 a1 (3 : Int32)
set_option maxRecDepth 65536 in
set_option maxHeartbeats 40000000 in
theorem rm5_2 (l : Launch) (Z : State) (a0 : Array Value) (hw : ∀ d ∈ tables_1, d.before a0 Z = true) (ws : List Jvm.Cond) (a1 : Addr) (p2 : Int32) (x3 : UInt64)  (h0 : Heap) (n0 : Nat) (Z0 : n0 ≤ h0.size) (TH : own_TH Z h0 n0 a1 (2 : Int32)) (nn_x3 : NoNaN64 x3) :
    MetFree l (⟨"com/example/mode_choice_loop/modechoiceloop/simulation/TimeHeap", "add", "(ID)Z"⟩ : MethodName) (head1 (Jvm.Cond.code (⟨"com/example/mode_choice_loop/modechoiceloop/simulation/TimeHeap", "add", "(ID)Z"⟩ : MethodName) prog_86_method_3_code 6 (some .boolean) :: ws) ({ frames := 4, cells := 2, slots := 8, locals := 65 } : Room)) (fun a U => a = #[(.ref a1), (.int p2), (.double x3)] ∧ Z.Warmed39 U.vm ∧ U.heap = h0) (fun _ _ _ _ _ => True) (fun _ U o U' => ∃ v L, o = .returned v ∧ Q5_2 Z a1 p2 x3 h0 n0 v U'.heap L ∧ FrameEnd U o U' L ({ frames := 4, cells := 2, slots := 8, locals := 65 } : Room).cells ({ frames := 4, cells := 2, slots := 8, locals := 65 } : Room).slots) := by
  obtain ⟨E_a1, g_a1, ti, nu, kt, km, cc, y0, y1, y2, y3, i0, i1, i2, i3, F_times_a1, F_numbers_a1, F_size_a1, V_ti, V_nu, g_ti, g_nu, ne_a1_ti, ne_a1_nu, ne_ti_nu, nn_y0, nn_y1, nn_y2, nn_y3, bc1, bc2, bs⟩ := TH
  have ne_ti_a1 := Ne.symm ne_a1_ti
  have ne_nu_a1 := Ne.symm ne_a1_nu
  have ne_nu_ti := Ne.symm ne_ti_nu
  have bs' := bs
  rw [show ((2 : Int32)).toInt = 2 by decide] at bs'
  have hl0 : (0 : Int32) < cc := by rw [Int32.lt_iff_toInt_lt, show ((0 : Int32)).toInt = 0 by decide]; omega
  have hl1 : (1 : Int32) < cc := by rw [Int32.lt_iff_toInt_lt, show ((1 : Int32)).toInt = 1 by decide]; omega
  have bs_0 : ((0 : Int32)).toInt ≤ cc.toInt := by rw [show ((0 : Int32)).toInt = 0 by decide]; omega
  have bs_1 : ((1 : Int32)).toInt ≤ cc.toInt := by rw [show ((1 : Int32)).toInt = 1 by decide]; omega
  have bs_2 : ((2 : Int32)).toInt ≤ cc.toInt := by rw [show ((2 : Int32)).toInt = 2 by decide]; omega
  refine MetFree.of_bodySF (plainFor_of_name pn_1) hisR ?_
  intro p e s m args below meth c s₁ Bd hml0 hP hK
  obtain ⟨rfl, hZ, hh⟩ := hP
  have hx := Bd.exec
  have hby := Bd.bytes
  have hml : c.maxLocals = 6 := hml0
  have hown : s.vm.findClass "com/example/mode_choice_loop/modechoiceloop/simulation/TimeHeap" = some m.cls := findClass_of_methodNamed Bd.named
  have hnm := (name_of_methodNamed Bd.named Bd.method).1
  have X : Stand p l e ({ frames := 4, cells := 2, slots := 8, locals := 65 } : Room) s m #[(.ref a1), (.int p2), (.double x3)] below meth c s₁ [] 0 0 := Stand.of_body Bd
  have eT : s₁.heap = h0 := by rw [← hh, Bd.state]; rfl
  have N := Fr.nil n0
  have K : h0.size ≤ h0.size ∧ True := ⟨Nat.le_refl _, trivial⟩
  refine Go.out ?_
  obtain ⟨T, eTT⟩ : ∃ z, z = s₁ := ⟨_, rfl⟩
  rw [← eTT] at X eT ⊢
  refine Go.by (fun tt_ kk_ => castTop (ef_5 m a1 p2 x3) kk_) ?_
  show Go p.tables e below (T.setTop (mkF m 0 #[.val (.ref a1), .val (.int p2), .val (.double x3), .second, .unset, .unset] [])) _
  refine Go.by (fun tt_ kk_ => XS.aloadN X.here hx rfl (hb hby d5_0) rfl rfl kk_) ?_
  show Go p.tables e below (T.setTop (mkF m 1 #[.val (.ref a1), .val (.int p2), .val (.double x3), .second, .unset, .unset] [(.ref a1)])) _
  obtain ⟨T, X, eT, st⟩ := getF X hx hZ hown (host := "") (Or.inl (hw _ (List.mem_of_getElem? (i := 24) rfl))) Via.refl eT F_size_a1 (g := (mkF m 1 #[.val (.ref a1), .val (.int p2), .val (.double x3), .second, .unset, .unset] [(.ref a1)])) rfl rfl (hb hby d5_1)
  refine Go.by st ?_
  show Go p.tables e below (T.setTop (mkF m 4 #[.val (.ref a1), .val (.int p2), .val (.double x3), .second, .unset, .unset] [(.int (2 : Int32))])) _
  refine Go.by (fun tt_ kk_ => XS.aloadN X.here hx rfl (hb hby d5_4) rfl rfl kk_) ?_
  show Go p.tables e below (T.setTop (mkF m 5 #[.val (.ref a1), .val (.int p2), .val (.double x3), .second, .unset, .unset] [(.ref a1), (.int (2 : Int32))])) _
  obtain ⟨T, X, eT, st⟩ := getF X hx hZ hown (host := "") (Or.inl (hw _ (List.mem_of_getElem? (i := 14) rfl))) Via.refl eT F_times_a1 (g := (mkF m 5 #[.val (.ref a1), .val (.int p2), .val (.double x3), .second, .unset, .unset] [(.ref a1), (.int (2 : Int32))])) rfl rfl (hb hby d5_5)
  refine Go.by st ?_
  show Go p.tables e below (T.setTop (mkF m 8 #[.val (.ref a1), .val (.int p2), .val (.double x3), .second, .unset, .unset] [(.ref ti), (.int (2 : Int32))])) _
  have Vo_ := V_ti
  obtain ⟨cl_, Ar_, q_, S_, N_, H_, G_⟩ := Vo_
  refine Go.by (X.arraylength hx (by rw [eT]; exact Ar_.1) (State.isArrayOf_alike hZ.alike Ar_.2.1) (g := (mkF m 8 #[.val (.ref a1), .val (.int p2), .val (.double x3), .second, .unset, .unset] [(.ref ti), (.int (2 : Int32))])) rfl rfl (hb hby d5_8)) ?_
  rw [len_of S_ N_]
  show Go p.tables e below (T.setTop (mkF m 9 #[.val (.ref a1), .val (.int p2), .val (.double x3), .second, .unset, .unset] [(.int cc), (.int (2 : Int32))])) _
  by_cases hc9 : (2 : Int32) = cc
  · have hcq := hc9
    subst hcq
    refine Go.by (fun tt_ kk_ => XS.icmpNo X.here hx rfl (hb hby d5_9) rfl (teq hc9).2 kk_) ?_
    show Go p.tables e below (T.setTop (mkF m 12 #[.val (.ref a1), .val (.int p2), .val (.double x3), .second, .unset, .unset] [])) _
    refine Go.by (fun tt_ kk_ => XS.aloadN X.here hx rfl (hb hby d5_12) rfl rfl kk_) ?_
    show Go p.tables e below (T.setTop (mkF m 13 #[.val (.ref a1), .val (.int p2), .val (.double x3), .second, .unset, .unset] [(.ref a1)])) _
    refine Go.by (fun tt_ kk_ => XS.aloadN X.here hx rfl (hb hby d5_13) rfl rfl kk_) ?_
    show Go p.tables e below (T.setTop (mkF m 14 #[.val (.ref a1), .val (.int p2), .val (.double x3), .second, .unset, .unset] [(.ref a1), (.ref a1)])) _
    obtain ⟨T, X, eT, st⟩ := getF X hx hZ hown (host := "") (Or.inl (hw _ (List.mem_of_getElem? (i := 14) rfl))) Via.refl eT F_times_a1 (g := (mkF m 14 #[.val (.ref a1), .val (.int p2), .val (.double x3), .second, .unset, .unset] [(.ref a1), (.ref a1)])) rfl rfl (hb hby d5_14)
    refine Go.by st ?_
    show Go p.tables e below (T.setTop (mkF m 17 #[.val (.ref a1), .val (.int p2), .val (.double x3), .second, .unset, .unset] [(.ref ti), (.ref a1)])) _
    refine Go.by (fun tt_ kk_ => XS.iconst X.here hx rfl (hb hby d5_17) kk_) ?_
    show Go p.tables e below (T.setTop (mkF m 18 #[.val (.ref a1), .val (.int p2), .val (.double x3), .second, .unset, .unset] [(.int (2 : Int32)), (.ref ti), (.ref a1)])) _
    refine Go.by (fun tt_ kk_ => XS.aloadN X.here hx rfl (hb hby d5_18) rfl rfl kk_) ?_
    show Go p.tables e below (T.setTop (mkF m 19 #[.val (.ref a1), .val (.int p2), .val (.double x3), .second, .unset, .unset] [(.ref a1), (.int (2 : Int32)), (.ref ti), (.ref a1)])) _
    obtain ⟨T, X, eT, st⟩ := getF X hx hZ hown (host := "") (Or.inl (hw _ (List.mem_of_getElem? (i := 24) rfl))) Via.refl eT F_size_a1 (g := (mkF m 19 #[.val (.ref a1), .val (.int p2), .val (.double x3), .second, .unset, .unset] [(.ref a1), (.int (2 : Int32)), (.ref ti), (.ref a1)])) rfl rfl (hb hby d5_19)
    refine Go.by st ?_
    show Go p.tables e below (T.setTop (mkF m 22 #[.val (.ref a1), .val (.int p2), .val (.double x3), .second, .unset, .unset] [(.int (2 : Int32)), (.int (2 : Int32)), (.ref ti), (.ref a1)])) _
    refine Go.by (fun tt_ kk_ => XS.imul X.here hx rfl (hb hby d5_22) rfl kk_) ?_
    show Go p.tables e below (T.setTop (mkF m 23 #[.val (.ref a1), .val (.int p2), .val (.double x3), .second, .unset, .unset] [(.int (4 : Int32)), (.ref ti), (.ref a1)])) _
    have lt_a1 := E_a1.lt
    have lt_nu := V_nu.lt
    have lt_ti := V_ti.lt
    obtain ⟨_, _, ⟨T, L_, k_, n_⟩, -, X, ⟨Lc_, hQ, l_, y_, z_⟩, st⟩ := Jvm.LawKit.callS X hx (y := (⟨"java/util/Arrays", "copyOf", "([DI)[D"⟩ : MethodName)) hown (mvT hZ (hw _ (List.mem_of_getElem? (i := 31) rfl))) (mvT hZ (hw _ (List.mem_of_getElem? (i := 32) rfl))) (mvT hZ (hw _ (List.mem_of_getElem? (i := 33) rfl))) (mvT hZ (hw _ (List.mem_of_getElem? (i := 34) rfl))) (by decide) (backOf (W := 1) (rm6_2 l Z a0 hw [] ti kt y0 y1 y2 y3 h0 n0 (Nat.le_trans Z0 K.1) V_ti) hZ (hw _ (List.mem_of_getElem? (i := 34) rfl)) (hw _ (List.mem_of_getElem? (i := 33) rfl)) (by decide) (by decide)) (g := (mkF m 23 #[.val (.ref a1), .val (.int p2), .val (.double x3), .second, .unset, .unset] [(.int (4 : Int32)), (.ref ti), (.ref a1)])) rfl (by rw [hml]; rfl) (argsL := [(.ref ti), (.int (4 : Int32))]) (rest := [(.ref a1)]) (lenOf pd_4 rfl) rfl (by show 2 * 0 + _ ≤ _; exact Nat.le_of_eq rfl) (hb hby d5_23) (fun _ _ => ⟨rfl, eT, (by decide : 0 + 1 ≤ _), (by decide : 0 + 4 ≤ _)⟩)
    dsimp only [Pt.U, Pt.locs, Pt.cells, Pt.slots] at X l_ y_ z_ st hQ
    subst l_ y_ z_
    obtain ⟨h2, eT⟩ : ∃ z, T.heap = z := ⟨_, rfl⟩
    rw [eT] at hQ
    obtain ⟨b1, k_b1, g_b1, sq_b1, rfl, Nq, Kq, V_b1⟩ := hQ
    have N := Fr.app N Nq
    have E_a1 := Exa.keep E_a1 Kq
    have F_times_a1 := Fld.keep F_times_a1 Kq nin0
    have F_numbers_a1 := Fld.keep F_numbers_a1 Kq nin0
    have F_size_a1 := Fld.keep F_size_a1 Kq nin0
    have V_ti := Arv.keep V_ti Kq nin0
    have V_nu := Arv.keep V_nu Kq nin0
    have K := And.intro (Nat.le_trans K.1 Kq.1) trivial
    have ne_a1_b1 : a1 ≠ b1 := Nat.ne_of_lt (Nat.lt_of_lt_of_le lt_a1 sq_b1)
    have ne_b1_a1 := Ne.symm ne_a1_b1
    have ne_nu_b1 : nu ≠ b1 := Nat.ne_of_lt (Nat.lt_of_lt_of_le lt_nu sq_b1)
    have ne_b1_nu := Ne.symm ne_nu_b1
    have ne_ti_b1 : ti ≠ b1 := Nat.ne_of_lt (Nat.lt_of_lt_of_le lt_ti sq_b1)
    have ne_b1_ti := Ne.symm ne_ti_b1
    refine Go.by st ?_
    show Go p.tables e below (T.setTop (mkF m 26 #[.val (.ref a1), .val (.int p2), .val (.double x3), .second, .unset, .unset] [(.ref b1), (.ref a1)])) _
    obtain ⟨T, h3, X, eT, Wh3, st⟩ := putF X hx hZ hown (host := "") (Or.inl (hw _ (List.mem_of_getElem? (i := 14) rfl))) Via.refl eT F_times_a1 E_a1 (Or.inl (hw _ (List.mem_of_getElem? (i := 15) rfl))) (hw _ (List.mem_of_getElem? (i := 1) rfl)) (ty := (.array .double)) (by decide) rfl rfl (g := (mkF m 26 #[.val (.ref a1), .val (.int p2), .val (.double x3), .second, .unset, .unset] [(.ref b1), (.ref a1)])) rfl rfl (hb hby d5_26)
    have F_times_a1 := Fld.same Wh3 F_times_a1
    have E_a1 := Exa.wr Wh3 E_a1
    have F_numbers_a1 := Fld.other Wh3 F_numbers_a1 (Or.inr (slot_ne (Or.inl (hw _ (List.mem_of_getElem? (i := 18) rfl))) (Or.inl (hw _ (List.mem_of_getElem? (i := 15) rfl))) (by decide) (t := (.array .int)) (t' := (.array .double)) (by decide) (by decide)))
    have F_size_a1 := Fld.other Wh3 F_size_a1 (Or.inr (slot_ne (Or.inl (hw _ (List.mem_of_getElem? (i := 25) rfl))) (Or.inl (hw _ (List.mem_of_getElem? (i := 15) rfl))) (by decide) (t := .int) (t' := (.array .double)) (by decide) (by decide)))
    have V_ti := Arv.other V_ti Wh3 ne_ti_a1
    have V_nu := Arv.other V_nu Wh3 ne_nu_a1
    have V_b1 := Arv.other V_b1 Wh3 ne_b1_a1
    have N := Fr.snoc X N g_a1
    have K := And.intro (Nat.le_trans K.1 (Nat.le_of_eq (Wr.size Wh3).symm)) trivial
    refine Go.by st ?_
    show Go p.tables e below (T.setTop (mkF m 29 #[.val (.ref a1), .val (.int p2), .val (.double x3), .second, .unset, .unset] [])) _
    refine Go.by (fun tt_ kk_ => XS.aloadN X.here hx rfl (hb hby d5_29) rfl rfl kk_) ?_
    show Go p.tables e below (T.setTop (mkF m 30 #[.val (.ref a1), .val (.int p2), .val (.double x3), .second, .unset, .unset] [(.ref a1)])) _
    refine Go.by (fun tt_ kk_ => XS.aloadN X.here hx rfl (hb hby d5_30) rfl rfl kk_) ?_
    show Go p.tables e below (T.setTop (mkF m 31 #[.val (.ref a1), .val (.int p2), .val (.double x3), .second, .unset, .unset] [(.ref a1), (.ref a1)])) _
    obtain ⟨T, X, eT, st⟩ := getF X hx hZ hown (host := "") (Or.inl (hw _ (List.mem_of_getElem? (i := 17) rfl))) Via.refl eT F_numbers_a1 (g := (mkF m 31 #[.val (.ref a1), .val (.int p2), .val (.double x3), .second, .unset, .unset] [(.ref a1), (.ref a1)])) rfl rfl (hb hby d5_31)
    refine Go.by st ?_
    show Go p.tables e below (T.setTop (mkF m 34 #[.val (.ref a1), .val (.int p2), .val (.double x3), .second, .unset, .unset] [(.ref nu), (.ref a1)])) _
    refine Go.by (fun tt_ kk_ => XS.iconst X.here hx rfl (hb hby d5_34) kk_) ?_
    show Go p.tables e below (T.setTop (mkF m 35 #[.val (.ref a1), .val (.int p2), .val (.double x3), .second, .unset, .unset] [(.int (2 : Int32)), (.ref nu), (.ref a1)])) _
    refine Go.by (fun tt_ kk_ => XS.aloadN X.here hx rfl (hb hby d5_35) rfl rfl kk_) ?_
    show Go p.tables e below (T.setTop (mkF m 36 #[.val (.ref a1), .val (.int p2), .val (.double x3), .second, .unset, .unset] [(.ref a1), (.int (2 : Int32)), (.ref nu), (.ref a1)])) _
    obtain ⟨T, X, eT, st⟩ := getF X hx hZ hown (host := "") (Or.inl (hw _ (List.mem_of_getElem? (i := 24) rfl))) Via.refl eT F_size_a1 (g := (mkF m 36 #[.val (.ref a1), .val (.int p2), .val (.double x3), .second, .unset, .unset] [(.ref a1), (.int (2 : Int32)), (.ref nu), (.ref a1)])) rfl rfl (hb hby d5_36)
    refine Go.by st ?_
    show Go p.tables e below (T.setTop (mkF m 39 #[.val (.ref a1), .val (.int p2), .val (.double x3), .second, .unset, .unset] [(.int (2 : Int32)), (.int (2 : Int32)), (.ref nu), (.ref a1)])) _
    refine Go.by (fun tt_ kk_ => XS.imul X.here hx rfl (hb hby d5_39) rfl kk_) ?_
    show Go p.tables e below (T.setTop (mkF m 40 #[.val (.ref a1), .val (.int p2), .val (.double x3), .second, .unset, .unset] [(.int (4 : Int32)), (.ref nu), (.ref a1)])) _
    have lt_a1 := E_a1.lt
    have lt_b1 := V_b1.lt
    have lt_nu := V_nu.lt
    obtain ⟨_, _, ⟨T, L_, k_, n_⟩, -, X, ⟨Lc_, hQ, l_, y_, z_⟩, st⟩ := Jvm.LawKit.callS X hx (y := (⟨"java/util/Arrays", "copyOf", "([II)[I"⟩ : MethodName)) hown (mvT hZ (hw _ (List.mem_of_getElem? (i := 42) rfl))) (mvT hZ (hw _ (List.mem_of_getElem? (i := 43) rfl))) (mvT hZ (hw _ (List.mem_of_getElem? (i := 33) rfl))) (mvT hZ (hw _ (List.mem_of_getElem? (i := 44) rfl))) (by decide) (backOf (W := 1) (rm8_2 l Z a0 hw [] nu km i0 i1 i2 i3 h3 n0 (Nat.le_trans Z0 K.1) V_nu) hZ (hw _ (List.mem_of_getElem? (i := 44) rfl)) (hw _ (List.mem_of_getElem? (i := 33) rfl)) (by decide) (by decide)) (g := (mkF m 40 #[.val (.ref a1), .val (.int p2), .val (.double x3), .second, .unset, .unset] [(.int (4 : Int32)), (.ref nu), (.ref a1)])) rfl (by rw [hml]; rfl) (argsL := [(.ref nu), (.int (4 : Int32))]) (rest := [(.ref a1)]) (lenOf pd_5 rfl) rfl (by show 2 * 0 + _ ≤ _; exact Nat.le_of_eq rfl) (hb hby d5_40) (fun _ _ => ⟨rfl, eT, (by decide : 1 + 1 ≤ _), (by decide : 4 + 4 ≤ _)⟩)
    dsimp only [Pt.U, Pt.locs, Pt.cells, Pt.slots] at X l_ y_ z_ st hQ
    subst l_ y_ z_
    obtain ⟨h5, eT⟩ : ∃ z, T.heap = z := ⟨_, rfl⟩
    rw [eT] at hQ
    obtain ⟨b4, k_b4, g_b4, sq_b4, rfl, Nq, Kq, V_b4⟩ := hQ
    have N := Fr.app N Nq
    have E_a1 := Exa.keep E_a1 Kq
    have F_times_a1 := Fld.keep F_times_a1 Kq nin0
    have F_numbers_a1 := Fld.keep F_numbers_a1 Kq nin0
    have F_size_a1 := Fld.keep F_size_a1 Kq nin0
    have V_nu := Arv.keep V_nu Kq nin0
    have V_b1 := Arv.keep V_b1 Kq nin0
    have K := And.intro (Nat.le_trans K.1 Kq.1) trivial
    have ne_a1_b4 : a1 ≠ b4 := Nat.ne_of_lt (Nat.lt_of_lt_of_le lt_a1 sq_b4)
    have ne_b4_a1 := Ne.symm ne_a1_b4
    have ne_b1_b4 : b1 ≠ b4 := Nat.ne_of_lt (Nat.lt_of_lt_of_le lt_b1 sq_b4)
    have ne_b4_b1 := Ne.symm ne_b1_b4
    have ne_nu_b4 : nu ≠ b4 := Nat.ne_of_lt (Nat.lt_of_lt_of_le lt_nu sq_b4)
    have ne_b4_nu := Ne.symm ne_nu_b4
    refine Go.by st ?_
    show Go p.tables e below (T.setTop (mkF m 43 #[.val (.ref a1), .val (.int p2), .val (.double x3), .second, .unset, .unset] [(.ref b4), (.ref a1)])) _
    obtain ⟨T, h6, X, eT, Wh6, st⟩ := putF X hx hZ hown (host := "") (Or.inl (hw _ (List.mem_of_getElem? (i := 17) rfl))) Via.refl eT F_numbers_a1 E_a1 (Or.inl (hw _ (List.mem_of_getElem? (i := 18) rfl))) (hw _ (List.mem_of_getElem? (i := 1) rfl)) (ty := (.array .int)) (by decide) rfl rfl (g := (mkF m 43 #[.val (.ref a1), .val (.int p2), .val (.double x3), .second, .unset, .unset] [(.ref b4), (.ref a1)])) rfl rfl (hb hby d5_43)
    have F_numbers_a1 := Fld.same Wh6 F_numbers_a1
    have E_a1 := Exa.wr Wh6 E_a1
    have F_times_a1 := Fld.other Wh6 F_times_a1 (Or.inr (slot_ne (Or.inl (hw _ (List.mem_of_getElem? (i := 15) rfl))) (Or.inl (hw _ (List.mem_of_getElem? (i := 18) rfl))) (by decide) (t := (.array .double)) (t' := (.array .int)) (by decide) (by decide)))
    have F_size_a1 := Fld.other Wh6 F_size_a1 (Or.inr (slot_ne (Or.inl (hw _ (List.mem_of_getElem? (i := 25) rfl))) (Or.inl (hw _ (List.mem_of_getElem? (i := 18) rfl))) (by decide) (t := .int) (t' := (.array .int)) (by decide) (by decide)))
    have V_nu := Arv.other V_nu Wh6 ne_nu_a1
    have V_b1 := Arv.other V_b1 Wh6 ne_b1_a1
    have V_b4 := Arv.other V_b4 Wh6 ne_b4_a1
    have N := Fr.snoc X N g_a1
    have K := And.intro (Nat.le_trans K.1 (Nat.le_of_eq (Wr.size Wh6).symm)) trivial
    refine Go.by st ?_
    show Go p.tables e below (T.setTop (mkF m 46 #[.val (.ref a1), .val (.int p2), .val (.double x3), .second, .unset, .unset] [])) _
    refine Go.by (fun tt_ kk_ => XS.aloadN X.here hx rfl (hb hby d5_46) rfl rfl kk_) ?_
    show Go p.tables e below (T.setTop (mkF m 47 #[.val (.ref a1), .val (.int p2), .val (.double x3), .second, .unset, .unset] [(.ref a1)])) _
    refine Go.by (fun tt_ kk_ => XS.dup X.here hx rfl (hb hby d5_47) rfl rfl kk_) ?_
    show Go p.tables e below (T.setTop (mkF m 48 #[.val (.ref a1), .val (.int p2), .val (.double x3), .second, .unset, .unset] [(.ref a1), (.ref a1)])) _
    obtain ⟨T, X, eT, st⟩ := getF X hx hZ hown (host := "") (Or.inl (hw _ (List.mem_of_getElem? (i := 24) rfl))) Via.refl eT F_size_a1 (g := (mkF m 48 #[.val (.ref a1), .val (.int p2), .val (.double x3), .second, .unset, .unset] [(.ref a1), (.ref a1)])) rfl rfl (hb hby d5_48)
    refine Go.by st ?_
    show Go p.tables e below (T.setTop (mkF m 51 #[.val (.ref a1), .val (.int p2), .val (.double x3), .second, .unset, .unset] [(.int (2 : Int32)), (.ref a1)])) _
    refine Go.by (fun tt_ kk_ => XS.dupX1 X.here hx rfl (hb hby d5_51) rfl rfl rfl kk_) ?_
    show Go p.tables e below (T.setTop (mkF m 52 #[.val (.ref a1), .val (.int p2), .val (.double x3), .second, .unset, .unset] [(.int (2 : Int32)), (.ref a1), (.int (2 : Int32))])) _
    refine Go.by (fun tt_ kk_ => XS.iconst X.here hx rfl (hb hby d5_52) kk_) ?_
    show Go p.tables e below (T.setTop (mkF m 53 #[.val (.ref a1), .val (.int p2), .val (.double x3), .second, .unset, .unset] [(.int (1 : Int32)), (.int (2 : Int32)), (.ref a1), (.int (2 : Int32))])) _
    refine Go.by (fun tt_ kk_ => XS.iadd X.here hx rfl (hb hby d5_53) rfl kk_) ?_
    show Go p.tables e below (T.setTop (mkF m 54 #[.val (.ref a1), .val (.int p2), .val (.double x3), .second, .unset, .unset] [(.int (3 : Int32)), (.ref a1), (.int (2 : Int32))])) _
    obtain ⟨T, h7, X, eT, Wh7, st⟩ := putF X hx hZ hown (host := "") (Or.inl (hw _ (List.mem_of_getElem? (i := 24) rfl))) Via.refl eT F_size_a1 E_a1 (Or.inl (hw _ (List.mem_of_getElem? (i := 25) rfl))) (hw _ (List.mem_of_getElem? (i := 1) rfl)) (ty := .int) (by decide) rfl rfl (g := (mkF m 54 #[.val (.ref a1), .val (.int p2), .val (.double x3), .second, .unset, .unset] [(.int (3 : Int32)), (.ref a1), (.int (2 : Int32))])) rfl rfl (hb hby d5_54)
    have F_size_a1 := Fld.same Wh7 F_size_a1
    have E_a1 := Exa.wr Wh7 E_a1
    have F_times_a1 := Fld.other Wh7 F_times_a1 (Or.inr (slot_ne (Or.inl (hw _ (List.mem_of_getElem? (i := 15) rfl))) (Or.inl (hw _ (List.mem_of_getElem? (i := 25) rfl))) (by decide) (t := (.array .double)) (t' := .int) (by decide) (by decide)))
    have F_numbers_a1 := Fld.other Wh7 F_numbers_a1 (Or.inr (slot_ne (Or.inl (hw _ (List.mem_of_getElem? (i := 18) rfl))) (Or.inl (hw _ (List.mem_of_getElem? (i := 25) rfl))) (by decide) (t := (.array .int)) (t' := .int) (by decide) (by decide)))
    have V_b1 := Arv.other V_b1 Wh7 ne_b1_a1
    have V_b4 := Arv.other V_b4 Wh7 ne_b4_a1
    have N := Fr.snoc X N g_a1
    have K := And.intro (Nat.le_trans K.1 (Nat.le_of_eq (Wr.size Wh7).symm)) trivial
    refine Go.by st ?_
    show Go p.tables e below (T.setTop (mkF m 57 #[.val (.ref a1), .val (.int p2), .val (.double x3), .second, .unset, .unset] [(.int (2 : Int32))])) _
    refine Go.by (fun tt_ kk_ => XS.istore X.here hx rfl (hb hby d5_57) rfl (l' := #[.val (.ref a1), .val (.int p2), .val (.double x3), .second, .val (.int (2 : Int32)), .unset]) rfl kk_) ?_
    show Go p.tables e below (T.setTop (mkF m 59 #[.val (.ref a1), .val (.int p2), .val (.double x3), .second, .val (.int (2 : Int32)), .unset] [])) _
    refine Go.by (fun tt_ kk_ => XS.iload X.here hx rfl (hb hby d5_59) rfl kk_) ?_
    show Go p.tables e below (T.setTop (mkF m 61 #[.val (.ref a1), .val (.int p2), .val (.double x3), .second, .val (.int (2 : Int32)), .unset] [(.int (2 : Int32))])) _
    refine Go.by (fun tt_ kk_ => XS.ifNo X.here hx rfl (hb hby d5_61) rfl ((if0 _ _).trans (tlt (by decide : (0 : Int32) < (2 : Int32))).2.2.2) kk_) ?_
    show Go p.tables e below (T.setTop (mkF m 64 #[.val (.ref a1), .val (.int p2), .val (.double x3), .second, .val (.int (2 : Int32)), .unset] [])) _
    refine Go.by (fun tt_ kk_ => XS.iload X.here hx rfl (hb hby d5_64) rfl kk_) ?_
    show Go p.tables e below (T.setTop (mkF m 66 #[.val (.ref a1), .val (.int p2), .val (.double x3), .second, .val (.int (2 : Int32)), .unset] [(.int (2 : Int32))])) _
    refine Go.by (fun tt_ kk_ => XS.iconst X.here hx rfl (hb hby d5_66) kk_) ?_
    show Go p.tables e below (T.setTop (mkF m 67 #[.val (.ref a1), .val (.int p2), .val (.double x3), .second, .val (.int (2 : Int32)), .unset] [(.int (1 : Int32)), (.int (2 : Int32))])) _
    refine Go.by (fun tt_ kk_ => XS.isub X.here hx rfl (hb hby d5_67) rfl kk_) ?_
    show Go p.tables e below (T.setTop (mkF m 68 #[.val (.ref a1), .val (.int p2), .val (.double x3), .second, .val (.int (2 : Int32)), .unset] [(.int (1 : Int32))])) _
    refine Go.by (fun tt_ kk_ => XS.iconst X.here hx rfl (hb hby d5_68) kk_) ?_
    show Go p.tables e below (T.setTop (mkF m 69 #[.val (.ref a1), .val (.int p2), .val (.double x3), .second, .val (.int (2 : Int32)), .unset] [(.int (4 : Int32)), (.int (1 : Int32))])) _
    refine Go.by (fun tt_ kk_ => XS.idiv X.here hx rfl (hb hby d5_69) rfl (by decide) kk_) ?_
    show Go p.tables e below (T.setTop (mkF m 70 #[.val (.ref a1), .val (.int p2), .val (.double x3), .second, .val (.int (2 : Int32)), .unset] [(.int (0 : Int32))])) _
    refine Go.by (fun tt_ kk_ => XS.istore X.here hx rfl (hb hby d5_70) rfl (l' := #[.val (.ref a1), .val (.int p2), .val (.double x3), .second, .val (.int (2 : Int32)), .val (.int (0 : Int32))]) rfl kk_) ?_
    show Go p.tables e below (T.setTop (mkF m 72 #[.val (.ref a1), .val (.int p2), .val (.double x3), .second, .val (.int (2 : Int32)), .val (.int (0 : Int32))] [])) _
    refine Go.by (fun tt_ kk_ => XS.dloadN X.here hx rfl (hb hby d5_72) rfl kk_) ?_
    show Go p.tables e below (T.setTop (mkF m 73 #[.val (.ref a1), .val (.int p2), .val (.double x3), .second, .val (.int (2 : Int32)), .val (.int (0 : Int32))] [(.double x3)])) _
    refine Go.by (fun tt_ kk_ => XS.iloadN X.here hx rfl (hb hby d5_73) rfl kk_) ?_
    show Go p.tables e below (T.setTop (mkF m 74 #[.val (.ref a1), .val (.int p2), .val (.double x3), .second, .val (.int (2 : Int32)), .val (.int (0 : Int32))] [(.int p2), (.double x3)])) _
    refine Go.by (fun tt_ kk_ => XS.aloadN X.here hx rfl (hb hby d5_74) rfl rfl kk_) ?_
    show Go p.tables e below (T.setTop (mkF m 75 #[.val (.ref a1), .val (.int p2), .val (.double x3), .second, .val (.int (2 : Int32)), .val (.int (0 : Int32))] [(.ref a1), (.int p2), (.double x3)])) _
    obtain ⟨T, X, eT, st⟩ := getF X hx hZ hown (host := "") (Or.inl (hw _ (List.mem_of_getElem? (i := 14) rfl))) Via.refl eT F_times_a1 (g := (mkF m 75 #[.val (.ref a1), .val (.int p2), .val (.double x3), .second, .val (.int (2 : Int32)), .val (.int (0 : Int32))] [(.ref a1), (.int p2), (.double x3)])) rfl rfl (hb hby d5_75)
    refine Go.by st ?_
    show Go p.tables e below (T.setTop (mkF m 78 #[.val (.ref a1), .val (.int p2), .val (.double x3), .second, .val (.int (2 : Int32)), .val (.int (0 : Int32))] [(.ref b1), (.int p2), (.double x3)])) _
    refine Go.by (fun tt_ kk_ => XS.iload X.here hx rfl (hb hby d5_78) rfl kk_) ?_
    show Go p.tables e below (T.setTop (mkF m 80 #[.val (.ref a1), .val (.int p2), .val (.double x3), .second, .val (.int (2 : Int32)), .val (.int (0 : Int32))] [(.int (0 : Int32)), (.ref b1), (.int p2), (.double x3)])) _
    have Vo_ := V_b1
    obtain ⟨cl_, Ar_, q_, S_, N_, H_, G_⟩ := Vo_
    refine Go.by (X.daload hx (j := (0 : Int32)) (v := (.double y0)) (by rw [eT]; exact Ar_.1) (State.isArrayOf_alike hZ.alike Ar_.2.1) Ar_.2.2 (inb_of S_ ⟨by decide, by decide⟩) (Has.at H_ (inb_of S_ ⟨by decide, by decide⟩) rfl) (g := (mkF m 80 #[.val (.ref a1), .val (.int p2), .val (.double x3), .second, .val (.int (2 : Int32)), .val (.int (0 : Int32))] [(.int (0 : Int32)), (.ref b1), (.int p2), (.double x3)])) rfl rfl (hb hby d5_80)) ?_
    show Go p.tables e below (T.setTop (mkF m 81 #[.val (.ref a1), .val (.int p2), .val (.double x3), .second, .val (.int (2 : Int32)), .val (.int (0 : Int32))] [(.double y0), (.int p2), (.double x3)])) _
    refine Go.by (fun tt_ kk_ => XS.aloadN X.here hx rfl (hb hby d5_81) rfl rfl kk_) ?_
    show Go p.tables e below (T.setTop (mkF m 82 #[.val (.ref a1), .val (.int p2), .val (.double x3), .second, .val (.int (2 : Int32)), .val (.int (0 : Int32))] [(.ref a1), (.double y0), (.int p2), (.double x3)])) _
    obtain ⟨T, X, eT, st⟩ := getF X hx hZ hown (host := "") (Or.inl (hw _ (List.mem_of_getElem? (i := 17) rfl))) Via.refl eT F_numbers_a1 (g := (mkF m 82 #[.val (.ref a1), .val (.int p2), .val (.double x3), .second, .val (.int (2 : Int32)), .val (.int (0 : Int32))] [(.ref a1), (.double y0), (.int p2), (.double x3)])) rfl rfl (hb hby d5_82)
    refine Go.by st ?_
    show Go p.tables e below (T.setTop (mkF m 85 #[.val (.ref a1), .val (.int p2), .val (.double x3), .second, .val (.int (2 : Int32)), .val (.int (0 : Int32))] [(.ref b4), (.double y0), (.int p2), (.double x3)])) _
    refine Go.by (fun tt_ kk_ => XS.iload X.here hx rfl (hb hby d5_85) rfl kk_) ?_
    show Go p.tables e below (T.setTop (mkF m 87 #[.val (.ref a1), .val (.int p2), .val (.double x3), .second, .val (.int (2 : Int32)), .val (.int (0 : Int32))] [(.int (0 : Int32)), (.ref b4), (.double y0), (.int p2), (.double x3)])) _
    have Vo_ := V_b4
    obtain ⟨cl_, Ar_, q_, S_, N_, H_, G_⟩ := Vo_
    refine Go.by (X.iaload hx (j := (0 : Int32)) (v := (.int i0)) (by rw [eT]; exact Ar_.1) (State.isArrayOf_alike hZ.alike Ar_.2.1) Ar_.2.2 (inb_of S_ ⟨by decide, by decide⟩) (Has.at H_ (inb_of S_ ⟨by decide, by decide⟩) rfl) (g := (mkF m 87 #[.val (.ref a1), .val (.int p2), .val (.double x3), .second, .val (.int (2 : Int32)), .val (.int (0 : Int32))] [(.int (0 : Int32)), (.ref b4), (.double y0), (.int p2), (.double x3)])) rfl rfl (hb hby d5_87)) ?_
    show Go p.tables e below (T.setTop (mkF m 88 #[.val (.ref a1), .val (.int p2), .val (.double x3), .second, .val (.int (2 : Int32)), .val (.int (0 : Int32))] [(.int i0), (.double y0), (.int p2), (.double x3)])) _
    obtain ⟨_, _, ⟨T, L_, k_, n_⟩, -, X, ⟨Lc_, hQ, l_, y_, z_⟩, st⟩ := Jvm.LawKit.callS X hx (y := (⟨"com/example/mode_choice_loop/modechoiceloop/simulation/TimeHeap", "precedes", "(DIDI)Z"⟩ : MethodName)) hown (mvT hZ (hw _ (List.mem_of_getElem? (i := 45) rfl))) (mvT hZ (hw _ (List.mem_of_getElem? (i := 46) rfl))) (mvT hZ (hw _ (List.mem_of_getElem? (i := 2) rfl))) (mvT hZ (hw _ (List.mem_of_getElem? (i := 47) rfl))) (by decide) (backOf (W := 0) (rm9 l Z a0 hw [] x3 p2 y0 i0 h7 n0 (Nat.le_trans Z0 K.1) nn_x3 nn_y0) hZ (hw _ (List.mem_of_getElem? (i := 47) rfl)) (hw _ (List.mem_of_getElem? (i := 2) rfl)) (by decide) (by decide)) (g := (mkF m 88 #[.val (.ref a1), .val (.int p2), .val (.double x3), .second, .val (.int (2 : Int32)), .val (.int (0 : Int32))] [(.int i0), (.double y0), (.int p2), (.double x3)])) rfl (by rw [hml]; rfl) (argsL := [(.double x3), (.int p2), (.double y0), (.int i0)]) (rest := []) (lenOf pd_6 rfl) rfl (by show 2 * 0 + _ ≤ _; exact Nat.le_of_eq rfl) (hb hby d5_88) (fun _ _ => ⟨rfl, eT, (by decide : 2 + 0 ≤ _), (by decide : 8 + 0 ≤ _)⟩)
    dsimp only [Pt.U, Pt.locs, Pt.cells, Pt.slots] at X l_ y_ z_ st hQ
    subst l_ y_ z_
    obtain ⟨r8, rfl, Nq, eh⟩ := hQ
    have N := Fr.app N Nq
    have eT := eh
    refine Go.by st ?_
    show Go p.tables e below (T.setTop (mkF m 91 #[.val (.ref a1), .val (.int p2), .val (.double x3), .second, .val (.int (2 : Int32)), .val (.int (0 : Int32))] [(.int r8)])) _
    by_cases hc91 : r8 = (0 : Int32)
    · refine Go.by (fun tt_ kk_ => XS.ifNo X.here hx rfl (hb hby d5_91) rfl ((if0 _ _).trans (teq hc91).2) kk_) ?_
      show Go p.tables e below (T.setTop (mkF m 94 #[.val (.ref a1), .val (.int p2), .val (.double x3), .second, .val (.int (2 : Int32)), .val (.int (0 : Int32))] [])) _
      refine Go.by (fun tt_ kk_ => XS.goto X.here hx rfl (pc0 := 94) (pc' := 132) rfl (hb hby d5_94) (by decide) (by decide) kk_) ?_
      show Go p.tables e below (T.setTop (mkF m 132 #[.val (.ref a1), .val (.int p2), .val (.double x3), .second, .val (.int (2 : Int32)), .val (.int (0 : Int32))] [])) _
      refine Go.by (fun tt_ kk_ => XS.aloadN X.here hx rfl (hb hby d5_132) rfl rfl kk_) ?_
      show Go p.tables e below (T.setTop (mkF m 133 #[.val (.ref a1), .val (.int p2), .val (.double x3), .second, .val (.int (2 : Int32)), .val (.int (0 : Int32))] [(.ref a1)])) _
      obtain ⟨T, X, eT, st⟩ := getF X hx hZ hown (host := "") (Or.inl (hw _ (List.mem_of_getElem? (i := 14) rfl))) Via.refl eT F_times_a1 (g := (mkF m 133 #[.val (.ref a1), .val (.int p2), .val (.double x3), .second, .val (.int (2 : Int32)), .val (.int (0 : Int32))] [(.ref a1)])) rfl rfl (hb hby d5_133)
      refine Go.by st ?_
      show Go p.tables e below (T.setTop (mkF m 136 #[.val (.ref a1), .val (.int p2), .val (.double x3), .second, .val (.int (2 : Int32)), .val (.int (0 : Int32))] [(.ref b1)])) _
      refine Go.by (fun tt_ kk_ => XS.iload X.here hx rfl (hb hby d5_136) rfl kk_) ?_
      show Go p.tables e below (T.setTop (mkF m 138 #[.val (.ref a1), .val (.int p2), .val (.double x3), .second, .val (.int (2 : Int32)), .val (.int (0 : Int32))] [(.int (2 : Int32)), (.ref b1)])) _
      refine Go.by (fun tt_ kk_ => XS.dloadN X.here hx rfl (hb hby d5_138) rfl kk_) ?_
      show Go p.tables e below (T.setTop (mkF m 139 #[.val (.ref a1), .val (.int p2), .val (.double x3), .second, .val (.int (2 : Int32)), .val (.int (0 : Int32))] [(.double x3), (.int (2 : Int32)), (.ref b1)])) _
      have Vo_ := V_b1
      obtain ⟨cl_, Ar_, q_, S_, N_, H_, G_⟩ := Vo_
      obtain ⟨T, h10, X, eT, Wh10, st⟩ := stD X hx hZ eT Ar_ (j := (2 : Int32)) (inb_of S_ ⟨by decide, by decide⟩) (g := (mkF m 139 #[.val (.ref a1), .val (.int p2), .val (.double x3), .second, .val (.int (2 : Int32)), .val (.int (0 : Int32))] [(.double x3), (.int (2 : Int32)), (.ref b1)])) rfl rfl (hb hby d5_139)
      have V_b1 := Arv.set Ar_ q_ S_ N_ H_ G_ rfl Wh10 2 rfl (Nat.le_of_ble_eq_true rfl)
      have E_a1 := Exa.wr Wh10 E_a1
      have F_times_a1 := Fld.other Wh10 F_times_a1 (Or.inl ne_a1_b1)
      have F_numbers_a1 := Fld.other Wh10 F_numbers_a1 (Or.inl ne_a1_b1)
      have F_size_a1 := Fld.other Wh10 F_size_a1 (Or.inl ne_a1_b1)
      have V_b4 := Arv.other V_b4 Wh10 ne_b4_b1
      have N := Fr.snoc X N g_b1
      have K := And.intro (Nat.le_trans K.1 (Nat.le_of_eq (Wr.size Wh10).symm)) trivial
      refine Go.by st ?_
      show Go p.tables e below (T.setTop (mkF m 140 #[.val (.ref a1), .val (.int p2), .val (.double x3), .second, .val (.int (2 : Int32)), .val (.int (0 : Int32))] [])) _
      refine Go.by (fun tt_ kk_ => XS.aloadN X.here hx rfl (hb hby d5_140) rfl rfl kk_) ?_
      show Go p.tables e below (T.setTop (mkF m 141 #[.val (.ref a1), .val (.int p2), .val (.double x3), .second, .val (.int (2 : Int32)), .val (.int (0 : Int32))] [(.ref a1)])) _
      obtain ⟨T, X, eT, st⟩ := getF X hx hZ hown (host := "") (Or.inl (hw _ (List.mem_of_getElem? (i := 17) rfl))) Via.refl eT F_numbers_a1 (g := (mkF m 141 #[.val (.ref a1), .val (.int p2), .val (.double x3), .second, .val (.int (2 : Int32)), .val (.int (0 : Int32))] [(.ref a1)])) rfl rfl (hb hby d5_141)
      refine Go.by st ?_
      show Go p.tables e below (T.setTop (mkF m 144 #[.val (.ref a1), .val (.int p2), .val (.double x3), .second, .val (.int (2 : Int32)), .val (.int (0 : Int32))] [(.ref b4)])) _
      refine Go.by (fun tt_ kk_ => XS.iload X.here hx rfl (hb hby d5_144) rfl kk_) ?_
      show Go p.tables e below (T.setTop (mkF m 146 #[.val (.ref a1), .val (.int p2), .val (.double x3), .second, .val (.int (2 : Int32)), .val (.int (0 : Int32))] [(.int (2 : Int32)), (.ref b4)])) _
      refine Go.by (fun tt_ kk_ => XS.iloadN X.here hx rfl (hb hby d5_146) rfl kk_) ?_
      show Go p.tables e below (T.setTop (mkF m 147 #[.val (.ref a1), .val (.int p2), .val (.double x3), .second, .val (.int (2 : Int32)), .val (.int (0 : Int32))] [(.int p2), (.int (2 : Int32)), (.ref b4)])) _
      have Vo_ := V_b4
      obtain ⟨cl_, Ar_, q_, S_, N_, H_, G_⟩ := Vo_
      obtain ⟨T, h11, X, eT, Wh11, st⟩ := stI X hx hZ eT Ar_ (j := (2 : Int32)) (inb_of S_ ⟨by decide, by decide⟩) (g := (mkF m 147 #[.val (.ref a1), .val (.int p2), .val (.double x3), .second, .val (.int (2 : Int32)), .val (.int (0 : Int32))] [(.int p2), (.int (2 : Int32)), (.ref b4)])) rfl rfl (hb hby d5_147)
      have V_b4 := Arv.set Ar_ q_ S_ N_ H_ G_ rfl Wh11 2 rfl (Nat.le_of_ble_eq_true rfl)
      have E_a1 := Exa.wr Wh11 E_a1
      have F_times_a1 := Fld.other Wh11 F_times_a1 (Or.inl ne_a1_b4)
      have F_numbers_a1 := Fld.other Wh11 F_numbers_a1 (Or.inl ne_a1_b4)
      have F_size_a1 := Fld.other Wh11 F_size_a1 (Or.inl ne_a1_b4)
      have V_b1 := Arv.other V_b1 Wh11 ne_b1_b4
      have N := Fr.snoc X N g_b4
      have K := And.intro (Nat.le_trans K.1 (Nat.le_of_eq (Wr.size Wh11).symm)) trivial
      refine Go.by st ?_
      show Go p.tables e below (T.setTop (mkF m 148 #[.val (.ref a1), .val (.int p2), .val (.double x3), .second, .val (.int (2 : Int32)), .val (.int (0 : Int32))] [])) _
      refine Go.by (fun tt_ kk_ => XS.iload X.here hx rfl (hb hby d5_148) rfl kk_) ?_
      show Go p.tables e below (T.setTop (mkF m 150 #[.val (.ref a1), .val (.int p2), .val (.double x3), .second, .val (.int (2 : Int32)), .val (.int (0 : Int32))] [(.int (2 : Int32))])) _
      refine Go.by (fun tt_ kk_ => XS.ifYes X.here hx rfl (pc0 := 150) (pc' := 157) rfl (hb hby d5_150) rfl ((if0 _ _).trans (feq (by decide : ¬ ((2 : Int32) = (0 : Int32)))).2) (by decide) (by decide) kk_) ?_
      show Go p.tables e below (T.setTop (mkF m 157 #[.val (.ref a1), .val (.int p2), .val (.double x3), .second, .val (.int (2 : Int32)), .val (.int (0 : Int32))] [])) _
      refine Go.by (fun tt_ kk_ => XS.iconst X.here hx rfl (hb hby d5_157) kk_) ?_
      show Go p.tables e below (T.setTop (mkF m 158 #[.val (.ref a1), .val (.int p2), .val (.double x3), .second, .val (.int (2 : Int32)), .val (.int (0 : Int32))] [(.int (0 : Int32))])) _
      exact Go.done X  (v := some (.int (0 : Int32))) (fun h => by rw [Bd.returns] at h; cases h) Bd.notSynchronized (fun fs hr => retN X hx (z := (0 : Int32)) (t := .boolean) Bd.returns (by simp) (hb hby d5_158) hr) (by rw [eT]; exact ⟨_, rfl, N, K, ⟨E_a1, g_a1, b1, b4, _, _, _, _, _, _, _, _, _, _, _, F_times_a1, F_numbers_a1, F_size_a1, V_b1, V_b4, g_b1, g_b4, ne_a1_b1, ne_a1_b4, ne_b1_b4, nn_y0, nn_y1, nn_x3, own_nn0, by decide, by decide, by decide⟩⟩) (by decide) (by decide)
    · refine Go.by (fun tt_ kk_ => XS.ifYes X.here hx rfl (pc0 := 91) (pc' := 97) rfl (hb hby d5_91) rfl ((if0 _ _).trans (feq hc91).2) (by decide) (by decide) kk_) ?_
      show Go p.tables e below (T.setTop (mkF m 97 #[.val (.ref a1), .val (.int p2), .val (.double x3), .second, .val (.int (2 : Int32)), .val (.int (0 : Int32))] [])) _
      refine Go.by (fun tt_ kk_ => XS.aloadN X.here hx rfl (hb hby d5_97) rfl rfl kk_) ?_
      show Go p.tables e below (T.setTop (mkF m 98 #[.val (.ref a1), .val (.int p2), .val (.double x3), .second, .val (.int (2 : Int32)), .val (.int (0 : Int32))] [(.ref a1)])) _
      obtain ⟨T, X, eT, st⟩ := getF X hx hZ hown (host := "") (Or.inl (hw _ (List.mem_of_getElem? (i := 14) rfl))) Via.refl eT F_times_a1 (g := (mkF m 98 #[.val (.ref a1), .val (.int p2), .val (.double x3), .second, .val (.int (2 : Int32)), .val (.int (0 : Int32))] [(.ref a1)])) rfl rfl (hb hby d5_98)
      refine Go.by st ?_
      show Go p.tables e below (T.setTop (mkF m 101 #[.val (.ref a1), .val (.int p2), .val (.double x3), .second, .val (.int (2 : Int32)), .val (.int (0 : Int32))] [(.ref b1)])) _
      refine Go.by (fun tt_ kk_ => XS.iload X.here hx rfl (hb hby d5_101) rfl kk_) ?_
      show Go p.tables e below (T.setTop (mkF m 103 #[.val (.ref a1), .val (.int p2), .val (.double x3), .second, .val (.int (2 : Int32)), .val (.int (0 : Int32))] [(.int (2 : Int32)), (.ref b1)])) _
      refine Go.by (fun tt_ kk_ => XS.aloadN X.here hx rfl (hb hby d5_103) rfl rfl kk_) ?_
      show Go p.tables e below (T.setTop (mkF m 104 #[.val (.ref a1), .val (.int p2), .val (.double x3), .second, .val (.int (2 : Int32)), .val (.int (0 : Int32))] [(.ref a1), (.int (2 : Int32)), (.ref b1)])) _
      obtain ⟨T, X, eT, st⟩ := getF X hx hZ hown (host := "") (Or.inl (hw _ (List.mem_of_getElem? (i := 14) rfl))) Via.refl eT F_times_a1 (g := (mkF m 104 #[.val (.ref a1), .val (.int p2), .val (.double x3), .second, .val (.int (2 : Int32)), .val (.int (0 : Int32))] [(.ref a1), (.int (2 : Int32)), (.ref b1)])) rfl rfl (hb hby d5_104)
      refine Go.by st ?_
      show Go p.tables e below (T.setTop (mkF m 107 #[.val (.ref a1), .val (.int p2), .val (.double x3), .second, .val (.int (2 : Int32)), .val (.int (0 : Int32))] [(.ref b1), (.int (2 : Int32)), (.ref b1)])) _
      refine Go.by (fun tt_ kk_ => XS.iload X.here hx rfl (hb hby d5_107) rfl kk_) ?_
      show Go p.tables e below (T.setTop (mkF m 109 #[.val (.ref a1), .val (.int p2), .val (.double x3), .second, .val (.int (2 : Int32)), .val (.int (0 : Int32))] [(.int (0 : Int32)), (.ref b1), (.int (2 : Int32)), (.ref b1)])) _
      have Vo_ := V_b1
      obtain ⟨cl_, Ar_, q_, S_, N_, H_, G_⟩ := Vo_
      refine Go.by (X.daload hx (j := (0 : Int32)) (v := (.double y0)) (by rw [eT]; exact Ar_.1) (State.isArrayOf_alike hZ.alike Ar_.2.1) Ar_.2.2 (inb_of S_ ⟨by decide, by decide⟩) (Has.at H_ (inb_of S_ ⟨by decide, by decide⟩) rfl) (g := (mkF m 109 #[.val (.ref a1), .val (.int p2), .val (.double x3), .second, .val (.int (2 : Int32)), .val (.int (0 : Int32))] [(.int (0 : Int32)), (.ref b1), (.int (2 : Int32)), (.ref b1)])) rfl rfl (hb hby d5_109)) ?_
      show Go p.tables e below (T.setTop (mkF m 110 #[.val (.ref a1), .val (.int p2), .val (.double x3), .second, .val (.int (2 : Int32)), .val (.int (0 : Int32))] [(.double y0), (.int (2 : Int32)), (.ref b1)])) _
      have Vo_ := V_b1
      obtain ⟨cl_, Ar_, q_, S_, N_, H_, G_⟩ := Vo_
      obtain ⟨T, h12, X, eT, Wh12, st⟩ := stD X hx hZ eT Ar_ (j := (2 : Int32)) (inb_of S_ ⟨by decide, by decide⟩) (g := (mkF m 110 #[.val (.ref a1), .val (.int p2), .val (.double x3), .second, .val (.int (2 : Int32)), .val (.int (0 : Int32))] [(.double y0), (.int (2 : Int32)), (.ref b1)])) rfl rfl (hb hby d5_110)
      have V_b1 := Arv.set Ar_ q_ S_ N_ H_ G_ rfl Wh12 2 rfl (Nat.le_of_ble_eq_true rfl)
      have E_a1 := Exa.wr Wh12 E_a1
      have F_times_a1 := Fld.other Wh12 F_times_a1 (Or.inl ne_a1_b1)
      have F_numbers_a1 := Fld.other Wh12 F_numbers_a1 (Or.inl ne_a1_b1)
      have F_size_a1 := Fld.other Wh12 F_size_a1 (Or.inl ne_a1_b1)
      have V_b4 := Arv.other V_b4 Wh12 ne_b4_b1
      have N := Fr.snoc X N g_b1
      have K := And.intro (Nat.le_trans K.1 (Nat.le_of_eq (Wr.size Wh12).symm)) trivial
      refine Go.by st ?_
      show Go p.tables e below (T.setTop (mkF m 111 #[.val (.ref a1), .val (.int p2), .val (.double x3), .second, .val (.int (2 : Int32)), .val (.int (0 : Int32))] [])) _
      refine Go.by (fun tt_ kk_ => XS.aloadN X.here hx rfl (hb hby d5_111) rfl rfl kk_) ?_
      show Go p.tables e below (T.setTop (mkF m 112 #[.val (.ref a1), .val (.int p2), .val (.double x3), .second, .val (.int (2 : Int32)), .val (.int (0 : Int32))] [(.ref a1)])) _
      obtain ⟨T, X, eT, st⟩ := getF X hx hZ hown (host := "") (Or.inl (hw _ (List.mem_of_getElem? (i := 17) rfl))) Via.refl eT F_numbers_a1 (g := (mkF m 112 #[.val (.ref a1), .val (.int p2), .val (.double x3), .second, .val (.int (2 : Int32)), .val (.int (0 : Int32))] [(.ref a1)])) rfl rfl (hb hby d5_112)
      refine Go.by st ?_
      show Go p.tables e below (T.setTop (mkF m 115 #[.val (.ref a1), .val (.int p2), .val (.double x3), .second, .val (.int (2 : Int32)), .val (.int (0 : Int32))] [(.ref b4)])) _
      refine Go.by (fun tt_ kk_ => XS.iload X.here hx rfl (hb hby d5_115) rfl kk_) ?_
      show Go p.tables e below (T.setTop (mkF m 117 #[.val (.ref a1), .val (.int p2), .val (.double x3), .second, .val (.int (2 : Int32)), .val (.int (0 : Int32))] [(.int (2 : Int32)), (.ref b4)])) _
      refine Go.by (fun tt_ kk_ => XS.aloadN X.here hx rfl (hb hby d5_117) rfl rfl kk_) ?_
      show Go p.tables e below (T.setTop (mkF m 118 #[.val (.ref a1), .val (.int p2), .val (.double x3), .second, .val (.int (2 : Int32)), .val (.int (0 : Int32))] [(.ref a1), (.int (2 : Int32)), (.ref b4)])) _
      obtain ⟨T, X, eT, st⟩ := getF X hx hZ hown (host := "") (Or.inl (hw _ (List.mem_of_getElem? (i := 17) rfl))) Via.refl eT F_numbers_a1 (g := (mkF m 118 #[.val (.ref a1), .val (.int p2), .val (.double x3), .second, .val (.int (2 : Int32)), .val (.int (0 : Int32))] [(.ref a1), (.int (2 : Int32)), (.ref b4)])) rfl rfl (hb hby d5_118)
      refine Go.by st ?_
      show Go p.tables e below (T.setTop (mkF m 121 #[.val (.ref a1), .val (.int p2), .val (.double x3), .second, .val (.int (2 : Int32)), .val (.int (0 : Int32))] [(.ref b4), (.int (2 : Int32)), (.ref b4)])) _
      refine Go.by (fun tt_ kk_ => XS.iload X.here hx rfl (hb hby d5_121) rfl kk_) ?_
      show Go p.tables e below (T.setTop (mkF m 123 #[.val (.ref a1), .val (.int p2), .val (.double x3), .second, .val (.int (2 : Int32)), .val (.int (0 : Int32))] [(.int (0 : Int32)), (.ref b4), (.int (2 : Int32)), (.ref b4)])) _
      have Vo_ := V_b4
      obtain ⟨cl_, Ar_, q_, S_, N_, H_, G_⟩ := Vo_
      refine Go.by (X.iaload hx (j := (0 : Int32)) (v := (.int i0)) (by rw [eT]; exact Ar_.1) (State.isArrayOf_alike hZ.alike Ar_.2.1) Ar_.2.2 (inb_of S_ ⟨by decide, by decide⟩) (Has.at H_ (inb_of S_ ⟨by decide, by decide⟩) rfl) (g := (mkF m 123 #[.val (.ref a1), .val (.int p2), .val (.double x3), .second, .val (.int (2 : Int32)), .val (.int (0 : Int32))] [(.int (0 : Int32)), (.ref b4), (.int (2 : Int32)), (.ref b4)])) rfl rfl (hb hby d5_123)) ?_
      show Go p.tables e below (T.setTop (mkF m 124 #[.val (.ref a1), .val (.int p2), .val (.double x3), .second, .val (.int (2 : Int32)), .val (.int (0 : Int32))] [(.int i0), (.int (2 : Int32)), (.ref b4)])) _
      have Vo_ := V_b4
      obtain ⟨cl_, Ar_, q_, S_, N_, H_, G_⟩ := Vo_
      obtain ⟨T, h13, X, eT, Wh13, st⟩ := stI X hx hZ eT Ar_ (j := (2 : Int32)) (inb_of S_ ⟨by decide, by decide⟩) (g := (mkF m 124 #[.val (.ref a1), .val (.int p2), .val (.double x3), .second, .val (.int (2 : Int32)), .val (.int (0 : Int32))] [(.int i0), (.int (2 : Int32)), (.ref b4)])) rfl rfl (hb hby d5_124)
      have V_b4 := Arv.set Ar_ q_ S_ N_ H_ G_ rfl Wh13 2 rfl (Nat.le_of_ble_eq_true rfl)
      have E_a1 := Exa.wr Wh13 E_a1
      have F_times_a1 := Fld.other Wh13 F_times_a1 (Or.inl ne_a1_b4)
      have F_numbers_a1 := Fld.other Wh13 F_numbers_a1 (Or.inl ne_a1_b4)
      have F_size_a1 := Fld.other Wh13 F_size_a1 (Or.inl ne_a1_b4)
      have V_b1 := Arv.other V_b1 Wh13 ne_b1_b4
      have N := Fr.snoc X N g_b4
      have K := And.intro (Nat.le_trans K.1 (Nat.le_of_eq (Wr.size Wh13).symm)) trivial
      refine Go.by st ?_
      show Go p.tables e below (T.setTop (mkF m 125 #[.val (.ref a1), .val (.int p2), .val (.double x3), .second, .val (.int (2 : Int32)), .val (.int (0 : Int32))] [])) _
      refine Go.by (fun tt_ kk_ => XS.iload X.here hx rfl (hb hby d5_125) rfl kk_) ?_
      show Go p.tables e below (T.setTop (mkF m 127 #[.val (.ref a1), .val (.int p2), .val (.double x3), .second, .val (.int (2 : Int32)), .val (.int (0 : Int32))] [(.int (0 : Int32))])) _
      refine Go.by (fun tt_ kk_ => XS.istore X.here hx rfl (hb hby d5_127) rfl (l' := #[.val (.ref a1), .val (.int p2), .val (.double x3), .second, .val (.int (0 : Int32)), .val (.int (0 : Int32))]) rfl kk_) ?_
      show Go p.tables e below (T.setTop (mkF m 129 #[.val (.ref a1), .val (.int p2), .val (.double x3), .second, .val (.int (0 : Int32)), .val (.int (0 : Int32))] [])) _
      refine Go.by (fun tt_ kk_ => XS.goto X.here hx rfl (pc0 := 129) (pc' := 59) rfl (hb hby d5_129) (by decide) (by decide) kk_) ?_
      show Go p.tables e below (T.setTop (mkF m 59 #[.val (.ref a1), .val (.int p2), .val (.double x3), .second, .val (.int (0 : Int32)), .val (.int (0 : Int32))] [])) _
      refine Go.by (fun tt_ kk_ => XS.iload X.here hx rfl (hb hby d5_59) rfl kk_) ?_
      show Go p.tables e below (T.setTop (mkF m 61 #[.val (.ref a1), .val (.int p2), .val (.double x3), .second, .val (.int (0 : Int32)), .val (.int (0 : Int32))] [(.int (0 : Int32))])) _
      refine Go.by (fun tt_ kk_ => XS.ifYes X.here hx rfl (pc0 := 61) (pc' := 132) rfl (hb hby d5_61) rfl ((if0 _ _).trans (flt (by decide : ¬ ((0 : Int32) < (0 : Int32)))).2.2.2) (by decide) (by decide) kk_) ?_
      show Go p.tables e below (T.setTop (mkF m 132 #[.val (.ref a1), .val (.int p2), .val (.double x3), .second, .val (.int (0 : Int32)), .val (.int (0 : Int32))] [])) _
      refine Go.by (fun tt_ kk_ => XS.aloadN X.here hx rfl (hb hby d5_132) rfl rfl kk_) ?_
      show Go p.tables e below (T.setTop (mkF m 133 #[.val (.ref a1), .val (.int p2), .val (.double x3), .second, .val (.int (0 : Int32)), .val (.int (0 : Int32))] [(.ref a1)])) _
      obtain ⟨T, X, eT, st⟩ := getF X hx hZ hown (host := "") (Or.inl (hw _ (List.mem_of_getElem? (i := 14) rfl))) Via.refl eT F_times_a1 (g := (mkF m 133 #[.val (.ref a1), .val (.int p2), .val (.double x3), .second, .val (.int (0 : Int32)), .val (.int (0 : Int32))] [(.ref a1)])) rfl rfl (hb hby d5_133)
      refine Go.by st ?_
      show Go p.tables e below (T.setTop (mkF m 136 #[.val (.ref a1), .val (.int p2), .val (.double x3), .second, .val (.int (0 : Int32)), .val (.int (0 : Int32))] [(.ref b1)])) _
      refine Go.by (fun tt_ kk_ => XS.iload X.here hx rfl (hb hby d5_136) rfl kk_) ?_
      show Go p.tables e below (T.setTop (mkF m 138 #[.val (.ref a1), .val (.int p2), .val (.double x3), .second, .val (.int (0 : Int32)), .val (.int (0 : Int32))] [(.int (0 : Int32)), (.ref b1)])) _
      refine Go.by (fun tt_ kk_ => XS.dloadN X.here hx rfl (hb hby d5_138) rfl kk_) ?_
      show Go p.tables e below (T.setTop (mkF m 139 #[.val (.ref a1), .val (.int p2), .val (.double x3), .second, .val (.int (0 : Int32)), .val (.int (0 : Int32))] [(.double x3), (.int (0 : Int32)), (.ref b1)])) _
      have Vo_ := V_b1
      obtain ⟨cl_, Ar_, q_, S_, N_, H_, G_⟩ := Vo_
      obtain ⟨T, h14, X, eT, Wh14, st⟩ := stD X hx hZ eT Ar_ (j := (0 : Int32)) (inb_of S_ ⟨by decide, by decide⟩) (g := (mkF m 139 #[.val (.ref a1), .val (.int p2), .val (.double x3), .second, .val (.int (0 : Int32)), .val (.int (0 : Int32))] [(.double x3), (.int (0 : Int32)), (.ref b1)])) rfl rfl (hb hby d5_139)
      have V_b1 := Arv.set Ar_ q_ S_ N_ H_ G_ rfl Wh14 0 rfl (Nat.le_of_ble_eq_true rfl)
      have E_a1 := Exa.wr Wh14 E_a1
      have F_times_a1 := Fld.other Wh14 F_times_a1 (Or.inl ne_a1_b1)
      have F_numbers_a1 := Fld.other Wh14 F_numbers_a1 (Or.inl ne_a1_b1)
      have F_size_a1 := Fld.other Wh14 F_size_a1 (Or.inl ne_a1_b1)
      have V_b4 := Arv.other V_b4 Wh14 ne_b4_b1
      have N := Fr.snoc X N g_b1
      have K := And.intro (Nat.le_trans K.1 (Nat.le_of_eq (Wr.size Wh14).symm)) trivial
      refine Go.by st ?_
      show Go p.tables e below (T.setTop (mkF m 140 #[.val (.ref a1), .val (.int p2), .val (.double x3), .second, .val (.int (0 : Int32)), .val (.int (0 : Int32))] [])) _
      refine Go.by (fun tt_ kk_ => XS.aloadN X.here hx rfl (hb hby d5_140) rfl rfl kk_) ?_
      show Go p.tables e below (T.setTop (mkF m 141 #[.val (.ref a1), .val (.int p2), .val (.double x3), .second, .val (.int (0 : Int32)), .val (.int (0 : Int32))] [(.ref a1)])) _
      obtain ⟨T, X, eT, st⟩ := getF X hx hZ hown (host := "") (Or.inl (hw _ (List.mem_of_getElem? (i := 17) rfl))) Via.refl eT F_numbers_a1 (g := (mkF m 141 #[.val (.ref a1), .val (.int p2), .val (.double x3), .second, .val (.int (0 : Int32)), .val (.int (0 : Int32))] [(.ref a1)])) rfl rfl (hb hby d5_141)
      refine Go.by st ?_
      show Go p.tables e below (T.setTop (mkF m 144 #[.val (.ref a1), .val (.int p2), .val (.double x3), .second, .val (.int (0 : Int32)), .val (.int (0 : Int32))] [(.ref b4)])) _
      refine Go.by (fun tt_ kk_ => XS.iload X.here hx rfl (hb hby d5_144) rfl kk_) ?_
      show Go p.tables e below (T.setTop (mkF m 146 #[.val (.ref a1), .val (.int p2), .val (.double x3), .second, .val (.int (0 : Int32)), .val (.int (0 : Int32))] [(.int (0 : Int32)), (.ref b4)])) _
      refine Go.by (fun tt_ kk_ => XS.iloadN X.here hx rfl (hb hby d5_146) rfl kk_) ?_
      show Go p.tables e below (T.setTop (mkF m 147 #[.val (.ref a1), .val (.int p2), .val (.double x3), .second, .val (.int (0 : Int32)), .val (.int (0 : Int32))] [(.int p2), (.int (0 : Int32)), (.ref b4)])) _
      have Vo_ := V_b4
      obtain ⟨cl_, Ar_, q_, S_, N_, H_, G_⟩ := Vo_
      obtain ⟨T, h15, X, eT, Wh15, st⟩ := stI X hx hZ eT Ar_ (j := (0 : Int32)) (inb_of S_ ⟨by decide, by decide⟩) (g := (mkF m 147 #[.val (.ref a1), .val (.int p2), .val (.double x3), .second, .val (.int (0 : Int32)), .val (.int (0 : Int32))] [(.int p2), (.int (0 : Int32)), (.ref b4)])) rfl rfl (hb hby d5_147)
      have V_b4 := Arv.set Ar_ q_ S_ N_ H_ G_ rfl Wh15 0 rfl (Nat.le_of_ble_eq_true rfl)
      have E_a1 := Exa.wr Wh15 E_a1
      have F_times_a1 := Fld.other Wh15 F_times_a1 (Or.inl ne_a1_b4)
      have F_numbers_a1 := Fld.other Wh15 F_numbers_a1 (Or.inl ne_a1_b4)
      have F_size_a1 := Fld.other Wh15 F_size_a1 (Or.inl ne_a1_b4)
      have V_b1 := Arv.other V_b1 Wh15 ne_b1_b4
      have N := Fr.snoc X N g_b4
      have K := And.intro (Nat.le_trans K.1 (Nat.le_of_eq (Wr.size Wh15).symm)) trivial
      refine Go.by st ?_
      show Go p.tables e below (T.setTop (mkF m 148 #[.val (.ref a1), .val (.int p2), .val (.double x3), .second, .val (.int (0 : Int32)), .val (.int (0 : Int32))] [])) _
      refine Go.by (fun tt_ kk_ => XS.iload X.here hx rfl (hb hby d5_148) rfl kk_) ?_
      show Go p.tables e below (T.setTop (mkF m 150 #[.val (.ref a1), .val (.int p2), .val (.double x3), .second, .val (.int (0 : Int32)), .val (.int (0 : Int32))] [(.int (0 : Int32))])) _
      refine Go.by (fun tt_ kk_ => XS.ifNo X.here hx rfl (hb hby d5_150) rfl ((if0 _ _).trans (teq (rfl : (0 : Int32) = (0 : Int32))).2) kk_) ?_
      show Go p.tables e below (T.setTop (mkF m 153 #[.val (.ref a1), .val (.int p2), .val (.double x3), .second, .val (.int (0 : Int32)), .val (.int (0 : Int32))] [])) _
      refine Go.by (fun tt_ kk_ => XS.iconst X.here hx rfl (hb hby d5_153) kk_) ?_
      show Go p.tables e below (T.setTop (mkF m 154 #[.val (.ref a1), .val (.int p2), .val (.double x3), .second, .val (.int (0 : Int32)), .val (.int (0 : Int32))] [(.int (1 : Int32))])) _
      refine Go.by (fun tt_ kk_ => XS.goto X.here hx rfl (pc0 := 154) (pc' := 158) rfl (hb hby d5_154) (by decide) (by decide) kk_) ?_
      show Go p.tables e below (T.setTop (mkF m 158 #[.val (.ref a1), .val (.int p2), .val (.double x3), .second, .val (.int (0 : Int32)), .val (.int (0 : Int32))] [(.int (1 : Int32))])) _
      exact Go.done X  (v := some (.int (1 : Int32))) (fun h => by rw [Bd.returns] at h; cases h) Bd.notSynchronized (fun fs hr => retN X hx (z := (1 : Int32)) (t := .boolean) Bd.returns (by simp) (hb hby d5_158) hr) (by rw [eT]; exact ⟨_, rfl, N, K, ⟨E_a1, g_a1, b1, b4, _, _, _, _, _, _, _, _, _, _, _, F_times_a1, F_numbers_a1, F_size_a1, V_b1, V_b4, g_b1, g_b4, ne_a1_b1, ne_a1_b4, ne_b1_b4, nn_x3, nn_y1, nn_y0, own_nn0, by decide, by decide, by decide⟩⟩) (by decide) (by decide)
  · have hl2 : (2 : Int32) < cc := by
      have q : ¬ cc.toInt = 2 := fun q => hc9 (Int32.toInt_inj.mp (by rw [q]; decide))
      rw [Int32.lt_iff_toInt_lt, show ((2 : Int32)).toInt = 2 by decide]; omega
    have bs_3 : ((3 : Int32)).toInt ≤ cc.toInt := by
      rw [Int32.lt_iff_toInt_lt, show ((2 : Int32)).toInt = 2 by decide] at hl2
      rw [show ((3 : Int32)).toInt = 3 by decide]; omega
    refine Go.by (fun tt_ kk_ => XS.icmpYes X.here hx rfl (pc0 := 9) (pc' := 46) rfl (hb hby d5_9) rfl (feq hc9).2 (by decide) (by decide) kk_) ?_
    show Go p.tables e below (T.setTop (mkF m 46 #[.val (.ref a1), .val (.int p2), .val (.double x3), .second, .unset, .unset] [])) _
    refine Go.by (fun tt_ kk_ => XS.aloadN X.here hx rfl (hb hby d5_46) rfl rfl kk_) ?_
    show Go p.tables e below (T.setTop (mkF m 47 #[.val (.ref a1), .val (.int p2), .val (.double x3), .second, .unset, .unset] [(.ref a1)])) _
    refine Go.by (fun tt_ kk_ => XS.dup X.here hx rfl (hb hby d5_47) rfl rfl kk_) ?_
    show Go p.tables e below (T.setTop (mkF m 48 #[.val (.ref a1), .val (.int p2), .val (.double x3), .second, .unset, .unset] [(.ref a1), (.ref a1)])) _
    obtain ⟨T, X, eT, st⟩ := getF X hx hZ hown (host := "") (Or.inl (hw _ (List.mem_of_getElem? (i := 24) rfl))) Via.refl eT F_size_a1 (g := (mkF m 48 #[.val (.ref a1), .val (.int p2), .val (.double x3), .second, .unset, .unset] [(.ref a1), (.ref a1)])) rfl rfl (hb hby d5_48)
    refine Go.by st ?_
    show Go p.tables e below (T.setTop (mkF m 51 #[.val (.ref a1), .val (.int p2), .val (.double x3), .second, .unset, .unset] [(.int (2 : Int32)), (.ref a1)])) _
    refine Go.by (fun tt_ kk_ => XS.dupX1 X.here hx rfl (hb hby d5_51) rfl rfl rfl kk_) ?_
    show Go p.tables e below (T.setTop (mkF m 52 #[.val (.ref a1), .val (.int p2), .val (.double x3), .second, .unset, .unset] [(.int (2 : Int32)), (.ref a1), (.int (2 : Int32))])) _
    refine Go.by (fun tt_ kk_ => XS.iconst X.here hx rfl (hb hby d5_52) kk_) ?_
    show Go p.tables e below (T.setTop (mkF m 53 #[.val (.ref a1), .val (.int p2), .val (.double x3), .second, .unset, .unset] [(.int (1 : Int32)), (.int (2 : Int32)), (.ref a1), (.int (2 : Int32))])) _
    refine Go.by (fun tt_ kk_ => XS.iadd X.here hx rfl (hb hby d5_53) rfl kk_) ?_
    show Go p.tables e below (T.setTop (mkF m 54 #[.val (.ref a1), .val (.int p2), .val (.double x3), .second, .unset, .unset] [(.int (3 : Int32)), (.ref a1), (.int (2 : Int32))])) _
    obtain ⟨T, h16, X, eT, Wh16, st⟩ := putF X hx hZ hown (host := "") (Or.inl (hw _ (List.mem_of_getElem? (i := 24) rfl))) Via.refl eT F_size_a1 E_a1 (Or.inl (hw _ (List.mem_of_getElem? (i := 25) rfl))) (hw _ (List.mem_of_getElem? (i := 1) rfl)) (ty := .int) (by decide) rfl rfl (g := (mkF m 54 #[.val (.ref a1), .val (.int p2), .val (.double x3), .second, .unset, .unset] [(.int (3 : Int32)), (.ref a1), (.int (2 : Int32))])) rfl rfl (hb hby d5_54)
    have F_size_a1 := Fld.same Wh16 F_size_a1
    have E_a1 := Exa.wr Wh16 E_a1
    have F_times_a1 := Fld.other Wh16 F_times_a1 (Or.inr (slot_ne (Or.inl (hw _ (List.mem_of_getElem? (i := 15) rfl))) (Or.inl (hw _ (List.mem_of_getElem? (i := 25) rfl))) (by decide) (t := (.array .double)) (t' := .int) (by decide) (by decide)))
    have F_numbers_a1 := Fld.other Wh16 F_numbers_a1 (Or.inr (slot_ne (Or.inl (hw _ (List.mem_of_getElem? (i := 18) rfl))) (Or.inl (hw _ (List.mem_of_getElem? (i := 25) rfl))) (by decide) (t := (.array .int)) (t' := .int) (by decide) (by decide)))
    have V_ti := Arv.other V_ti Wh16 ne_ti_a1
    have V_nu := Arv.other V_nu Wh16 ne_nu_a1
    have N := Fr.snoc X N g_a1
    have K := And.intro (Nat.le_trans K.1 (Nat.le_of_eq (Wr.size Wh16).symm)) trivial
    refine Go.by st ?_
    show Go p.tables e below (T.setTop (mkF m 57 #[.val (.ref a1), .val (.int p2), .val (.double x3), .second, .unset, .unset] [(.int (2 : Int32))])) _
    refine Go.by (fun tt_ kk_ => XS.istore X.here hx rfl (hb hby d5_57) rfl (l' := #[.val (.ref a1), .val (.int p2), .val (.double x3), .second, .val (.int (2 : Int32)), .unset]) rfl kk_) ?_
    show Go p.tables e below (T.setTop (mkF m 59 #[.val (.ref a1), .val (.int p2), .val (.double x3), .second, .val (.int (2 : Int32)), .unset] [])) _
    refine Go.by (fun tt_ kk_ => XS.iload X.here hx rfl (hb hby d5_59) rfl kk_) ?_
    show Go p.tables e below (T.setTop (mkF m 61 #[.val (.ref a1), .val (.int p2), .val (.double x3), .second, .val (.int (2 : Int32)), .unset] [(.int (2 : Int32))])) _
    refine Go.by (fun tt_ kk_ => XS.ifNo X.here hx rfl (hb hby d5_61) rfl ((if0 _ _).trans (tlt (by decide : (0 : Int32) < (2 : Int32))).2.2.2) kk_) ?_
    show Go p.tables e below (T.setTop (mkF m 64 #[.val (.ref a1), .val (.int p2), .val (.double x3), .second, .val (.int (2 : Int32)), .unset] [])) _
    refine Go.by (fun tt_ kk_ => XS.iload X.here hx rfl (hb hby d5_64) rfl kk_) ?_
    show Go p.tables e below (T.setTop (mkF m 66 #[.val (.ref a1), .val (.int p2), .val (.double x3), .second, .val (.int (2 : Int32)), .unset] [(.int (2 : Int32))])) _
    refine Go.by (fun tt_ kk_ => XS.iconst X.here hx rfl (hb hby d5_66) kk_) ?_
    show Go p.tables e below (T.setTop (mkF m 67 #[.val (.ref a1), .val (.int p2), .val (.double x3), .second, .val (.int (2 : Int32)), .unset] [(.int (1 : Int32)), (.int (2 : Int32))])) _
    refine Go.by (fun tt_ kk_ => XS.isub X.here hx rfl (hb hby d5_67) rfl kk_) ?_
    show Go p.tables e below (T.setTop (mkF m 68 #[.val (.ref a1), .val (.int p2), .val (.double x3), .second, .val (.int (2 : Int32)), .unset] [(.int (1 : Int32))])) _
    refine Go.by (fun tt_ kk_ => XS.iconst X.here hx rfl (hb hby d5_68) kk_) ?_
    show Go p.tables e below (T.setTop (mkF m 69 #[.val (.ref a1), .val (.int p2), .val (.double x3), .second, .val (.int (2 : Int32)), .unset] [(.int (4 : Int32)), (.int (1 : Int32))])) _
    refine Go.by (fun tt_ kk_ => XS.idiv X.here hx rfl (hb hby d5_69) rfl (by decide) kk_) ?_
    show Go p.tables e below (T.setTop (mkF m 70 #[.val (.ref a1), .val (.int p2), .val (.double x3), .second, .val (.int (2 : Int32)), .unset] [(.int (0 : Int32))])) _
    refine Go.by (fun tt_ kk_ => XS.istore X.here hx rfl (hb hby d5_70) rfl (l' := #[.val (.ref a1), .val (.int p2), .val (.double x3), .second, .val (.int (2 : Int32)), .val (.int (0 : Int32))]) rfl kk_) ?_
    show Go p.tables e below (T.setTop (mkF m 72 #[.val (.ref a1), .val (.int p2), .val (.double x3), .second, .val (.int (2 : Int32)), .val (.int (0 : Int32))] [])) _
    refine Go.by (fun tt_ kk_ => XS.dloadN X.here hx rfl (hb hby d5_72) rfl kk_) ?_
    show Go p.tables e below (T.setTop (mkF m 73 #[.val (.ref a1), .val (.int p2), .val (.double x3), .second, .val (.int (2 : Int32)), .val (.int (0 : Int32))] [(.double x3)])) _
    refine Go.by (fun tt_ kk_ => XS.iloadN X.here hx rfl (hb hby d5_73) rfl kk_) ?_
    show Go p.tables e below (T.setTop (mkF m 74 #[.val (.ref a1), .val (.int p2), .val (.double x3), .second, .val (.int (2 : Int32)), .val (.int (0 : Int32))] [(.int p2), (.double x3)])) _
    refine Go.by (fun tt_ kk_ => XS.aloadN X.here hx rfl (hb hby d5_74) rfl rfl kk_) ?_
    show Go p.tables e below (T.setTop (mkF m 75 #[.val (.ref a1), .val (.int p2), .val (.double x3), .second, .val (.int (2 : Int32)), .val (.int (0 : Int32))] [(.ref a1), (.int p2), (.double x3)])) _
    obtain ⟨T, X, eT, st⟩ := getF X hx hZ hown (host := "") (Or.inl (hw _ (List.mem_of_getElem? (i := 14) rfl))) Via.refl eT F_times_a1 (g := (mkF m 75 #[.val (.ref a1), .val (.int p2), .val (.double x3), .second, .val (.int (2 : Int32)), .val (.int (0 : Int32))] [(.ref a1), (.int p2), (.double x3)])) rfl rfl (hb hby d5_75)
    refine Go.by st ?_
    show Go p.tables e below (T.setTop (mkF m 78 #[.val (.ref a1), .val (.int p2), .val (.double x3), .second, .val (.int (2 : Int32)), .val (.int (0 : Int32))] [(.ref ti), (.int p2), (.double x3)])) _
    refine Go.by (fun tt_ kk_ => XS.iload X.here hx rfl (hb hby d5_78) rfl kk_) ?_
    show Go p.tables e below (T.setTop (mkF m 80 #[.val (.ref a1), .val (.int p2), .val (.double x3), .second, .val (.int (2 : Int32)), .val (.int (0 : Int32))] [(.int (0 : Int32)), (.ref ti), (.int p2), (.double x3)])) _
    have Vo_ := V_ti
    obtain ⟨cl_, Ar_, q_, S_, N_, H_, G_⟩ := Vo_
    refine Go.by (X.daload hx (j := (0 : Int32)) (v := (.double y0)) (by rw [eT]; exact Ar_.1) (State.isArrayOf_alike hZ.alike Ar_.2.1) Ar_.2.2 (inb_of S_ ⟨by decide, hl0⟩) (Has.at H_ (inb_of S_ ⟨by decide, hl0⟩) rfl) (g := (mkF m 80 #[.val (.ref a1), .val (.int p2), .val (.double x3), .second, .val (.int (2 : Int32)), .val (.int (0 : Int32))] [(.int (0 : Int32)), (.ref ti), (.int p2), (.double x3)])) rfl rfl (hb hby d5_80)) ?_
    show Go p.tables e below (T.setTop (mkF m 81 #[.val (.ref a1), .val (.int p2), .val (.double x3), .second, .val (.int (2 : Int32)), .val (.int (0 : Int32))] [(.double y0), (.int p2), (.double x3)])) _
    refine Go.by (fun tt_ kk_ => XS.aloadN X.here hx rfl (hb hby d5_81) rfl rfl kk_) ?_
    show Go p.tables e below (T.setTop (mkF m 82 #[.val (.ref a1), .val (.int p2), .val (.double x3), .second, .val (.int (2 : Int32)), .val (.int (0 : Int32))] [(.ref a1), (.double y0), (.int p2), (.double x3)])) _
    obtain ⟨T, X, eT, st⟩ := getF X hx hZ hown (host := "") (Or.inl (hw _ (List.mem_of_getElem? (i := 17) rfl))) Via.refl eT F_numbers_a1 (g := (mkF m 82 #[.val (.ref a1), .val (.int p2), .val (.double x3), .second, .val (.int (2 : Int32)), .val (.int (0 : Int32))] [(.ref a1), (.double y0), (.int p2), (.double x3)])) rfl rfl (hb hby d5_82)
    refine Go.by st ?_
    show Go p.tables e below (T.setTop (mkF m 85 #[.val (.ref a1), .val (.int p2), .val (.double x3), .second, .val (.int (2 : Int32)), .val (.int (0 : Int32))] [(.ref nu), (.double y0), (.int p2), (.double x3)])) _
    refine Go.by (fun tt_ kk_ => XS.iload X.here hx rfl (hb hby d5_85) rfl kk_) ?_
    show Go p.tables e below (T.setTop (mkF m 87 #[.val (.ref a1), .val (.int p2), .val (.double x3), .second, .val (.int (2 : Int32)), .val (.int (0 : Int32))] [(.int (0 : Int32)), (.ref nu), (.double y0), (.int p2), (.double x3)])) _
    have Vo_ := V_nu
    obtain ⟨cl_, Ar_, q_, S_, N_, H_, G_⟩ := Vo_
    refine Go.by (X.iaload hx (j := (0 : Int32)) (v := (.int i0)) (by rw [eT]; exact Ar_.1) (State.isArrayOf_alike hZ.alike Ar_.2.1) Ar_.2.2 (inb_of S_ ⟨by decide, hl0⟩) (Has.at H_ (inb_of S_ ⟨by decide, hl0⟩) rfl) (g := (mkF m 87 #[.val (.ref a1), .val (.int p2), .val (.double x3), .second, .val (.int (2 : Int32)), .val (.int (0 : Int32))] [(.int (0 : Int32)), (.ref nu), (.double y0), (.int p2), (.double x3)])) rfl rfl (hb hby d5_87)) ?_
    show Go p.tables e below (T.setTop (mkF m 88 #[.val (.ref a1), .val (.int p2), .val (.double x3), .second, .val (.int (2 : Int32)), .val (.int (0 : Int32))] [(.int i0), (.double y0), (.int p2), (.double x3)])) _
    obtain ⟨_, _, ⟨T, L_, k_, n_⟩, -, X, ⟨Lc_, hQ, l_, y_, z_⟩, st⟩ := Jvm.LawKit.callS X hx (y := (⟨"com/example/mode_choice_loop/modechoiceloop/simulation/TimeHeap", "precedes", "(DIDI)Z"⟩ : MethodName)) hown (mvT hZ (hw _ (List.mem_of_getElem? (i := 45) rfl))) (mvT hZ (hw _ (List.mem_of_getElem? (i := 46) rfl))) (mvT hZ (hw _ (List.mem_of_getElem? (i := 2) rfl))) (mvT hZ (hw _ (List.mem_of_getElem? (i := 47) rfl))) (by decide) (backOf (W := 0) (rm9 l Z a0 hw [] x3 p2 y0 i0 h16 n0 (Nat.le_trans Z0 K.1) nn_x3 nn_y0) hZ (hw _ (List.mem_of_getElem? (i := 47) rfl)) (hw _ (List.mem_of_getElem? (i := 2) rfl)) (by decide) (by decide)) (g := (mkF m 88 #[.val (.ref a1), .val (.int p2), .val (.double x3), .second, .val (.int (2 : Int32)), .val (.int (0 : Int32))] [(.int i0), (.double y0), (.int p2), (.double x3)])) rfl (by rw [hml]; rfl) (argsL := [(.double x3), (.int p2), (.double y0), (.int i0)]) (rest := []) (lenOf pd_6 rfl) rfl (by show 2 * 0 + _ ≤ _; exact Nat.le_of_eq rfl) (hb hby d5_88) (fun _ _ => ⟨rfl, eT, (by decide : 0 + 0 ≤ _), (by decide : 0 + 0 ≤ _)⟩)
    dsimp only [Pt.U, Pt.locs, Pt.cells, Pt.slots] at X l_ y_ z_ st hQ
    subst l_ y_ z_
    obtain ⟨r17, rfl, Nq, eh⟩ := hQ
    have N := Fr.app N Nq
    have eT := eh
    refine Go.by st ?_
    show Go p.tables e below (T.setTop (mkF m 91 #[.val (.ref a1), .val (.int p2), .val (.double x3), .second, .val (.int (2 : Int32)), .val (.int (0 : Int32))] [(.int r17)])) _
    by_cases hc91 : r17 = (0 : Int32)
    · refine Go.by (fun tt_ kk_ => XS.ifNo X.here hx rfl (hb hby d5_91) rfl ((if0 _ _).trans (teq hc91).2) kk_) ?_
      show Go p.tables e below (T.setTop (mkF m 94 #[.val (.ref a1), .val (.int p2), .val (.double x3), .second, .val (.int (2 : Int32)), .val (.int (0 : Int32))] [])) _
      refine Go.by (fun tt_ kk_ => XS.goto X.here hx rfl (pc0 := 94) (pc' := 132) rfl (hb hby d5_94) (by decide) (by decide) kk_) ?_
      show Go p.tables e below (T.setTop (mkF m 132 #[.val (.ref a1), .val (.int p2), .val (.double x3), .second, .val (.int (2 : Int32)), .val (.int (0 : Int32))] [])) _
      refine Go.by (fun tt_ kk_ => XS.aloadN X.here hx rfl (hb hby d5_132) rfl rfl kk_) ?_
      show Go p.tables e below (T.setTop (mkF m 133 #[.val (.ref a1), .val (.int p2), .val (.double x3), .second, .val (.int (2 : Int32)), .val (.int (0 : Int32))] [(.ref a1)])) _
      obtain ⟨T, X, eT, st⟩ := getF X hx hZ hown (host := "") (Or.inl (hw _ (List.mem_of_getElem? (i := 14) rfl))) Via.refl eT F_times_a1 (g := (mkF m 133 #[.val (.ref a1), .val (.int p2), .val (.double x3), .second, .val (.int (2 : Int32)), .val (.int (0 : Int32))] [(.ref a1)])) rfl rfl (hb hby d5_133)
      refine Go.by st ?_
      show Go p.tables e below (T.setTop (mkF m 136 #[.val (.ref a1), .val (.int p2), .val (.double x3), .second, .val (.int (2 : Int32)), .val (.int (0 : Int32))] [(.ref ti)])) _
      refine Go.by (fun tt_ kk_ => XS.iload X.here hx rfl (hb hby d5_136) rfl kk_) ?_
      show Go p.tables e below (T.setTop (mkF m 138 #[.val (.ref a1), .val (.int p2), .val (.double x3), .second, .val (.int (2 : Int32)), .val (.int (0 : Int32))] [(.int (2 : Int32)), (.ref ti)])) _
      refine Go.by (fun tt_ kk_ => XS.dloadN X.here hx rfl (hb hby d5_138) rfl kk_) ?_
      show Go p.tables e below (T.setTop (mkF m 139 #[.val (.ref a1), .val (.int p2), .val (.double x3), .second, .val (.int (2 : Int32)), .val (.int (0 : Int32))] [(.double x3), (.int (2 : Int32)), (.ref ti)])) _
      have Vo_ := V_ti
      obtain ⟨cl_, Ar_, q_, S_, N_, H_, G_⟩ := Vo_
      obtain ⟨T, h19, X, eT, Wh19, st⟩ := stD X hx hZ eT Ar_ (j := (2 : Int32)) (inb_of S_ ⟨by decide, hl2⟩) (g := (mkF m 139 #[.val (.ref a1), .val (.int p2), .val (.double x3), .second, .val (.int (2 : Int32)), .val (.int (0 : Int32))] [(.double x3), (.int (2 : Int32)), (.ref ti)])) rfl rfl (hb hby d5_139)
      have V_ti := Arv.set Ar_ q_ S_ N_ H_ G_ rfl Wh19 2 rfl (Nat.le_of_ble_eq_true rfl)
      have E_a1 := Exa.wr Wh19 E_a1
      have F_times_a1 := Fld.other Wh19 F_times_a1 (Or.inl ne_a1_ti)
      have F_numbers_a1 := Fld.other Wh19 F_numbers_a1 (Or.inl ne_a1_ti)
      have F_size_a1 := Fld.other Wh19 F_size_a1 (Or.inl ne_a1_ti)
      have V_nu := Arv.other V_nu Wh19 ne_nu_ti
      have N := Fr.snoc X N g_ti
      have K := And.intro (Nat.le_trans K.1 (Nat.le_of_eq (Wr.size Wh19).symm)) trivial
      refine Go.by st ?_
      show Go p.tables e below (T.setTop (mkF m 140 #[.val (.ref a1), .val (.int p2), .val (.double x3), .second, .val (.int (2 : Int32)), .val (.int (0 : Int32))] [])) _
      refine Go.by (fun tt_ kk_ => XS.aloadN X.here hx rfl (hb hby d5_140) rfl rfl kk_) ?_
      show Go p.tables e below (T.setTop (mkF m 141 #[.val (.ref a1), .val (.int p2), .val (.double x3), .second, .val (.int (2 : Int32)), .val (.int (0 : Int32))] [(.ref a1)])) _
      obtain ⟨T, X, eT, st⟩ := getF X hx hZ hown (host := "") (Or.inl (hw _ (List.mem_of_getElem? (i := 17) rfl))) Via.refl eT F_numbers_a1 (g := (mkF m 141 #[.val (.ref a1), .val (.int p2), .val (.double x3), .second, .val (.int (2 : Int32)), .val (.int (0 : Int32))] [(.ref a1)])) rfl rfl (hb hby d5_141)
      refine Go.by st ?_
      show Go p.tables e below (T.setTop (mkF m 144 #[.val (.ref a1), .val (.int p2), .val (.double x3), .second, .val (.int (2 : Int32)), .val (.int (0 : Int32))] [(.ref nu)])) _
      refine Go.by (fun tt_ kk_ => XS.iload X.here hx rfl (hb hby d5_144) rfl kk_) ?_
      show Go p.tables e below (T.setTop (mkF m 146 #[.val (.ref a1), .val (.int p2), .val (.double x3), .second, .val (.int (2 : Int32)), .val (.int (0 : Int32))] [(.int (2 : Int32)), (.ref nu)])) _
      refine Go.by (fun tt_ kk_ => XS.iloadN X.here hx rfl (hb hby d5_146) rfl kk_) ?_
      show Go p.tables e below (T.setTop (mkF m 147 #[.val (.ref a1), .val (.int p2), .val (.double x3), .second, .val (.int (2 : Int32)), .val (.int (0 : Int32))] [(.int p2), (.int (2 : Int32)), (.ref nu)])) _
      have Vo_ := V_nu
      obtain ⟨cl_, Ar_, q_, S_, N_, H_, G_⟩ := Vo_
      obtain ⟨T, h20, X, eT, Wh20, st⟩ := stI X hx hZ eT Ar_ (j := (2 : Int32)) (inb_of S_ ⟨by decide, hl2⟩) (g := (mkF m 147 #[.val (.ref a1), .val (.int p2), .val (.double x3), .second, .val (.int (2 : Int32)), .val (.int (0 : Int32))] [(.int p2), (.int (2 : Int32)), (.ref nu)])) rfl rfl (hb hby d5_147)
      have V_nu := Arv.set Ar_ q_ S_ N_ H_ G_ rfl Wh20 2 rfl (Nat.le_of_ble_eq_true rfl)
      have E_a1 := Exa.wr Wh20 E_a1
      have F_times_a1 := Fld.other Wh20 F_times_a1 (Or.inl ne_a1_nu)
      have F_numbers_a1 := Fld.other Wh20 F_numbers_a1 (Or.inl ne_a1_nu)
      have F_size_a1 := Fld.other Wh20 F_size_a1 (Or.inl ne_a1_nu)
      have V_ti := Arv.other V_ti Wh20 ne_ti_nu
      have N := Fr.snoc X N g_nu
      have K := And.intro (Nat.le_trans K.1 (Nat.le_of_eq (Wr.size Wh20).symm)) trivial
      refine Go.by st ?_
      show Go p.tables e below (T.setTop (mkF m 148 #[.val (.ref a1), .val (.int p2), .val (.double x3), .second, .val (.int (2 : Int32)), .val (.int (0 : Int32))] [])) _
      refine Go.by (fun tt_ kk_ => XS.iload X.here hx rfl (hb hby d5_148) rfl kk_) ?_
      show Go p.tables e below (T.setTop (mkF m 150 #[.val (.ref a1), .val (.int p2), .val (.double x3), .second, .val (.int (2 : Int32)), .val (.int (0 : Int32))] [(.int (2 : Int32))])) _
      refine Go.by (fun tt_ kk_ => XS.ifYes X.here hx rfl (pc0 := 150) (pc' := 157) rfl (hb hby d5_150) rfl ((if0 _ _).trans (feq (by decide : ¬ ((2 : Int32) = (0 : Int32)))).2) (by decide) (by decide) kk_) ?_
      show Go p.tables e below (T.setTop (mkF m 157 #[.val (.ref a1), .val (.int p2), .val (.double x3), .second, .val (.int (2 : Int32)), .val (.int (0 : Int32))] [])) _
      refine Go.by (fun tt_ kk_ => XS.iconst X.here hx rfl (hb hby d5_157) kk_) ?_
      show Go p.tables e below (T.setTop (mkF m 158 #[.val (.ref a1), .val (.int p2), .val (.double x3), .second, .val (.int (2 : Int32)), .val (.int (0 : Int32))] [(.int (0 : Int32))])) _
      exact Go.done X  (v := some (.int (0 : Int32))) (fun h => by rw [Bd.returns] at h; cases h) Bd.notSynchronized (fun fs hr => retN X hx (z := (0 : Int32)) (t := .boolean) Bd.returns (by simp) (hb hby d5_158) hr) (by rw [eT]; exact ⟨_, rfl, N, K, ⟨E_a1, g_a1, ti, nu, _, _, _, _, _, _, _, _, _, _, _, F_times_a1, F_numbers_a1, F_size_a1, V_ti, V_nu, g_ti, g_nu, ne_a1_ti, ne_a1_nu, ne_ti_nu, nn_y0, nn_y1, nn_x3, nn_y3, bc1, bc2, bs_3⟩⟩) (by decide) (by decide)
    · refine Go.by (fun tt_ kk_ => XS.ifYes X.here hx rfl (pc0 := 91) (pc' := 97) rfl (hb hby d5_91) rfl ((if0 _ _).trans (feq hc91).2) (by decide) (by decide) kk_) ?_
      show Go p.tables e below (T.setTop (mkF m 97 #[.val (.ref a1), .val (.int p2), .val (.double x3), .second, .val (.int (2 : Int32)), .val (.int (0 : Int32))] [])) _
      refine Go.by (fun tt_ kk_ => XS.aloadN X.here hx rfl (hb hby d5_97) rfl rfl kk_) ?_
      show Go p.tables e below (T.setTop (mkF m 98 #[.val (.ref a1), .val (.int p2), .val (.double x3), .second, .val (.int (2 : Int32)), .val (.int (0 : Int32))] [(.ref a1)])) _
      obtain ⟨T, X, eT, st⟩ := getF X hx hZ hown (host := "") (Or.inl (hw _ (List.mem_of_getElem? (i := 14) rfl))) Via.refl eT F_times_a1 (g := (mkF m 98 #[.val (.ref a1), .val (.int p2), .val (.double x3), .second, .val (.int (2 : Int32)), .val (.int (0 : Int32))] [(.ref a1)])) rfl rfl (hb hby d5_98)
      refine Go.by st ?_
      show Go p.tables e below (T.setTop (mkF m 101 #[.val (.ref a1), .val (.int p2), .val (.double x3), .second, .val (.int (2 : Int32)), .val (.int (0 : Int32))] [(.ref ti)])) _
      refine Go.by (fun tt_ kk_ => XS.iload X.here hx rfl (hb hby d5_101) rfl kk_) ?_
      show Go p.tables e below (T.setTop (mkF m 103 #[.val (.ref a1), .val (.int p2), .val (.double x3), .second, .val (.int (2 : Int32)), .val (.int (0 : Int32))] [(.int (2 : Int32)), (.ref ti)])) _
      refine Go.by (fun tt_ kk_ => XS.aloadN X.here hx rfl (hb hby d5_103) rfl rfl kk_) ?_
      show Go p.tables e below (T.setTop (mkF m 104 #[.val (.ref a1), .val (.int p2), .val (.double x3), .second, .val (.int (2 : Int32)), .val (.int (0 : Int32))] [(.ref a1), (.int (2 : Int32)), (.ref ti)])) _
      obtain ⟨T, X, eT, st⟩ := getF X hx hZ hown (host := "") (Or.inl (hw _ (List.mem_of_getElem? (i := 14) rfl))) Via.refl eT F_times_a1 (g := (mkF m 104 #[.val (.ref a1), .val (.int p2), .val (.double x3), .second, .val (.int (2 : Int32)), .val (.int (0 : Int32))] [(.ref a1), (.int (2 : Int32)), (.ref ti)])) rfl rfl (hb hby d5_104)
      refine Go.by st ?_
      show Go p.tables e below (T.setTop (mkF m 107 #[.val (.ref a1), .val (.int p2), .val (.double x3), .second, .val (.int (2 : Int32)), .val (.int (0 : Int32))] [(.ref ti), (.int (2 : Int32)), (.ref ti)])) _
      refine Go.by (fun tt_ kk_ => XS.iload X.here hx rfl (hb hby d5_107) rfl kk_) ?_
      show Go p.tables e below (T.setTop (mkF m 109 #[.val (.ref a1), .val (.int p2), .val (.double x3), .second, .val (.int (2 : Int32)), .val (.int (0 : Int32))] [(.int (0 : Int32)), (.ref ti), (.int (2 : Int32)), (.ref ti)])) _
      have Vo_ := V_ti
      obtain ⟨cl_, Ar_, q_, S_, N_, H_, G_⟩ := Vo_
      refine Go.by (X.daload hx (j := (0 : Int32)) (v := (.double y0)) (by rw [eT]; exact Ar_.1) (State.isArrayOf_alike hZ.alike Ar_.2.1) Ar_.2.2 (inb_of S_ ⟨by decide, hl0⟩) (Has.at H_ (inb_of S_ ⟨by decide, hl0⟩) rfl) (g := (mkF m 109 #[.val (.ref a1), .val (.int p2), .val (.double x3), .second, .val (.int (2 : Int32)), .val (.int (0 : Int32))] [(.int (0 : Int32)), (.ref ti), (.int (2 : Int32)), (.ref ti)])) rfl rfl (hb hby d5_109)) ?_
      show Go p.tables e below (T.setTop (mkF m 110 #[.val (.ref a1), .val (.int p2), .val (.double x3), .second, .val (.int (2 : Int32)), .val (.int (0 : Int32))] [(.double y0), (.int (2 : Int32)), (.ref ti)])) _
      have Vo_ := V_ti
      obtain ⟨cl_, Ar_, q_, S_, N_, H_, G_⟩ := Vo_
      obtain ⟨T, h21, X, eT, Wh21, st⟩ := stD X hx hZ eT Ar_ (j := (2 : Int32)) (inb_of S_ ⟨by decide, hl2⟩) (g := (mkF m 110 #[.val (.ref a1), .val (.int p2), .val (.double x3), .second, .val (.int (2 : Int32)), .val (.int (0 : Int32))] [(.double y0), (.int (2 : Int32)), (.ref ti)])) rfl rfl (hb hby d5_110)
      have V_ti := Arv.set Ar_ q_ S_ N_ H_ G_ rfl Wh21 2 rfl (Nat.le_of_ble_eq_true rfl)
      have E_a1 := Exa.wr Wh21 E_a1
      have F_times_a1 := Fld.other Wh21 F_times_a1 (Or.inl ne_a1_ti)
      have F_numbers_a1 := Fld.other Wh21 F_numbers_a1 (Or.inl ne_a1_ti)
      have F_size_a1 := Fld.other Wh21 F_size_a1 (Or.inl ne_a1_ti)
      have V_nu := Arv.other V_nu Wh21 ne_nu_ti
      have N := Fr.snoc X N g_ti
      have K := And.intro (Nat.le_trans K.1 (Nat.le_of_eq (Wr.size Wh21).symm)) trivial
      refine Go.by st ?_
      show Go p.tables e below (T.setTop (mkF m 111 #[.val (.ref a1), .val (.int p2), .val (.double x3), .second, .val (.int (2 : Int32)), .val (.int (0 : Int32))] [])) _
      refine Go.by (fun tt_ kk_ => XS.aloadN X.here hx rfl (hb hby d5_111) rfl rfl kk_) ?_
      show Go p.tables e below (T.setTop (mkF m 112 #[.val (.ref a1), .val (.int p2), .val (.double x3), .second, .val (.int (2 : Int32)), .val (.int (0 : Int32))] [(.ref a1)])) _
      obtain ⟨T, X, eT, st⟩ := getF X hx hZ hown (host := "") (Or.inl (hw _ (List.mem_of_getElem? (i := 17) rfl))) Via.refl eT F_numbers_a1 (g := (mkF m 112 #[.val (.ref a1), .val (.int p2), .val (.double x3), .second, .val (.int (2 : Int32)), .val (.int (0 : Int32))] [(.ref a1)])) rfl rfl (hb hby d5_112)
      refine Go.by st ?_
      show Go p.tables e below (T.setTop (mkF m 115 #[.val (.ref a1), .val (.int p2), .val (.double x3), .second, .val (.int (2 : Int32)), .val (.int (0 : Int32))] [(.ref nu)])) _
      refine Go.by (fun tt_ kk_ => XS.iload X.here hx rfl (hb hby d5_115) rfl kk_) ?_
      show Go p.tables e below (T.setTop (mkF m 117 #[.val (.ref a1), .val (.int p2), .val (.double x3), .second, .val (.int (2 : Int32)), .val (.int (0 : Int32))] [(.int (2 : Int32)), (.ref nu)])) _
      refine Go.by (fun tt_ kk_ => XS.aloadN X.here hx rfl (hb hby d5_117) rfl rfl kk_) ?_
      show Go p.tables e below (T.setTop (mkF m 118 #[.val (.ref a1), .val (.int p2), .val (.double x3), .second, .val (.int (2 : Int32)), .val (.int (0 : Int32))] [(.ref a1), (.int (2 : Int32)), (.ref nu)])) _
      obtain ⟨T, X, eT, st⟩ := getF X hx hZ hown (host := "") (Or.inl (hw _ (List.mem_of_getElem? (i := 17) rfl))) Via.refl eT F_numbers_a1 (g := (mkF m 118 #[.val (.ref a1), .val (.int p2), .val (.double x3), .second, .val (.int (2 : Int32)), .val (.int (0 : Int32))] [(.ref a1), (.int (2 : Int32)), (.ref nu)])) rfl rfl (hb hby d5_118)
      refine Go.by st ?_
      show Go p.tables e below (T.setTop (mkF m 121 #[.val (.ref a1), .val (.int p2), .val (.double x3), .second, .val (.int (2 : Int32)), .val (.int (0 : Int32))] [(.ref nu), (.int (2 : Int32)), (.ref nu)])) _
      refine Go.by (fun tt_ kk_ => XS.iload X.here hx rfl (hb hby d5_121) rfl kk_) ?_
      show Go p.tables e below (T.setTop (mkF m 123 #[.val (.ref a1), .val (.int p2), .val (.double x3), .second, .val (.int (2 : Int32)), .val (.int (0 : Int32))] [(.int (0 : Int32)), (.ref nu), (.int (2 : Int32)), (.ref nu)])) _
      have Vo_ := V_nu
      obtain ⟨cl_, Ar_, q_, S_, N_, H_, G_⟩ := Vo_
      refine Go.by (X.iaload hx (j := (0 : Int32)) (v := (.int i0)) (by rw [eT]; exact Ar_.1) (State.isArrayOf_alike hZ.alike Ar_.2.1) Ar_.2.2 (inb_of S_ ⟨by decide, hl0⟩) (Has.at H_ (inb_of S_ ⟨by decide, hl0⟩) rfl) (g := (mkF m 123 #[.val (.ref a1), .val (.int p2), .val (.double x3), .second, .val (.int (2 : Int32)), .val (.int (0 : Int32))] [(.int (0 : Int32)), (.ref nu), (.int (2 : Int32)), (.ref nu)])) rfl rfl (hb hby d5_123)) ?_
      show Go p.tables e below (T.setTop (mkF m 124 #[.val (.ref a1), .val (.int p2), .val (.double x3), .second, .val (.int (2 : Int32)), .val (.int (0 : Int32))] [(.int i0), (.int (2 : Int32)), (.ref nu)])) _
      have Vo_ := V_nu
      obtain ⟨cl_, Ar_, q_, S_, N_, H_, G_⟩ := Vo_
      obtain ⟨T, h22, X, eT, Wh22, st⟩ := stI X hx hZ eT Ar_ (j := (2 : Int32)) (inb_of S_ ⟨by decide, hl2⟩) (g := (mkF m 124 #[.val (.ref a1), .val (.int p2), .val (.double x3), .second, .val (.int (2 : Int32)), .val (.int (0 : Int32))] [(.int i0), (.int (2 : Int32)), (.ref nu)])) rfl rfl (hb hby d5_124)
      have V_nu := Arv.set Ar_ q_ S_ N_ H_ G_ rfl Wh22 2 rfl (Nat.le_of_ble_eq_true rfl)
      have E_a1 := Exa.wr Wh22 E_a1
      have F_times_a1 := Fld.other Wh22 F_times_a1 (Or.inl ne_a1_nu)
      have F_numbers_a1 := Fld.other Wh22 F_numbers_a1 (Or.inl ne_a1_nu)
      have F_size_a1 := Fld.other Wh22 F_size_a1 (Or.inl ne_a1_nu)
      have V_ti := Arv.other V_ti Wh22 ne_ti_nu
      have N := Fr.snoc X N g_nu
      have K := And.intro (Nat.le_trans K.1 (Nat.le_of_eq (Wr.size Wh22).symm)) trivial
      refine Go.by st ?_
      show Go p.tables e below (T.setTop (mkF m 125 #[.val (.ref a1), .val (.int p2), .val (.double x3), .second, .val (.int (2 : Int32)), .val (.int (0 : Int32))] [])) _
      refine Go.by (fun tt_ kk_ => XS.iload X.here hx rfl (hb hby d5_125) rfl kk_) ?_
      show Go p.tables e below (T.setTop (mkF m 127 #[.val (.ref a1), .val (.int p2), .val (.double x3), .second, .val (.int (2 : Int32)), .val (.int (0 : Int32))] [(.int (0 : Int32))])) _
      refine Go.by (fun tt_ kk_ => XS.istore X.here hx rfl (hb hby d5_127) rfl (l' := #[.val (.ref a1), .val (.int p2), .val (.double x3), .second, .val (.int (0 : Int32)), .val (.int (0 : Int32))]) rfl kk_) ?_
      show Go p.tables e below (T.setTop (mkF m 129 #[.val (.ref a1), .val (.int p2), .val (.double x3), .second, .val (.int (0 : Int32)), .val (.int (0 : Int32))] [])) _
      refine Go.by (fun tt_ kk_ => XS.goto X.here hx rfl (pc0 := 129) (pc' := 59) rfl (hb hby d5_129) (by decide) (by decide) kk_) ?_
      show Go p.tables e below (T.setTop (mkF m 59 #[.val (.ref a1), .val (.int p2), .val (.double x3), .second, .val (.int (0 : Int32)), .val (.int (0 : Int32))] [])) _
      refine Go.by (fun tt_ kk_ => XS.iload X.here hx rfl (hb hby d5_59) rfl kk_) ?_
      show Go p.tables e below (T.setTop (mkF m 61 #[.val (.ref a1), .val (.int p2), .val (.double x3), .second, .val (.int (0 : Int32)), .val (.int (0 : Int32))] [(.int (0 : Int32))])) _
      refine Go.by (fun tt_ kk_ => XS.ifYes X.here hx rfl (pc0 := 61) (pc' := 132) rfl (hb hby d5_61) rfl ((if0 _ _).trans (flt (by decide : ¬ ((0 : Int32) < (0 : Int32)))).2.2.2) (by decide) (by decide) kk_) ?_
      show Go p.tables e below (T.setTop (mkF m 132 #[.val (.ref a1), .val (.int p2), .val (.double x3), .second, .val (.int (0 : Int32)), .val (.int (0 : Int32))] [])) _
      refine Go.by (fun tt_ kk_ => XS.aloadN X.here hx rfl (hb hby d5_132) rfl rfl kk_) ?_
      show Go p.tables e below (T.setTop (mkF m 133 #[.val (.ref a1), .val (.int p2), .val (.double x3), .second, .val (.int (0 : Int32)), .val (.int (0 : Int32))] [(.ref a1)])) _
      obtain ⟨T, X, eT, st⟩ := getF X hx hZ hown (host := "") (Or.inl (hw _ (List.mem_of_getElem? (i := 14) rfl))) Via.refl eT F_times_a1 (g := (mkF m 133 #[.val (.ref a1), .val (.int p2), .val (.double x3), .second, .val (.int (0 : Int32)), .val (.int (0 : Int32))] [(.ref a1)])) rfl rfl (hb hby d5_133)
      refine Go.by st ?_
      show Go p.tables e below (T.setTop (mkF m 136 #[.val (.ref a1), .val (.int p2), .val (.double x3), .second, .val (.int (0 : Int32)), .val (.int (0 : Int32))] [(.ref ti)])) _
      refine Go.by (fun tt_ kk_ => XS.iload X.here hx rfl (hb hby d5_136) rfl kk_) ?_
      show Go p.tables e below (T.setTop (mkF m 138 #[.val (.ref a1), .val (.int p2), .val (.double x3), .second, .val (.int (0 : Int32)), .val (.int (0 : Int32))] [(.int (0 : Int32)), (.ref ti)])) _
      refine Go.by (fun tt_ kk_ => XS.dloadN X.here hx rfl (hb hby d5_138) rfl kk_) ?_
      show Go p.tables e below (T.setTop (mkF m 139 #[.val (.ref a1), .val (.int p2), .val (.double x3), .second, .val (.int (0 : Int32)), .val (.int (0 : Int32))] [(.double x3), (.int (0 : Int32)), (.ref ti)])) _
      have Vo_ := V_ti
      obtain ⟨cl_, Ar_, q_, S_, N_, H_, G_⟩ := Vo_
      obtain ⟨T, h23, X, eT, Wh23, st⟩ := stD X hx hZ eT Ar_ (j := (0 : Int32)) (inb_of S_ ⟨by decide, hl0⟩) (g := (mkF m 139 #[.val (.ref a1), .val (.int p2), .val (.double x3), .second, .val (.int (0 : Int32)), .val (.int (0 : Int32))] [(.double x3), (.int (0 : Int32)), (.ref ti)])) rfl rfl (hb hby d5_139)
      have V_ti := Arv.set Ar_ q_ S_ N_ H_ G_ rfl Wh23 0 rfl (Nat.le_of_ble_eq_true rfl)
      have E_a1 := Exa.wr Wh23 E_a1
      have F_times_a1 := Fld.other Wh23 F_times_a1 (Or.inl ne_a1_ti)
      have F_numbers_a1 := Fld.other Wh23 F_numbers_a1 (Or.inl ne_a1_ti)
      have F_size_a1 := Fld.other Wh23 F_size_a1 (Or.inl ne_a1_ti)
      have V_nu := Arv.other V_nu Wh23 ne_nu_ti
      have N := Fr.snoc X N g_ti
      have K := And.intro (Nat.le_trans K.1 (Nat.le_of_eq (Wr.size Wh23).symm)) trivial
      refine Go.by st ?_
      show Go p.tables e below (T.setTop (mkF m 140 #[.val (.ref a1), .val (.int p2), .val (.double x3), .second, .val (.int (0 : Int32)), .val (.int (0 : Int32))] [])) _
      refine Go.by (fun tt_ kk_ => XS.aloadN X.here hx rfl (hb hby d5_140) rfl rfl kk_) ?_
      show Go p.tables e below (T.setTop (mkF m 141 #[.val (.ref a1), .val (.int p2), .val (.double x3), .second, .val (.int (0 : Int32)), .val (.int (0 : Int32))] [(.ref a1)])) _
      obtain ⟨T, X, eT, st⟩ := getF X hx hZ hown (host := "") (Or.inl (hw _ (List.mem_of_getElem? (i := 17) rfl))) Via.refl eT F_numbers_a1 (g := (mkF m 141 #[.val (.ref a1), .val (.int p2), .val (.double x3), .second, .val (.int (0 : Int32)), .val (.int (0 : Int32))] [(.ref a1)])) rfl rfl (hb hby d5_141)
      refine Go.by st ?_
      show Go p.tables e below (T.setTop (mkF m 144 #[.val (.ref a1), .val (.int p2), .val (.double x3), .second, .val (.int (0 : Int32)), .val (.int (0 : Int32))] [(.ref nu)])) _
      refine Go.by (fun tt_ kk_ => XS.iload X.here hx rfl (hb hby d5_144) rfl kk_) ?_
      show Go p.tables e below (T.setTop (mkF m 146 #[.val (.ref a1), .val (.int p2), .val (.double x3), .second, .val (.int (0 : Int32)), .val (.int (0 : Int32))] [(.int (0 : Int32)), (.ref nu)])) _
      refine Go.by (fun tt_ kk_ => XS.iloadN X.here hx rfl (hb hby d5_146) rfl kk_) ?_
      show Go p.tables e below (T.setTop (mkF m 147 #[.val (.ref a1), .val (.int p2), .val (.double x3), .second, .val (.int (0 : Int32)), .val (.int (0 : Int32))] [(.int p2), (.int (0 : Int32)), (.ref nu)])) _
      have Vo_ := V_nu
      obtain ⟨cl_, Ar_, q_, S_, N_, H_, G_⟩ := Vo_
      obtain ⟨T, h24, X, eT, Wh24, st⟩ := stI X hx hZ eT Ar_ (j := (0 : Int32)) (inb_of S_ ⟨by decide, hl0⟩) (g := (mkF m 147 #[.val (.ref a1), .val (.int p2), .val (.double x3), .second, .val (.int (0 : Int32)), .val (.int (0 : Int32))] [(.int p2), (.int (0 : Int32)), (.ref nu)])) rfl rfl (hb hby d5_147)
      have V_nu := Arv.set Ar_ q_ S_ N_ H_ G_ rfl Wh24 0 rfl (Nat.le_of_ble_eq_true rfl)
      have E_a1 := Exa.wr Wh24 E_a1
      have F_times_a1 := Fld.other Wh24 F_times_a1 (Or.inl ne_a1_nu)
      have F_numbers_a1 := Fld.other Wh24 F_numbers_a1 (Or.inl ne_a1_nu)
      have F_size_a1 := Fld.other Wh24 F_size_a1 (Or.inl ne_a1_nu)
      have V_ti := Arv.other V_ti Wh24 ne_ti_nu
      have N := Fr.snoc X N g_nu
      have K := And.intro (Nat.le_trans K.1 (Nat.le_of_eq (Wr.size Wh24).symm)) trivial
      refine Go.by st ?_
      show Go p.tables e below (T.setTop (mkF m 148 #[.val (.ref a1), .val (.int p2), .val (.double x3), .second, .val (.int (0 : Int32)), .val (.int (0 : Int32))] [])) _
      refine Go.by (fun tt_ kk_ => XS.iload X.here hx rfl (hb hby d5_148) rfl kk_) ?_
      show Go p.tables e below (T.setTop (mkF m 150 #[.val (.ref a1), .val (.int p2), .val (.double x3), .second, .val (.int (0 : Int32)), .val (.int (0 : Int32))] [(.int (0 : Int32))])) _
      refine Go.by (fun tt_ kk_ => XS.ifNo X.here hx rfl (hb hby d5_150) rfl ((if0 _ _).trans (teq (rfl : (0 : Int32) = (0 : Int32))).2) kk_) ?_
      show Go p.tables e below (T.setTop (mkF m 153 #[.val (.ref a1), .val (.int p2), .val (.double x3), .second, .val (.int (0 : Int32)), .val (.int (0 : Int32))] [])) _
      refine Go.by (fun tt_ kk_ => XS.iconst X.here hx rfl (hb hby d5_153) kk_) ?_
      show Go p.tables e below (T.setTop (mkF m 154 #[.val (.ref a1), .val (.int p2), .val (.double x3), .second, .val (.int (0 : Int32)), .val (.int (0 : Int32))] [(.int (1 : Int32))])) _
      refine Go.by (fun tt_ kk_ => XS.goto X.here hx rfl (pc0 := 154) (pc' := 158) rfl (hb hby d5_154) (by decide) (by decide) kk_) ?_
      show Go p.tables e below (T.setTop (mkF m 158 #[.val (.ref a1), .val (.int p2), .val (.double x3), .second, .val (.int (0 : Int32)), .val (.int (0 : Int32))] [(.int (1 : Int32))])) _
      exact Go.done X  (v := some (.int (1 : Int32))) (fun h => by rw [Bd.returns] at h; cases h) Bd.notSynchronized (fun fs hr => retN X hx (z := (1 : Int32)) (t := .boolean) Bd.returns (by simp) (hb hby d5_158) hr) (by rw [eT]; exact ⟨_, rfl, N, K, ⟨E_a1, g_a1, ti, nu, _, _, _, _, _, _, _, _, _, _, _, F_times_a1, F_numbers_a1, F_size_a1, V_ti, V_nu, g_ti, g_nu, ne_a1_ti, ne_a1_nu, ne_ti_nu, nn_x3, nn_y1, nn_y0, nn_y3, bc1, bc2, bs_3⟩⟩) (by decide) (by decide)
theorem d11_0 : decode prog_86_method_6_code 0 = .ok (.aload_n 0, 1) := by decide +kernel
theorem d11_1 : decode prog_86_method_6_code 1 = .ok (.invokevirtual 40, 3) := by decide +kernel
theorem d11_4 : decode prog_86_method_6_code 4 = .ok (.aload_n 0, 1) := by decide +kernel
theorem d11_5 : decode prog_86_method_6_code 5 = .ok (.getfield 19, 3) := by decide +kernel
theorem d11_8 : decode prog_86_method_6_code 8 = .ok (.iconst 0, 1) := by decide +kernel
theorem d11_9 : decode prog_86_method_6_code 9 = .ok (.iaload, 1) := by decide +kernel
theorem d11_10 : decode prog_86_method_6_code 10 = .ok (.istore_n 1, 1) := by decide +kernel
theorem d11_11 : decode prog_86_method_6_code 11 = .ok (.aload_n 0, 1) := by decide +kernel
theorem d11_12 : decode prog_86_method_6_code 12 = .ok (.dup, 1) := by decide +kernel
theorem d11_13 : decode prog_86_method_6_code 13 = .ok (.getfield 23, 3) := by decide +kernel
theorem d11_16 : decode prog_86_method_6_code 16 = .ok (.iconst 1, 1) := by decide +kernel
theorem d11_17 : decode prog_86_method_6_code 17 = .ok (.isub, 1) := by decide +kernel
theorem d11_18 : decode prog_86_method_6_code 18 = .ok (.putfield 23, 3) := by decide +kernel
theorem d11_21 : decode prog_86_method_6_code 21 = .ok (.aload_n 0, 1) := by decide +kernel
theorem d11_22 : decode prog_86_method_6_code 22 = .ok (.getfield 13, 3) := by decide +kernel
theorem d11_25 : decode prog_86_method_6_code 25 = .ok (.aload_n 0, 1) := by decide +kernel
theorem d11_26 : decode prog_86_method_6_code 26 = .ok (.getfield 23, 3) := by decide +kernel
theorem d11_29 : decode prog_86_method_6_code 29 = .ok (.daload, 1) := by decide +kernel
theorem d11_30 : decode prog_86_method_6_code 30 = .ok (.dstore_n 2, 1) := by decide +kernel
theorem d11_31 : decode prog_86_method_6_code 31 = .ok (.aload_n 0, 1) := by decide +kernel
theorem d11_32 : decode prog_86_method_6_code 32 = .ok (.getfield 19, 3) := by decide +kernel
theorem d11_35 : decode prog_86_method_6_code 35 = .ok (.aload_n 0, 1) := by decide +kernel
theorem d11_36 : decode prog_86_method_6_code 36 = .ok (.getfield 23, 3) := by decide +kernel
theorem d11_39 : decode prog_86_method_6_code 39 = .ok (.iaload, 1) := by decide +kernel
theorem d11_40 : decode prog_86_method_6_code 40 = .ok (.istore 4, 2) := by decide +kernel
theorem d11_42 : decode prog_86_method_6_code 42 = .ok (.iconst 0, 1) := by decide +kernel
theorem d11_43 : decode prog_86_method_6_code 43 = .ok (.istore 5, 2) := by decide +kernel
theorem d11_45 : decode prog_86_method_6_code 45 = .ok (.iload 5, 2) := by decide +kernel
theorem d11_47 : decode prog_86_method_6_code 47 = .ok (.iconst 4, 1) := by decide +kernel
theorem d11_48 : decode prog_86_method_6_code 48 = .ok (.imul, 1) := by decide +kernel
theorem d11_49 : decode prog_86_method_6_code 49 = .ok (.iconst 1, 1) := by decide +kernel
theorem d11_50 : decode prog_86_method_6_code 50 = .ok (.iadd, 1) := by decide +kernel
theorem d11_51 : decode prog_86_method_6_code 51 = .ok (.aload_n 0, 1) := by decide +kernel
theorem d11_52 : decode prog_86_method_6_code 52 = .ok (.getfield 23, 3) := by decide +kernel
theorem d11_55 : decode prog_86_method_6_code 55 = .ok (.if_icmp .ge 72, 3) := by decide +kernel
theorem d11_58 : decode prog_86_method_6_code 58 = .ok (.aload_n 0, 1) := by decide +kernel
theorem d11_59 : decode prog_86_method_6_code 59 = .ok (.iload 5, 2) := by decide +kernel
theorem d11_61 : decode prog_86_method_6_code 61 = .ok (.invokevirtual 43, 3) := by decide +kernel
theorem d11_64 : decode prog_86_method_6_code 64 = .ok (.istore 6, 2) := by decide +kernel
theorem d11_66 : decode prog_86_method_6_code 66 = .ok (.aload_n 0, 1) := by decide +kernel
theorem d11_67 : decode prog_86_method_6_code 67 = .ok (.getfield 13, 3) := by decide +kernel
theorem d11_70 : decode prog_86_method_6_code 70 = .ok (.iload 6, 2) := by decide +kernel
theorem d11_72 : decode prog_86_method_6_code 72 = .ok (.daload, 1) := by decide +kernel
theorem d11_73 : decode prog_86_method_6_code 73 = .ok (.aload_n 0, 1) := by decide +kernel
theorem d11_74 : decode prog_86_method_6_code 74 = .ok (.getfield 19, 3) := by decide +kernel
theorem d11_77 : decode prog_86_method_6_code 77 = .ok (.iload 6, 2) := by decide +kernel
theorem d11_79 : decode prog_86_method_6_code 79 = .ok (.iaload, 1) := by decide +kernel
theorem d11_80 : decode prog_86_method_6_code 80 = .ok (.dload_n 2, 1) := by decide +kernel
theorem d11_81 : decode prog_86_method_6_code 81 = .ok (.iload 4, 2) := by decide +kernel
theorem d11_83 : decode prog_86_method_6_code 83 = .ok (.invokestatic 36, 3) := by decide +kernel
theorem d11_86 : decode prog_86_method_6_code 86 = .ok (.ifCond .ne 6, 3) := by decide +kernel
theorem d11_89 : decode prog_86_method_6_code 89 = .ok (.goto 38, 3) := by decide +kernel
theorem d11_92 : decode prog_86_method_6_code 92 = .ok (.aload_n 0, 1) := by decide +kernel
theorem d11_93 : decode prog_86_method_6_code 93 = .ok (.getfield 13, 3) := by decide +kernel
theorem d11_96 : decode prog_86_method_6_code 96 = .ok (.iload 5, 2) := by decide +kernel
theorem d11_98 : decode prog_86_method_6_code 98 = .ok (.aload_n 0, 1) := by decide +kernel
theorem d11_99 : decode prog_86_method_6_code 99 = .ok (.getfield 13, 3) := by decide +kernel
theorem d11_102 : decode prog_86_method_6_code 102 = .ok (.iload 6, 2) := by decide +kernel
theorem d11_104 : decode prog_86_method_6_code 104 = .ok (.daload, 1) := by decide +kernel
theorem d11_105 : decode prog_86_method_6_code 105 = .ok (.dastore, 1) := by decide +kernel
theorem d11_106 : decode prog_86_method_6_code 106 = .ok (.aload_n 0, 1) := by decide +kernel
theorem d11_107 : decode prog_86_method_6_code 107 = .ok (.getfield 19, 3) := by decide +kernel
theorem d11_110 : decode prog_86_method_6_code 110 = .ok (.iload 5, 2) := by decide +kernel
theorem d11_112 : decode prog_86_method_6_code 112 = .ok (.aload_n 0, 1) := by decide +kernel
theorem d11_113 : decode prog_86_method_6_code 113 = .ok (.getfield 19, 3) := by decide +kernel
theorem d11_116 : decode prog_86_method_6_code 116 = .ok (.iload 6, 2) := by decide +kernel
theorem d11_118 : decode prog_86_method_6_code 118 = .ok (.iaload, 1) := by decide +kernel
theorem d11_119 : decode prog_86_method_6_code 119 = .ok (.iastore, 1) := by decide +kernel
theorem d11_120 : decode prog_86_method_6_code 120 = .ok (.iload 6, 2) := by decide +kernel
theorem d11_122 : decode prog_86_method_6_code 122 = .ok (.istore 5, 2) := by decide +kernel
theorem d11_124 : decode prog_86_method_6_code 124 = .ok (.goto (-79), 3) := by decide +kernel
theorem d11_127 : decode prog_86_method_6_code 127 = .ok (.aload_n 0, 1) := by decide +kernel
theorem d11_128 : decode prog_86_method_6_code 128 = .ok (.getfield 13, 3) := by decide +kernel
theorem d11_131 : decode prog_86_method_6_code 131 = .ok (.iload 5, 2) := by decide +kernel
theorem d11_133 : decode prog_86_method_6_code 133 = .ok (.dload_n 2, 1) := by decide +kernel
theorem d11_134 : decode prog_86_method_6_code 134 = .ok (.dastore, 1) := by decide +kernel
theorem d11_135 : decode prog_86_method_6_code 135 = .ok (.aload_n 0, 1) := by decide +kernel
theorem d11_136 : decode prog_86_method_6_code 136 = .ok (.getfield 19, 3) := by decide +kernel
theorem d11_139 : decode prog_86_method_6_code 139 = .ok (.iload 5, 2) := by decide +kernel
theorem d11_141 : decode prog_86_method_6_code 141 = .ok (.iload 4, 2) := by decide +kernel
theorem d11_143 : decode prog_86_method_6_code 143 = .ok (.iastore, 1) := by decide +kernel
theorem d11_144 : decode prog_86_method_6_code 144 = .ok (.iload_n 1, 1) := by decide +kernel
theorem d11_145 : decode prog_86_method_6_code 145 = .ok (.ireturn, 1) := by decide +kernel
theorem pd_7 : parseMethodDescriptor "()V" = some ⟨[], none⟩ := by decide +kernel
theorem ef_11 (m : MethodId) (x0 : Addr) : entryFrame m #[(.ref x0)] 7 = mkF m 0 #[.val (.ref x0), .unset, .unset, .unset, .unset, .unset, .unset] [] := by first | (simp [entryFrame, mkF, argsToLocals, Value.category]; done) | rfl
def Q11_1 (Z : State) (a1 : Addr)  (h0 : Heap) (n0 : Nat) (v : Option Value) (h : Heap) (L : List Loc) : Prop := ∃ r : Int32, v = some (.int r) ∧ Fr n0 L ∧ (h0.size ≤ h.size ∧ True) ∧ own_TH Z h n0 a1 (0 : Int32)
set_option maxRecDepth 65536 in
set_option maxHeartbeats 40000000 in
theorem rm11_1 (l : Launch) (Z : State) (a0 : Array Value) (hw : ∀ d ∈ tables_1, d.before a0 Z = true) (ws : List Jvm.Cond) (a1 : Addr)  (h0 : Heap) (n0 : Nat) (Z0 : n0 ≤ h0.size) (TH : own_TH Z h0 n0 a1 (1 : Int32)) :
    MetFree l (⟨"com/example/mode_choice_loop/modechoiceloop/simulation/TimeHeap", "removeFirst", "()I"⟩ : MethodName) (head1 (Jvm.Cond.code (⟨"com/example/mode_choice_loop/modechoiceloop/simulation/TimeHeap", "removeFirst", "()I"⟩ : MethodName) prog_86_method_6_code 7 (some .int) :: ws) ({ frames := 5, cells := 0, slots := 0, locals := 82 } : Room)) (fun a U => a = #[(.ref a1)] ∧ Z.Warmed39 U.vm ∧ U.heap = h0) (fun _ _ _ _ _ => True) (fun _ U o U' => ∃ v L, o = .returned v ∧ Q11_1 Z a1 h0 n0 v U'.heap L ∧ FrameEnd U o U' L ({ frames := 5, cells := 0, slots := 0, locals := 82 } : Room).cells ({ frames := 5, cells := 0, slots := 0, locals := 82 } : Room).slots) := by
  obtain ⟨E_a1, g_a1, ti, nu, kt, km, cc, y0, y1, y2, y3, i0, i1, i2, i3, F_times_a1, F_numbers_a1, F_size_a1, V_ti, V_nu, g_ti, g_nu, ne_a1_ti, ne_a1_nu, ne_ti_nu, nn_y0, nn_y1, nn_y2, nn_y3, bc1, bc2, bs⟩ := TH
  have ne_ti_a1 := Ne.symm ne_a1_ti
  have ne_nu_a1 := Ne.symm ne_a1_nu
  have ne_nu_ti := Ne.symm ne_ti_nu
  have bs' := bs
  rw [show ((1 : Int32)).toInt = 1 by decide] at bs'
  have hl0 : (0 : Int32) < cc := by rw [Int32.lt_iff_toInt_lt, show ((0 : Int32)).toInt = 0 by decide]; omega
  have bs_0 : ((0 : Int32)).toInt ≤ cc.toInt := by rw [show ((0 : Int32)).toInt = 0 by decide]; omega
  have bs_1 : ((1 : Int32)).toInt ≤ cc.toInt := by rw [show ((1 : Int32)).toInt = 1 by decide]; omega
  refine MetFree.of_bodySF (plainFor_of_name pn_1) hisR ?_
  intro p e s m args below meth c s₁ Bd hml0 hP hK
  obtain ⟨rfl, hZ, hh⟩ := hP
  have hx := Bd.exec
  have hby := Bd.bytes
  have hml : c.maxLocals = 7 := hml0
  have hown : s.vm.findClass "com/example/mode_choice_loop/modechoiceloop/simulation/TimeHeap" = some m.cls := findClass_of_methodNamed Bd.named
  have hnm := (name_of_methodNamed Bd.named Bd.method).1
  have X : Stand p l e ({ frames := 5, cells := 0, slots := 0, locals := 82 } : Room) s m #[(.ref a1)] below meth c s₁ [] 0 0 := Stand.of_body Bd
  have eT : s₁.heap = h0 := by rw [← hh, Bd.state]; rfl
  have N := Fr.nil n0
  have K : h0.size ≤ h0.size ∧ True := ⟨Nat.le_refl _, trivial⟩
  refine Go.out ?_
  obtain ⟨T, eTT⟩ : ∃ z, z = s₁ := ⟨_, rfl⟩
  rw [← eTT] at X eT ⊢
  refine Go.by (fun tt_ kk_ => castTop (ef_11 m a1) kk_) ?_
  show Go p.tables e below (T.setTop (mkF m 0 #[.val (.ref a1), .unset, .unset, .unset, .unset, .unset, .unset] [])) _
  refine Go.by (fun tt_ kk_ => XS.aloadN X.here hx rfl (hb hby d11_0) rfl rfl kk_) ?_
  show Go p.tables e below (T.setTop (mkF m 1 #[.val (.ref a1), .unset, .unset, .unset, .unset, .unset, .unset] [(.ref a1)])) _
  obtain ⟨cq_, kq_, qa_, qb_, qc_⟩ := isOf hZ eT E_a1
  obtain ⟨cp_, qp_, qp_'⟩ := E_a1.cell
  obtain ⟨_, _, ⟨T, L_, k_, n_⟩, -, X, ⟨Lc_, hQ, l_, y_, z_⟩, st⟩ := X.privateBack hx (y := (⟨"com/example/mode_choice_loop/modechoiceloop/simulation/TimeHeap", "requireNumber", "()V"⟩ : MethodName)) hown (mvT hZ (hw _ (List.mem_of_getElem? (i := 58) rfl))) (mvT hZ (hw _ (List.mem_of_getElem? (i := 59) rfl))) (own_selp (by decide) (mvT hZ (hw _ (List.mem_of_getElem? (i := 1) rfl))) (Cond.privateMethod_at (mvP hZ (hw _ (List.mem_of_getElem? (i := 60) rfl)) (args := #[]))) (mvT hZ (hw _ (List.mem_of_getElem? (i := 59) rfl)))) (Cond.privateMethod_at (mvP hZ (hw _ (List.mem_of_getElem? (i := 60) rfl)) (args := #[]))) (mvT hZ (hw _ (List.mem_of_getElem? (i := 61) rfl))) (by decide) (backOf (W := 0) (rm12 l Z a0 hw [] a1 (1 : Int32) h0 n0 (Nat.le_trans Z0 K.1) F_size_a1 (by decide)) hZ (hw _ (List.mem_of_getElem? (i := 61) rfl)) (hw _ (List.mem_of_getElem? (i := 2) rfl)) (by decide) (by decide)) (g := (mkF m 1 #[.val (.ref a1), .unset, .unset, .unset, .unset, .unset, .unset] [(.ref a1)])) rfl (by rw [hml]; rfl) (Steps.refl _) (a := a1) (by rw [eT]; exact qp_) qp_' (argsL := []) (rest := []) (lenOf pd_7 rfl) rfl (by show 2 * 0 + _ ≤ _; exact Nat.le_of_eq rfl) (hb hby d11_1) (fun _ _ => ⟨rfl, eT, (by decide : 0 + 0 ≤ _), (by decide : 0 + 0 ≤ _)⟩)
  dsimp only [Pt.U, Pt.locs, Pt.cells, Pt.slots] at X l_ y_ z_ st hQ
  subst l_ y_ z_
  obtain ⟨rfl, Nq, eh⟩ := hQ
  have N := Fr.app N Nq
  have eT := eh
  refine Go.tr st ?_
  show Go p.tables e below (T.setTop (mkF m 4 #[.val (.ref a1), .unset, .unset, .unset, .unset, .unset, .unset] [])) _
  refine Go.by (fun tt_ kk_ => XS.aloadN X.here hx rfl (hb hby d11_4) rfl rfl kk_) ?_
  show Go p.tables e below (T.setTop (mkF m 5 #[.val (.ref a1), .unset, .unset, .unset, .unset, .unset, .unset] [(.ref a1)])) _
  obtain ⟨T, X, eT, st⟩ := getF X hx hZ hown (host := "") (Or.inl (hw _ (List.mem_of_getElem? (i := 17) rfl))) Via.refl eT F_numbers_a1 (g := (mkF m 5 #[.val (.ref a1), .unset, .unset, .unset, .unset, .unset, .unset] [(.ref a1)])) rfl rfl (hb hby d11_5)
  refine Go.by st ?_
  show Go p.tables e below (T.setTop (mkF m 8 #[.val (.ref a1), .unset, .unset, .unset, .unset, .unset, .unset] [(.ref nu)])) _
  refine Go.by (fun tt_ kk_ => XS.iconst X.here hx rfl (hb hby d11_8) kk_) ?_
  show Go p.tables e below (T.setTop (mkF m 9 #[.val (.ref a1), .unset, .unset, .unset, .unset, .unset, .unset] [(.int (0 : Int32)), (.ref nu)])) _
  have Vo_ := V_nu
  obtain ⟨cl_, Ar_, q_, S_, N_, H_, G_⟩ := Vo_
  refine Go.by (X.iaload hx (j := (0 : Int32)) (v := (.int i0)) (by rw [eT]; exact Ar_.1) (State.isArrayOf_alike hZ.alike Ar_.2.1) Ar_.2.2 (inb_of S_ ⟨by decide, hl0⟩) (Has.at H_ (inb_of S_ ⟨by decide, hl0⟩) rfl) (g := (mkF m 9 #[.val (.ref a1), .unset, .unset, .unset, .unset, .unset, .unset] [(.int (0 : Int32)), (.ref nu)])) rfl rfl (hb hby d11_9)) ?_
  show Go p.tables e below (T.setTop (mkF m 10 #[.val (.ref a1), .unset, .unset, .unset, .unset, .unset, .unset] [(.int i0)])) _
  refine Go.by (fun tt_ kk_ => XS.istoreN X.here hx rfl (hb hby d11_10) rfl (l' := #[.val (.ref a1), .val (.int i0), .unset, .unset, .unset, .unset, .unset]) rfl kk_) ?_
  show Go p.tables e below (T.setTop (mkF m 11 #[.val (.ref a1), .val (.int i0), .unset, .unset, .unset, .unset, .unset] [])) _
  refine Go.by (fun tt_ kk_ => XS.aloadN X.here hx rfl (hb hby d11_11) rfl rfl kk_) ?_
  show Go p.tables e below (T.setTop (mkF m 12 #[.val (.ref a1), .val (.int i0), .unset, .unset, .unset, .unset, .unset] [(.ref a1)])) _
  refine Go.by (fun tt_ kk_ => XS.dup X.here hx rfl (hb hby d11_12) rfl rfl kk_) ?_
  show Go p.tables e below (T.setTop (mkF m 13 #[.val (.ref a1), .val (.int i0), .unset, .unset, .unset, .unset, .unset] [(.ref a1), (.ref a1)])) _
  obtain ⟨T, X, eT, st⟩ := getF X hx hZ hown (host := "") (Or.inl (hw _ (List.mem_of_getElem? (i := 24) rfl))) Via.refl eT F_size_a1 (g := (mkF m 13 #[.val (.ref a1), .val (.int i0), .unset, .unset, .unset, .unset, .unset] [(.ref a1), (.ref a1)])) rfl rfl (hb hby d11_13)
  refine Go.by st ?_
  show Go p.tables e below (T.setTop (mkF m 16 #[.val (.ref a1), .val (.int i0), .unset, .unset, .unset, .unset, .unset] [(.int (1 : Int32)), (.ref a1)])) _
  refine Go.by (fun tt_ kk_ => XS.iconst X.here hx rfl (hb hby d11_16) kk_) ?_
  show Go p.tables e below (T.setTop (mkF m 17 #[.val (.ref a1), .val (.int i0), .unset, .unset, .unset, .unset, .unset] [(.int (1 : Int32)), (.int (1 : Int32)), (.ref a1)])) _
  refine Go.by (fun tt_ kk_ => XS.isub X.here hx rfl (hb hby d11_17) rfl kk_) ?_
  show Go p.tables e below (T.setTop (mkF m 18 #[.val (.ref a1), .val (.int i0), .unset, .unset, .unset, .unset, .unset] [(.int (0 : Int32)), (.ref a1)])) _
  obtain ⟨T, h2, X, eT, Wh2, st⟩ := putF X hx hZ hown (host := "") (Or.inl (hw _ (List.mem_of_getElem? (i := 24) rfl))) Via.refl eT F_size_a1 E_a1 (Or.inl (hw _ (List.mem_of_getElem? (i := 25) rfl))) (hw _ (List.mem_of_getElem? (i := 1) rfl)) (ty := .int) (by decide) rfl rfl (g := (mkF m 18 #[.val (.ref a1), .val (.int i0), .unset, .unset, .unset, .unset, .unset] [(.int (0 : Int32)), (.ref a1)])) rfl rfl (hb hby d11_18)
  have F_size_a1 := Fld.same Wh2 F_size_a1
  have E_a1 := Exa.wr Wh2 E_a1
  have F_times_a1 := Fld.other Wh2 F_times_a1 (Or.inr (slot_ne (Or.inl (hw _ (List.mem_of_getElem? (i := 15) rfl))) (Or.inl (hw _ (List.mem_of_getElem? (i := 25) rfl))) (by decide) (t := (.array .double)) (t' := .int) (by decide) (by decide)))
  have F_numbers_a1 := Fld.other Wh2 F_numbers_a1 (Or.inr (slot_ne (Or.inl (hw _ (List.mem_of_getElem? (i := 18) rfl))) (Or.inl (hw _ (List.mem_of_getElem? (i := 25) rfl))) (by decide) (t := (.array .int)) (t' := .int) (by decide) (by decide)))
  have V_ti := Arv.other V_ti Wh2 ne_ti_a1
  have V_nu := Arv.other V_nu Wh2 ne_nu_a1
  have N := Fr.snoc X N g_a1
  have K := And.intro (Nat.le_trans K.1 (Nat.le_of_eq (Wr.size Wh2).symm)) trivial
  refine Go.by st ?_
  show Go p.tables e below (T.setTop (mkF m 21 #[.val (.ref a1), .val (.int i0), .unset, .unset, .unset, .unset, .unset] [])) _
  refine Go.by (fun tt_ kk_ => XS.aloadN X.here hx rfl (hb hby d11_21) rfl rfl kk_) ?_
  show Go p.tables e below (T.setTop (mkF m 22 #[.val (.ref a1), .val (.int i0), .unset, .unset, .unset, .unset, .unset] [(.ref a1)])) _
  obtain ⟨T, X, eT, st⟩ := getF X hx hZ hown (host := "") (Or.inl (hw _ (List.mem_of_getElem? (i := 14) rfl))) Via.refl eT F_times_a1 (g := (mkF m 22 #[.val (.ref a1), .val (.int i0), .unset, .unset, .unset, .unset, .unset] [(.ref a1)])) rfl rfl (hb hby d11_22)
  refine Go.by st ?_
  show Go p.tables e below (T.setTop (mkF m 25 #[.val (.ref a1), .val (.int i0), .unset, .unset, .unset, .unset, .unset] [(.ref ti)])) _
  refine Go.by (fun tt_ kk_ => XS.aloadN X.here hx rfl (hb hby d11_25) rfl rfl kk_) ?_
  show Go p.tables e below (T.setTop (mkF m 26 #[.val (.ref a1), .val (.int i0), .unset, .unset, .unset, .unset, .unset] [(.ref a1), (.ref ti)])) _
  obtain ⟨T, X, eT, st⟩ := getF X hx hZ hown (host := "") (Or.inl (hw _ (List.mem_of_getElem? (i := 24) rfl))) Via.refl eT F_size_a1 (g := (mkF m 26 #[.val (.ref a1), .val (.int i0), .unset, .unset, .unset, .unset, .unset] [(.ref a1), (.ref ti)])) rfl rfl (hb hby d11_26)
  refine Go.by st ?_
  show Go p.tables e below (T.setTop (mkF m 29 #[.val (.ref a1), .val (.int i0), .unset, .unset, .unset, .unset, .unset] [(.int (0 : Int32)), (.ref ti)])) _
  have Vo_ := V_ti
  obtain ⟨cl_, Ar_, q_, S_, N_, H_, G_⟩ := Vo_
  refine Go.by (X.daload hx (j := (0 : Int32)) (v := (.double y0)) (by rw [eT]; exact Ar_.1) (State.isArrayOf_alike hZ.alike Ar_.2.1) Ar_.2.2 (inb_of S_ ⟨by decide, hl0⟩) (Has.at H_ (inb_of S_ ⟨by decide, hl0⟩) rfl) (g := (mkF m 29 #[.val (.ref a1), .val (.int i0), .unset, .unset, .unset, .unset, .unset] [(.int (0 : Int32)), (.ref ti)])) rfl rfl (hb hby d11_29)) ?_
  show Go p.tables e below (T.setTop (mkF m 30 #[.val (.ref a1), .val (.int i0), .unset, .unset, .unset, .unset, .unset] [(.double y0)])) _
  refine Go.by (fun tt_ kk_ => XS.dstoreN X.here hx rfl (hb hby d11_30) rfl (l' := #[.val (.ref a1), .val (.int i0), .val (.double y0), .second, .unset, .unset, .unset]) rfl kk_) ?_
  show Go p.tables e below (T.setTop (mkF m 31 #[.val (.ref a1), .val (.int i0), .val (.double y0), .second, .unset, .unset, .unset] [])) _
  refine Go.by (fun tt_ kk_ => XS.aloadN X.here hx rfl (hb hby d11_31) rfl rfl kk_) ?_
  show Go p.tables e below (T.setTop (mkF m 32 #[.val (.ref a1), .val (.int i0), .val (.double y0), .second, .unset, .unset, .unset] [(.ref a1)])) _
  obtain ⟨T, X, eT, st⟩ := getF X hx hZ hown (host := "") (Or.inl (hw _ (List.mem_of_getElem? (i := 17) rfl))) Via.refl eT F_numbers_a1 (g := (mkF m 32 #[.val (.ref a1), .val (.int i0), .val (.double y0), .second, .unset, .unset, .unset] [(.ref a1)])) rfl rfl (hb hby d11_32)
  refine Go.by st ?_
  show Go p.tables e below (T.setTop (mkF m 35 #[.val (.ref a1), .val (.int i0), .val (.double y0), .second, .unset, .unset, .unset] [(.ref nu)])) _
  refine Go.by (fun tt_ kk_ => XS.aloadN X.here hx rfl (hb hby d11_35) rfl rfl kk_) ?_
  show Go p.tables e below (T.setTop (mkF m 36 #[.val (.ref a1), .val (.int i0), .val (.double y0), .second, .unset, .unset, .unset] [(.ref a1), (.ref nu)])) _
  obtain ⟨T, X, eT, st⟩ := getF X hx hZ hown (host := "") (Or.inl (hw _ (List.mem_of_getElem? (i := 24) rfl))) Via.refl eT F_size_a1 (g := (mkF m 36 #[.val (.ref a1), .val (.int i0), .val (.double y0), .second, .unset, .unset, .unset] [(.ref a1), (.ref nu)])) rfl rfl (hb hby d11_36)
  refine Go.by st ?_
  show Go p.tables e below (T.setTop (mkF m 39 #[.val (.ref a1), .val (.int i0), .val (.double y0), .second, .unset, .unset, .unset] [(.int (0 : Int32)), (.ref nu)])) _
  have Vo_ := V_nu
  obtain ⟨cl_, Ar_, q_, S_, N_, H_, G_⟩ := Vo_
  refine Go.by (X.iaload hx (j := (0 : Int32)) (v := (.int i0)) (by rw [eT]; exact Ar_.1) (State.isArrayOf_alike hZ.alike Ar_.2.1) Ar_.2.2 (inb_of S_ ⟨by decide, hl0⟩) (Has.at H_ (inb_of S_ ⟨by decide, hl0⟩) rfl) (g := (mkF m 39 #[.val (.ref a1), .val (.int i0), .val (.double y0), .second, .unset, .unset, .unset] [(.int (0 : Int32)), (.ref nu)])) rfl rfl (hb hby d11_39)) ?_
  show Go p.tables e below (T.setTop (mkF m 40 #[.val (.ref a1), .val (.int i0), .val (.double y0), .second, .unset, .unset, .unset] [(.int i0)])) _
  refine Go.by (fun tt_ kk_ => XS.istore X.here hx rfl (hb hby d11_40) rfl (l' := #[.val (.ref a1), .val (.int i0), .val (.double y0), .second, .val (.int i0), .unset, .unset]) rfl kk_) ?_
  show Go p.tables e below (T.setTop (mkF m 42 #[.val (.ref a1), .val (.int i0), .val (.double y0), .second, .val (.int i0), .unset, .unset] [])) _
  refine Go.by (fun tt_ kk_ => XS.iconst X.here hx rfl (hb hby d11_42) kk_) ?_
  show Go p.tables e below (T.setTop (mkF m 43 #[.val (.ref a1), .val (.int i0), .val (.double y0), .second, .val (.int i0), .unset, .unset] [(.int (0 : Int32))])) _
  refine Go.by (fun tt_ kk_ => XS.istore X.here hx rfl (hb hby d11_43) rfl (l' := #[.val (.ref a1), .val (.int i0), .val (.double y0), .second, .val (.int i0), .val (.int (0 : Int32)), .unset]) rfl kk_) ?_
  show Go p.tables e below (T.setTop (mkF m 45 #[.val (.ref a1), .val (.int i0), .val (.double y0), .second, .val (.int i0), .val (.int (0 : Int32)), .unset] [])) _
  refine Go.by (fun tt_ kk_ => XS.iload X.here hx rfl (hb hby d11_45) rfl kk_) ?_
  show Go p.tables e below (T.setTop (mkF m 47 #[.val (.ref a1), .val (.int i0), .val (.double y0), .second, .val (.int i0), .val (.int (0 : Int32)), .unset] [(.int (0 : Int32))])) _
  refine Go.by (fun tt_ kk_ => XS.iconst X.here hx rfl (hb hby d11_47) kk_) ?_
  show Go p.tables e below (T.setTop (mkF m 48 #[.val (.ref a1), .val (.int i0), .val (.double y0), .second, .val (.int i0), .val (.int (0 : Int32)), .unset] [(.int (4 : Int32)), (.int (0 : Int32))])) _
  refine Go.by (fun tt_ kk_ => XS.imul X.here hx rfl (hb hby d11_48) rfl kk_) ?_
  show Go p.tables e below (T.setTop (mkF m 49 #[.val (.ref a1), .val (.int i0), .val (.double y0), .second, .val (.int i0), .val (.int (0 : Int32)), .unset] [(.int (0 : Int32))])) _
  refine Go.by (fun tt_ kk_ => XS.iconst X.here hx rfl (hb hby d11_49) kk_) ?_
  show Go p.tables e below (T.setTop (mkF m 50 #[.val (.ref a1), .val (.int i0), .val (.double y0), .second, .val (.int i0), .val (.int (0 : Int32)), .unset] [(.int (1 : Int32)), (.int (0 : Int32))])) _
  refine Go.by (fun tt_ kk_ => XS.iadd X.here hx rfl (hb hby d11_50) rfl kk_) ?_
  show Go p.tables e below (T.setTop (mkF m 51 #[.val (.ref a1), .val (.int i0), .val (.double y0), .second, .val (.int i0), .val (.int (0 : Int32)), .unset] [(.int (1 : Int32))])) _
  refine Go.by (fun tt_ kk_ => XS.aloadN X.here hx rfl (hb hby d11_51) rfl rfl kk_) ?_
  show Go p.tables e below (T.setTop (mkF m 52 #[.val (.ref a1), .val (.int i0), .val (.double y0), .second, .val (.int i0), .val (.int (0 : Int32)), .unset] [(.ref a1), (.int (1 : Int32))])) _
  obtain ⟨T, X, eT, st⟩ := getF X hx hZ hown (host := "") (Or.inl (hw _ (List.mem_of_getElem? (i := 24) rfl))) Via.refl eT F_size_a1 (g := (mkF m 52 #[.val (.ref a1), .val (.int i0), .val (.double y0), .second, .val (.int i0), .val (.int (0 : Int32)), .unset] [(.ref a1), (.int (1 : Int32))])) rfl rfl (hb hby d11_52)
  refine Go.by st ?_
  show Go p.tables e below (T.setTop (mkF m 55 #[.val (.ref a1), .val (.int i0), .val (.double y0), .second, .val (.int i0), .val (.int (0 : Int32)), .unset] [(.int (0 : Int32)), (.int (1 : Int32))])) _
  refine Go.by (fun tt_ kk_ => XS.icmpYes X.here hx rfl (pc0 := 55) (pc' := 127) rfl (hb hby d11_55) rfl (flt (by decide : ¬ ((1 : Int32) < (0 : Int32)))).2.1 (by decide) (by decide) kk_) ?_
  show Go p.tables e below (T.setTop (mkF m 127 #[.val (.ref a1), .val (.int i0), .val (.double y0), .second, .val (.int i0), .val (.int (0 : Int32)), .unset] [])) _
  refine Go.by (fun tt_ kk_ => XS.aloadN X.here hx rfl (hb hby d11_127) rfl rfl kk_) ?_
  show Go p.tables e below (T.setTop (mkF m 128 #[.val (.ref a1), .val (.int i0), .val (.double y0), .second, .val (.int i0), .val (.int (0 : Int32)), .unset] [(.ref a1)])) _
  obtain ⟨T, X, eT, st⟩ := getF X hx hZ hown (host := "") (Or.inl (hw _ (List.mem_of_getElem? (i := 14) rfl))) Via.refl eT F_times_a1 (g := (mkF m 128 #[.val (.ref a1), .val (.int i0), .val (.double y0), .second, .val (.int i0), .val (.int (0 : Int32)), .unset] [(.ref a1)])) rfl rfl (hb hby d11_128)
  refine Go.by st ?_
  show Go p.tables e below (T.setTop (mkF m 131 #[.val (.ref a1), .val (.int i0), .val (.double y0), .second, .val (.int i0), .val (.int (0 : Int32)), .unset] [(.ref ti)])) _
  refine Go.by (fun tt_ kk_ => XS.iload X.here hx rfl (hb hby d11_131) rfl kk_) ?_
  show Go p.tables e below (T.setTop (mkF m 133 #[.val (.ref a1), .val (.int i0), .val (.double y0), .second, .val (.int i0), .val (.int (0 : Int32)), .unset] [(.int (0 : Int32)), (.ref ti)])) _
  refine Go.by (fun tt_ kk_ => XS.dloadN X.here hx rfl (hb hby d11_133) rfl kk_) ?_
  show Go p.tables e below (T.setTop (mkF m 134 #[.val (.ref a1), .val (.int i0), .val (.double y0), .second, .val (.int i0), .val (.int (0 : Int32)), .unset] [(.double y0), (.int (0 : Int32)), (.ref ti)])) _
  have Vo_ := V_ti
  obtain ⟨cl_, Ar_, q_, S_, N_, H_, G_⟩ := Vo_
  obtain ⟨T, h3, X, eT, Wh3, st⟩ := stD X hx hZ eT Ar_ (j := (0 : Int32)) (inb_of S_ ⟨by decide, hl0⟩) (g := (mkF m 134 #[.val (.ref a1), .val (.int i0), .val (.double y0), .second, .val (.int i0), .val (.int (0 : Int32)), .unset] [(.double y0), (.int (0 : Int32)), (.ref ti)])) rfl rfl (hb hby d11_134)
  have V_ti := Arv.set Ar_ q_ S_ N_ H_ G_ rfl Wh3 0 rfl (Nat.le_of_ble_eq_true rfl)
  have E_a1 := Exa.wr Wh3 E_a1
  have F_times_a1 := Fld.other Wh3 F_times_a1 (Or.inl ne_a1_ti)
  have F_numbers_a1 := Fld.other Wh3 F_numbers_a1 (Or.inl ne_a1_ti)
  have F_size_a1 := Fld.other Wh3 F_size_a1 (Or.inl ne_a1_ti)
  have V_nu := Arv.other V_nu Wh3 ne_nu_ti
  have N := Fr.snoc X N g_ti
  have K := And.intro (Nat.le_trans K.1 (Nat.le_of_eq (Wr.size Wh3).symm)) trivial
  refine Go.by st ?_
  show Go p.tables e below (T.setTop (mkF m 135 #[.val (.ref a1), .val (.int i0), .val (.double y0), .second, .val (.int i0), .val (.int (0 : Int32)), .unset] [])) _
  refine Go.by (fun tt_ kk_ => XS.aloadN X.here hx rfl (hb hby d11_135) rfl rfl kk_) ?_
  show Go p.tables e below (T.setTop (mkF m 136 #[.val (.ref a1), .val (.int i0), .val (.double y0), .second, .val (.int i0), .val (.int (0 : Int32)), .unset] [(.ref a1)])) _
  obtain ⟨T, X, eT, st⟩ := getF X hx hZ hown (host := "") (Or.inl (hw _ (List.mem_of_getElem? (i := 17) rfl))) Via.refl eT F_numbers_a1 (g := (mkF m 136 #[.val (.ref a1), .val (.int i0), .val (.double y0), .second, .val (.int i0), .val (.int (0 : Int32)), .unset] [(.ref a1)])) rfl rfl (hb hby d11_136)
  refine Go.by st ?_
  show Go p.tables e below (T.setTop (mkF m 139 #[.val (.ref a1), .val (.int i0), .val (.double y0), .second, .val (.int i0), .val (.int (0 : Int32)), .unset] [(.ref nu)])) _
  refine Go.by (fun tt_ kk_ => XS.iload X.here hx rfl (hb hby d11_139) rfl kk_) ?_
  show Go p.tables e below (T.setTop (mkF m 141 #[.val (.ref a1), .val (.int i0), .val (.double y0), .second, .val (.int i0), .val (.int (0 : Int32)), .unset] [(.int (0 : Int32)), (.ref nu)])) _
  refine Go.by (fun tt_ kk_ => XS.iload X.here hx rfl (hb hby d11_141) rfl kk_) ?_
  show Go p.tables e below (T.setTop (mkF m 143 #[.val (.ref a1), .val (.int i0), .val (.double y0), .second, .val (.int i0), .val (.int (0 : Int32)), .unset] [(.int i0), (.int (0 : Int32)), (.ref nu)])) _
  have Vo_ := V_nu
  obtain ⟨cl_, Ar_, q_, S_, N_, H_, G_⟩ := Vo_
  obtain ⟨T, h4, X, eT, Wh4, st⟩ := stI X hx hZ eT Ar_ (j := (0 : Int32)) (inb_of S_ ⟨by decide, hl0⟩) (g := (mkF m 143 #[.val (.ref a1), .val (.int i0), .val (.double y0), .second, .val (.int i0), .val (.int (0 : Int32)), .unset] [(.int i0), (.int (0 : Int32)), (.ref nu)])) rfl rfl (hb hby d11_143)
  have V_nu := Arv.set Ar_ q_ S_ N_ H_ G_ rfl Wh4 0 rfl (Nat.le_of_ble_eq_true rfl)
  have E_a1 := Exa.wr Wh4 E_a1
  have F_times_a1 := Fld.other Wh4 F_times_a1 (Or.inl ne_a1_nu)
  have F_numbers_a1 := Fld.other Wh4 F_numbers_a1 (Or.inl ne_a1_nu)
  have F_size_a1 := Fld.other Wh4 F_size_a1 (Or.inl ne_a1_nu)
  have V_ti := Arv.other V_ti Wh4 ne_ti_nu
  have N := Fr.snoc X N g_nu
  have K := And.intro (Nat.le_trans K.1 (Nat.le_of_eq (Wr.size Wh4).symm)) trivial
  refine Go.by st ?_
  show Go p.tables e below (T.setTop (mkF m 144 #[.val (.ref a1), .val (.int i0), .val (.double y0), .second, .val (.int i0), .val (.int (0 : Int32)), .unset] [])) _
  refine Go.by (fun tt_ kk_ => XS.iloadN X.here hx rfl (hb hby d11_144) rfl kk_) ?_
  show Go p.tables e below (T.setTop (mkF m 145 #[.val (.ref a1), .val (.int i0), .val (.double y0), .second, .val (.int i0), .val (.int (0 : Int32)), .unset] [(.int i0)])) _
  exact Go.done X  (v := some (.int i0)) (fun h => by rw [Bd.returns] at h; cases h) Bd.notSynchronized (fun fs hr => retOut X hx Bd.returns rfl (by simp [Value.isRef, FieldType.isReference]) (hb hby d11_145) hr) (by rw [eT]; exact ⟨_, rfl, N, K, ⟨E_a1, g_a1, ti, nu, _, _, _, _, _, _, _, _, _, _, _, F_times_a1, F_numbers_a1, F_size_a1, V_ti, V_nu, g_ti, g_nu, ne_a1_ti, ne_a1_nu, ne_ti_nu, nn_y0, nn_y1, nn_y2, nn_y3, bc1, bc2, bs_0⟩⟩) (by decide) (by decide)
def Q11_2 (Z : State) (a1 : Addr)  (h0 : Heap) (n0 : Nat) (v : Option Value) (h : Heap) (L : List Loc) : Prop := ∃ r : Int32, v = some (.int r) ∧ Fr n0 L ∧ (h0.size ≤ h.size ∧ True) ∧ own_TH Z h n0 a1 (1 : Int32)
set_option maxRecDepth 65536 in
set_option maxHeartbeats 40000000 in
theorem rm11_2 (l : Launch) (Z : State) (a0 : Array Value) (hw : ∀ d ∈ tables_1, d.before a0 Z = true) (ws : List Jvm.Cond) (a1 : Addr)  (h0 : Heap) (n0 : Nat) (Z0 : n0 ≤ h0.size) (TH : own_TH Z h0 n0 a1 (2 : Int32)) :
    MetFree l (⟨"com/example/mode_choice_loop/modechoiceloop/simulation/TimeHeap", "removeFirst", "()I"⟩ : MethodName) (head1 (Jvm.Cond.code (⟨"com/example/mode_choice_loop/modechoiceloop/simulation/TimeHeap", "removeFirst", "()I"⟩ : MethodName) prog_86_method_6_code 7 (some .int) :: ws) ({ frames := 5, cells := 0, slots := 0, locals := 82 } : Room)) (fun a U => a = #[(.ref a1)] ∧ Z.Warmed39 U.vm ∧ U.heap = h0) (fun _ _ _ _ _ => True) (fun _ U o U' => ∃ v L, o = .returned v ∧ Q11_2 Z a1 h0 n0 v U'.heap L ∧ FrameEnd U o U' L ({ frames := 5, cells := 0, slots := 0, locals := 82 } : Room).cells ({ frames := 5, cells := 0, slots := 0, locals := 82 } : Room).slots) := by
  obtain ⟨E_a1, g_a1, ti, nu, kt, km, cc, y0, y1, y2, y3, i0, i1, i2, i3, F_times_a1, F_numbers_a1, F_size_a1, V_ti, V_nu, g_ti, g_nu, ne_a1_ti, ne_a1_nu, ne_ti_nu, nn_y0, nn_y1, nn_y2, nn_y3, bc1, bc2, bs⟩ := TH
  have ne_ti_a1 := Ne.symm ne_a1_ti
  have ne_nu_a1 := Ne.symm ne_a1_nu
  have ne_nu_ti := Ne.symm ne_ti_nu
  have bs' := bs
  rw [show ((2 : Int32)).toInt = 2 by decide] at bs'
  have hl0 : (0 : Int32) < cc := by rw [Int32.lt_iff_toInt_lt, show ((0 : Int32)).toInt = 0 by decide]; omega
  have hl1 : (1 : Int32) < cc := by rw [Int32.lt_iff_toInt_lt, show ((1 : Int32)).toInt = 1 by decide]; omega
  have bs_0 : ((0 : Int32)).toInt ≤ cc.toInt := by rw [show ((0 : Int32)).toInt = 0 by decide]; omega
  have bs_1 : ((1 : Int32)).toInt ≤ cc.toInt := by rw [show ((1 : Int32)).toInt = 1 by decide]; omega
  have bs_2 : ((2 : Int32)).toInt ≤ cc.toInt := by rw [show ((2 : Int32)).toInt = 2 by decide]; omega
  refine MetFree.of_bodySF (plainFor_of_name pn_1) hisR ?_
  intro p e s m args below meth c s₁ Bd hml0 hP hK
  obtain ⟨rfl, hZ, hh⟩ := hP
  have hx := Bd.exec
  have hby := Bd.bytes
  have hml : c.maxLocals = 7 := hml0
  have hown : s.vm.findClass "com/example/mode_choice_loop/modechoiceloop/simulation/TimeHeap" = some m.cls := findClass_of_methodNamed Bd.named
  have hnm := (name_of_methodNamed Bd.named Bd.method).1
  have X : Stand p l e ({ frames := 5, cells := 0, slots := 0, locals := 82 } : Room) s m #[(.ref a1)] below meth c s₁ [] 0 0 := Stand.of_body Bd
  have eT : s₁.heap = h0 := by rw [← hh, Bd.state]; rfl
  have N := Fr.nil n0
  have K : h0.size ≤ h0.size ∧ True := ⟨Nat.le_refl _, trivial⟩
  refine Go.out ?_
  obtain ⟨T, eTT⟩ : ∃ z, z = s₁ := ⟨_, rfl⟩
  rw [← eTT] at X eT ⊢
  refine Go.by (fun tt_ kk_ => castTop (ef_11 m a1) kk_) ?_
  show Go p.tables e below (T.setTop (mkF m 0 #[.val (.ref a1), .unset, .unset, .unset, .unset, .unset, .unset] [])) _
  refine Go.by (fun tt_ kk_ => XS.aloadN X.here hx rfl (hb hby d11_0) rfl rfl kk_) ?_
  show Go p.tables e below (T.setTop (mkF m 1 #[.val (.ref a1), .unset, .unset, .unset, .unset, .unset, .unset] [(.ref a1)])) _
  obtain ⟨cq_, kq_, qa_, qb_, qc_⟩ := isOf hZ eT E_a1
  obtain ⟨cp_, qp_, qp_'⟩ := E_a1.cell
  obtain ⟨_, _, ⟨T, L_, k_, n_⟩, -, X, ⟨Lc_, hQ, l_, y_, z_⟩, st⟩ := X.privateBack hx (y := (⟨"com/example/mode_choice_loop/modechoiceloop/simulation/TimeHeap", "requireNumber", "()V"⟩ : MethodName)) hown (mvT hZ (hw _ (List.mem_of_getElem? (i := 58) rfl))) (mvT hZ (hw _ (List.mem_of_getElem? (i := 59) rfl))) (own_selp (by decide) (mvT hZ (hw _ (List.mem_of_getElem? (i := 1) rfl))) (Cond.privateMethod_at (mvP hZ (hw _ (List.mem_of_getElem? (i := 60) rfl)) (args := #[]))) (mvT hZ (hw _ (List.mem_of_getElem? (i := 59) rfl)))) (Cond.privateMethod_at (mvP hZ (hw _ (List.mem_of_getElem? (i := 60) rfl)) (args := #[]))) (mvT hZ (hw _ (List.mem_of_getElem? (i := 61) rfl))) (by decide) (backOf (W := 0) (rm12 l Z a0 hw [] a1 (2 : Int32) h0 n0 (Nat.le_trans Z0 K.1) F_size_a1 (by decide)) hZ (hw _ (List.mem_of_getElem? (i := 61) rfl)) (hw _ (List.mem_of_getElem? (i := 2) rfl)) (by decide) (by decide)) (g := (mkF m 1 #[.val (.ref a1), .unset, .unset, .unset, .unset, .unset, .unset] [(.ref a1)])) rfl (by rw [hml]; rfl) (Steps.refl _) (a := a1) (by rw [eT]; exact qp_) qp_' (argsL := []) (rest := []) (lenOf pd_7 rfl) rfl (by show 2 * 0 + _ ≤ _; exact Nat.le_of_eq rfl) (hb hby d11_1) (fun _ _ => ⟨rfl, eT, (by decide : 0 + 0 ≤ _), (by decide : 0 + 0 ≤ _)⟩)
  dsimp only [Pt.U, Pt.locs, Pt.cells, Pt.slots] at X l_ y_ z_ st hQ
  subst l_ y_ z_
  obtain ⟨rfl, Nq, eh⟩ := hQ
  have N := Fr.app N Nq
  have eT := eh
  refine Go.tr st ?_
  show Go p.tables e below (T.setTop (mkF m 4 #[.val (.ref a1), .unset, .unset, .unset, .unset, .unset, .unset] [])) _
  refine Go.by (fun tt_ kk_ => XS.aloadN X.here hx rfl (hb hby d11_4) rfl rfl kk_) ?_
  show Go p.tables e below (T.setTop (mkF m 5 #[.val (.ref a1), .unset, .unset, .unset, .unset, .unset, .unset] [(.ref a1)])) _
  obtain ⟨T, X, eT, st⟩ := getF X hx hZ hown (host := "") (Or.inl (hw _ (List.mem_of_getElem? (i := 17) rfl))) Via.refl eT F_numbers_a1 (g := (mkF m 5 #[.val (.ref a1), .unset, .unset, .unset, .unset, .unset, .unset] [(.ref a1)])) rfl rfl (hb hby d11_5)
  refine Go.by st ?_
  show Go p.tables e below (T.setTop (mkF m 8 #[.val (.ref a1), .unset, .unset, .unset, .unset, .unset, .unset] [(.ref nu)])) _
  refine Go.by (fun tt_ kk_ => XS.iconst X.here hx rfl (hb hby d11_8) kk_) ?_
  show Go p.tables e below (T.setTop (mkF m 9 #[.val (.ref a1), .unset, .unset, .unset, .unset, .unset, .unset] [(.int (0 : Int32)), (.ref nu)])) _
  have Vo_ := V_nu
  obtain ⟨cl_, Ar_, q_, S_, N_, H_, G_⟩ := Vo_
  refine Go.by (X.iaload hx (j := (0 : Int32)) (v := (.int i0)) (by rw [eT]; exact Ar_.1) (State.isArrayOf_alike hZ.alike Ar_.2.1) Ar_.2.2 (inb_of S_ ⟨by decide, hl0⟩) (Has.at H_ (inb_of S_ ⟨by decide, hl0⟩) rfl) (g := (mkF m 9 #[.val (.ref a1), .unset, .unset, .unset, .unset, .unset, .unset] [(.int (0 : Int32)), (.ref nu)])) rfl rfl (hb hby d11_9)) ?_
  show Go p.tables e below (T.setTop (mkF m 10 #[.val (.ref a1), .unset, .unset, .unset, .unset, .unset, .unset] [(.int i0)])) _
  refine Go.by (fun tt_ kk_ => XS.istoreN X.here hx rfl (hb hby d11_10) rfl (l' := #[.val (.ref a1), .val (.int i0), .unset, .unset, .unset, .unset, .unset]) rfl kk_) ?_
  show Go p.tables e below (T.setTop (mkF m 11 #[.val (.ref a1), .val (.int i0), .unset, .unset, .unset, .unset, .unset] [])) _
  refine Go.by (fun tt_ kk_ => XS.aloadN X.here hx rfl (hb hby d11_11) rfl rfl kk_) ?_
  show Go p.tables e below (T.setTop (mkF m 12 #[.val (.ref a1), .val (.int i0), .unset, .unset, .unset, .unset, .unset] [(.ref a1)])) _
  refine Go.by (fun tt_ kk_ => XS.dup X.here hx rfl (hb hby d11_12) rfl rfl kk_) ?_
  show Go p.tables e below (T.setTop (mkF m 13 #[.val (.ref a1), .val (.int i0), .unset, .unset, .unset, .unset, .unset] [(.ref a1), (.ref a1)])) _
  obtain ⟨T, X, eT, st⟩ := getF X hx hZ hown (host := "") (Or.inl (hw _ (List.mem_of_getElem? (i := 24) rfl))) Via.refl eT F_size_a1 (g := (mkF m 13 #[.val (.ref a1), .val (.int i0), .unset, .unset, .unset, .unset, .unset] [(.ref a1), (.ref a1)])) rfl rfl (hb hby d11_13)
  refine Go.by st ?_
  show Go p.tables e below (T.setTop (mkF m 16 #[.val (.ref a1), .val (.int i0), .unset, .unset, .unset, .unset, .unset] [(.int (2 : Int32)), (.ref a1)])) _
  refine Go.by (fun tt_ kk_ => XS.iconst X.here hx rfl (hb hby d11_16) kk_) ?_
  show Go p.tables e below (T.setTop (mkF m 17 #[.val (.ref a1), .val (.int i0), .unset, .unset, .unset, .unset, .unset] [(.int (1 : Int32)), (.int (2 : Int32)), (.ref a1)])) _
  refine Go.by (fun tt_ kk_ => XS.isub X.here hx rfl (hb hby d11_17) rfl kk_) ?_
  show Go p.tables e below (T.setTop (mkF m 18 #[.val (.ref a1), .val (.int i0), .unset, .unset, .unset, .unset, .unset] [(.int (1 : Int32)), (.ref a1)])) _
  obtain ⟨T, h2, X, eT, Wh2, st⟩ := putF X hx hZ hown (host := "") (Or.inl (hw _ (List.mem_of_getElem? (i := 24) rfl))) Via.refl eT F_size_a1 E_a1 (Or.inl (hw _ (List.mem_of_getElem? (i := 25) rfl))) (hw _ (List.mem_of_getElem? (i := 1) rfl)) (ty := .int) (by decide) rfl rfl (g := (mkF m 18 #[.val (.ref a1), .val (.int i0), .unset, .unset, .unset, .unset, .unset] [(.int (1 : Int32)), (.ref a1)])) rfl rfl (hb hby d11_18)
  have F_size_a1 := Fld.same Wh2 F_size_a1
  have E_a1 := Exa.wr Wh2 E_a1
  have F_times_a1 := Fld.other Wh2 F_times_a1 (Or.inr (slot_ne (Or.inl (hw _ (List.mem_of_getElem? (i := 15) rfl))) (Or.inl (hw _ (List.mem_of_getElem? (i := 25) rfl))) (by decide) (t := (.array .double)) (t' := .int) (by decide) (by decide)))
  have F_numbers_a1 := Fld.other Wh2 F_numbers_a1 (Or.inr (slot_ne (Or.inl (hw _ (List.mem_of_getElem? (i := 18) rfl))) (Or.inl (hw _ (List.mem_of_getElem? (i := 25) rfl))) (by decide) (t := (.array .int)) (t' := .int) (by decide) (by decide)))
  have V_ti := Arv.other V_ti Wh2 ne_ti_a1
  have V_nu := Arv.other V_nu Wh2 ne_nu_a1
  have N := Fr.snoc X N g_a1
  have K := And.intro (Nat.le_trans K.1 (Nat.le_of_eq (Wr.size Wh2).symm)) trivial
  refine Go.by st ?_
  show Go p.tables e below (T.setTop (mkF m 21 #[.val (.ref a1), .val (.int i0), .unset, .unset, .unset, .unset, .unset] [])) _
  refine Go.by (fun tt_ kk_ => XS.aloadN X.here hx rfl (hb hby d11_21) rfl rfl kk_) ?_
  show Go p.tables e below (T.setTop (mkF m 22 #[.val (.ref a1), .val (.int i0), .unset, .unset, .unset, .unset, .unset] [(.ref a1)])) _
  obtain ⟨T, X, eT, st⟩ := getF X hx hZ hown (host := "") (Or.inl (hw _ (List.mem_of_getElem? (i := 14) rfl))) Via.refl eT F_times_a1 (g := (mkF m 22 #[.val (.ref a1), .val (.int i0), .unset, .unset, .unset, .unset, .unset] [(.ref a1)])) rfl rfl (hb hby d11_22)
  refine Go.by st ?_
  show Go p.tables e below (T.setTop (mkF m 25 #[.val (.ref a1), .val (.int i0), .unset, .unset, .unset, .unset, .unset] [(.ref ti)])) _
  refine Go.by (fun tt_ kk_ => XS.aloadN X.here hx rfl (hb hby d11_25) rfl rfl kk_) ?_
  show Go p.tables e below (T.setTop (mkF m 26 #[.val (.ref a1), .val (.int i0), .unset, .unset, .unset, .unset, .unset] [(.ref a1), (.ref ti)])) _
  obtain ⟨T, X, eT, st⟩ := getF X hx hZ hown (host := "") (Or.inl (hw _ (List.mem_of_getElem? (i := 24) rfl))) Via.refl eT F_size_a1 (g := (mkF m 26 #[.val (.ref a1), .val (.int i0), .unset, .unset, .unset, .unset, .unset] [(.ref a1), (.ref ti)])) rfl rfl (hb hby d11_26)
  refine Go.by st ?_
  show Go p.tables e below (T.setTop (mkF m 29 #[.val (.ref a1), .val (.int i0), .unset, .unset, .unset, .unset, .unset] [(.int (1 : Int32)), (.ref ti)])) _
  have Vo_ := V_ti
  obtain ⟨cl_, Ar_, q_, S_, N_, H_, G_⟩ := Vo_
  refine Go.by (X.daload hx (j := (1 : Int32)) (v := (.double y1)) (by rw [eT]; exact Ar_.1) (State.isArrayOf_alike hZ.alike Ar_.2.1) Ar_.2.2 (inb_of S_ ⟨by decide, hl1⟩) (Has.at H_ (inb_of S_ ⟨by decide, hl1⟩) rfl) (g := (mkF m 29 #[.val (.ref a1), .val (.int i0), .unset, .unset, .unset, .unset, .unset] [(.int (1 : Int32)), (.ref ti)])) rfl rfl (hb hby d11_29)) ?_
  show Go p.tables e below (T.setTop (mkF m 30 #[.val (.ref a1), .val (.int i0), .unset, .unset, .unset, .unset, .unset] [(.double y1)])) _
  refine Go.by (fun tt_ kk_ => XS.dstoreN X.here hx rfl (hb hby d11_30) rfl (l' := #[.val (.ref a1), .val (.int i0), .val (.double y1), .second, .unset, .unset, .unset]) rfl kk_) ?_
  show Go p.tables e below (T.setTop (mkF m 31 #[.val (.ref a1), .val (.int i0), .val (.double y1), .second, .unset, .unset, .unset] [])) _
  refine Go.by (fun tt_ kk_ => XS.aloadN X.here hx rfl (hb hby d11_31) rfl rfl kk_) ?_
  show Go p.tables e below (T.setTop (mkF m 32 #[.val (.ref a1), .val (.int i0), .val (.double y1), .second, .unset, .unset, .unset] [(.ref a1)])) _
  obtain ⟨T, X, eT, st⟩ := getF X hx hZ hown (host := "") (Or.inl (hw _ (List.mem_of_getElem? (i := 17) rfl))) Via.refl eT F_numbers_a1 (g := (mkF m 32 #[.val (.ref a1), .val (.int i0), .val (.double y1), .second, .unset, .unset, .unset] [(.ref a1)])) rfl rfl (hb hby d11_32)
  refine Go.by st ?_
  show Go p.tables e below (T.setTop (mkF m 35 #[.val (.ref a1), .val (.int i0), .val (.double y1), .second, .unset, .unset, .unset] [(.ref nu)])) _
  refine Go.by (fun tt_ kk_ => XS.aloadN X.here hx rfl (hb hby d11_35) rfl rfl kk_) ?_
  show Go p.tables e below (T.setTop (mkF m 36 #[.val (.ref a1), .val (.int i0), .val (.double y1), .second, .unset, .unset, .unset] [(.ref a1), (.ref nu)])) _
  obtain ⟨T, X, eT, st⟩ := getF X hx hZ hown (host := "") (Or.inl (hw _ (List.mem_of_getElem? (i := 24) rfl))) Via.refl eT F_size_a1 (g := (mkF m 36 #[.val (.ref a1), .val (.int i0), .val (.double y1), .second, .unset, .unset, .unset] [(.ref a1), (.ref nu)])) rfl rfl (hb hby d11_36)
  refine Go.by st ?_
  show Go p.tables e below (T.setTop (mkF m 39 #[.val (.ref a1), .val (.int i0), .val (.double y1), .second, .unset, .unset, .unset] [(.int (1 : Int32)), (.ref nu)])) _
  have Vo_ := V_nu
  obtain ⟨cl_, Ar_, q_, S_, N_, H_, G_⟩ := Vo_
  refine Go.by (X.iaload hx (j := (1 : Int32)) (v := (.int i1)) (by rw [eT]; exact Ar_.1) (State.isArrayOf_alike hZ.alike Ar_.2.1) Ar_.2.2 (inb_of S_ ⟨by decide, hl1⟩) (Has.at H_ (inb_of S_ ⟨by decide, hl1⟩) rfl) (g := (mkF m 39 #[.val (.ref a1), .val (.int i0), .val (.double y1), .second, .unset, .unset, .unset] [(.int (1 : Int32)), (.ref nu)])) rfl rfl (hb hby d11_39)) ?_
  show Go p.tables e below (T.setTop (mkF m 40 #[.val (.ref a1), .val (.int i0), .val (.double y1), .second, .unset, .unset, .unset] [(.int i1)])) _
  refine Go.by (fun tt_ kk_ => XS.istore X.here hx rfl (hb hby d11_40) rfl (l' := #[.val (.ref a1), .val (.int i0), .val (.double y1), .second, .val (.int i1), .unset, .unset]) rfl kk_) ?_
  show Go p.tables e below (T.setTop (mkF m 42 #[.val (.ref a1), .val (.int i0), .val (.double y1), .second, .val (.int i1), .unset, .unset] [])) _
  refine Go.by (fun tt_ kk_ => XS.iconst X.here hx rfl (hb hby d11_42) kk_) ?_
  show Go p.tables e below (T.setTop (mkF m 43 #[.val (.ref a1), .val (.int i0), .val (.double y1), .second, .val (.int i1), .unset, .unset] [(.int (0 : Int32))])) _
  refine Go.by (fun tt_ kk_ => XS.istore X.here hx rfl (hb hby d11_43) rfl (l' := #[.val (.ref a1), .val (.int i0), .val (.double y1), .second, .val (.int i1), .val (.int (0 : Int32)), .unset]) rfl kk_) ?_
  show Go p.tables e below (T.setTop (mkF m 45 #[.val (.ref a1), .val (.int i0), .val (.double y1), .second, .val (.int i1), .val (.int (0 : Int32)), .unset] [])) _
  refine Go.by (fun tt_ kk_ => XS.iload X.here hx rfl (hb hby d11_45) rfl kk_) ?_
  show Go p.tables e below (T.setTop (mkF m 47 #[.val (.ref a1), .val (.int i0), .val (.double y1), .second, .val (.int i1), .val (.int (0 : Int32)), .unset] [(.int (0 : Int32))])) _
  refine Go.by (fun tt_ kk_ => XS.iconst X.here hx rfl (hb hby d11_47) kk_) ?_
  show Go p.tables e below (T.setTop (mkF m 48 #[.val (.ref a1), .val (.int i0), .val (.double y1), .second, .val (.int i1), .val (.int (0 : Int32)), .unset] [(.int (4 : Int32)), (.int (0 : Int32))])) _
  refine Go.by (fun tt_ kk_ => XS.imul X.here hx rfl (hb hby d11_48) rfl kk_) ?_
  show Go p.tables e below (T.setTop (mkF m 49 #[.val (.ref a1), .val (.int i0), .val (.double y1), .second, .val (.int i1), .val (.int (0 : Int32)), .unset] [(.int (0 : Int32))])) _
  refine Go.by (fun tt_ kk_ => XS.iconst X.here hx rfl (hb hby d11_49) kk_) ?_
  show Go p.tables e below (T.setTop (mkF m 50 #[.val (.ref a1), .val (.int i0), .val (.double y1), .second, .val (.int i1), .val (.int (0 : Int32)), .unset] [(.int (1 : Int32)), (.int (0 : Int32))])) _
  refine Go.by (fun tt_ kk_ => XS.iadd X.here hx rfl (hb hby d11_50) rfl kk_) ?_
  show Go p.tables e below (T.setTop (mkF m 51 #[.val (.ref a1), .val (.int i0), .val (.double y1), .second, .val (.int i1), .val (.int (0 : Int32)), .unset] [(.int (1 : Int32))])) _
  refine Go.by (fun tt_ kk_ => XS.aloadN X.here hx rfl (hb hby d11_51) rfl rfl kk_) ?_
  show Go p.tables e below (T.setTop (mkF m 52 #[.val (.ref a1), .val (.int i0), .val (.double y1), .second, .val (.int i1), .val (.int (0 : Int32)), .unset] [(.ref a1), (.int (1 : Int32))])) _
  obtain ⟨T, X, eT, st⟩ := getF X hx hZ hown (host := "") (Or.inl (hw _ (List.mem_of_getElem? (i := 24) rfl))) Via.refl eT F_size_a1 (g := (mkF m 52 #[.val (.ref a1), .val (.int i0), .val (.double y1), .second, .val (.int i1), .val (.int (0 : Int32)), .unset] [(.ref a1), (.int (1 : Int32))])) rfl rfl (hb hby d11_52)
  refine Go.by st ?_
  show Go p.tables e below (T.setTop (mkF m 55 #[.val (.ref a1), .val (.int i0), .val (.double y1), .second, .val (.int i1), .val (.int (0 : Int32)), .unset] [(.int (1 : Int32)), (.int (1 : Int32))])) _
  refine Go.by (fun tt_ kk_ => XS.icmpYes X.here hx rfl (pc0 := 55) (pc' := 127) rfl (hb hby d11_55) rfl (flt (by decide : ¬ ((1 : Int32) < (1 : Int32)))).2.1 (by decide) (by decide) kk_) ?_
  show Go p.tables e below (T.setTop (mkF m 127 #[.val (.ref a1), .val (.int i0), .val (.double y1), .second, .val (.int i1), .val (.int (0 : Int32)), .unset] [])) _
  refine Go.by (fun tt_ kk_ => XS.aloadN X.here hx rfl (hb hby d11_127) rfl rfl kk_) ?_
  show Go p.tables e below (T.setTop (mkF m 128 #[.val (.ref a1), .val (.int i0), .val (.double y1), .second, .val (.int i1), .val (.int (0 : Int32)), .unset] [(.ref a1)])) _
  obtain ⟨T, X, eT, st⟩ := getF X hx hZ hown (host := "") (Or.inl (hw _ (List.mem_of_getElem? (i := 14) rfl))) Via.refl eT F_times_a1 (g := (mkF m 128 #[.val (.ref a1), .val (.int i0), .val (.double y1), .second, .val (.int i1), .val (.int (0 : Int32)), .unset] [(.ref a1)])) rfl rfl (hb hby d11_128)
  refine Go.by st ?_
  show Go p.tables e below (T.setTop (mkF m 131 #[.val (.ref a1), .val (.int i0), .val (.double y1), .second, .val (.int i1), .val (.int (0 : Int32)), .unset] [(.ref ti)])) _
  refine Go.by (fun tt_ kk_ => XS.iload X.here hx rfl (hb hby d11_131) rfl kk_) ?_
  show Go p.tables e below (T.setTop (mkF m 133 #[.val (.ref a1), .val (.int i0), .val (.double y1), .second, .val (.int i1), .val (.int (0 : Int32)), .unset] [(.int (0 : Int32)), (.ref ti)])) _
  refine Go.by (fun tt_ kk_ => XS.dloadN X.here hx rfl (hb hby d11_133) rfl kk_) ?_
  show Go p.tables e below (T.setTop (mkF m 134 #[.val (.ref a1), .val (.int i0), .val (.double y1), .second, .val (.int i1), .val (.int (0 : Int32)), .unset] [(.double y1), (.int (0 : Int32)), (.ref ti)])) _
  have Vo_ := V_ti
  obtain ⟨cl_, Ar_, q_, S_, N_, H_, G_⟩ := Vo_
  obtain ⟨T, h3, X, eT, Wh3, st⟩ := stD X hx hZ eT Ar_ (j := (0 : Int32)) (inb_of S_ ⟨by decide, hl0⟩) (g := (mkF m 134 #[.val (.ref a1), .val (.int i0), .val (.double y1), .second, .val (.int i1), .val (.int (0 : Int32)), .unset] [(.double y1), (.int (0 : Int32)), (.ref ti)])) rfl rfl (hb hby d11_134)
  have V_ti := Arv.set Ar_ q_ S_ N_ H_ G_ rfl Wh3 0 rfl (Nat.le_of_ble_eq_true rfl)
  have E_a1 := Exa.wr Wh3 E_a1
  have F_times_a1 := Fld.other Wh3 F_times_a1 (Or.inl ne_a1_ti)
  have F_numbers_a1 := Fld.other Wh3 F_numbers_a1 (Or.inl ne_a1_ti)
  have F_size_a1 := Fld.other Wh3 F_size_a1 (Or.inl ne_a1_ti)
  have V_nu := Arv.other V_nu Wh3 ne_nu_ti
  have N := Fr.snoc X N g_ti
  have K := And.intro (Nat.le_trans K.1 (Nat.le_of_eq (Wr.size Wh3).symm)) trivial
  refine Go.by st ?_
  show Go p.tables e below (T.setTop (mkF m 135 #[.val (.ref a1), .val (.int i0), .val (.double y1), .second, .val (.int i1), .val (.int (0 : Int32)), .unset] [])) _
  refine Go.by (fun tt_ kk_ => XS.aloadN X.here hx rfl (hb hby d11_135) rfl rfl kk_) ?_
  show Go p.tables e below (T.setTop (mkF m 136 #[.val (.ref a1), .val (.int i0), .val (.double y1), .second, .val (.int i1), .val (.int (0 : Int32)), .unset] [(.ref a1)])) _
  obtain ⟨T, X, eT, st⟩ := getF X hx hZ hown (host := "") (Or.inl (hw _ (List.mem_of_getElem? (i := 17) rfl))) Via.refl eT F_numbers_a1 (g := (mkF m 136 #[.val (.ref a1), .val (.int i0), .val (.double y1), .second, .val (.int i1), .val (.int (0 : Int32)), .unset] [(.ref a1)])) rfl rfl (hb hby d11_136)
  refine Go.by st ?_
  show Go p.tables e below (T.setTop (mkF m 139 #[.val (.ref a1), .val (.int i0), .val (.double y1), .second, .val (.int i1), .val (.int (0 : Int32)), .unset] [(.ref nu)])) _
  refine Go.by (fun tt_ kk_ => XS.iload X.here hx rfl (hb hby d11_139) rfl kk_) ?_
  show Go p.tables e below (T.setTop (mkF m 141 #[.val (.ref a1), .val (.int i0), .val (.double y1), .second, .val (.int i1), .val (.int (0 : Int32)), .unset] [(.int (0 : Int32)), (.ref nu)])) _
  refine Go.by (fun tt_ kk_ => XS.iload X.here hx rfl (hb hby d11_141) rfl kk_) ?_
  show Go p.tables e below (T.setTop (mkF m 143 #[.val (.ref a1), .val (.int i0), .val (.double y1), .second, .val (.int i1), .val (.int (0 : Int32)), .unset] [(.int i1), (.int (0 : Int32)), (.ref nu)])) _
  have Vo_ := V_nu
  obtain ⟨cl_, Ar_, q_, S_, N_, H_, G_⟩ := Vo_
  obtain ⟨T, h4, X, eT, Wh4, st⟩ := stI X hx hZ eT Ar_ (j := (0 : Int32)) (inb_of S_ ⟨by decide, hl0⟩) (g := (mkF m 143 #[.val (.ref a1), .val (.int i0), .val (.double y1), .second, .val (.int i1), .val (.int (0 : Int32)), .unset] [(.int i1), (.int (0 : Int32)), (.ref nu)])) rfl rfl (hb hby d11_143)
  have V_nu := Arv.set Ar_ q_ S_ N_ H_ G_ rfl Wh4 0 rfl (Nat.le_of_ble_eq_true rfl)
  have E_a1 := Exa.wr Wh4 E_a1
  have F_times_a1 := Fld.other Wh4 F_times_a1 (Or.inl ne_a1_nu)
  have F_numbers_a1 := Fld.other Wh4 F_numbers_a1 (Or.inl ne_a1_nu)
  have F_size_a1 := Fld.other Wh4 F_size_a1 (Or.inl ne_a1_nu)
  have V_ti := Arv.other V_ti Wh4 ne_ti_nu
  have N := Fr.snoc X N g_nu
  have K := And.intro (Nat.le_trans K.1 (Nat.le_of_eq (Wr.size Wh4).symm)) trivial
  refine Go.by st ?_
  show Go p.tables e below (T.setTop (mkF m 144 #[.val (.ref a1), .val (.int i0), .val (.double y1), .second, .val (.int i1), .val (.int (0 : Int32)), .unset] [])) _
  refine Go.by (fun tt_ kk_ => XS.iloadN X.here hx rfl (hb hby d11_144) rfl kk_) ?_
  show Go p.tables e below (T.setTop (mkF m 145 #[.val (.ref a1), .val (.int i0), .val (.double y1), .second, .val (.int i1), .val (.int (0 : Int32)), .unset] [(.int i0)])) _
  exact Go.done X  (v := some (.int i0)) (fun h => by rw [Bd.returns] at h; cases h) Bd.notSynchronized (fun fs hr => retOut X hx Bd.returns rfl (by simp [Value.isRef, FieldType.isReference]) (hb hby d11_145) hr) (by rw [eT]; exact ⟨_, rfl, N, K, ⟨E_a1, g_a1, ti, nu, _, _, _, _, _, _, _, _, _, _, _, F_times_a1, F_numbers_a1, F_size_a1, V_ti, V_nu, g_ti, g_nu, ne_a1_ti, ne_a1_nu, ne_ti_nu, nn_y1, nn_y1, nn_y2, nn_y3, bc1, bc2, bs_1⟩⟩) (by decide) (by decide)
theorem pd_8 : parseMethodDescriptor "(I)I" = some ⟨[.int], some .int⟩ := by decide +kernel
def Q11_3 (Z : State) (a1 : Addr)  (h0 : Heap) (n0 : Nat) (v : Option Value) (h : Heap) (L : List Loc) : Prop := ∃ r : Int32, v = some (.int r) ∧ Fr n0 L ∧ (h0.size ≤ h.size ∧ True) ∧ own_TH Z h n0 a1 (2 : Int32)
set_option maxRecDepth 65536 in
set_option maxHeartbeats 40000000 in
theorem rm11_3 (l : Launch) (Z : State) (a0 : Array Value) (hw : ∀ d ∈ tables_1, d.before a0 Z = true) (ws : List Jvm.Cond) (a1 : Addr)  (h0 : Heap) (n0 : Nat) (Z0 : n0 ≤ h0.size) (TH : own_TH Z h0 n0 a1 (3 : Int32)) :
    MetFree l (⟨"com/example/mode_choice_loop/modechoiceloop/simulation/TimeHeap", "removeFirst", "()I"⟩ : MethodName) (head1 (Jvm.Cond.code (⟨"com/example/mode_choice_loop/modechoiceloop/simulation/TimeHeap", "removeFirst", "()I"⟩ : MethodName) prog_86_method_6_code 7 (some .int) :: ws) ({ frames := 5, cells := 0, slots := 0, locals := 82 } : Room)) (fun a U => a = #[(.ref a1)] ∧ Z.Warmed39 U.vm ∧ U.heap = h0) (fun _ _ _ _ _ => True) (fun _ U o U' => ∃ v L, o = .returned v ∧ Q11_3 Z a1 h0 n0 v U'.heap L ∧ FrameEnd U o U' L ({ frames := 5, cells := 0, slots := 0, locals := 82 } : Room).cells ({ frames := 5, cells := 0, slots := 0, locals := 82 } : Room).slots) := by
  obtain ⟨E_a1, g_a1, ti, nu, kt, km, cc, y0, y1, y2, y3, i0, i1, i2, i3, F_times_a1, F_numbers_a1, F_size_a1, V_ti, V_nu, g_ti, g_nu, ne_a1_ti, ne_a1_nu, ne_ti_nu, nn_y0, nn_y1, nn_y2, nn_y3, bc1, bc2, bs⟩ := TH
  have ne_ti_a1 := Ne.symm ne_a1_ti
  have ne_nu_a1 := Ne.symm ne_a1_nu
  have ne_nu_ti := Ne.symm ne_ti_nu
  have bs' := bs
  rw [show ((3 : Int32)).toInt = 3 by decide] at bs'
  have hl0 : (0 : Int32) < cc := by rw [Int32.lt_iff_toInt_lt, show ((0 : Int32)).toInt = 0 by decide]; omega
  have hl1 : (1 : Int32) < cc := by rw [Int32.lt_iff_toInt_lt, show ((1 : Int32)).toInt = 1 by decide]; omega
  have hl2 : (2 : Int32) < cc := by rw [Int32.lt_iff_toInt_lt, show ((2 : Int32)).toInt = 2 by decide]; omega
  have bs_0 : ((0 : Int32)).toInt ≤ cc.toInt := by rw [show ((0 : Int32)).toInt = 0 by decide]; omega
  have bs_1 : ((1 : Int32)).toInt ≤ cc.toInt := by rw [show ((1 : Int32)).toInt = 1 by decide]; omega
  have bs_2 : ((2 : Int32)).toInt ≤ cc.toInt := by rw [show ((2 : Int32)).toInt = 2 by decide]; omega
  have bs_3 : ((3 : Int32)).toInt ≤ cc.toInt := by rw [show ((3 : Int32)).toInt = 3 by decide]; omega
  refine MetFree.of_bodySF (plainFor_of_name pn_1) hisR ?_
  intro p e s m args below meth c s₁ Bd hml0 hP hK
  obtain ⟨rfl, hZ, hh⟩ := hP
  have hx := Bd.exec
  have hby := Bd.bytes
  have hml : c.maxLocals = 7 := hml0
  have hown : s.vm.findClass "com/example/mode_choice_loop/modechoiceloop/simulation/TimeHeap" = some m.cls := findClass_of_methodNamed Bd.named
  have hnm := (name_of_methodNamed Bd.named Bd.method).1
  have X : Stand p l e ({ frames := 5, cells := 0, slots := 0, locals := 82 } : Room) s m #[(.ref a1)] below meth c s₁ [] 0 0 := Stand.of_body Bd
  have eT : s₁.heap = h0 := by rw [← hh, Bd.state]; rfl
  have N := Fr.nil n0
  have K : h0.size ≤ h0.size ∧ True := ⟨Nat.le_refl _, trivial⟩
  refine Go.out ?_
  obtain ⟨T, eTT⟩ : ∃ z, z = s₁ := ⟨_, rfl⟩
  rw [← eTT] at X eT ⊢
  refine Go.by (fun tt_ kk_ => castTop (ef_11 m a1) kk_) ?_
  show Go p.tables e below (T.setTop (mkF m 0 #[.val (.ref a1), .unset, .unset, .unset, .unset, .unset, .unset] [])) _
  refine Go.by (fun tt_ kk_ => XS.aloadN X.here hx rfl (hb hby d11_0) rfl rfl kk_) ?_
  show Go p.tables e below (T.setTop (mkF m 1 #[.val (.ref a1), .unset, .unset, .unset, .unset, .unset, .unset] [(.ref a1)])) _
  obtain ⟨cq_, kq_, qa_, qb_, qc_⟩ := isOf hZ eT E_a1
  obtain ⟨cp_, qp_, qp_'⟩ := E_a1.cell
  obtain ⟨_, _, ⟨T, L_, k_, n_⟩, -, X, ⟨Lc_, hQ, l_, y_, z_⟩, st⟩ := X.privateBack hx (y := (⟨"com/example/mode_choice_loop/modechoiceloop/simulation/TimeHeap", "requireNumber", "()V"⟩ : MethodName)) hown (mvT hZ (hw _ (List.mem_of_getElem? (i := 58) rfl))) (mvT hZ (hw _ (List.mem_of_getElem? (i := 59) rfl))) (own_selp (by decide) (mvT hZ (hw _ (List.mem_of_getElem? (i := 1) rfl))) (Cond.privateMethod_at (mvP hZ (hw _ (List.mem_of_getElem? (i := 60) rfl)) (args := #[]))) (mvT hZ (hw _ (List.mem_of_getElem? (i := 59) rfl)))) (Cond.privateMethod_at (mvP hZ (hw _ (List.mem_of_getElem? (i := 60) rfl)) (args := #[]))) (mvT hZ (hw _ (List.mem_of_getElem? (i := 61) rfl))) (by decide) (backOf (W := 0) (rm12 l Z a0 hw [] a1 (3 : Int32) h0 n0 (Nat.le_trans Z0 K.1) F_size_a1 (by decide)) hZ (hw _ (List.mem_of_getElem? (i := 61) rfl)) (hw _ (List.mem_of_getElem? (i := 2) rfl)) (by decide) (by decide)) (g := (mkF m 1 #[.val (.ref a1), .unset, .unset, .unset, .unset, .unset, .unset] [(.ref a1)])) rfl (by rw [hml]; rfl) (Steps.refl _) (a := a1) (by rw [eT]; exact qp_) qp_' (argsL := []) (rest := []) (lenOf pd_7 rfl) rfl (by show 2 * 0 + _ ≤ _; exact Nat.le_of_eq rfl) (hb hby d11_1) (fun _ _ => ⟨rfl, eT, (by decide : 0 + 0 ≤ _), (by decide : 0 + 0 ≤ _)⟩)
  dsimp only [Pt.U, Pt.locs, Pt.cells, Pt.slots] at X l_ y_ z_ st hQ
  subst l_ y_ z_
  obtain ⟨rfl, Nq, eh⟩ := hQ
  have N := Fr.app N Nq
  have eT := eh
  refine Go.tr st ?_
  show Go p.tables e below (T.setTop (mkF m 4 #[.val (.ref a1), .unset, .unset, .unset, .unset, .unset, .unset] [])) _
  refine Go.by (fun tt_ kk_ => XS.aloadN X.here hx rfl (hb hby d11_4) rfl rfl kk_) ?_
  show Go p.tables e below (T.setTop (mkF m 5 #[.val (.ref a1), .unset, .unset, .unset, .unset, .unset, .unset] [(.ref a1)])) _
  obtain ⟨T, X, eT, st⟩ := getF X hx hZ hown (host := "") (Or.inl (hw _ (List.mem_of_getElem? (i := 17) rfl))) Via.refl eT F_numbers_a1 (g := (mkF m 5 #[.val (.ref a1), .unset, .unset, .unset, .unset, .unset, .unset] [(.ref a1)])) rfl rfl (hb hby d11_5)
  refine Go.by st ?_
  show Go p.tables e below (T.setTop (mkF m 8 #[.val (.ref a1), .unset, .unset, .unset, .unset, .unset, .unset] [(.ref nu)])) _
  refine Go.by (fun tt_ kk_ => XS.iconst X.here hx rfl (hb hby d11_8) kk_) ?_
  show Go p.tables e below (T.setTop (mkF m 9 #[.val (.ref a1), .unset, .unset, .unset, .unset, .unset, .unset] [(.int (0 : Int32)), (.ref nu)])) _
  have Vo_ := V_nu
  obtain ⟨cl_, Ar_, q_, S_, N_, H_, G_⟩ := Vo_
  refine Go.by (X.iaload hx (j := (0 : Int32)) (v := (.int i0)) (by rw [eT]; exact Ar_.1) (State.isArrayOf_alike hZ.alike Ar_.2.1) Ar_.2.2 (inb_of S_ ⟨by decide, hl0⟩) (Has.at H_ (inb_of S_ ⟨by decide, hl0⟩) rfl) (g := (mkF m 9 #[.val (.ref a1), .unset, .unset, .unset, .unset, .unset, .unset] [(.int (0 : Int32)), (.ref nu)])) rfl rfl (hb hby d11_9)) ?_
  show Go p.tables e below (T.setTop (mkF m 10 #[.val (.ref a1), .unset, .unset, .unset, .unset, .unset, .unset] [(.int i0)])) _
  refine Go.by (fun tt_ kk_ => XS.istoreN X.here hx rfl (hb hby d11_10) rfl (l' := #[.val (.ref a1), .val (.int i0), .unset, .unset, .unset, .unset, .unset]) rfl kk_) ?_
  show Go p.tables e below (T.setTop (mkF m 11 #[.val (.ref a1), .val (.int i0), .unset, .unset, .unset, .unset, .unset] [])) _
  refine Go.by (fun tt_ kk_ => XS.aloadN X.here hx rfl (hb hby d11_11) rfl rfl kk_) ?_
  show Go p.tables e below (T.setTop (mkF m 12 #[.val (.ref a1), .val (.int i0), .unset, .unset, .unset, .unset, .unset] [(.ref a1)])) _
  refine Go.by (fun tt_ kk_ => XS.dup X.here hx rfl (hb hby d11_12) rfl rfl kk_) ?_
  show Go p.tables e below (T.setTop (mkF m 13 #[.val (.ref a1), .val (.int i0), .unset, .unset, .unset, .unset, .unset] [(.ref a1), (.ref a1)])) _
  obtain ⟨T, X, eT, st⟩ := getF X hx hZ hown (host := "") (Or.inl (hw _ (List.mem_of_getElem? (i := 24) rfl))) Via.refl eT F_size_a1 (g := (mkF m 13 #[.val (.ref a1), .val (.int i0), .unset, .unset, .unset, .unset, .unset] [(.ref a1), (.ref a1)])) rfl rfl (hb hby d11_13)
  refine Go.by st ?_
  show Go p.tables e below (T.setTop (mkF m 16 #[.val (.ref a1), .val (.int i0), .unset, .unset, .unset, .unset, .unset] [(.int (3 : Int32)), (.ref a1)])) _
  refine Go.by (fun tt_ kk_ => XS.iconst X.here hx rfl (hb hby d11_16) kk_) ?_
  show Go p.tables e below (T.setTop (mkF m 17 #[.val (.ref a1), .val (.int i0), .unset, .unset, .unset, .unset, .unset] [(.int (1 : Int32)), (.int (3 : Int32)), (.ref a1)])) _
  refine Go.by (fun tt_ kk_ => XS.isub X.here hx rfl (hb hby d11_17) rfl kk_) ?_
  show Go p.tables e below (T.setTop (mkF m 18 #[.val (.ref a1), .val (.int i0), .unset, .unset, .unset, .unset, .unset] [(.int (2 : Int32)), (.ref a1)])) _
  obtain ⟨T, h2, X, eT, Wh2, st⟩ := putF X hx hZ hown (host := "") (Or.inl (hw _ (List.mem_of_getElem? (i := 24) rfl))) Via.refl eT F_size_a1 E_a1 (Or.inl (hw _ (List.mem_of_getElem? (i := 25) rfl))) (hw _ (List.mem_of_getElem? (i := 1) rfl)) (ty := .int) (by decide) rfl rfl (g := (mkF m 18 #[.val (.ref a1), .val (.int i0), .unset, .unset, .unset, .unset, .unset] [(.int (2 : Int32)), (.ref a1)])) rfl rfl (hb hby d11_18)
  have F_size_a1 := Fld.same Wh2 F_size_a1
  have E_a1 := Exa.wr Wh2 E_a1
  have F_times_a1 := Fld.other Wh2 F_times_a1 (Or.inr (slot_ne (Or.inl (hw _ (List.mem_of_getElem? (i := 15) rfl))) (Or.inl (hw _ (List.mem_of_getElem? (i := 25) rfl))) (by decide) (t := (.array .double)) (t' := .int) (by decide) (by decide)))
  have F_numbers_a1 := Fld.other Wh2 F_numbers_a1 (Or.inr (slot_ne (Or.inl (hw _ (List.mem_of_getElem? (i := 18) rfl))) (Or.inl (hw _ (List.mem_of_getElem? (i := 25) rfl))) (by decide) (t := (.array .int)) (t' := .int) (by decide) (by decide)))
  have V_ti := Arv.other V_ti Wh2 ne_ti_a1
  have V_nu := Arv.other V_nu Wh2 ne_nu_a1
  have N := Fr.snoc X N g_a1
  have K := And.intro (Nat.le_trans K.1 (Nat.le_of_eq (Wr.size Wh2).symm)) trivial
  refine Go.by st ?_
  show Go p.tables e below (T.setTop (mkF m 21 #[.val (.ref a1), .val (.int i0), .unset, .unset, .unset, .unset, .unset] [])) _
  refine Go.by (fun tt_ kk_ => XS.aloadN X.here hx rfl (hb hby d11_21) rfl rfl kk_) ?_
  show Go p.tables e below (T.setTop (mkF m 22 #[.val (.ref a1), .val (.int i0), .unset, .unset, .unset, .unset, .unset] [(.ref a1)])) _
  obtain ⟨T, X, eT, st⟩ := getF X hx hZ hown (host := "") (Or.inl (hw _ (List.mem_of_getElem? (i := 14) rfl))) Via.refl eT F_times_a1 (g := (mkF m 22 #[.val (.ref a1), .val (.int i0), .unset, .unset, .unset, .unset, .unset] [(.ref a1)])) rfl rfl (hb hby d11_22)
  refine Go.by st ?_
  show Go p.tables e below (T.setTop (mkF m 25 #[.val (.ref a1), .val (.int i0), .unset, .unset, .unset, .unset, .unset] [(.ref ti)])) _
  refine Go.by (fun tt_ kk_ => XS.aloadN X.here hx rfl (hb hby d11_25) rfl rfl kk_) ?_
  show Go p.tables e below (T.setTop (mkF m 26 #[.val (.ref a1), .val (.int i0), .unset, .unset, .unset, .unset, .unset] [(.ref a1), (.ref ti)])) _
  obtain ⟨T, X, eT, st⟩ := getF X hx hZ hown (host := "") (Or.inl (hw _ (List.mem_of_getElem? (i := 24) rfl))) Via.refl eT F_size_a1 (g := (mkF m 26 #[.val (.ref a1), .val (.int i0), .unset, .unset, .unset, .unset, .unset] [(.ref a1), (.ref ti)])) rfl rfl (hb hby d11_26)
  refine Go.by st ?_
  show Go p.tables e below (T.setTop (mkF m 29 #[.val (.ref a1), .val (.int i0), .unset, .unset, .unset, .unset, .unset] [(.int (2 : Int32)), (.ref ti)])) _
  have Vo_ := V_ti
  obtain ⟨cl_, Ar_, q_, S_, N_, H_, G_⟩ := Vo_
  refine Go.by (X.daload hx (j := (2 : Int32)) (v := (.double y2)) (by rw [eT]; exact Ar_.1) (State.isArrayOf_alike hZ.alike Ar_.2.1) Ar_.2.2 (inb_of S_ ⟨by decide, hl2⟩) (Has.at H_ (inb_of S_ ⟨by decide, hl2⟩) rfl) (g := (mkF m 29 #[.val (.ref a1), .val (.int i0), .unset, .unset, .unset, .unset, .unset] [(.int (2 : Int32)), (.ref ti)])) rfl rfl (hb hby d11_29)) ?_
  show Go p.tables e below (T.setTop (mkF m 30 #[.val (.ref a1), .val (.int i0), .unset, .unset, .unset, .unset, .unset] [(.double y2)])) _
  refine Go.by (fun tt_ kk_ => XS.dstoreN X.here hx rfl (hb hby d11_30) rfl (l' := #[.val (.ref a1), .val (.int i0), .val (.double y2), .second, .unset, .unset, .unset]) rfl kk_) ?_
  show Go p.tables e below (T.setTop (mkF m 31 #[.val (.ref a1), .val (.int i0), .val (.double y2), .second, .unset, .unset, .unset] [])) _
  refine Go.by (fun tt_ kk_ => XS.aloadN X.here hx rfl (hb hby d11_31) rfl rfl kk_) ?_
  show Go p.tables e below (T.setTop (mkF m 32 #[.val (.ref a1), .val (.int i0), .val (.double y2), .second, .unset, .unset, .unset] [(.ref a1)])) _
  obtain ⟨T, X, eT, st⟩ := getF X hx hZ hown (host := "") (Or.inl (hw _ (List.mem_of_getElem? (i := 17) rfl))) Via.refl eT F_numbers_a1 (g := (mkF m 32 #[.val (.ref a1), .val (.int i0), .val (.double y2), .second, .unset, .unset, .unset] [(.ref a1)])) rfl rfl (hb hby d11_32)
  refine Go.by st ?_
  show Go p.tables e below (T.setTop (mkF m 35 #[.val (.ref a1), .val (.int i0), .val (.double y2), .second, .unset, .unset, .unset] [(.ref nu)])) _
  refine Go.by (fun tt_ kk_ => XS.aloadN X.here hx rfl (hb hby d11_35) rfl rfl kk_) ?_
  show Go p.tables e below (T.setTop (mkF m 36 #[.val (.ref a1), .val (.int i0), .val (.double y2), .second, .unset, .unset, .unset] [(.ref a1), (.ref nu)])) _
  obtain ⟨T, X, eT, st⟩ := getF X hx hZ hown (host := "") (Or.inl (hw _ (List.mem_of_getElem? (i := 24) rfl))) Via.refl eT F_size_a1 (g := (mkF m 36 #[.val (.ref a1), .val (.int i0), .val (.double y2), .second, .unset, .unset, .unset] [(.ref a1), (.ref nu)])) rfl rfl (hb hby d11_36)
  refine Go.by st ?_
  show Go p.tables e below (T.setTop (mkF m 39 #[.val (.ref a1), .val (.int i0), .val (.double y2), .second, .unset, .unset, .unset] [(.int (2 : Int32)), (.ref nu)])) _
  have Vo_ := V_nu
  obtain ⟨cl_, Ar_, q_, S_, N_, H_, G_⟩ := Vo_
  refine Go.by (X.iaload hx (j := (2 : Int32)) (v := (.int i2)) (by rw [eT]; exact Ar_.1) (State.isArrayOf_alike hZ.alike Ar_.2.1) Ar_.2.2 (inb_of S_ ⟨by decide, hl2⟩) (Has.at H_ (inb_of S_ ⟨by decide, hl2⟩) rfl) (g := (mkF m 39 #[.val (.ref a1), .val (.int i0), .val (.double y2), .second, .unset, .unset, .unset] [(.int (2 : Int32)), (.ref nu)])) rfl rfl (hb hby d11_39)) ?_
  show Go p.tables e below (T.setTop (mkF m 40 #[.val (.ref a1), .val (.int i0), .val (.double y2), .second, .unset, .unset, .unset] [(.int i2)])) _
  refine Go.by (fun tt_ kk_ => XS.istore X.here hx rfl (hb hby d11_40) rfl (l' := #[.val (.ref a1), .val (.int i0), .val (.double y2), .second, .val (.int i2), .unset, .unset]) rfl kk_) ?_
  show Go p.tables e below (T.setTop (mkF m 42 #[.val (.ref a1), .val (.int i0), .val (.double y2), .second, .val (.int i2), .unset, .unset] [])) _
  refine Go.by (fun tt_ kk_ => XS.iconst X.here hx rfl (hb hby d11_42) kk_) ?_
  show Go p.tables e below (T.setTop (mkF m 43 #[.val (.ref a1), .val (.int i0), .val (.double y2), .second, .val (.int i2), .unset, .unset] [(.int (0 : Int32))])) _
  refine Go.by (fun tt_ kk_ => XS.istore X.here hx rfl (hb hby d11_43) rfl (l' := #[.val (.ref a1), .val (.int i0), .val (.double y2), .second, .val (.int i2), .val (.int (0 : Int32)), .unset]) rfl kk_) ?_
  show Go p.tables e below (T.setTop (mkF m 45 #[.val (.ref a1), .val (.int i0), .val (.double y2), .second, .val (.int i2), .val (.int (0 : Int32)), .unset] [])) _
  refine Go.by (fun tt_ kk_ => XS.iload X.here hx rfl (hb hby d11_45) rfl kk_) ?_
  show Go p.tables e below (T.setTop (mkF m 47 #[.val (.ref a1), .val (.int i0), .val (.double y2), .second, .val (.int i2), .val (.int (0 : Int32)), .unset] [(.int (0 : Int32))])) _
  refine Go.by (fun tt_ kk_ => XS.iconst X.here hx rfl (hb hby d11_47) kk_) ?_
  show Go p.tables e below (T.setTop (mkF m 48 #[.val (.ref a1), .val (.int i0), .val (.double y2), .second, .val (.int i2), .val (.int (0 : Int32)), .unset] [(.int (4 : Int32)), (.int (0 : Int32))])) _
  refine Go.by (fun tt_ kk_ => XS.imul X.here hx rfl (hb hby d11_48) rfl kk_) ?_
  show Go p.tables e below (T.setTop (mkF m 49 #[.val (.ref a1), .val (.int i0), .val (.double y2), .second, .val (.int i2), .val (.int (0 : Int32)), .unset] [(.int (0 : Int32))])) _
  refine Go.by (fun tt_ kk_ => XS.iconst X.here hx rfl (hb hby d11_49) kk_) ?_
  show Go p.tables e below (T.setTop (mkF m 50 #[.val (.ref a1), .val (.int i0), .val (.double y2), .second, .val (.int i2), .val (.int (0 : Int32)), .unset] [(.int (1 : Int32)), (.int (0 : Int32))])) _
  refine Go.by (fun tt_ kk_ => XS.iadd X.here hx rfl (hb hby d11_50) rfl kk_) ?_
  show Go p.tables e below (T.setTop (mkF m 51 #[.val (.ref a1), .val (.int i0), .val (.double y2), .second, .val (.int i2), .val (.int (0 : Int32)), .unset] [(.int (1 : Int32))])) _
  refine Go.by (fun tt_ kk_ => XS.aloadN X.here hx rfl (hb hby d11_51) rfl rfl kk_) ?_
  show Go p.tables e below (T.setTop (mkF m 52 #[.val (.ref a1), .val (.int i0), .val (.double y2), .second, .val (.int i2), .val (.int (0 : Int32)), .unset] [(.ref a1), (.int (1 : Int32))])) _
  obtain ⟨T, X, eT, st⟩ := getF X hx hZ hown (host := "") (Or.inl (hw _ (List.mem_of_getElem? (i := 24) rfl))) Via.refl eT F_size_a1 (g := (mkF m 52 #[.val (.ref a1), .val (.int i0), .val (.double y2), .second, .val (.int i2), .val (.int (0 : Int32)), .unset] [(.ref a1), (.int (1 : Int32))])) rfl rfl (hb hby d11_52)
  refine Go.by st ?_
  show Go p.tables e below (T.setTop (mkF m 55 #[.val (.ref a1), .val (.int i0), .val (.double y2), .second, .val (.int i2), .val (.int (0 : Int32)), .unset] [(.int (2 : Int32)), (.int (1 : Int32))])) _
  refine Go.by (fun tt_ kk_ => XS.icmpNo X.here hx rfl (hb hby d11_55) rfl (tlt (by decide : (1 : Int32) < (2 : Int32))).2.1 kk_) ?_
  show Go p.tables e below (T.setTop (mkF m 58 #[.val (.ref a1), .val (.int i0), .val (.double y2), .second, .val (.int i2), .val (.int (0 : Int32)), .unset] [])) _
  refine Go.by (fun tt_ kk_ => XS.aloadN X.here hx rfl (hb hby d11_58) rfl rfl kk_) ?_
  show Go p.tables e below (T.setTop (mkF m 59 #[.val (.ref a1), .val (.int i0), .val (.double y2), .second, .val (.int i2), .val (.int (0 : Int32)), .unset] [(.ref a1)])) _
  refine Go.by (fun tt_ kk_ => XS.iload X.here hx rfl (hb hby d11_59) rfl kk_) ?_
  show Go p.tables e below (T.setTop (mkF m 61 #[.val (.ref a1), .val (.int i0), .val (.double y2), .second, .val (.int i2), .val (.int (0 : Int32)), .unset] [(.int (0 : Int32)), (.ref a1)])) _
  obtain ⟨cq_, kq_, qa_, qb_, qc_⟩ := isOf hZ eT E_a1
  obtain ⟨cp_, qp_, qp_'⟩ := E_a1.cell
  obtain ⟨_, _, ⟨T, L_, k_, n_⟩, -, X, ⟨Lc_, hQ, l_, y_, z_⟩, st⟩ := X.privateBack hx (y := (⟨"com/example/mode_choice_loop/modechoiceloop/simulation/TimeHeap", "firstChild", "(I)I"⟩ : MethodName)) hown (mvT hZ (hw _ (List.mem_of_getElem? (i := 62) rfl))) (mvT hZ (hw _ (List.mem_of_getElem? (i := 63) rfl))) (own_selp (by decide) (mvT hZ (hw _ (List.mem_of_getElem? (i := 1) rfl))) (Cond.privateMethod_at (mvP hZ (hw _ (List.mem_of_getElem? (i := 64) rfl)) (args := #[]))) (mvT hZ (hw _ (List.mem_of_getElem? (i := 63) rfl)))) (Cond.privateMethod_at (mvP hZ (hw _ (List.mem_of_getElem? (i := 64) rfl)) (args := #[]))) (mvT hZ (hw _ (List.mem_of_getElem? (i := 65) rfl))) (by decide) (backOf (W := 0) (rm13 l Z a0 hw [] a1 h2 n0 (Nat.le_trans Z0 K.1) F_size_a1) hZ (hw _ (List.mem_of_getElem? (i := 65) rfl)) (hw _ (List.mem_of_getElem? (i := 2) rfl)) (by decide) (by decide)) (g := (mkF m 61 #[.val (.ref a1), .val (.int i0), .val (.double y2), .second, .val (.int i2), .val (.int (0 : Int32)), .unset] [(.int (0 : Int32)), (.ref a1)])) rfl (by rw [hml]; rfl) (Steps.refl _) (a := a1) (by rw [eT]; exact qp_) qp_' (argsL := [(.int (0 : Int32))]) (rest := []) (lenOf pd_8 rfl) rfl (by show 2 * 0 + _ ≤ _; exact Nat.le_of_eq rfl) (hb hby d11_61) (fun _ _ => ⟨rfl, eT, (by decide : 0 + 0 ≤ _), (by decide : 0 + 0 ≤ _)⟩)
  dsimp only [Pt.U, Pt.locs, Pt.cells, Pt.slots] at X l_ y_ z_ st hQ
  subst l_ y_ z_
  obtain ⟨rfl, Nq, eh⟩ := hQ
  have N := Fr.app N Nq
  have eT := eh
  refine Go.tr st ?_
  show Go p.tables e below (T.setTop (mkF m 64 #[.val (.ref a1), .val (.int i0), .val (.double y2), .second, .val (.int i2), .val (.int (0 : Int32)), .unset] [(.int (1 : Int32))])) _
  refine Go.by (fun tt_ kk_ => XS.istore X.here hx rfl (hb hby d11_64) rfl (l' := #[.val (.ref a1), .val (.int i0), .val (.double y2), .second, .val (.int i2), .val (.int (0 : Int32)), .val (.int (1 : Int32))]) rfl kk_) ?_
  show Go p.tables e below (T.setTop (mkF m 66 #[.val (.ref a1), .val (.int i0), .val (.double y2), .second, .val (.int i2), .val (.int (0 : Int32)), .val (.int (1 : Int32))] [])) _
  refine Go.by (fun tt_ kk_ => XS.aloadN X.here hx rfl (hb hby d11_66) rfl rfl kk_) ?_
  show Go p.tables e below (T.setTop (mkF m 67 #[.val (.ref a1), .val (.int i0), .val (.double y2), .second, .val (.int i2), .val (.int (0 : Int32)), .val (.int (1 : Int32))] [(.ref a1)])) _
  obtain ⟨T, X, eT, st⟩ := getF X hx hZ hown (host := "") (Or.inl (hw _ (List.mem_of_getElem? (i := 14) rfl))) Via.refl eT F_times_a1 (g := (mkF m 67 #[.val (.ref a1), .val (.int i0), .val (.double y2), .second, .val (.int i2), .val (.int (0 : Int32)), .val (.int (1 : Int32))] [(.ref a1)])) rfl rfl (hb hby d11_67)
  refine Go.by st ?_
  show Go p.tables e below (T.setTop (mkF m 70 #[.val (.ref a1), .val (.int i0), .val (.double y2), .second, .val (.int i2), .val (.int (0 : Int32)), .val (.int (1 : Int32))] [(.ref ti)])) _
  refine Go.by (fun tt_ kk_ => XS.iload X.here hx rfl (hb hby d11_70) rfl kk_) ?_
  show Go p.tables e below (T.setTop (mkF m 72 #[.val (.ref a1), .val (.int i0), .val (.double y2), .second, .val (.int i2), .val (.int (0 : Int32)), .val (.int (1 : Int32))] [(.int (1 : Int32)), (.ref ti)])) _
  have Vo_ := V_ti
  obtain ⟨cl_, Ar_, q_, S_, N_, H_, G_⟩ := Vo_
  refine Go.by (X.daload hx (j := (1 : Int32)) (v := (.double y1)) (by rw [eT]; exact Ar_.1) (State.isArrayOf_alike hZ.alike Ar_.2.1) Ar_.2.2 (inb_of S_ ⟨by decide, hl1⟩) (Has.at H_ (inb_of S_ ⟨by decide, hl1⟩) rfl) (g := (mkF m 72 #[.val (.ref a1), .val (.int i0), .val (.double y2), .second, .val (.int i2), .val (.int (0 : Int32)), .val (.int (1 : Int32))] [(.int (1 : Int32)), (.ref ti)])) rfl rfl (hb hby d11_72)) ?_
  show Go p.tables e below (T.setTop (mkF m 73 #[.val (.ref a1), .val (.int i0), .val (.double y2), .second, .val (.int i2), .val (.int (0 : Int32)), .val (.int (1 : Int32))] [(.double y1)])) _
  refine Go.by (fun tt_ kk_ => XS.aloadN X.here hx rfl (hb hby d11_73) rfl rfl kk_) ?_
  show Go p.tables e below (T.setTop (mkF m 74 #[.val (.ref a1), .val (.int i0), .val (.double y2), .second, .val (.int i2), .val (.int (0 : Int32)), .val (.int (1 : Int32))] [(.ref a1), (.double y1)])) _
  obtain ⟨T, X, eT, st⟩ := getF X hx hZ hown (host := "") (Or.inl (hw _ (List.mem_of_getElem? (i := 17) rfl))) Via.refl eT F_numbers_a1 (g := (mkF m 74 #[.val (.ref a1), .val (.int i0), .val (.double y2), .second, .val (.int i2), .val (.int (0 : Int32)), .val (.int (1 : Int32))] [(.ref a1), (.double y1)])) rfl rfl (hb hby d11_74)
  refine Go.by st ?_
  show Go p.tables e below (T.setTop (mkF m 77 #[.val (.ref a1), .val (.int i0), .val (.double y2), .second, .val (.int i2), .val (.int (0 : Int32)), .val (.int (1 : Int32))] [(.ref nu), (.double y1)])) _
  refine Go.by (fun tt_ kk_ => XS.iload X.here hx rfl (hb hby d11_77) rfl kk_) ?_
  show Go p.tables e below (T.setTop (mkF m 79 #[.val (.ref a1), .val (.int i0), .val (.double y2), .second, .val (.int i2), .val (.int (0 : Int32)), .val (.int (1 : Int32))] [(.int (1 : Int32)), (.ref nu), (.double y1)])) _
  have Vo_ := V_nu
  obtain ⟨cl_, Ar_, q_, S_, N_, H_, G_⟩ := Vo_
  refine Go.by (X.iaload hx (j := (1 : Int32)) (v := (.int i1)) (by rw [eT]; exact Ar_.1) (State.isArrayOf_alike hZ.alike Ar_.2.1) Ar_.2.2 (inb_of S_ ⟨by decide, hl1⟩) (Has.at H_ (inb_of S_ ⟨by decide, hl1⟩) rfl) (g := (mkF m 79 #[.val (.ref a1), .val (.int i0), .val (.double y2), .second, .val (.int i2), .val (.int (0 : Int32)), .val (.int (1 : Int32))] [(.int (1 : Int32)), (.ref nu), (.double y1)])) rfl rfl (hb hby d11_79)) ?_
  show Go p.tables e below (T.setTop (mkF m 80 #[.val (.ref a1), .val (.int i0), .val (.double y2), .second, .val (.int i2), .val (.int (0 : Int32)), .val (.int (1 : Int32))] [(.int i1), (.double y1)])) _
  refine Go.by (fun tt_ kk_ => XS.dloadN X.here hx rfl (hb hby d11_80) rfl kk_) ?_
  show Go p.tables e below (T.setTop (mkF m 81 #[.val (.ref a1), .val (.int i0), .val (.double y2), .second, .val (.int i2), .val (.int (0 : Int32)), .val (.int (1 : Int32))] [(.double y2), (.int i1), (.double y1)])) _
  refine Go.by (fun tt_ kk_ => XS.iload X.here hx rfl (hb hby d11_81) rfl kk_) ?_
  show Go p.tables e below (T.setTop (mkF m 83 #[.val (.ref a1), .val (.int i0), .val (.double y2), .second, .val (.int i2), .val (.int (0 : Int32)), .val (.int (1 : Int32))] [(.int i2), (.double y2), (.int i1), (.double y1)])) _
  obtain ⟨_, _, ⟨T, L_, k_, n_⟩, -, X, ⟨Lc_, hQ, l_, y_, z_⟩, st⟩ := Jvm.LawKit.callS X hx (y := (⟨"com/example/mode_choice_loop/modechoiceloop/simulation/TimeHeap", "precedes", "(DIDI)Z"⟩ : MethodName)) hown (mvT hZ (hw _ (List.mem_of_getElem? (i := 45) rfl))) (mvT hZ (hw _ (List.mem_of_getElem? (i := 46) rfl))) (mvT hZ (hw _ (List.mem_of_getElem? (i := 2) rfl))) (mvT hZ (hw _ (List.mem_of_getElem? (i := 47) rfl))) (by decide) (backOf (W := 0) (rm9 l Z a0 hw [] y1 i1 y2 i2 h2 n0 (Nat.le_trans Z0 K.1) nn_y1 nn_y2) hZ (hw _ (List.mem_of_getElem? (i := 47) rfl)) (hw _ (List.mem_of_getElem? (i := 2) rfl)) (by decide) (by decide)) (g := (mkF m 83 #[.val (.ref a1), .val (.int i0), .val (.double y2), .second, .val (.int i2), .val (.int (0 : Int32)), .val (.int (1 : Int32))] [(.int i2), (.double y2), (.int i1), (.double y1)])) rfl (by rw [hml]; rfl) (argsL := [(.double y1), (.int i1), (.double y2), (.int i2)]) (rest := []) (lenOf pd_6 rfl) rfl (by show 2 * 0 + _ ≤ _; exact Nat.le_of_eq rfl) (hb hby d11_83) (fun _ _ => ⟨rfl, eT, (by decide : 0 + 0 ≤ _), (by decide : 0 + 0 ≤ _)⟩)
  dsimp only [Pt.U, Pt.locs, Pt.cells, Pt.slots] at X l_ y_ z_ st hQ
  subst l_ y_ z_
  obtain ⟨r4, rfl, Nq, eh⟩ := hQ
  have N := Fr.app N Nq
  have eT := eh
  refine Go.by st ?_
  show Go p.tables e below (T.setTop (mkF m 86 #[.val (.ref a1), .val (.int i0), .val (.double y2), .second, .val (.int i2), .val (.int (0 : Int32)), .val (.int (1 : Int32))] [(.int r4)])) _
  by_cases hc86 : r4 = (0 : Int32)
  · refine Go.by (fun tt_ kk_ => XS.ifNo X.here hx rfl (hb hby d11_86) rfl ((if0 _ _).trans (teq hc86).2) kk_) ?_
    show Go p.tables e below (T.setTop (mkF m 89 #[.val (.ref a1), .val (.int i0), .val (.double y2), .second, .val (.int i2), .val (.int (0 : Int32)), .val (.int (1 : Int32))] [])) _
    refine Go.by (fun tt_ kk_ => XS.goto X.here hx rfl (pc0 := 89) (pc' := 127) rfl (hb hby d11_89) (by decide) (by decide) kk_) ?_
    show Go p.tables e below (T.setTop (mkF m 127 #[.val (.ref a1), .val (.int i0), .val (.double y2), .second, .val (.int i2), .val (.int (0 : Int32)), .val (.int (1 : Int32))] [])) _
    refine Go.by (fun tt_ kk_ => XS.aloadN X.here hx rfl (hb hby d11_127) rfl rfl kk_) ?_
    show Go p.tables e below (T.setTop (mkF m 128 #[.val (.ref a1), .val (.int i0), .val (.double y2), .second, .val (.int i2), .val (.int (0 : Int32)), .val (.int (1 : Int32))] [(.ref a1)])) _
    obtain ⟨T, X, eT, st⟩ := getF X hx hZ hown (host := "") (Or.inl (hw _ (List.mem_of_getElem? (i := 14) rfl))) Via.refl eT F_times_a1 (g := (mkF m 128 #[.val (.ref a1), .val (.int i0), .val (.double y2), .second, .val (.int i2), .val (.int (0 : Int32)), .val (.int (1 : Int32))] [(.ref a1)])) rfl rfl (hb hby d11_128)
    refine Go.by st ?_
    show Go p.tables e below (T.setTop (mkF m 131 #[.val (.ref a1), .val (.int i0), .val (.double y2), .second, .val (.int i2), .val (.int (0 : Int32)), .val (.int (1 : Int32))] [(.ref ti)])) _
    refine Go.by (fun tt_ kk_ => XS.iload X.here hx rfl (hb hby d11_131) rfl kk_) ?_
    show Go p.tables e below (T.setTop (mkF m 133 #[.val (.ref a1), .val (.int i0), .val (.double y2), .second, .val (.int i2), .val (.int (0 : Int32)), .val (.int (1 : Int32))] [(.int (0 : Int32)), (.ref ti)])) _
    refine Go.by (fun tt_ kk_ => XS.dloadN X.here hx rfl (hb hby d11_133) rfl kk_) ?_
    show Go p.tables e below (T.setTop (mkF m 134 #[.val (.ref a1), .val (.int i0), .val (.double y2), .second, .val (.int i2), .val (.int (0 : Int32)), .val (.int (1 : Int32))] [(.double y2), (.int (0 : Int32)), (.ref ti)])) _
    have Vo_ := V_ti
    obtain ⟨cl_, Ar_, q_, S_, N_, H_, G_⟩ := Vo_
    obtain ⟨T, h6, X, eT, Wh6, st⟩ := stD X hx hZ eT Ar_ (j := (0 : Int32)) (inb_of S_ ⟨by decide, hl0⟩) (g := (mkF m 134 #[.val (.ref a1), .val (.int i0), .val (.double y2), .second, .val (.int i2), .val (.int (0 : Int32)), .val (.int (1 : Int32))] [(.double y2), (.int (0 : Int32)), (.ref ti)])) rfl rfl (hb hby d11_134)
    have V_ti := Arv.set Ar_ q_ S_ N_ H_ G_ rfl Wh6 0 rfl (Nat.le_of_ble_eq_true rfl)
    have E_a1 := Exa.wr Wh6 E_a1
    have F_times_a1 := Fld.other Wh6 F_times_a1 (Or.inl ne_a1_ti)
    have F_numbers_a1 := Fld.other Wh6 F_numbers_a1 (Or.inl ne_a1_ti)
    have F_size_a1 := Fld.other Wh6 F_size_a1 (Or.inl ne_a1_ti)
    have V_nu := Arv.other V_nu Wh6 ne_nu_ti
    have N := Fr.snoc X N g_ti
    have K := And.intro (Nat.le_trans K.1 (Nat.le_of_eq (Wr.size Wh6).symm)) trivial
    refine Go.by st ?_
    show Go p.tables e below (T.setTop (mkF m 135 #[.val (.ref a1), .val (.int i0), .val (.double y2), .second, .val (.int i2), .val (.int (0 : Int32)), .val (.int (1 : Int32))] [])) _
    refine Go.by (fun tt_ kk_ => XS.aloadN X.here hx rfl (hb hby d11_135) rfl rfl kk_) ?_
    show Go p.tables e below (T.setTop (mkF m 136 #[.val (.ref a1), .val (.int i0), .val (.double y2), .second, .val (.int i2), .val (.int (0 : Int32)), .val (.int (1 : Int32))] [(.ref a1)])) _
    obtain ⟨T, X, eT, st⟩ := getF X hx hZ hown (host := "") (Or.inl (hw _ (List.mem_of_getElem? (i := 17) rfl))) Via.refl eT F_numbers_a1 (g := (mkF m 136 #[.val (.ref a1), .val (.int i0), .val (.double y2), .second, .val (.int i2), .val (.int (0 : Int32)), .val (.int (1 : Int32))] [(.ref a1)])) rfl rfl (hb hby d11_136)
    refine Go.by st ?_
    show Go p.tables e below (T.setTop (mkF m 139 #[.val (.ref a1), .val (.int i0), .val (.double y2), .second, .val (.int i2), .val (.int (0 : Int32)), .val (.int (1 : Int32))] [(.ref nu)])) _
    refine Go.by (fun tt_ kk_ => XS.iload X.here hx rfl (hb hby d11_139) rfl kk_) ?_
    show Go p.tables e below (T.setTop (mkF m 141 #[.val (.ref a1), .val (.int i0), .val (.double y2), .second, .val (.int i2), .val (.int (0 : Int32)), .val (.int (1 : Int32))] [(.int (0 : Int32)), (.ref nu)])) _
    refine Go.by (fun tt_ kk_ => XS.iload X.here hx rfl (hb hby d11_141) rfl kk_) ?_
    show Go p.tables e below (T.setTop (mkF m 143 #[.val (.ref a1), .val (.int i0), .val (.double y2), .second, .val (.int i2), .val (.int (0 : Int32)), .val (.int (1 : Int32))] [(.int i2), (.int (0 : Int32)), (.ref nu)])) _
    have Vo_ := V_nu
    obtain ⟨cl_, Ar_, q_, S_, N_, H_, G_⟩ := Vo_
    obtain ⟨T, h7, X, eT, Wh7, st⟩ := stI X hx hZ eT Ar_ (j := (0 : Int32)) (inb_of S_ ⟨by decide, hl0⟩) (g := (mkF m 143 #[.val (.ref a1), .val (.int i0), .val (.double y2), .second, .val (.int i2), .val (.int (0 : Int32)), .val (.int (1 : Int32))] [(.int i2), (.int (0 : Int32)), (.ref nu)])) rfl rfl (hb hby d11_143)
    have V_nu := Arv.set Ar_ q_ S_ N_ H_ G_ rfl Wh7 0 rfl (Nat.le_of_ble_eq_true rfl)
    have E_a1 := Exa.wr Wh7 E_a1
    have F_times_a1 := Fld.other Wh7 F_times_a1 (Or.inl ne_a1_nu)
    have F_numbers_a1 := Fld.other Wh7 F_numbers_a1 (Or.inl ne_a1_nu)
    have F_size_a1 := Fld.other Wh7 F_size_a1 (Or.inl ne_a1_nu)
    have V_ti := Arv.other V_ti Wh7 ne_ti_nu
    have N := Fr.snoc X N g_nu
    have K := And.intro (Nat.le_trans K.1 (Nat.le_of_eq (Wr.size Wh7).symm)) trivial
    refine Go.by st ?_
    show Go p.tables e below (T.setTop (mkF m 144 #[.val (.ref a1), .val (.int i0), .val (.double y2), .second, .val (.int i2), .val (.int (0 : Int32)), .val (.int (1 : Int32))] [])) _
    refine Go.by (fun tt_ kk_ => XS.iloadN X.here hx rfl (hb hby d11_144) rfl kk_) ?_
    show Go p.tables e below (T.setTop (mkF m 145 #[.val (.ref a1), .val (.int i0), .val (.double y2), .second, .val (.int i2), .val (.int (0 : Int32)), .val (.int (1 : Int32))] [(.int i0)])) _
    exact Go.done X  (v := some (.int i0)) (fun h => by rw [Bd.returns] at h; cases h) Bd.notSynchronized (fun fs hr => retOut X hx Bd.returns rfl (by simp [Value.isRef, FieldType.isReference]) (hb hby d11_145) hr) (by rw [eT]; exact ⟨_, rfl, N, K, ⟨E_a1, g_a1, ti, nu, _, _, _, _, _, _, _, _, _, _, _, F_times_a1, F_numbers_a1, F_size_a1, V_ti, V_nu, g_ti, g_nu, ne_a1_ti, ne_a1_nu, ne_ti_nu, nn_y2, nn_y1, nn_y2, nn_y3, bc1, bc2, bs_2⟩⟩) (by decide) (by decide)
  · refine Go.by (fun tt_ kk_ => XS.ifYes X.here hx rfl (pc0 := 86) (pc' := 92) rfl (hb hby d11_86) rfl ((if0 _ _).trans (feq hc86).2) (by decide) (by decide) kk_) ?_
    show Go p.tables e below (T.setTop (mkF m 92 #[.val (.ref a1), .val (.int i0), .val (.double y2), .second, .val (.int i2), .val (.int (0 : Int32)), .val (.int (1 : Int32))] [])) _
    refine Go.by (fun tt_ kk_ => XS.aloadN X.here hx rfl (hb hby d11_92) rfl rfl kk_) ?_
    show Go p.tables e below (T.setTop (mkF m 93 #[.val (.ref a1), .val (.int i0), .val (.double y2), .second, .val (.int i2), .val (.int (0 : Int32)), .val (.int (1 : Int32))] [(.ref a1)])) _
    obtain ⟨T, X, eT, st⟩ := getF X hx hZ hown (host := "") (Or.inl (hw _ (List.mem_of_getElem? (i := 14) rfl))) Via.refl eT F_times_a1 (g := (mkF m 93 #[.val (.ref a1), .val (.int i0), .val (.double y2), .second, .val (.int i2), .val (.int (0 : Int32)), .val (.int (1 : Int32))] [(.ref a1)])) rfl rfl (hb hby d11_93)
    refine Go.by st ?_
    show Go p.tables e below (T.setTop (mkF m 96 #[.val (.ref a1), .val (.int i0), .val (.double y2), .second, .val (.int i2), .val (.int (0 : Int32)), .val (.int (1 : Int32))] [(.ref ti)])) _
    refine Go.by (fun tt_ kk_ => XS.iload X.here hx rfl (hb hby d11_96) rfl kk_) ?_
    show Go p.tables e below (T.setTop (mkF m 98 #[.val (.ref a1), .val (.int i0), .val (.double y2), .second, .val (.int i2), .val (.int (0 : Int32)), .val (.int (1 : Int32))] [(.int (0 : Int32)), (.ref ti)])) _
    refine Go.by (fun tt_ kk_ => XS.aloadN X.here hx rfl (hb hby d11_98) rfl rfl kk_) ?_
    show Go p.tables e below (T.setTop (mkF m 99 #[.val (.ref a1), .val (.int i0), .val (.double y2), .second, .val (.int i2), .val (.int (0 : Int32)), .val (.int (1 : Int32))] [(.ref a1), (.int (0 : Int32)), (.ref ti)])) _
    obtain ⟨T, X, eT, st⟩ := getF X hx hZ hown (host := "") (Or.inl (hw _ (List.mem_of_getElem? (i := 14) rfl))) Via.refl eT F_times_a1 (g := (mkF m 99 #[.val (.ref a1), .val (.int i0), .val (.double y2), .second, .val (.int i2), .val (.int (0 : Int32)), .val (.int (1 : Int32))] [(.ref a1), (.int (0 : Int32)), (.ref ti)])) rfl rfl (hb hby d11_99)
    refine Go.by st ?_
    show Go p.tables e below (T.setTop (mkF m 102 #[.val (.ref a1), .val (.int i0), .val (.double y2), .second, .val (.int i2), .val (.int (0 : Int32)), .val (.int (1 : Int32))] [(.ref ti), (.int (0 : Int32)), (.ref ti)])) _
    refine Go.by (fun tt_ kk_ => XS.iload X.here hx rfl (hb hby d11_102) rfl kk_) ?_
    show Go p.tables e below (T.setTop (mkF m 104 #[.val (.ref a1), .val (.int i0), .val (.double y2), .second, .val (.int i2), .val (.int (0 : Int32)), .val (.int (1 : Int32))] [(.int (1 : Int32)), (.ref ti), (.int (0 : Int32)), (.ref ti)])) _
    have Vo_ := V_ti
    obtain ⟨cl_, Ar_, q_, S_, N_, H_, G_⟩ := Vo_
    refine Go.by (X.daload hx (j := (1 : Int32)) (v := (.double y1)) (by rw [eT]; exact Ar_.1) (State.isArrayOf_alike hZ.alike Ar_.2.1) Ar_.2.2 (inb_of S_ ⟨by decide, hl1⟩) (Has.at H_ (inb_of S_ ⟨by decide, hl1⟩) rfl) (g := (mkF m 104 #[.val (.ref a1), .val (.int i0), .val (.double y2), .second, .val (.int i2), .val (.int (0 : Int32)), .val (.int (1 : Int32))] [(.int (1 : Int32)), (.ref ti), (.int (0 : Int32)), (.ref ti)])) rfl rfl (hb hby d11_104)) ?_
    show Go p.tables e below (T.setTop (mkF m 105 #[.val (.ref a1), .val (.int i0), .val (.double y2), .second, .val (.int i2), .val (.int (0 : Int32)), .val (.int (1 : Int32))] [(.double y1), (.int (0 : Int32)), (.ref ti)])) _
    have Vo_ := V_ti
    obtain ⟨cl_, Ar_, q_, S_, N_, H_, G_⟩ := Vo_
    obtain ⟨T, h8, X, eT, Wh8, st⟩ := stD X hx hZ eT Ar_ (j := (0 : Int32)) (inb_of S_ ⟨by decide, hl0⟩) (g := (mkF m 105 #[.val (.ref a1), .val (.int i0), .val (.double y2), .second, .val (.int i2), .val (.int (0 : Int32)), .val (.int (1 : Int32))] [(.double y1), (.int (0 : Int32)), (.ref ti)])) rfl rfl (hb hby d11_105)
    have V_ti := Arv.set Ar_ q_ S_ N_ H_ G_ rfl Wh8 0 rfl (Nat.le_of_ble_eq_true rfl)
    have E_a1 := Exa.wr Wh8 E_a1
    have F_times_a1 := Fld.other Wh8 F_times_a1 (Or.inl ne_a1_ti)
    have F_numbers_a1 := Fld.other Wh8 F_numbers_a1 (Or.inl ne_a1_ti)
    have F_size_a1 := Fld.other Wh8 F_size_a1 (Or.inl ne_a1_ti)
    have V_nu := Arv.other V_nu Wh8 ne_nu_ti
    have N := Fr.snoc X N g_ti
    have K := And.intro (Nat.le_trans K.1 (Nat.le_of_eq (Wr.size Wh8).symm)) trivial
    refine Go.by st ?_
    show Go p.tables e below (T.setTop (mkF m 106 #[.val (.ref a1), .val (.int i0), .val (.double y2), .second, .val (.int i2), .val (.int (0 : Int32)), .val (.int (1 : Int32))] [])) _
    refine Go.by (fun tt_ kk_ => XS.aloadN X.here hx rfl (hb hby d11_106) rfl rfl kk_) ?_
    show Go p.tables e below (T.setTop (mkF m 107 #[.val (.ref a1), .val (.int i0), .val (.double y2), .second, .val (.int i2), .val (.int (0 : Int32)), .val (.int (1 : Int32))] [(.ref a1)])) _
    obtain ⟨T, X, eT, st⟩ := getF X hx hZ hown (host := "") (Or.inl (hw _ (List.mem_of_getElem? (i := 17) rfl))) Via.refl eT F_numbers_a1 (g := (mkF m 107 #[.val (.ref a1), .val (.int i0), .val (.double y2), .second, .val (.int i2), .val (.int (0 : Int32)), .val (.int (1 : Int32))] [(.ref a1)])) rfl rfl (hb hby d11_107)
    refine Go.by st ?_
    show Go p.tables e below (T.setTop (mkF m 110 #[.val (.ref a1), .val (.int i0), .val (.double y2), .second, .val (.int i2), .val (.int (0 : Int32)), .val (.int (1 : Int32))] [(.ref nu)])) _
    refine Go.by (fun tt_ kk_ => XS.iload X.here hx rfl (hb hby d11_110) rfl kk_) ?_
    show Go p.tables e below (T.setTop (mkF m 112 #[.val (.ref a1), .val (.int i0), .val (.double y2), .second, .val (.int i2), .val (.int (0 : Int32)), .val (.int (1 : Int32))] [(.int (0 : Int32)), (.ref nu)])) _
    refine Go.by (fun tt_ kk_ => XS.aloadN X.here hx rfl (hb hby d11_112) rfl rfl kk_) ?_
    show Go p.tables e below (T.setTop (mkF m 113 #[.val (.ref a1), .val (.int i0), .val (.double y2), .second, .val (.int i2), .val (.int (0 : Int32)), .val (.int (1 : Int32))] [(.ref a1), (.int (0 : Int32)), (.ref nu)])) _
    obtain ⟨T, X, eT, st⟩ := getF X hx hZ hown (host := "") (Or.inl (hw _ (List.mem_of_getElem? (i := 17) rfl))) Via.refl eT F_numbers_a1 (g := (mkF m 113 #[.val (.ref a1), .val (.int i0), .val (.double y2), .second, .val (.int i2), .val (.int (0 : Int32)), .val (.int (1 : Int32))] [(.ref a1), (.int (0 : Int32)), (.ref nu)])) rfl rfl (hb hby d11_113)
    refine Go.by st ?_
    show Go p.tables e below (T.setTop (mkF m 116 #[.val (.ref a1), .val (.int i0), .val (.double y2), .second, .val (.int i2), .val (.int (0 : Int32)), .val (.int (1 : Int32))] [(.ref nu), (.int (0 : Int32)), (.ref nu)])) _
    refine Go.by (fun tt_ kk_ => XS.iload X.here hx rfl (hb hby d11_116) rfl kk_) ?_
    show Go p.tables e below (T.setTop (mkF m 118 #[.val (.ref a1), .val (.int i0), .val (.double y2), .second, .val (.int i2), .val (.int (0 : Int32)), .val (.int (1 : Int32))] [(.int (1 : Int32)), (.ref nu), (.int (0 : Int32)), (.ref nu)])) _
    have Vo_ := V_nu
    obtain ⟨cl_, Ar_, q_, S_, N_, H_, G_⟩ := Vo_
    refine Go.by (X.iaload hx (j := (1 : Int32)) (v := (.int i1)) (by rw [eT]; exact Ar_.1) (State.isArrayOf_alike hZ.alike Ar_.2.1) Ar_.2.2 (inb_of S_ ⟨by decide, hl1⟩) (Has.at H_ (inb_of S_ ⟨by decide, hl1⟩) rfl) (g := (mkF m 118 #[.val (.ref a1), .val (.int i0), .val (.double y2), .second, .val (.int i2), .val (.int (0 : Int32)), .val (.int (1 : Int32))] [(.int (1 : Int32)), (.ref nu), (.int (0 : Int32)), (.ref nu)])) rfl rfl (hb hby d11_118)) ?_
    show Go p.tables e below (T.setTop (mkF m 119 #[.val (.ref a1), .val (.int i0), .val (.double y2), .second, .val (.int i2), .val (.int (0 : Int32)), .val (.int (1 : Int32))] [(.int i1), (.int (0 : Int32)), (.ref nu)])) _
    have Vo_ := V_nu
    obtain ⟨cl_, Ar_, q_, S_, N_, H_, G_⟩ := Vo_
    obtain ⟨T, h9, X, eT, Wh9, st⟩ := stI X hx hZ eT Ar_ (j := (0 : Int32)) (inb_of S_ ⟨by decide, hl0⟩) (g := (mkF m 119 #[.val (.ref a1), .val (.int i0), .val (.double y2), .second, .val (.int i2), .val (.int (0 : Int32)), .val (.int (1 : Int32))] [(.int i1), (.int (0 : Int32)), (.ref nu)])) rfl rfl (hb hby d11_119)
    have V_nu := Arv.set Ar_ q_ S_ N_ H_ G_ rfl Wh9 0 rfl (Nat.le_of_ble_eq_true rfl)
    have E_a1 := Exa.wr Wh9 E_a1
    have F_times_a1 := Fld.other Wh9 F_times_a1 (Or.inl ne_a1_nu)
    have F_numbers_a1 := Fld.other Wh9 F_numbers_a1 (Or.inl ne_a1_nu)
    have F_size_a1 := Fld.other Wh9 F_size_a1 (Or.inl ne_a1_nu)
    have V_ti := Arv.other V_ti Wh9 ne_ti_nu
    have N := Fr.snoc X N g_nu
    have K := And.intro (Nat.le_trans K.1 (Nat.le_of_eq (Wr.size Wh9).symm)) trivial
    refine Go.by st ?_
    show Go p.tables e below (T.setTop (mkF m 120 #[.val (.ref a1), .val (.int i0), .val (.double y2), .second, .val (.int i2), .val (.int (0 : Int32)), .val (.int (1 : Int32))] [])) _
    refine Go.by (fun tt_ kk_ => XS.iload X.here hx rfl (hb hby d11_120) rfl kk_) ?_
    show Go p.tables e below (T.setTop (mkF m 122 #[.val (.ref a1), .val (.int i0), .val (.double y2), .second, .val (.int i2), .val (.int (0 : Int32)), .val (.int (1 : Int32))] [(.int (1 : Int32))])) _
    refine Go.by (fun tt_ kk_ => XS.istore X.here hx rfl (hb hby d11_122) rfl (l' := #[.val (.ref a1), .val (.int i0), .val (.double y2), .second, .val (.int i2), .val (.int (1 : Int32)), .val (.int (1 : Int32))]) rfl kk_) ?_
    show Go p.tables e below (T.setTop (mkF m 124 #[.val (.ref a1), .val (.int i0), .val (.double y2), .second, .val (.int i2), .val (.int (1 : Int32)), .val (.int (1 : Int32))] [])) _
    refine Go.by (fun tt_ kk_ => XS.goto X.here hx rfl (pc0 := 124) (pc' := 45) rfl (hb hby d11_124) (by decide) (by decide) kk_) ?_
    show Go p.tables e below (T.setTop (mkF m 45 #[.val (.ref a1), .val (.int i0), .val (.double y2), .second, .val (.int i2), .val (.int (1 : Int32)), .val (.int (1 : Int32))] [])) _
    refine Go.by (fun tt_ kk_ => XS.iload X.here hx rfl (hb hby d11_45) rfl kk_) ?_
    show Go p.tables e below (T.setTop (mkF m 47 #[.val (.ref a1), .val (.int i0), .val (.double y2), .second, .val (.int i2), .val (.int (1 : Int32)), .val (.int (1 : Int32))] [(.int (1 : Int32))])) _
    refine Go.by (fun tt_ kk_ => XS.iconst X.here hx rfl (hb hby d11_47) kk_) ?_
    show Go p.tables e below (T.setTop (mkF m 48 #[.val (.ref a1), .val (.int i0), .val (.double y2), .second, .val (.int i2), .val (.int (1 : Int32)), .val (.int (1 : Int32))] [(.int (4 : Int32)), (.int (1 : Int32))])) _
    refine Go.by (fun tt_ kk_ => XS.imul X.here hx rfl (hb hby d11_48) rfl kk_) ?_
    show Go p.tables e below (T.setTop (mkF m 49 #[.val (.ref a1), .val (.int i0), .val (.double y2), .second, .val (.int i2), .val (.int (1 : Int32)), .val (.int (1 : Int32))] [(.int (4 : Int32))])) _
    refine Go.by (fun tt_ kk_ => XS.iconst X.here hx rfl (hb hby d11_49) kk_) ?_
    show Go p.tables e below (T.setTop (mkF m 50 #[.val (.ref a1), .val (.int i0), .val (.double y2), .second, .val (.int i2), .val (.int (1 : Int32)), .val (.int (1 : Int32))] [(.int (1 : Int32)), (.int (4 : Int32))])) _
    refine Go.by (fun tt_ kk_ => XS.iadd X.here hx rfl (hb hby d11_50) rfl kk_) ?_
    show Go p.tables e below (T.setTop (mkF m 51 #[.val (.ref a1), .val (.int i0), .val (.double y2), .second, .val (.int i2), .val (.int (1 : Int32)), .val (.int (1 : Int32))] [(.int (5 : Int32))])) _
    refine Go.by (fun tt_ kk_ => XS.aloadN X.here hx rfl (hb hby d11_51) rfl rfl kk_) ?_
    show Go p.tables e below (T.setTop (mkF m 52 #[.val (.ref a1), .val (.int i0), .val (.double y2), .second, .val (.int i2), .val (.int (1 : Int32)), .val (.int (1 : Int32))] [(.ref a1), (.int (5 : Int32))])) _
    obtain ⟨T, X, eT, st⟩ := getF X hx hZ hown (host := "") (Or.inl (hw _ (List.mem_of_getElem? (i := 24) rfl))) Via.refl eT F_size_a1 (g := (mkF m 52 #[.val (.ref a1), .val (.int i0), .val (.double y2), .second, .val (.int i2), .val (.int (1 : Int32)), .val (.int (1 : Int32))] [(.ref a1), (.int (5 : Int32))])) rfl rfl (hb hby d11_52)
    refine Go.by st ?_
    show Go p.tables e below (T.setTop (mkF m 55 #[.val (.ref a1), .val (.int i0), .val (.double y2), .second, .val (.int i2), .val (.int (1 : Int32)), .val (.int (1 : Int32))] [(.int (2 : Int32)), (.int (5 : Int32))])) _
    refine Go.by (fun tt_ kk_ => XS.icmpYes X.here hx rfl (pc0 := 55) (pc' := 127) rfl (hb hby d11_55) rfl (flt (by decide : ¬ ((5 : Int32) < (2 : Int32)))).2.1 (by decide) (by decide) kk_) ?_
    show Go p.tables e below (T.setTop (mkF m 127 #[.val (.ref a1), .val (.int i0), .val (.double y2), .second, .val (.int i2), .val (.int (1 : Int32)), .val (.int (1 : Int32))] [])) _
    refine Go.by (fun tt_ kk_ => XS.aloadN X.here hx rfl (hb hby d11_127) rfl rfl kk_) ?_
    show Go p.tables e below (T.setTop (mkF m 128 #[.val (.ref a1), .val (.int i0), .val (.double y2), .second, .val (.int i2), .val (.int (1 : Int32)), .val (.int (1 : Int32))] [(.ref a1)])) _
    obtain ⟨T, X, eT, st⟩ := getF X hx hZ hown (host := "") (Or.inl (hw _ (List.mem_of_getElem? (i := 14) rfl))) Via.refl eT F_times_a1 (g := (mkF m 128 #[.val (.ref a1), .val (.int i0), .val (.double y2), .second, .val (.int i2), .val (.int (1 : Int32)), .val (.int (1 : Int32))] [(.ref a1)])) rfl rfl (hb hby d11_128)
    refine Go.by st ?_
    show Go p.tables e below (T.setTop (mkF m 131 #[.val (.ref a1), .val (.int i0), .val (.double y2), .second, .val (.int i2), .val (.int (1 : Int32)), .val (.int (1 : Int32))] [(.ref ti)])) _
    refine Go.by (fun tt_ kk_ => XS.iload X.here hx rfl (hb hby d11_131) rfl kk_) ?_
    show Go p.tables e below (T.setTop (mkF m 133 #[.val (.ref a1), .val (.int i0), .val (.double y2), .second, .val (.int i2), .val (.int (1 : Int32)), .val (.int (1 : Int32))] [(.int (1 : Int32)), (.ref ti)])) _
    refine Go.by (fun tt_ kk_ => XS.dloadN X.here hx rfl (hb hby d11_133) rfl kk_) ?_
    show Go p.tables e below (T.setTop (mkF m 134 #[.val (.ref a1), .val (.int i0), .val (.double y2), .second, .val (.int i2), .val (.int (1 : Int32)), .val (.int (1 : Int32))] [(.double y2), (.int (1 : Int32)), (.ref ti)])) _
    have Vo_ := V_ti
    obtain ⟨cl_, Ar_, q_, S_, N_, H_, G_⟩ := Vo_
    obtain ⟨T, h10, X, eT, Wh10, st⟩ := stD X hx hZ eT Ar_ (j := (1 : Int32)) (inb_of S_ ⟨by decide, hl1⟩) (g := (mkF m 134 #[.val (.ref a1), .val (.int i0), .val (.double y2), .second, .val (.int i2), .val (.int (1 : Int32)), .val (.int (1 : Int32))] [(.double y2), (.int (1 : Int32)), (.ref ti)])) rfl rfl (hb hby d11_134)
    have V_ti := Arv.set Ar_ q_ S_ N_ H_ G_ rfl Wh10 1 rfl (Nat.le_of_ble_eq_true rfl)
    have E_a1 := Exa.wr Wh10 E_a1
    have F_times_a1 := Fld.other Wh10 F_times_a1 (Or.inl ne_a1_ti)
    have F_numbers_a1 := Fld.other Wh10 F_numbers_a1 (Or.inl ne_a1_ti)
    have F_size_a1 := Fld.other Wh10 F_size_a1 (Or.inl ne_a1_ti)
    have V_nu := Arv.other V_nu Wh10 ne_nu_ti
    have N := Fr.snoc X N g_ti
    have K := And.intro (Nat.le_trans K.1 (Nat.le_of_eq (Wr.size Wh10).symm)) trivial
    refine Go.by st ?_
    show Go p.tables e below (T.setTop (mkF m 135 #[.val (.ref a1), .val (.int i0), .val (.double y2), .second, .val (.int i2), .val (.int (1 : Int32)), .val (.int (1 : Int32))] [])) _
    refine Go.by (fun tt_ kk_ => XS.aloadN X.here hx rfl (hb hby d11_135) rfl rfl kk_) ?_
    show Go p.tables e below (T.setTop (mkF m 136 #[.val (.ref a1), .val (.int i0), .val (.double y2), .second, .val (.int i2), .val (.int (1 : Int32)), .val (.int (1 : Int32))] [(.ref a1)])) _
    obtain ⟨T, X, eT, st⟩ := getF X hx hZ hown (host := "") (Or.inl (hw _ (List.mem_of_getElem? (i := 17) rfl))) Via.refl eT F_numbers_a1 (g := (mkF m 136 #[.val (.ref a1), .val (.int i0), .val (.double y2), .second, .val (.int i2), .val (.int (1 : Int32)), .val (.int (1 : Int32))] [(.ref a1)])) rfl rfl (hb hby d11_136)
    refine Go.by st ?_
    show Go p.tables e below (T.setTop (mkF m 139 #[.val (.ref a1), .val (.int i0), .val (.double y2), .second, .val (.int i2), .val (.int (1 : Int32)), .val (.int (1 : Int32))] [(.ref nu)])) _
    refine Go.by (fun tt_ kk_ => XS.iload X.here hx rfl (hb hby d11_139) rfl kk_) ?_
    show Go p.tables e below (T.setTop (mkF m 141 #[.val (.ref a1), .val (.int i0), .val (.double y2), .second, .val (.int i2), .val (.int (1 : Int32)), .val (.int (1 : Int32))] [(.int (1 : Int32)), (.ref nu)])) _
    refine Go.by (fun tt_ kk_ => XS.iload X.here hx rfl (hb hby d11_141) rfl kk_) ?_
    show Go p.tables e below (T.setTop (mkF m 143 #[.val (.ref a1), .val (.int i0), .val (.double y2), .second, .val (.int i2), .val (.int (1 : Int32)), .val (.int (1 : Int32))] [(.int i2), (.int (1 : Int32)), (.ref nu)])) _
    have Vo_ := V_nu
    obtain ⟨cl_, Ar_, q_, S_, N_, H_, G_⟩ := Vo_
    obtain ⟨T, h11, X, eT, Wh11, st⟩ := stI X hx hZ eT Ar_ (j := (1 : Int32)) (inb_of S_ ⟨by decide, hl1⟩) (g := (mkF m 143 #[.val (.ref a1), .val (.int i0), .val (.double y2), .second, .val (.int i2), .val (.int (1 : Int32)), .val (.int (1 : Int32))] [(.int i2), (.int (1 : Int32)), (.ref nu)])) rfl rfl (hb hby d11_143)
    have V_nu := Arv.set Ar_ q_ S_ N_ H_ G_ rfl Wh11 1 rfl (Nat.le_of_ble_eq_true rfl)
    have E_a1 := Exa.wr Wh11 E_a1
    have F_times_a1 := Fld.other Wh11 F_times_a1 (Or.inl ne_a1_nu)
    have F_numbers_a1 := Fld.other Wh11 F_numbers_a1 (Or.inl ne_a1_nu)
    have F_size_a1 := Fld.other Wh11 F_size_a1 (Or.inl ne_a1_nu)
    have V_ti := Arv.other V_ti Wh11 ne_ti_nu
    have N := Fr.snoc X N g_nu
    have K := And.intro (Nat.le_trans K.1 (Nat.le_of_eq (Wr.size Wh11).symm)) trivial
    refine Go.by st ?_
    show Go p.tables e below (T.setTop (mkF m 144 #[.val (.ref a1), .val (.int i0), .val (.double y2), .second, .val (.int i2), .val (.int (1 : Int32)), .val (.int (1 : Int32))] [])) _
    refine Go.by (fun tt_ kk_ => XS.iloadN X.here hx rfl (hb hby d11_144) rfl kk_) ?_
    show Go p.tables e below (T.setTop (mkF m 145 #[.val (.ref a1), .val (.int i0), .val (.double y2), .second, .val (.int i2), .val (.int (1 : Int32)), .val (.int (1 : Int32))] [(.int i0)])) _
    exact Go.done X  (v := some (.int i0)) (fun h => by rw [Bd.returns] at h; cases h) Bd.notSynchronized (fun fs hr => retOut X hx Bd.returns rfl (by simp [Value.isRef, FieldType.isReference]) (hb hby d11_145) hr) (by rw [eT]; exact ⟨_, rfl, N, K, ⟨E_a1, g_a1, ti, nu, _, _, _, _, _, _, _, _, _, _, _, F_times_a1, F_numbers_a1, F_size_a1, V_ti, V_nu, g_ti, g_nu, ne_a1_ti, ne_a1_nu, ne_ti_nu, nn_y1, nn_y2, nn_y2, nn_y3, bc1, bc2, bs_2⟩⟩) (by decide) (by decide)
theorem pn_3 : plainName "com/example/mode_choice_loop/modechoiceloop/simulation/TimeHeapIsEmptyPinLaw" = true := by first | (simp [plainName, overriddenIn]; done) | decide +kernel
theorem pd_9 : parseMethodDescriptor "(I)V" = some ⟨[.int], none⟩ := by decide +kernel
theorem pd_10 : parseMethodDescriptor "()Z" = some ⟨[], some .boolean⟩ := by decide +kernel
theorem pd_11 : parseMethodDescriptor "(ID)Z" = some ⟨[.int, .double], some .boolean⟩ := by decide +kernel
theorem pd_12 : parseMethodDescriptor "()I" = some ⟨[], some .int⟩ := by decide +kernel
theorem ef_0 (m : MethodId) (x0 : Int32) (x1 : Int32) (x2 : Int32) (x3 : Int32) (x4 : Int32) (x5 : Int32) : entryFrame m #[(.int x0), (.int x1), (.int x2), (.int x3), (.int x4), (.int x5)] maxLocals = mkF m 0 #[.val (.int x0), .val (.int x1), .val (.int x2), .val (.int x3), .val (.int x4), .val (.int x5), .unset, .unset, .unset, .unset, .unset, .unset] [] := by first | (simp [entryFrame, mkF, argsToLocals, Value.category, maxLocals]; done) | rfl
def Q0 (Z : State) (p0 : Int32) (p1 : Int32) (p2 : Int32) (p3 : Int32) (p4 : Int32) (p5 : Int32)  (h0 : Heap) (n0 : Nat) (v : Option Value) (h : Heap) (L : List Loc) : Prop := v = some (.int 1) ∧ Fr n0 L
set_option maxRecDepth 65536 in
set_option maxHeartbeats 40000000 in
theorem rm0 (l : Launch) (Z : State) (a0 : Array Value) (hw : ∀ d ∈ tables_1, d.before a0 Z = true) (ws : List Jvm.Cond) (p0 : Int32) (p1 : Int32) (p2 : Int32) (p3 : Int32) (p4 : Int32) (p5 : Int32)  (h0 : Heap) (n0 : Nat) (Z0 : n0 ≤ h0.size)  :
    MetFree l x (head1 (Jvm.Cond.code x code maxLocals ret :: ws) room_1) (fun a U => a = #[(.int p0), (.int p1), (.int p2), (.int p3), (.int p4), (.int p5)] ∧ Z.Warmed39 U.vm ∧ U.heap = h0) (fun _ _ _ _ _ => True) (fun _ U o U' => ∃ v L, o = .returned v ∧ Q0 Z p0 p1 p2 p3 p4 p5 h0 n0 v U'.heap L ∧ FrameEnd U o U' L 24 128) := by
  refine MetFree.of_bodySF (plainFor_of_name pn_3) hisR ?_
  intro p e s m args below meth c s₁ Bd hml0 hP hK
  obtain ⟨rfl, hZ, hh⟩ := hP
  have hx := Bd.exec
  have hby := Bd.bytes
  have hml : c.maxLocals = 12 := hml0
  have hown : s.vm.findClass "com/example/mode_choice_loop/modechoiceloop/simulation/TimeHeapIsEmptyPinLaw" = some m.cls := findClass_of_methodNamed Bd.named
  have hnm := (name_of_methodNamed Bd.named Bd.method).1
  have X : Stand p l e room_1 s m #[(.int p0), (.int p1), (.int p2), (.int p3), (.int p4), (.int p5)] below meth c s₁ [] 0 0 := Stand.of_body Bd
  have eT : s₁.heap = h0 := by rw [← hh, Bd.state]; rfl
  have N := Fr.nil n0
  have K : h0.size ≤ h0.size ∧ True := ⟨Nat.le_refl _, trivial⟩
  refine Go.out ?_
  obtain ⟨T, eTT⟩ : ∃ z, z = s₁ := ⟨_, rfl⟩
  rw [← eTT] at X eT ⊢
  refine Go.by (fun tt_ kk_ => castTop (ef_0 m p0 p1 p2 p3 p4 p5) kk_) ?_
  show Go p.tables e below (T.setTop (mkF m 0 #[.val (.int p0), .val (.int p1), .val (.int p2), .val (.int p3), .val (.int p4), .val (.int p5), .unset, .unset, .unset, .unset, .unset, .unset] [])) _
  obtain ⟨T, h1, X, eT, E_, A_, D_, -, st⟩ := newO X hx hZ hown (hw _ (List.mem_of_getElem? (i := 0) rfl)) (hw _ (List.mem_of_getElem? (i := 1) rfl)) (hw _ (List.mem_of_getElem? (i := 2) rfl)) eT (g := (mkF m 0 #[.val (.int p0), .val (.int p1), .val (.int p2), .val (.int p3), .val (.int p4), .val (.int p5), .unset, .unset, .unset, .unset, .unset, .unset] [])) rfl (hb hby at_0) (by decide) (by decide)
  obtain ⟨b1, g_b1'⟩ : ∃ z, z = h0.size := ⟨_, rfl⟩
  rw [← g_b1'] at A_ D_ st
  have g_b1 : n0 ≤ b1 := Nat.le_trans Z0 (Nat.le_trans K.1 (Nat.le_of_eq g_b1'.symm))
  have sz_b1 : h0.size ≤ b1 := Nat.le_trans K.1 (Nat.le_of_eq g_b1'.symm)
  have K := And.intro (Nat.le_trans K.1 E_.1) trivial
  have E_b1 := A_
  have F_times_b1 : Fld Z h1 b1 "com/example/mode_choice_loop/modechoiceloop/simulation/TimeHeap" "times" "[D" .null := D_ (Or.inl (hw _ (List.mem_of_getElem? (i := 15) rfl))) (ty := (.array .double)) (by decide)
  have F_numbers_b1 : Fld Z h1 b1 "com/example/mode_choice_loop/modechoiceloop/simulation/TimeHeap" "numbers" "[I" .null := D_ (Or.inl (hw _ (List.mem_of_getElem? (i := 18) rfl))) (ty := (.array .int)) (by decide)
  have F_size_b1 : Fld Z h1 b1 "com/example/mode_choice_loop/modechoiceloop/simulation/TimeHeap" "size" "I" (.int (0 : Int32)) := D_ (Or.inl (hw _ (List.mem_of_getElem? (i := 25) rfl))) (ty := .int) (by decide)
  refine Go.by st ?_
  show Go p.tables e below (T.setTop (mkF m 3 #[.val (.int p0), .val (.int p1), .val (.int p2), .val (.int p3), .val (.int p4), .val (.int p5), .unset, .unset, .unset, .unset, .unset, .unset] [(.ref b1)])) _
  refine Go.by (fun tt_ kk_ => XS.dup X.here hx rfl (hb hby at_3) rfl rfl kk_) ?_
  show Go p.tables e below (T.setTop (mkF m 4 #[.val (.int p0), .val (.int p1), .val (.int p2), .val (.int p3), .val (.int p4), .val (.int p5), .unset, .unset, .unset, .unset, .unset, .unset] [(.ref b1), (.ref b1)])) _
  refine Go.by (fun tt_ kk_ => XS.iloadN X.here hx rfl (hb hby at_4) rfl kk_) ?_
  show Go p.tables e below (T.setTop (mkF m 5 #[.val (.int p0), .val (.int p1), .val (.int p2), .val (.int p3), .val (.int p4), .val (.int p5), .unset, .unset, .unset, .unset, .unset, .unset] [(.int p0), (.ref b1), (.ref b1)])) _
  refine Go.by (fun tt_ kk_ => XS.bipush X.here hx rfl (hb hby at_5) kk_) ?_
  show Go p.tables e below (T.setTop (mkF m 7 #[.val (.int p0), .val (.int p1), .val (.int p2), .val (.int p3), .val (.int p4), .val (.int p5), .unset, .unset, .unset, .unset, .unset, .unset] [(.int (7 : Int32)), (.int p0), (.ref b1), (.ref b1)])) _
  refine Go.by (fun tt_ kk_ => XS.iand X.here hx rfl (hb hby at_7) rfl kk_) ?_
  show Go p.tables e below (T.setTop (mkF m 8 #[.val (.int p0), .val (.int p1), .val (.int p2), .val (.int p3), .val (.int p4), .val (.int p5), .unset, .unset, .unset, .unset, .unset, .unset] [(.int (p0 &&& (7 : Int32))), (.ref b1), (.ref b1)])) _
  refine Go.by (fun tt_ kk_ => XS.iconst X.here hx rfl (hb hby at_8) kk_) ?_
  show Go p.tables e below (T.setTop (mkF m 9 #[.val (.int p0), .val (.int p1), .val (.int p2), .val (.int p3), .val (.int p4), .val (.int p5), .unset, .unset, .unset, .unset, .unset, .unset] [(.int (4 : Int32)), (.int (p0 &&& (7 : Int32))), (.ref b1), (.ref b1)])) _
  refine Go.by (fun tt_ kk_ => XS.isub X.here hx rfl (hb hby at_9) rfl kk_) ?_
  show Go p.tables e below (T.setTop (mkF m 10 #[.val (.int p0), .val (.int p1), .val (.int p2), .val (.int p3), .val (.int p4), .val (.int p5), .unset, .unset, .unset, .unset, .unset, .unset] [(.int ((p0 &&& (7 : Int32)) - (4 : Int32))), (.ref b1), (.ref b1)])) _
  have hp : ((p0 &&& (7 : Int32)) - (4 : Int32)).toInt ≤ 4 := by
    have q := own_and (x := p0) (k := 7) (K := 7) (by decide) (by decide)
    have h4 : (4 : Int32).toInt = 4 := by decide
    rw [own_sub32 (by rw [h4]; omega) (by rw [h4]; omega), h4]; omega
  obtain ⟨_, _, ⟨T, L_, k_, n_⟩, -, X, ⟨Lc_, hQ, l_, y_, z_⟩, st⟩ := X.specialBack hx (y := (⟨"com/example/mode_choice_loop/modechoiceloop/simulation/TimeHeap", "<init>", "(I)V"⟩ : MethodName)) rfl hown (mvT hZ (hw _ (List.mem_of_getElem? (i := 3) rfl))) (mvT hZ (hw _ (List.mem_of_getElem? (i := 4) rfl))) (mvT hZ (hw _ (List.mem_of_getElem? (i := 5) rfl))) (by decide) (backOf (W := 1) (rm1 l Z a0 hw [] b1 ((p0 &&& (7 : Int32)) - (4 : Int32)) h1 n0 (Nat.le_trans Z0 K.1) E_b1 g_b1 F_times_b1 F_numbers_b1 F_size_b1 hp) hZ (hw _ (List.mem_of_getElem? (i := 5) rfl)) (hw _ (List.mem_of_getElem? (i := 2) rfl)) (by decide) (by decide)) (g := (mkF m 10 #[.val (.int p0), .val (.int p1), .val (.int p2), .val (.int p3), .val (.int p4), .val (.int p5), .unset, .unset, .unset, .unset, .unset, .unset] [(.int ((p0 &&& (7 : Int32)) - (4 : Int32))), (.ref b1), (.ref b1)])) rfl (by rw [hml]; rfl) (Steps.refl _) (a := b1) (argsL := [(.int ((p0 &&& (7 : Int32)) - (4 : Int32)))]) (rest := [(.ref b1)]) (lenOf pd_9 rfl) rfl (by show 2 * 0 + _ ≤ _; exact Nat.le_of_eq rfl) (hb hby at_10) (fun _ _ => ⟨rfl, eT, (by decide : 1 + 2 ≤ _), (by decide : 3 + 8 ≤ _)⟩)
  dsimp only [Pt.U, Pt.locs, Pt.cells, Pt.slots] at X l_ y_ z_ st hQ
  subst l_ y_ z_
  obtain ⟨h2, eT⟩ : ∃ z, T.heap = z := ⟨_, rfl⟩
  rw [eT] at hQ
  obtain ⟨rfl, Nq, Kq, TH⟩ := hQ
  have N := Fr.app N Nq
  have K := And.intro (Nat.le_trans K.1 Kq.1) trivial
  have E_b1 := TH.1
  refine Go.tr st ?_
  show Go p.tables e below (T.setTop (mkF m 13 #[.val (.int p0), .val (.int p1), .val (.int p2), .val (.int p3), .val (.int p4), .val (.int p5), .unset, .unset, .unset, .unset, .unset, .unset] [(.ref b1)])) _
  refine Go.by (fun tt_ kk_ => XS.astore X.here hx rfl (hb hby at_13) rfl rfl (l' := #[.val (.int p0), .val (.int p1), .val (.int p2), .val (.int p3), .val (.int p4), .val (.int p5), .val (.ref b1), .unset, .unset, .unset, .unset, .unset]) rfl kk_) ?_
  show Go p.tables e below (T.setTop (mkF m 15 #[.val (.int p0), .val (.int p1), .val (.int p2), .val (.int p3), .val (.int p4), .val (.int p5), .val (.ref b1), .unset, .unset, .unset, .unset, .unset] [])) _
  refine Go.by (fun tt_ kk_ => XS.aload X.here hx rfl (hb hby at_15) rfl rfl kk_) ?_
  show Go p.tables e below (T.setTop (mkF m 17 #[.val (.int p0), .val (.int p1), .val (.int p2), .val (.int p3), .val (.int p4), .val (.int p5), .val (.ref b1), .unset, .unset, .unset, .unset, .unset] [(.ref b1)])) _
  have hz : (if (0 : Int32) = 0 then (1 : Int32) else 0) = (1 : Int32) := by decide
  obtain ⟨cq_, kq_, qa_, qb_, qc_⟩ := isOf hZ eT E_b1
  obtain ⟨_, _, ⟨T, L_, k_, n_⟩, -, X, ⟨Lc_, hQ, l_, y_, z_⟩, st⟩ := X.virtualBack hx (y := (⟨"com/example/mode_choice_loop/modechoiceloop/simulation/TimeHeap", "isEmpty", "()Z"⟩ : MethodName)) (z := (⟨"com/example/mode_choice_loop/modechoiceloop/simulation/TimeHeap", "isEmpty", "()Z"⟩ : MethodName)) hown (mvT hZ (hw _ (List.mem_of_getElem? (i := 19) rfl))) (mvT hZ (hw _ (List.mem_of_getElem? (i := 20) rfl))) (notFace_of_selects (args := #[]) (mvT hZ (hw _ (List.mem_of_getElem? (i := 22) rfl)))) (mvT hZ (hw _ (List.mem_of_getElem? (i := 22) rfl))) (mvT hZ (hw _ (List.mem_of_getElem? (i := 21) rfl))) (by decide) (backOf (W := 0) (rm4 l Z a0 hw [] b1 (0 : Int32) h2 n0 (Nat.le_trans Z0 K.1) TH) hZ (hw _ (List.mem_of_getElem? (i := 23) rfl)) (hw _ (List.mem_of_getElem? (i := 2) rfl)) (by decide) (by decide)) qa_ qc_ (g := (mkF m 17 #[.val (.int p0), .val (.int p1), .val (.int p2), .val (.int p3), .val (.int p4), .val (.int p5), .val (.ref b1), .unset, .unset, .unset, .unset, .unset] [(.ref b1)])) rfl (by rw [hml]; rfl) (Steps.refl _) (argsL := []) (rest := []) (lenOf pd_10 rfl) rfl (by show 2 * 0 + _ ≤ _; exact Nat.le_of_eq rfl) (hb hby at_17) (fun _ _ => ⟨rfl, eT, (by decide : 3 + 0 ≤ _), (by decide : 11 + 0 ≤ _)⟩)
  dsimp only [Pt.U, Pt.locs, Pt.cells, Pt.slots] at X l_ y_ z_ st hQ
  subst l_ y_ z_
  obtain ⟨e_v, Nq, eh⟩ := hQ
  rw [hz] at e_v
  subst e_v
  have N := Fr.app N Nq
  have eT := eh
  refine Go.tr st ?_
  show Go p.tables e below (T.setTop (mkF m 20 #[.val (.int p0), .val (.int p1), .val (.int p2), .val (.int p3), .val (.int p4), .val (.int p5), .val (.ref b1), .unset, .unset, .unset, .unset, .unset] [(.int (1 : Int32))])) _
  refine Go.by (fun tt_ kk_ => XS.istore X.here hx rfl (hb hby at_20) rfl (l' := #[.val (.int p0), .val (.int p1), .val (.int p2), .val (.int p3), .val (.int p4), .val (.int p5), .val (.ref b1), .val (.int (1 : Int32)), .unset, .unset, .unset, .unset]) rfl kk_) ?_
  show Go p.tables e below (T.setTop (mkF m 22 #[.val (.int p0), .val (.int p1), .val (.int p2), .val (.int p3), .val (.int p4), .val (.int p5), .val (.ref b1), .val (.int (1 : Int32)), .unset, .unset, .unset, .unset] [])) _
  refine Go.by (fun tt_ kk_ => XS.iloadN X.here hx rfl (hb hby at_22) rfl kk_) ?_
  show Go p.tables e below (T.setTop (mkF m 23 #[.val (.int p0), .val (.int p1), .val (.int p2), .val (.int p3), .val (.int p4), .val (.int p5), .val (.ref b1), .val (.int (1 : Int32)), .unset, .unset, .unset, .unset] [(.int p1)])) _
  refine Go.by (fun tt_ kk_ => XS.iconst X.here hx rfl (hb hby at_23) kk_) ?_
  show Go p.tables e below (T.setTop (mkF m 24 #[.val (.int p0), .val (.int p1), .val (.int p2), .val (.int p3), .val (.int p4), .val (.int p5), .val (.ref b1), .val (.int (1 : Int32)), .unset, .unset, .unset, .unset] [(.int (3 : Int32)), (.int p1)])) _
  refine Go.by (fun tt_ kk_ => XS.iand X.here hx rfl (hb hby at_24) rfl kk_) ?_
  show Go p.tables e below (T.setTop (mkF m 25 #[.val (.int p0), .val (.int p1), .val (.int p2), .val (.int p3), .val (.int p4), .val (.int p5), .val (.ref b1), .val (.int (1 : Int32)), .unset, .unset, .unset, .unset] [(.int (p1 &&& (3 : Int32)))])) _
  have hcs := own_and3 p1
  rcases hcs with hcs | hcs | hcs | hcs
  · rw [hcs]
    show Go p.tables e below (T.setTop (mkF m 25 #[.val (.int p0), .val (.int p1), .val (.int p2), .val (.int p3), .val (.int p4), .val (.int p5), .val (.ref b1), .val (.int (1 : Int32)), .unset, .unset, .unset, .unset] [(.int (0 : Int32))])) _
    refine Go.by (fun tt_ kk_ => XS.istore X.here hx rfl (hb hby at_25) rfl (l' := #[.val (.int p0), .val (.int p1), .val (.int p2), .val (.int p3), .val (.int p4), .val (.int p5), .val (.ref b1), .val (.int (1 : Int32)), .val (.int (0 : Int32)), .unset, .unset, .unset]) rfl kk_) ?_
    show Go p.tables e below (T.setTop (mkF m 27 #[.val (.int p0), .val (.int p1), .val (.int p2), .val (.int p3), .val (.int p4), .val (.int p5), .val (.ref b1), .val (.int (1 : Int32)), .val (.int (0 : Int32)), .unset, .unset, .unset] [])) _
    refine Go.by (fun tt_ kk_ => XS.iload X.here hx rfl (hb hby at_27) rfl kk_) ?_
    show Go p.tables e below (T.setTop (mkF m 29 #[.val (.int p0), .val (.int p1), .val (.int p2), .val (.int p3), .val (.int p4), .val (.int p5), .val (.ref b1), .val (.int (1 : Int32)), .val (.int (0 : Int32)), .unset, .unset, .unset] [(.int (0 : Int32))])) _
    refine Go.by (fun tt_ kk_ => XS.iconst X.here hx rfl (hb hby at_29) kk_) ?_
    show Go p.tables e below (T.setTop (mkF m 30 #[.val (.int p0), .val (.int p1), .val (.int p2), .val (.int p3), .val (.int p4), .val (.int p5), .val (.ref b1), .val (.int (1 : Int32)), .val (.int (0 : Int32)), .unset, .unset, .unset] [(.int (1 : Int32)), (.int (0 : Int32))])) _
    refine Go.by (fun tt_ kk_ => XS.icmpYes X.here hx rfl (pc0 := 30) (pc' := 45) rfl (hb hby at_30) rfl (tlt (by decide : (0 : Int32) < (1 : Int32))).1 (by decide) (by decide) kk_) ?_
    show Go p.tables e below (T.setTop (mkF m 45 #[.val (.int p0), .val (.int p1), .val (.int p2), .val (.int p3), .val (.int p4), .val (.int p5), .val (.ref b1), .val (.int (1 : Int32)), .val (.int (0 : Int32)), .unset, .unset, .unset] [])) _
    refine Go.by (fun tt_ kk_ => XS.iload X.here hx rfl (hb hby at_45) rfl kk_) ?_
    show Go p.tables e below (T.setTop (mkF m 47 #[.val (.int p0), .val (.int p1), .val (.int p2), .val (.int p3), .val (.int p4), .val (.int p5), .val (.ref b1), .val (.int (1 : Int32)), .val (.int (0 : Int32)), .unset, .unset, .unset] [(.int (0 : Int32))])) _
    refine Go.by (fun tt_ kk_ => XS.iconst X.here hx rfl (hb hby at_47) kk_) ?_
    show Go p.tables e below (T.setTop (mkF m 48 #[.val (.int p0), .val (.int p1), .val (.int p2), .val (.int p3), .val (.int p4), .val (.int p5), .val (.ref b1), .val (.int (1 : Int32)), .val (.int (0 : Int32)), .unset, .unset, .unset] [(.int (2 : Int32)), (.int (0 : Int32))])) _
    refine Go.by (fun tt_ kk_ => XS.icmpYes X.here hx rfl (pc0 := 48) (pc' := 65) rfl (hb hby at_48) rfl (tlt (by decide : (0 : Int32) < (2 : Int32))).1 (by decide) (by decide) kk_) ?_
    show Go p.tables e below (T.setTop (mkF m 65 #[.val (.int p0), .val (.int p1), .val (.int p2), .val (.int p3), .val (.int p4), .val (.int p5), .val (.ref b1), .val (.int (1 : Int32)), .val (.int (0 : Int32)), .unset, .unset, .unset] [])) _
    refine Go.by (fun tt_ kk_ => XS.iload X.here hx rfl (hb hby at_65) rfl kk_) ?_
    show Go p.tables e below (T.setTop (mkF m 67 #[.val (.int p0), .val (.int p1), .val (.int p2), .val (.int p3), .val (.int p4), .val (.int p5), .val (.ref b1), .val (.int (1 : Int32)), .val (.int (0 : Int32)), .unset, .unset, .unset] [(.int (0 : Int32))])) _
    refine Go.by (fun tt_ kk_ => XS.iconst X.here hx rfl (hb hby at_67) kk_) ?_
    show Go p.tables e below (T.setTop (mkF m 68 #[.val (.int p0), .val (.int p1), .val (.int p2), .val (.int p3), .val (.int p4), .val (.int p5), .val (.ref b1), .val (.int (1 : Int32)), .val (.int (0 : Int32)), .unset, .unset, .unset] [(.int (3 : Int32)), (.int (0 : Int32))])) _
    refine Go.by (fun tt_ kk_ => XS.icmpYes X.here hx rfl (pc0 := 68) (pc' := 85) rfl (hb hby at_68) rfl (tlt (by decide : (0 : Int32) < (3 : Int32))).1 (by decide) (by decide) kk_) ?_
    show Go p.tables e below (T.setTop (mkF m 85 #[.val (.int p0), .val (.int p1), .val (.int p2), .val (.int p3), .val (.int p4), .val (.int p5), .val (.ref b1), .val (.int (1 : Int32)), .val (.int (0 : Int32)), .unset, .unset, .unset] [])) _
    refine Go.by (fun tt_ kk_ => XS.aload X.here hx rfl (hb hby at_85) rfl rfl kk_) ?_
    show Go p.tables e below (T.setTop (mkF m 87 #[.val (.int p0), .val (.int p1), .val (.int p2), .val (.int p3), .val (.int p4), .val (.int p5), .val (.ref b1), .val (.int (1 : Int32)), .val (.int (0 : Int32)), .unset, .unset, .unset] [(.ref b1)])) _
    have hz : (if (0 : Int32) = 0 then (1 : Int32) else 0) = (1 : Int32) := by decide
    obtain ⟨cq_, kq_, qa_, qb_, qc_⟩ := isOf hZ eT E_b1
    obtain ⟨_, _, ⟨T, L_, k_, n_⟩, -, X, ⟨Lc_, hQ, l_, y_, z_⟩, st⟩ := X.virtualBack hx (y := (⟨"com/example/mode_choice_loop/modechoiceloop/simulation/TimeHeap", "isEmpty", "()Z"⟩ : MethodName)) (z := (⟨"com/example/mode_choice_loop/modechoiceloop/simulation/TimeHeap", "isEmpty", "()Z"⟩ : MethodName)) hown (mvT hZ (hw _ (List.mem_of_getElem? (i := 19) rfl))) (mvT hZ (hw _ (List.mem_of_getElem? (i := 20) rfl))) (notFace_of_selects (args := #[]) (mvT hZ (hw _ (List.mem_of_getElem? (i := 22) rfl)))) (mvT hZ (hw _ (List.mem_of_getElem? (i := 22) rfl))) (mvT hZ (hw _ (List.mem_of_getElem? (i := 21) rfl))) (by decide) (backOf (W := 0) (rm4 l Z a0 hw [] b1 (0 : Int32) h2 n0 (Nat.le_trans Z0 K.1) TH) hZ (hw _ (List.mem_of_getElem? (i := 23) rfl)) (hw _ (List.mem_of_getElem? (i := 2) rfl)) (by decide) (by decide)) qa_ qc_ (g := (mkF m 87 #[.val (.int p0), .val (.int p1), .val (.int p2), .val (.int p3), .val (.int p4), .val (.int p5), .val (.ref b1), .val (.int (1 : Int32)), .val (.int (0 : Int32)), .unset, .unset, .unset] [(.ref b1)])) rfl (by rw [hml]; rfl) (Steps.refl _) (argsL := []) (rest := []) (lenOf pd_10 rfl) rfl (by show 2 * 0 + _ ≤ _; exact Nat.le_of_eq rfl) (hb hby at_87) (fun _ _ => ⟨rfl, eT, (by decide : 3 + 0 ≤ _), (by decide : 11 + 0 ≤ _)⟩)
    dsimp only [Pt.U, Pt.locs, Pt.cells, Pt.slots] at X l_ y_ z_ st hQ
    subst l_ y_ z_
    obtain ⟨e_v, Nq, eh⟩ := hQ
    rw [hz] at e_v
    subst e_v
    have N := Fr.app N Nq
    have eT := eh
    refine Go.tr st ?_
    show Go p.tables e below (T.setTop (mkF m 90 #[.val (.int p0), .val (.int p1), .val (.int p2), .val (.int p3), .val (.int p4), .val (.int p5), .val (.ref b1), .val (.int (1 : Int32)), .val (.int (0 : Int32)), .unset, .unset, .unset] [(.int (1 : Int32))])) _
    refine Go.by (fun tt_ kk_ => XS.istore X.here hx rfl (hb hby at_90) rfl (l' := #[.val (.int p0), .val (.int p1), .val (.int p2), .val (.int p3), .val (.int p4), .val (.int p5), .val (.ref b1), .val (.int (1 : Int32)), .val (.int (0 : Int32)), .val (.int (1 : Int32)), .unset, .unset]) rfl kk_) ?_
    show Go p.tables e below (T.setTop (mkF m 92 #[.val (.int p0), .val (.int p1), .val (.int p2), .val (.int p3), .val (.int p4), .val (.int p5), .val (.ref b1), .val (.int (1 : Int32)), .val (.int (0 : Int32)), .val (.int (1 : Int32)), .unset, .unset] [])) _
    refine Go.by (fun tt_ kk_ => XS.iloadN X.here hx rfl (hb hby at_92) rfl kk_) ?_
    show Go p.tables e below (T.setTop (mkF m 93 #[.val (.int p0), .val (.int p1), .val (.int p2), .val (.int p3), .val (.int p4), .val (.int p5), .val (.ref b1), .val (.int (1 : Int32)), .val (.int (0 : Int32)), .val (.int (1 : Int32)), .unset, .unset] [(.int p2)])) _
    refine Go.by (fun tt_ kk_ => XS.iconst X.here hx rfl (hb hby at_93) kk_) ?_
    show Go p.tables e below (T.setTop (mkF m 94 #[.val (.int p0), .val (.int p1), .val (.int p2), .val (.int p3), .val (.int p4), .val (.int p5), .val (.ref b1), .val (.int (1 : Int32)), .val (.int (0 : Int32)), .val (.int (1 : Int32)), .unset, .unset] [(.int (3 : Int32)), (.int p2)])) _
    refine Go.by (fun tt_ kk_ => XS.iand X.here hx rfl (hb hby at_94) rfl kk_) ?_
    show Go p.tables e below (T.setTop (mkF m 95 #[.val (.int p0), .val (.int p1), .val (.int p2), .val (.int p3), .val (.int p4), .val (.int p5), .val (.ref b1), .val (.int (1 : Int32)), .val (.int (0 : Int32)), .val (.int (1 : Int32)), .unset, .unset] [(.int (p2 &&& (3 : Int32)))])) _
    have hcs := own_and3 p2
    rcases hcs with hcs | hcs | hcs | hcs
    · rw [hcs]
      show Go p.tables e below (T.setTop (mkF m 95 #[.val (.int p0), .val (.int p1), .val (.int p2), .val (.int p3), .val (.int p4), .val (.int p5), .val (.ref b1), .val (.int (1 : Int32)), .val (.int (0 : Int32)), .val (.int (1 : Int32)), .unset, .unset] [(.int (0 : Int32))])) _
      refine Go.by (fun tt_ kk_ => XS.iload X.here hx rfl (hb hby at_95) rfl kk_) ?_
      show Go p.tables e below (T.setTop (mkF m 97 #[.val (.int p0), .val (.int p1), .val (.int p2), .val (.int p3), .val (.int p4), .val (.int p5), .val (.ref b1), .val (.int (1 : Int32)), .val (.int (0 : Int32)), .val (.int (1 : Int32)), .unset, .unset] [(.int (0 : Int32)), (.int (0 : Int32))])) _
      have hz : (if (0 : Int32) < (0 : Int32) then (0 : Int32) else (0 : Int32)) = (0 : Int32) := by decide
      obtain ⟨_, _, ⟨T, L_, k_, n_⟩, -, X, ⟨Lc_, hQ, l_, y_, z_⟩, st⟩ := Jvm.LawKit.callS X hx (y := (⟨"java/lang/Math", "min", "(II)I"⟩ : MethodName)) hown (mvT hZ (hw _ (List.mem_of_getElem? (i := 52) rfl))) (mvT hZ (hw _ (List.mem_of_getElem? (i := 36) rfl))) (mvT hZ (hw _ (List.mem_of_getElem? (i := 11) rfl))) (mvT hZ (hw _ (List.mem_of_getElem? (i := 37) rfl))) (by decide) (backOf (W := 0) (rm7 l Z a0 hw [] (0 : Int32) (0 : Int32) h2 n0 (Nat.le_trans Z0 K.1) ) hZ (hw _ (List.mem_of_getElem? (i := 37) rfl)) (hw _ (List.mem_of_getElem? (i := 11) rfl)) (by decide) (by decide)) (g := (mkF m 97 #[.val (.int p0), .val (.int p1), .val (.int p2), .val (.int p3), .val (.int p4), .val (.int p5), .val (.ref b1), .val (.int (1 : Int32)), .val (.int (0 : Int32)), .val (.int (1 : Int32)), .unset, .unset] [(.int (0 : Int32)), (.int (0 : Int32))])) rfl (by rw [hml]; rfl) (argsL := [(.int (0 : Int32)), (.int (0 : Int32))]) (rest := []) (lenOf pd_3 rfl) rfl (by show 2 * 0 + _ ≤ _; exact Nat.le_of_eq rfl) (hb hby at_97) (fun _ _ => ⟨rfl, eT, (by decide : 3 + 0 ≤ _), (by decide : 11 + 0 ≤ _)⟩)
      dsimp only [Pt.U, Pt.locs, Pt.cells, Pt.slots] at X l_ y_ z_ st hQ
      subst l_ y_ z_
      obtain ⟨e_v, Nq, eh⟩ := hQ
      rw [hz] at e_v
      subst e_v
      have N := Fr.app N Nq
      have eT := eh
      refine Go.by st ?_
      show Go p.tables e below (T.setTop (mkF m 100 #[.val (.int p0), .val (.int p1), .val (.int p2), .val (.int p3), .val (.int p4), .val (.int p5), .val (.ref b1), .val (.int (1 : Int32)), .val (.int (0 : Int32)), .val (.int (1 : Int32)), .unset, .unset] [(.int (0 : Int32))])) _
      refine Go.by (fun tt_ kk_ => XS.istore X.here hx rfl (hb hby at_100) rfl (l' := #[.val (.int p0), .val (.int p1), .val (.int p2), .val (.int p3), .val (.int p4), .val (.int p5), .val (.ref b1), .val (.int (1 : Int32)), .val (.int (0 : Int32)), .val (.int (1 : Int32)), .val (.int (0 : Int32)), .unset]) rfl kk_) ?_
      show Go p.tables e below (T.setTop (mkF m 102 #[.val (.int p0), .val (.int p1), .val (.int p2), .val (.int p3), .val (.int p4), .val (.int p5), .val (.ref b1), .val (.int (1 : Int32)), .val (.int (0 : Int32)), .val (.int (1 : Int32)), .val (.int (0 : Int32)), .unset] [])) _
      refine Go.by (fun tt_ kk_ => XS.iload X.here hx rfl (hb hby at_102) rfl kk_) ?_
      show Go p.tables e below (T.setTop (mkF m 104 #[.val (.int p0), .val (.int p1), .val (.int p2), .val (.int p3), .val (.int p4), .val (.int p5), .val (.ref b1), .val (.int (1 : Int32)), .val (.int (0 : Int32)), .val (.int (1 : Int32)), .val (.int (0 : Int32)), .unset] [(.int (0 : Int32))])) _
      refine Go.by (fun tt_ kk_ => XS.iconst X.here hx rfl (hb hby at_104) kk_) ?_
      show Go p.tables e below (T.setTop (mkF m 105 #[.val (.int p0), .val (.int p1), .val (.int p2), .val (.int p3), .val (.int p4), .val (.int p5), .val (.ref b1), .val (.int (1 : Int32)), .val (.int (0 : Int32)), .val (.int (1 : Int32)), .val (.int (0 : Int32)), .unset] [(.int (1 : Int32)), (.int (0 : Int32))])) _
      refine Go.by (fun tt_ kk_ => XS.icmpYes X.here hx rfl (pc0 := 105) (pc' := 114) rfl (hb hby at_105) rfl (tlt (by decide : (0 : Int32) < (1 : Int32))).1 (by decide) (by decide) kk_) ?_
      show Go p.tables e below (T.setTop (mkF m 114 #[.val (.int p0), .val (.int p1), .val (.int p2), .val (.int p3), .val (.int p4), .val (.int p5), .val (.ref b1), .val (.int (1 : Int32)), .val (.int (0 : Int32)), .val (.int (1 : Int32)), .val (.int (0 : Int32)), .unset] [])) _
      refine Go.by (fun tt_ kk_ => XS.iload X.here hx rfl (hb hby at_114) rfl kk_) ?_
      show Go p.tables e below (T.setTop (mkF m 116 #[.val (.int p0), .val (.int p1), .val (.int p2), .val (.int p3), .val (.int p4), .val (.int p5), .val (.ref b1), .val (.int (1 : Int32)), .val (.int (0 : Int32)), .val (.int (1 : Int32)), .val (.int (0 : Int32)), .unset] [(.int (0 : Int32))])) _
      refine Go.by (fun tt_ kk_ => XS.iconst X.here hx rfl (hb hby at_116) kk_) ?_
      show Go p.tables e below (T.setTop (mkF m 117 #[.val (.int p0), .val (.int p1), .val (.int p2), .val (.int p3), .val (.int p4), .val (.int p5), .val (.ref b1), .val (.int (1 : Int32)), .val (.int (0 : Int32)), .val (.int (1 : Int32)), .val (.int (0 : Int32)), .unset] [(.int (2 : Int32)), (.int (0 : Int32))])) _
      refine Go.by (fun tt_ kk_ => XS.icmpYes X.here hx rfl (pc0 := 117) (pc' := 126) rfl (hb hby at_117) rfl (tlt (by decide : (0 : Int32) < (2 : Int32))).1 (by decide) (by decide) kk_) ?_
      show Go p.tables e below (T.setTop (mkF m 126 #[.val (.int p0), .val (.int p1), .val (.int p2), .val (.int p3), .val (.int p4), .val (.int p5), .val (.ref b1), .val (.int (1 : Int32)), .val (.int (0 : Int32)), .val (.int (1 : Int32)), .val (.int (0 : Int32)), .unset] [])) _
      refine Go.by (fun tt_ kk_ => XS.iload X.here hx rfl (hb hby at_126) rfl kk_) ?_
      show Go p.tables e below (T.setTop (mkF m 128 #[.val (.int p0), .val (.int p1), .val (.int p2), .val (.int p3), .val (.int p4), .val (.int p5), .val (.ref b1), .val (.int (1 : Int32)), .val (.int (0 : Int32)), .val (.int (1 : Int32)), .val (.int (0 : Int32)), .unset] [(.int (0 : Int32))])) _
      refine Go.by (fun tt_ kk_ => XS.iconst X.here hx rfl (hb hby at_128) kk_) ?_
      show Go p.tables e below (T.setTop (mkF m 129 #[.val (.int p0), .val (.int p1), .val (.int p2), .val (.int p3), .val (.int p4), .val (.int p5), .val (.ref b1), .val (.int (1 : Int32)), .val (.int (0 : Int32)), .val (.int (1 : Int32)), .val (.int (0 : Int32)), .unset] [(.int (3 : Int32)), (.int (0 : Int32))])) _
      refine Go.by (fun tt_ kk_ => XS.icmpYes X.here hx rfl (pc0 := 129) (pc' := 138) rfl (hb hby at_129) rfl (tlt (by decide : (0 : Int32) < (3 : Int32))).1 (by decide) (by decide) kk_) ?_
      show Go p.tables e below (T.setTop (mkF m 138 #[.val (.int p0), .val (.int p1), .val (.int p2), .val (.int p3), .val (.int p4), .val (.int p5), .val (.ref b1), .val (.int (1 : Int32)), .val (.int (0 : Int32)), .val (.int (1 : Int32)), .val (.int (0 : Int32)), .unset] [])) _
      refine Go.by (fun tt_ kk_ => XS.aload X.here hx rfl (hb hby at_138) rfl rfl kk_) ?_
      show Go p.tables e below (T.setTop (mkF m 140 #[.val (.int p0), .val (.int p1), .val (.int p2), .val (.int p3), .val (.int p4), .val (.int p5), .val (.ref b1), .val (.int (1 : Int32)), .val (.int (0 : Int32)), .val (.int (1 : Int32)), .val (.int (0 : Int32)), .unset] [(.ref b1)])) _
      have hz : (if (0 : Int32) = 0 then (1 : Int32) else 0) = (1 : Int32) := by decide
      obtain ⟨cq_, kq_, qa_, qb_, qc_⟩ := isOf hZ eT E_b1
      obtain ⟨_, _, ⟨T, L_, k_, n_⟩, -, X, ⟨Lc_, hQ, l_, y_, z_⟩, st⟩ := X.virtualBack hx (y := (⟨"com/example/mode_choice_loop/modechoiceloop/simulation/TimeHeap", "isEmpty", "()Z"⟩ : MethodName)) (z := (⟨"com/example/mode_choice_loop/modechoiceloop/simulation/TimeHeap", "isEmpty", "()Z"⟩ : MethodName)) hown (mvT hZ (hw _ (List.mem_of_getElem? (i := 19) rfl))) (mvT hZ (hw _ (List.mem_of_getElem? (i := 20) rfl))) (notFace_of_selects (args := #[]) (mvT hZ (hw _ (List.mem_of_getElem? (i := 22) rfl)))) (mvT hZ (hw _ (List.mem_of_getElem? (i := 22) rfl))) (mvT hZ (hw _ (List.mem_of_getElem? (i := 21) rfl))) (by decide) (backOf (W := 0) (rm4 l Z a0 hw [] b1 (0 : Int32) h2 n0 (Nat.le_trans Z0 K.1) TH) hZ (hw _ (List.mem_of_getElem? (i := 23) rfl)) (hw _ (List.mem_of_getElem? (i := 2) rfl)) (by decide) (by decide)) qa_ qc_ (g := (mkF m 140 #[.val (.int p0), .val (.int p1), .val (.int p2), .val (.int p3), .val (.int p4), .val (.int p5), .val (.ref b1), .val (.int (1 : Int32)), .val (.int (0 : Int32)), .val (.int (1 : Int32)), .val (.int (0 : Int32)), .unset] [(.ref b1)])) rfl (by rw [hml]; rfl) (Steps.refl _) (argsL := []) (rest := []) (lenOf pd_10 rfl) rfl (by show 2 * 0 + _ ≤ _; exact Nat.le_of_eq rfl) (hb hby at_140) (fun _ _ => ⟨rfl, eT, (by decide : 3 + 0 ≤ _), (by decide : 11 + 0 ≤ _)⟩)
      dsimp only [Pt.U, Pt.locs, Pt.cells, Pt.slots] at X l_ y_ z_ st hQ
      subst l_ y_ z_
      obtain ⟨e_v, Nq, eh⟩ := hQ
      rw [hz] at e_v
      subst e_v
      have N := Fr.app N Nq
      have eT := eh
      refine Go.tr st ?_
      show Go p.tables e below (T.setTop (mkF m 143 #[.val (.int p0), .val (.int p1), .val (.int p2), .val (.int p3), .val (.int p4), .val (.int p5), .val (.ref b1), .val (.int (1 : Int32)), .val (.int (0 : Int32)), .val (.int (1 : Int32)), .val (.int (0 : Int32)), .unset] [(.int (1 : Int32))])) _
      refine Go.by (fun tt_ kk_ => XS.istore X.here hx rfl (hb hby at_143) rfl (l' := #[.val (.int p0), .val (.int p1), .val (.int p2), .val (.int p3), .val (.int p4), .val (.int p5), .val (.ref b1), .val (.int (1 : Int32)), .val (.int (0 : Int32)), .val (.int (1 : Int32)), .val (.int (0 : Int32)), .val (.int (1 : Int32))]) rfl kk_) ?_
      show Go p.tables e below (T.setTop (mkF m 145 #[.val (.int p0), .val (.int p1), .val (.int p2), .val (.int p3), .val (.int p4), .val (.int p5), .val (.ref b1), .val (.int (1 : Int32)), .val (.int (0 : Int32)), .val (.int (1 : Int32)), .val (.int (0 : Int32)), .val (.int (1 : Int32))] [])) _
      refine Go.by (fun tt_ kk_ => XS.iload X.here hx rfl (hb hby at_145) rfl kk_) ?_
      show Go p.tables e below (T.setTop (mkF m 147 #[.val (.int p0), .val (.int p1), .val (.int p2), .val (.int p3), .val (.int p4), .val (.int p5), .val (.ref b1), .val (.int (1 : Int32)), .val (.int (0 : Int32)), .val (.int (1 : Int32)), .val (.int (0 : Int32)), .val (.int (1 : Int32))] [(.int (1 : Int32))])) _
      refine Go.by (fun tt_ kk_ => XS.ifNo X.here hx rfl (hb hby at_147) rfl ((if0 _ _).trans (feq (by decide : ¬ ((1 : Int32) = (0 : Int32)))).1) kk_) ?_
      show Go p.tables e below (T.setTop (mkF m 150 #[.val (.int p0), .val (.int p1), .val (.int p2), .val (.int p3), .val (.int p4), .val (.int p5), .val (.ref b1), .val (.int (1 : Int32)), .val (.int (0 : Int32)), .val (.int (1 : Int32)), .val (.int (0 : Int32)), .val (.int (1 : Int32))] [])) _
      refine Go.by (fun tt_ kk_ => XS.iload X.here hx rfl (hb hby at_150) rfl kk_) ?_
      show Go p.tables e below (T.setTop (mkF m 152 #[.val (.int p0), .val (.int p1), .val (.int p2), .val (.int p3), .val (.int p4), .val (.int p5), .val (.ref b1), .val (.int (1 : Int32)), .val (.int (0 : Int32)), .val (.int (1 : Int32)), .val (.int (0 : Int32)), .val (.int (1 : Int32))] [(.int (1 : Int32))])) _
      refine Go.by (fun tt_ kk_ => XS.iload X.here hx rfl (hb hby at_152) rfl kk_) ?_
      show Go p.tables e below (T.setTop (mkF m 154 #[.val (.int p0), .val (.int p1), .val (.int p2), .val (.int p3), .val (.int p4), .val (.int p5), .val (.ref b1), .val (.int (1 : Int32)), .val (.int (0 : Int32)), .val (.int (1 : Int32)), .val (.int (0 : Int32)), .val (.int (1 : Int32))] [(.int (0 : Int32)), (.int (1 : Int32))])) _
      refine Go.by (fun tt_ kk_ => XS.ifNo X.here hx rfl (hb hby at_154) rfl ((if0 _ _).trans (teq (rfl : (0 : Int32) = (0 : Int32))).2) kk_) ?_
      show Go p.tables e below (T.setTop (mkF m 157 #[.val (.int p0), .val (.int p1), .val (.int p2), .val (.int p3), .val (.int p4), .val (.int p5), .val (.ref b1), .val (.int (1 : Int32)), .val (.int (0 : Int32)), .val (.int (1 : Int32)), .val (.int (0 : Int32)), .val (.int (1 : Int32))] [(.int (1 : Int32))])) _
      refine Go.by (fun tt_ kk_ => XS.iconst X.here hx rfl (hb hby at_157) kk_) ?_
      show Go p.tables e below (T.setTop (mkF m 158 #[.val (.int p0), .val (.int p1), .val (.int p2), .val (.int p3), .val (.int p4), .val (.int p5), .val (.ref b1), .val (.int (1 : Int32)), .val (.int (0 : Int32)), .val (.int (1 : Int32)), .val (.int (0 : Int32)), .val (.int (1 : Int32))] [(.int (1 : Int32)), (.int (1 : Int32))])) _
      refine Go.by (fun tt_ kk_ => XS.goto X.here hx rfl (pc0 := 158) (pc' := 162) rfl (hb hby at_158) (by decide) (by decide) kk_) ?_
      show Go p.tables e below (T.setTop (mkF m 162 #[.val (.int p0), .val (.int p1), .val (.int p2), .val (.int p3), .val (.int p4), .val (.int p5), .val (.ref b1), .val (.int (1 : Int32)), .val (.int (0 : Int32)), .val (.int (1 : Int32)), .val (.int (0 : Int32)), .val (.int (1 : Int32))] [(.int (1 : Int32)), (.int (1 : Int32))])) _
      refine Go.by (fun tt_ kk_ => XS.icmpNo X.here hx rfl (hb hby at_162) rfl (teq (rfl : (1 : Int32) = (1 : Int32))).2 kk_) ?_
      show Go p.tables e below (T.setTop (mkF m 165 #[.val (.int p0), .val (.int p1), .val (.int p2), .val (.int p3), .val (.int p4), .val (.int p5), .val (.ref b1), .val (.int (1 : Int32)), .val (.int (0 : Int32)), .val (.int (1 : Int32)), .val (.int (0 : Int32)), .val (.int (1 : Int32))] [])) _
      refine Go.by (fun tt_ kk_ => XS.iload X.here hx rfl (hb hby at_165) rfl kk_) ?_
      show Go p.tables e below (T.setTop (mkF m 167 #[.val (.int p0), .val (.int p1), .val (.int p2), .val (.int p3), .val (.int p4), .val (.int p5), .val (.ref b1), .val (.int (1 : Int32)), .val (.int (0 : Int32)), .val (.int (1 : Int32)), .val (.int (0 : Int32)), .val (.int (1 : Int32))] [(.int (1 : Int32))])) _
      refine Go.by (fun tt_ kk_ => XS.iload X.here hx rfl (hb hby at_167) rfl kk_) ?_
      show Go p.tables e below (T.setTop (mkF m 169 #[.val (.int p0), .val (.int p1), .val (.int p2), .val (.int p3), .val (.int p4), .val (.int p5), .val (.ref b1), .val (.int (1 : Int32)), .val (.int (0 : Int32)), .val (.int (1 : Int32)), .val (.int (0 : Int32)), .val (.int (1 : Int32))] [(.int (0 : Int32)), (.int (1 : Int32))])) _
      refine Go.by (fun tt_ kk_ => XS.iload X.here hx rfl (hb hby at_169) rfl kk_) ?_
      show Go p.tables e below (T.setTop (mkF m 171 #[.val (.int p0), .val (.int p1), .val (.int p2), .val (.int p3), .val (.int p4), .val (.int p5), .val (.ref b1), .val (.int (1 : Int32)), .val (.int (0 : Int32)), .val (.int (1 : Int32)), .val (.int (0 : Int32)), .val (.int (1 : Int32))] [(.int (0 : Int32)), (.int (0 : Int32)), (.int (1 : Int32))])) _
      refine Go.by (fun tt_ kk_ => XS.icmpNo X.here hx rfl (hb hby at_171) rfl (teq (rfl : (0 : Int32) = (0 : Int32))).2 kk_) ?_
      show Go p.tables e below (T.setTop (mkF m 174 #[.val (.int p0), .val (.int p1), .val (.int p2), .val (.int p3), .val (.int p4), .val (.int p5), .val (.ref b1), .val (.int (1 : Int32)), .val (.int (0 : Int32)), .val (.int (1 : Int32)), .val (.int (0 : Int32)), .val (.int (1 : Int32))] [(.int (1 : Int32))])) _
      refine Go.by (fun tt_ kk_ => XS.iconst X.here hx rfl (hb hby at_174) kk_) ?_
      show Go p.tables e below (T.setTop (mkF m 175 #[.val (.int p0), .val (.int p1), .val (.int p2), .val (.int p3), .val (.int p4), .val (.int p5), .val (.ref b1), .val (.int (1 : Int32)), .val (.int (0 : Int32)), .val (.int (1 : Int32)), .val (.int (0 : Int32)), .val (.int (1 : Int32))] [(.int (1 : Int32)), (.int (1 : Int32))])) _
      refine Go.by (fun tt_ kk_ => XS.goto X.here hx rfl (pc0 := 175) (pc' := 179) rfl (hb hby at_175) (by decide) (by decide) kk_) ?_
      show Go p.tables e below (T.setTop (mkF m 179 #[.val (.int p0), .val (.int p1), .val (.int p2), .val (.int p3), .val (.int p4), .val (.int p5), .val (.ref b1), .val (.int (1 : Int32)), .val (.int (0 : Int32)), .val (.int (1 : Int32)), .val (.int (0 : Int32)), .val (.int (1 : Int32))] [(.int (1 : Int32)), (.int (1 : Int32))])) _
      refine Go.by (fun tt_ kk_ => XS.icmpNo X.here hx rfl (hb hby at_179) rfl (teq (rfl : (1 : Int32) = (1 : Int32))).2 kk_) ?_
      show Go p.tables e below (T.setTop (mkF m 182 #[.val (.int p0), .val (.int p1), .val (.int p2), .val (.int p3), .val (.int p4), .val (.int p5), .val (.ref b1), .val (.int (1 : Int32)), .val (.int (0 : Int32)), .val (.int (1 : Int32)), .val (.int (0 : Int32)), .val (.int (1 : Int32))] [])) _
      refine Go.by (fun tt_ kk_ => XS.iconst X.here hx rfl (hb hby at_182) kk_) ?_
      show Go p.tables e below (T.setTop (mkF m 183 #[.val (.int p0), .val (.int p1), .val (.int p2), .val (.int p3), .val (.int p4), .val (.int p5), .val (.ref b1), .val (.int (1 : Int32)), .val (.int (0 : Int32)), .val (.int (1 : Int32)), .val (.int (0 : Int32)), .val (.int (1 : Int32))] [(.int (1 : Int32))])) _
      refine Go.by (fun tt_ kk_ => XS.goto X.here hx rfl (pc0 := 183) (pc' := 187) rfl (hb hby at_183) (by decide) (by decide) kk_) ?_
      show Go p.tables e below (T.setTop (mkF m 187 #[.val (.int p0), .val (.int p1), .val (.int p2), .val (.int p3), .val (.int p4), .val (.int p5), .val (.ref b1), .val (.int (1 : Int32)), .val (.int (0 : Int32)), .val (.int (1 : Int32)), .val (.int (0 : Int32)), .val (.int (1 : Int32))] [(.int (1 : Int32))])) _
      exact Go.done X  (v := some (.int (1 : Int32))) (fun h => by rw [Bd.returns] at h; cases h) Bd.notSynchronized (fun fs hr => retN X hx (z := (1 : Int32)) (t := .boolean) Bd.returns (by simp) (hb hby at_187) hr) (by rw [eT]; exact ⟨rfl, N⟩) (by decide) (by decide)
    · rw [hcs]
      show Go p.tables e below (T.setTop (mkF m 95 #[.val (.int p0), .val (.int p1), .val (.int p2), .val (.int p3), .val (.int p4), .val (.int p5), .val (.ref b1), .val (.int (1 : Int32)), .val (.int (0 : Int32)), .val (.int (1 : Int32)), .unset, .unset] [(.int (1 : Int32))])) _
      refine Go.by (fun tt_ kk_ => XS.iload X.here hx rfl (hb hby at_95) rfl kk_) ?_
      show Go p.tables e below (T.setTop (mkF m 97 #[.val (.int p0), .val (.int p1), .val (.int p2), .val (.int p3), .val (.int p4), .val (.int p5), .val (.ref b1), .val (.int (1 : Int32)), .val (.int (0 : Int32)), .val (.int (1 : Int32)), .unset, .unset] [(.int (0 : Int32)), (.int (1 : Int32))])) _
      have hz : (if (0 : Int32) < (1 : Int32) then (0 : Int32) else (1 : Int32)) = (0 : Int32) := by decide
      obtain ⟨_, _, ⟨T, L_, k_, n_⟩, -, X, ⟨Lc_, hQ, l_, y_, z_⟩, st⟩ := Jvm.LawKit.callS X hx (y := (⟨"java/lang/Math", "min", "(II)I"⟩ : MethodName)) hown (mvT hZ (hw _ (List.mem_of_getElem? (i := 52) rfl))) (mvT hZ (hw _ (List.mem_of_getElem? (i := 36) rfl))) (mvT hZ (hw _ (List.mem_of_getElem? (i := 11) rfl))) (mvT hZ (hw _ (List.mem_of_getElem? (i := 37) rfl))) (by decide) (backOf (W := 0) (rm7 l Z a0 hw [] (1 : Int32) (0 : Int32) h2 n0 (Nat.le_trans Z0 K.1) ) hZ (hw _ (List.mem_of_getElem? (i := 37) rfl)) (hw _ (List.mem_of_getElem? (i := 11) rfl)) (by decide) (by decide)) (g := (mkF m 97 #[.val (.int p0), .val (.int p1), .val (.int p2), .val (.int p3), .val (.int p4), .val (.int p5), .val (.ref b1), .val (.int (1 : Int32)), .val (.int (0 : Int32)), .val (.int (1 : Int32)), .unset, .unset] [(.int (0 : Int32)), (.int (1 : Int32))])) rfl (by rw [hml]; rfl) (argsL := [(.int (1 : Int32)), (.int (0 : Int32))]) (rest := []) (lenOf pd_3 rfl) rfl (by show 2 * 0 + _ ≤ _; exact Nat.le_of_eq rfl) (hb hby at_97) (fun _ _ => ⟨rfl, eT, (by decide : 3 + 0 ≤ _), (by decide : 11 + 0 ≤ _)⟩)
      dsimp only [Pt.U, Pt.locs, Pt.cells, Pt.slots] at X l_ y_ z_ st hQ
      subst l_ y_ z_
      obtain ⟨e_v, Nq, eh⟩ := hQ
      rw [hz] at e_v
      subst e_v
      have N := Fr.app N Nq
      have eT := eh
      refine Go.by st ?_
      show Go p.tables e below (T.setTop (mkF m 100 #[.val (.int p0), .val (.int p1), .val (.int p2), .val (.int p3), .val (.int p4), .val (.int p5), .val (.ref b1), .val (.int (1 : Int32)), .val (.int (0 : Int32)), .val (.int (1 : Int32)), .unset, .unset] [(.int (0 : Int32))])) _
      refine Go.by (fun tt_ kk_ => XS.istore X.here hx rfl (hb hby at_100) rfl (l' := #[.val (.int p0), .val (.int p1), .val (.int p2), .val (.int p3), .val (.int p4), .val (.int p5), .val (.ref b1), .val (.int (1 : Int32)), .val (.int (0 : Int32)), .val (.int (1 : Int32)), .val (.int (0 : Int32)), .unset]) rfl kk_) ?_
      show Go p.tables e below (T.setTop (mkF m 102 #[.val (.int p0), .val (.int p1), .val (.int p2), .val (.int p3), .val (.int p4), .val (.int p5), .val (.ref b1), .val (.int (1 : Int32)), .val (.int (0 : Int32)), .val (.int (1 : Int32)), .val (.int (0 : Int32)), .unset] [])) _
      refine Go.by (fun tt_ kk_ => XS.iload X.here hx rfl (hb hby at_102) rfl kk_) ?_
      show Go p.tables e below (T.setTop (mkF m 104 #[.val (.int p0), .val (.int p1), .val (.int p2), .val (.int p3), .val (.int p4), .val (.int p5), .val (.ref b1), .val (.int (1 : Int32)), .val (.int (0 : Int32)), .val (.int (1 : Int32)), .val (.int (0 : Int32)), .unset] [(.int (0 : Int32))])) _
      refine Go.by (fun tt_ kk_ => XS.iconst X.here hx rfl (hb hby at_104) kk_) ?_
      show Go p.tables e below (T.setTop (mkF m 105 #[.val (.int p0), .val (.int p1), .val (.int p2), .val (.int p3), .val (.int p4), .val (.int p5), .val (.ref b1), .val (.int (1 : Int32)), .val (.int (0 : Int32)), .val (.int (1 : Int32)), .val (.int (0 : Int32)), .unset] [(.int (1 : Int32)), (.int (0 : Int32))])) _
      refine Go.by (fun tt_ kk_ => XS.icmpYes X.here hx rfl (pc0 := 105) (pc' := 114) rfl (hb hby at_105) rfl (tlt (by decide : (0 : Int32) < (1 : Int32))).1 (by decide) (by decide) kk_) ?_
      show Go p.tables e below (T.setTop (mkF m 114 #[.val (.int p0), .val (.int p1), .val (.int p2), .val (.int p3), .val (.int p4), .val (.int p5), .val (.ref b1), .val (.int (1 : Int32)), .val (.int (0 : Int32)), .val (.int (1 : Int32)), .val (.int (0 : Int32)), .unset] [])) _
      refine Go.by (fun tt_ kk_ => XS.iload X.here hx rfl (hb hby at_114) rfl kk_) ?_
      show Go p.tables e below (T.setTop (mkF m 116 #[.val (.int p0), .val (.int p1), .val (.int p2), .val (.int p3), .val (.int p4), .val (.int p5), .val (.ref b1), .val (.int (1 : Int32)), .val (.int (0 : Int32)), .val (.int (1 : Int32)), .val (.int (0 : Int32)), .unset] [(.int (0 : Int32))])) _
      refine Go.by (fun tt_ kk_ => XS.iconst X.here hx rfl (hb hby at_116) kk_) ?_
      show Go p.tables e below (T.setTop (mkF m 117 #[.val (.int p0), .val (.int p1), .val (.int p2), .val (.int p3), .val (.int p4), .val (.int p5), .val (.ref b1), .val (.int (1 : Int32)), .val (.int (0 : Int32)), .val (.int (1 : Int32)), .val (.int (0 : Int32)), .unset] [(.int (2 : Int32)), (.int (0 : Int32))])) _
      refine Go.by (fun tt_ kk_ => XS.icmpYes X.here hx rfl (pc0 := 117) (pc' := 126) rfl (hb hby at_117) rfl (tlt (by decide : (0 : Int32) < (2 : Int32))).1 (by decide) (by decide) kk_) ?_
      show Go p.tables e below (T.setTop (mkF m 126 #[.val (.int p0), .val (.int p1), .val (.int p2), .val (.int p3), .val (.int p4), .val (.int p5), .val (.ref b1), .val (.int (1 : Int32)), .val (.int (0 : Int32)), .val (.int (1 : Int32)), .val (.int (0 : Int32)), .unset] [])) _
      refine Go.by (fun tt_ kk_ => XS.iload X.here hx rfl (hb hby at_126) rfl kk_) ?_
      show Go p.tables e below (T.setTop (mkF m 128 #[.val (.int p0), .val (.int p1), .val (.int p2), .val (.int p3), .val (.int p4), .val (.int p5), .val (.ref b1), .val (.int (1 : Int32)), .val (.int (0 : Int32)), .val (.int (1 : Int32)), .val (.int (0 : Int32)), .unset] [(.int (0 : Int32))])) _
      refine Go.by (fun tt_ kk_ => XS.iconst X.here hx rfl (hb hby at_128) kk_) ?_
      show Go p.tables e below (T.setTop (mkF m 129 #[.val (.int p0), .val (.int p1), .val (.int p2), .val (.int p3), .val (.int p4), .val (.int p5), .val (.ref b1), .val (.int (1 : Int32)), .val (.int (0 : Int32)), .val (.int (1 : Int32)), .val (.int (0 : Int32)), .unset] [(.int (3 : Int32)), (.int (0 : Int32))])) _
      refine Go.by (fun tt_ kk_ => XS.icmpYes X.here hx rfl (pc0 := 129) (pc' := 138) rfl (hb hby at_129) rfl (tlt (by decide : (0 : Int32) < (3 : Int32))).1 (by decide) (by decide) kk_) ?_
      show Go p.tables e below (T.setTop (mkF m 138 #[.val (.int p0), .val (.int p1), .val (.int p2), .val (.int p3), .val (.int p4), .val (.int p5), .val (.ref b1), .val (.int (1 : Int32)), .val (.int (0 : Int32)), .val (.int (1 : Int32)), .val (.int (0 : Int32)), .unset] [])) _
      refine Go.by (fun tt_ kk_ => XS.aload X.here hx rfl (hb hby at_138) rfl rfl kk_) ?_
      show Go p.tables e below (T.setTop (mkF m 140 #[.val (.int p0), .val (.int p1), .val (.int p2), .val (.int p3), .val (.int p4), .val (.int p5), .val (.ref b1), .val (.int (1 : Int32)), .val (.int (0 : Int32)), .val (.int (1 : Int32)), .val (.int (0 : Int32)), .unset] [(.ref b1)])) _
      have hz : (if (0 : Int32) = 0 then (1 : Int32) else 0) = (1 : Int32) := by decide
      obtain ⟨cq_, kq_, qa_, qb_, qc_⟩ := isOf hZ eT E_b1
      obtain ⟨_, _, ⟨T, L_, k_, n_⟩, -, X, ⟨Lc_, hQ, l_, y_, z_⟩, st⟩ := X.virtualBack hx (y := (⟨"com/example/mode_choice_loop/modechoiceloop/simulation/TimeHeap", "isEmpty", "()Z"⟩ : MethodName)) (z := (⟨"com/example/mode_choice_loop/modechoiceloop/simulation/TimeHeap", "isEmpty", "()Z"⟩ : MethodName)) hown (mvT hZ (hw _ (List.mem_of_getElem? (i := 19) rfl))) (mvT hZ (hw _ (List.mem_of_getElem? (i := 20) rfl))) (notFace_of_selects (args := #[]) (mvT hZ (hw _ (List.mem_of_getElem? (i := 22) rfl)))) (mvT hZ (hw _ (List.mem_of_getElem? (i := 22) rfl))) (mvT hZ (hw _ (List.mem_of_getElem? (i := 21) rfl))) (by decide) (backOf (W := 0) (rm4 l Z a0 hw [] b1 (0 : Int32) h2 n0 (Nat.le_trans Z0 K.1) TH) hZ (hw _ (List.mem_of_getElem? (i := 23) rfl)) (hw _ (List.mem_of_getElem? (i := 2) rfl)) (by decide) (by decide)) qa_ qc_ (g := (mkF m 140 #[.val (.int p0), .val (.int p1), .val (.int p2), .val (.int p3), .val (.int p4), .val (.int p5), .val (.ref b1), .val (.int (1 : Int32)), .val (.int (0 : Int32)), .val (.int (1 : Int32)), .val (.int (0 : Int32)), .unset] [(.ref b1)])) rfl (by rw [hml]; rfl) (Steps.refl _) (argsL := []) (rest := []) (lenOf pd_10 rfl) rfl (by show 2 * 0 + _ ≤ _; exact Nat.le_of_eq rfl) (hb hby at_140) (fun _ _ => ⟨rfl, eT, (by decide : 3 + 0 ≤ _), (by decide : 11 + 0 ≤ _)⟩)
      dsimp only [Pt.U, Pt.locs, Pt.cells, Pt.slots] at X l_ y_ z_ st hQ
      subst l_ y_ z_
      obtain ⟨e_v, Nq, eh⟩ := hQ
      rw [hz] at e_v
      subst e_v
      have N := Fr.app N Nq
      have eT := eh
      refine Go.tr st ?_
      show Go p.tables e below (T.setTop (mkF m 143 #[.val (.int p0), .val (.int p1), .val (.int p2), .val (.int p3), .val (.int p4), .val (.int p5), .val (.ref b1), .val (.int (1 : Int32)), .val (.int (0 : Int32)), .val (.int (1 : Int32)), .val (.int (0 : Int32)), .unset] [(.int (1 : Int32))])) _
      refine Go.by (fun tt_ kk_ => XS.istore X.here hx rfl (hb hby at_143) rfl (l' := #[.val (.int p0), .val (.int p1), .val (.int p2), .val (.int p3), .val (.int p4), .val (.int p5), .val (.ref b1), .val (.int (1 : Int32)), .val (.int (0 : Int32)), .val (.int (1 : Int32)), .val (.int (0 : Int32)), .val (.int (1 : Int32))]) rfl kk_) ?_
      show Go p.tables e below (T.setTop (mkF m 145 #[.val (.int p0), .val (.int p1), .val (.int p2), .val (.int p3), .val (.int p4), .val (.int p5), .val (.ref b1), .val (.int (1 : Int32)), .val (.int (0 : Int32)), .val (.int (1 : Int32)), .val (.int (0 : Int32)), .val (.int (1 : Int32))] [])) _
      refine Go.by (fun tt_ kk_ => XS.iload X.here hx rfl (hb hby at_145) rfl kk_) ?_
      show Go p.tables e below (T.setTop (mkF m 147 #[.val (.int p0), .val (.int p1), .val (.int p2), .val (.int p3), .val (.int p4), .val (.int p5), .val (.ref b1), .val (.int (1 : Int32)), .val (.int (0 : Int32)), .val (.int (1 : Int32)), .val (.int (0 : Int32)), .val (.int (1 : Int32))] [(.int (1 : Int32))])) _
      refine Go.by (fun tt_ kk_ => XS.ifNo X.here hx rfl (hb hby at_147) rfl ((if0 _ _).trans (feq (by decide : ¬ ((1 : Int32) = (0 : Int32)))).1) kk_) ?_
      show Go p.tables e below (T.setTop (mkF m 150 #[.val (.int p0), .val (.int p1), .val (.int p2), .val (.int p3), .val (.int p4), .val (.int p5), .val (.ref b1), .val (.int (1 : Int32)), .val (.int (0 : Int32)), .val (.int (1 : Int32)), .val (.int (0 : Int32)), .val (.int (1 : Int32))] [])) _
      refine Go.by (fun tt_ kk_ => XS.iload X.here hx rfl (hb hby at_150) rfl kk_) ?_
      show Go p.tables e below (T.setTop (mkF m 152 #[.val (.int p0), .val (.int p1), .val (.int p2), .val (.int p3), .val (.int p4), .val (.int p5), .val (.ref b1), .val (.int (1 : Int32)), .val (.int (0 : Int32)), .val (.int (1 : Int32)), .val (.int (0 : Int32)), .val (.int (1 : Int32))] [(.int (1 : Int32))])) _
      refine Go.by (fun tt_ kk_ => XS.iload X.here hx rfl (hb hby at_152) rfl kk_) ?_
      show Go p.tables e below (T.setTop (mkF m 154 #[.val (.int p0), .val (.int p1), .val (.int p2), .val (.int p3), .val (.int p4), .val (.int p5), .val (.ref b1), .val (.int (1 : Int32)), .val (.int (0 : Int32)), .val (.int (1 : Int32)), .val (.int (0 : Int32)), .val (.int (1 : Int32))] [(.int (0 : Int32)), (.int (1 : Int32))])) _
      refine Go.by (fun tt_ kk_ => XS.ifNo X.here hx rfl (hb hby at_154) rfl ((if0 _ _).trans (teq (rfl : (0 : Int32) = (0 : Int32))).2) kk_) ?_
      show Go p.tables e below (T.setTop (mkF m 157 #[.val (.int p0), .val (.int p1), .val (.int p2), .val (.int p3), .val (.int p4), .val (.int p5), .val (.ref b1), .val (.int (1 : Int32)), .val (.int (0 : Int32)), .val (.int (1 : Int32)), .val (.int (0 : Int32)), .val (.int (1 : Int32))] [(.int (1 : Int32))])) _
      refine Go.by (fun tt_ kk_ => XS.iconst X.here hx rfl (hb hby at_157) kk_) ?_
      show Go p.tables e below (T.setTop (mkF m 158 #[.val (.int p0), .val (.int p1), .val (.int p2), .val (.int p3), .val (.int p4), .val (.int p5), .val (.ref b1), .val (.int (1 : Int32)), .val (.int (0 : Int32)), .val (.int (1 : Int32)), .val (.int (0 : Int32)), .val (.int (1 : Int32))] [(.int (1 : Int32)), (.int (1 : Int32))])) _
      refine Go.by (fun tt_ kk_ => XS.goto X.here hx rfl (pc0 := 158) (pc' := 162) rfl (hb hby at_158) (by decide) (by decide) kk_) ?_
      show Go p.tables e below (T.setTop (mkF m 162 #[.val (.int p0), .val (.int p1), .val (.int p2), .val (.int p3), .val (.int p4), .val (.int p5), .val (.ref b1), .val (.int (1 : Int32)), .val (.int (0 : Int32)), .val (.int (1 : Int32)), .val (.int (0 : Int32)), .val (.int (1 : Int32))] [(.int (1 : Int32)), (.int (1 : Int32))])) _
      refine Go.by (fun tt_ kk_ => XS.icmpNo X.here hx rfl (hb hby at_162) rfl (teq (rfl : (1 : Int32) = (1 : Int32))).2 kk_) ?_
      show Go p.tables e below (T.setTop (mkF m 165 #[.val (.int p0), .val (.int p1), .val (.int p2), .val (.int p3), .val (.int p4), .val (.int p5), .val (.ref b1), .val (.int (1 : Int32)), .val (.int (0 : Int32)), .val (.int (1 : Int32)), .val (.int (0 : Int32)), .val (.int (1 : Int32))] [])) _
      refine Go.by (fun tt_ kk_ => XS.iload X.here hx rfl (hb hby at_165) rfl kk_) ?_
      show Go p.tables e below (T.setTop (mkF m 167 #[.val (.int p0), .val (.int p1), .val (.int p2), .val (.int p3), .val (.int p4), .val (.int p5), .val (.ref b1), .val (.int (1 : Int32)), .val (.int (0 : Int32)), .val (.int (1 : Int32)), .val (.int (0 : Int32)), .val (.int (1 : Int32))] [(.int (1 : Int32))])) _
      refine Go.by (fun tt_ kk_ => XS.iload X.here hx rfl (hb hby at_167) rfl kk_) ?_
      show Go p.tables e below (T.setTop (mkF m 169 #[.val (.int p0), .val (.int p1), .val (.int p2), .val (.int p3), .val (.int p4), .val (.int p5), .val (.ref b1), .val (.int (1 : Int32)), .val (.int (0 : Int32)), .val (.int (1 : Int32)), .val (.int (0 : Int32)), .val (.int (1 : Int32))] [(.int (0 : Int32)), (.int (1 : Int32))])) _
      refine Go.by (fun tt_ kk_ => XS.iload X.here hx rfl (hb hby at_169) rfl kk_) ?_
      show Go p.tables e below (T.setTop (mkF m 171 #[.val (.int p0), .val (.int p1), .val (.int p2), .val (.int p3), .val (.int p4), .val (.int p5), .val (.ref b1), .val (.int (1 : Int32)), .val (.int (0 : Int32)), .val (.int (1 : Int32)), .val (.int (0 : Int32)), .val (.int (1 : Int32))] [(.int (0 : Int32)), (.int (0 : Int32)), (.int (1 : Int32))])) _
      refine Go.by (fun tt_ kk_ => XS.icmpNo X.here hx rfl (hb hby at_171) rfl (teq (rfl : (0 : Int32) = (0 : Int32))).2 kk_) ?_
      show Go p.tables e below (T.setTop (mkF m 174 #[.val (.int p0), .val (.int p1), .val (.int p2), .val (.int p3), .val (.int p4), .val (.int p5), .val (.ref b1), .val (.int (1 : Int32)), .val (.int (0 : Int32)), .val (.int (1 : Int32)), .val (.int (0 : Int32)), .val (.int (1 : Int32))] [(.int (1 : Int32))])) _
      refine Go.by (fun tt_ kk_ => XS.iconst X.here hx rfl (hb hby at_174) kk_) ?_
      show Go p.tables e below (T.setTop (mkF m 175 #[.val (.int p0), .val (.int p1), .val (.int p2), .val (.int p3), .val (.int p4), .val (.int p5), .val (.ref b1), .val (.int (1 : Int32)), .val (.int (0 : Int32)), .val (.int (1 : Int32)), .val (.int (0 : Int32)), .val (.int (1 : Int32))] [(.int (1 : Int32)), (.int (1 : Int32))])) _
      refine Go.by (fun tt_ kk_ => XS.goto X.here hx rfl (pc0 := 175) (pc' := 179) rfl (hb hby at_175) (by decide) (by decide) kk_) ?_
      show Go p.tables e below (T.setTop (mkF m 179 #[.val (.int p0), .val (.int p1), .val (.int p2), .val (.int p3), .val (.int p4), .val (.int p5), .val (.ref b1), .val (.int (1 : Int32)), .val (.int (0 : Int32)), .val (.int (1 : Int32)), .val (.int (0 : Int32)), .val (.int (1 : Int32))] [(.int (1 : Int32)), (.int (1 : Int32))])) _
      refine Go.by (fun tt_ kk_ => XS.icmpNo X.here hx rfl (hb hby at_179) rfl (teq (rfl : (1 : Int32) = (1 : Int32))).2 kk_) ?_
      show Go p.tables e below (T.setTop (mkF m 182 #[.val (.int p0), .val (.int p1), .val (.int p2), .val (.int p3), .val (.int p4), .val (.int p5), .val (.ref b1), .val (.int (1 : Int32)), .val (.int (0 : Int32)), .val (.int (1 : Int32)), .val (.int (0 : Int32)), .val (.int (1 : Int32))] [])) _
      refine Go.by (fun tt_ kk_ => XS.iconst X.here hx rfl (hb hby at_182) kk_) ?_
      show Go p.tables e below (T.setTop (mkF m 183 #[.val (.int p0), .val (.int p1), .val (.int p2), .val (.int p3), .val (.int p4), .val (.int p5), .val (.ref b1), .val (.int (1 : Int32)), .val (.int (0 : Int32)), .val (.int (1 : Int32)), .val (.int (0 : Int32)), .val (.int (1 : Int32))] [(.int (1 : Int32))])) _
      refine Go.by (fun tt_ kk_ => XS.goto X.here hx rfl (pc0 := 183) (pc' := 187) rfl (hb hby at_183) (by decide) (by decide) kk_) ?_
      show Go p.tables e below (T.setTop (mkF m 187 #[.val (.int p0), .val (.int p1), .val (.int p2), .val (.int p3), .val (.int p4), .val (.int p5), .val (.ref b1), .val (.int (1 : Int32)), .val (.int (0 : Int32)), .val (.int (1 : Int32)), .val (.int (0 : Int32)), .val (.int (1 : Int32))] [(.int (1 : Int32))])) _
      exact Go.done X  (v := some (.int (1 : Int32))) (fun h => by rw [Bd.returns] at h; cases h) Bd.notSynchronized (fun fs hr => retN X hx (z := (1 : Int32)) (t := .boolean) Bd.returns (by simp) (hb hby at_187) hr) (by rw [eT]; exact ⟨rfl, N⟩) (by decide) (by decide)
    · rw [hcs]
      show Go p.tables e below (T.setTop (mkF m 95 #[.val (.int p0), .val (.int p1), .val (.int p2), .val (.int p3), .val (.int p4), .val (.int p5), .val (.ref b1), .val (.int (1 : Int32)), .val (.int (0 : Int32)), .val (.int (1 : Int32)), .unset, .unset] [(.int (2 : Int32))])) _
      refine Go.by (fun tt_ kk_ => XS.iload X.here hx rfl (hb hby at_95) rfl kk_) ?_
      show Go p.tables e below (T.setTop (mkF m 97 #[.val (.int p0), .val (.int p1), .val (.int p2), .val (.int p3), .val (.int p4), .val (.int p5), .val (.ref b1), .val (.int (1 : Int32)), .val (.int (0 : Int32)), .val (.int (1 : Int32)), .unset, .unset] [(.int (0 : Int32)), (.int (2 : Int32))])) _
      have hz : (if (0 : Int32) < (2 : Int32) then (0 : Int32) else (2 : Int32)) = (0 : Int32) := by decide
      obtain ⟨_, _, ⟨T, L_, k_, n_⟩, -, X, ⟨Lc_, hQ, l_, y_, z_⟩, st⟩ := Jvm.LawKit.callS X hx (y := (⟨"java/lang/Math", "min", "(II)I"⟩ : MethodName)) hown (mvT hZ (hw _ (List.mem_of_getElem? (i := 52) rfl))) (mvT hZ (hw _ (List.mem_of_getElem? (i := 36) rfl))) (mvT hZ (hw _ (List.mem_of_getElem? (i := 11) rfl))) (mvT hZ (hw _ (List.mem_of_getElem? (i := 37) rfl))) (by decide) (backOf (W := 0) (rm7 l Z a0 hw [] (2 : Int32) (0 : Int32) h2 n0 (Nat.le_trans Z0 K.1) ) hZ (hw _ (List.mem_of_getElem? (i := 37) rfl)) (hw _ (List.mem_of_getElem? (i := 11) rfl)) (by decide) (by decide)) (g := (mkF m 97 #[.val (.int p0), .val (.int p1), .val (.int p2), .val (.int p3), .val (.int p4), .val (.int p5), .val (.ref b1), .val (.int (1 : Int32)), .val (.int (0 : Int32)), .val (.int (1 : Int32)), .unset, .unset] [(.int (0 : Int32)), (.int (2 : Int32))])) rfl (by rw [hml]; rfl) (argsL := [(.int (2 : Int32)), (.int (0 : Int32))]) (rest := []) (lenOf pd_3 rfl) rfl (by show 2 * 0 + _ ≤ _; exact Nat.le_of_eq rfl) (hb hby at_97) (fun _ _ => ⟨rfl, eT, (by decide : 3 + 0 ≤ _), (by decide : 11 + 0 ≤ _)⟩)
      dsimp only [Pt.U, Pt.locs, Pt.cells, Pt.slots] at X l_ y_ z_ st hQ
      subst l_ y_ z_
      obtain ⟨e_v, Nq, eh⟩ := hQ
      rw [hz] at e_v
      subst e_v
      have N := Fr.app N Nq
      have eT := eh
      refine Go.by st ?_
      show Go p.tables e below (T.setTop (mkF m 100 #[.val (.int p0), .val (.int p1), .val (.int p2), .val (.int p3), .val (.int p4), .val (.int p5), .val (.ref b1), .val (.int (1 : Int32)), .val (.int (0 : Int32)), .val (.int (1 : Int32)), .unset, .unset] [(.int (0 : Int32))])) _
      refine Go.by (fun tt_ kk_ => XS.istore X.here hx rfl (hb hby at_100) rfl (l' := #[.val (.int p0), .val (.int p1), .val (.int p2), .val (.int p3), .val (.int p4), .val (.int p5), .val (.ref b1), .val (.int (1 : Int32)), .val (.int (0 : Int32)), .val (.int (1 : Int32)), .val (.int (0 : Int32)), .unset]) rfl kk_) ?_
      show Go p.tables e below (T.setTop (mkF m 102 #[.val (.int p0), .val (.int p1), .val (.int p2), .val (.int p3), .val (.int p4), .val (.int p5), .val (.ref b1), .val (.int (1 : Int32)), .val (.int (0 : Int32)), .val (.int (1 : Int32)), .val (.int (0 : Int32)), .unset] [])) _
      refine Go.by (fun tt_ kk_ => XS.iload X.here hx rfl (hb hby at_102) rfl kk_) ?_
      show Go p.tables e below (T.setTop (mkF m 104 #[.val (.int p0), .val (.int p1), .val (.int p2), .val (.int p3), .val (.int p4), .val (.int p5), .val (.ref b1), .val (.int (1 : Int32)), .val (.int (0 : Int32)), .val (.int (1 : Int32)), .val (.int (0 : Int32)), .unset] [(.int (0 : Int32))])) _
      refine Go.by (fun tt_ kk_ => XS.iconst X.here hx rfl (hb hby at_104) kk_) ?_
      show Go p.tables e below (T.setTop (mkF m 105 #[.val (.int p0), .val (.int p1), .val (.int p2), .val (.int p3), .val (.int p4), .val (.int p5), .val (.ref b1), .val (.int (1 : Int32)), .val (.int (0 : Int32)), .val (.int (1 : Int32)), .val (.int (0 : Int32)), .unset] [(.int (1 : Int32)), (.int (0 : Int32))])) _
      refine Go.by (fun tt_ kk_ => XS.icmpYes X.here hx rfl (pc0 := 105) (pc' := 114) rfl (hb hby at_105) rfl (tlt (by decide : (0 : Int32) < (1 : Int32))).1 (by decide) (by decide) kk_) ?_
      show Go p.tables e below (T.setTop (mkF m 114 #[.val (.int p0), .val (.int p1), .val (.int p2), .val (.int p3), .val (.int p4), .val (.int p5), .val (.ref b1), .val (.int (1 : Int32)), .val (.int (0 : Int32)), .val (.int (1 : Int32)), .val (.int (0 : Int32)), .unset] [])) _
      refine Go.by (fun tt_ kk_ => XS.iload X.here hx rfl (hb hby at_114) rfl kk_) ?_
      show Go p.tables e below (T.setTop (mkF m 116 #[.val (.int p0), .val (.int p1), .val (.int p2), .val (.int p3), .val (.int p4), .val (.int p5), .val (.ref b1), .val (.int (1 : Int32)), .val (.int (0 : Int32)), .val (.int (1 : Int32)), .val (.int (0 : Int32)), .unset] [(.int (0 : Int32))])) _
      refine Go.by (fun tt_ kk_ => XS.iconst X.here hx rfl (hb hby at_116) kk_) ?_
      show Go p.tables e below (T.setTop (mkF m 117 #[.val (.int p0), .val (.int p1), .val (.int p2), .val (.int p3), .val (.int p4), .val (.int p5), .val (.ref b1), .val (.int (1 : Int32)), .val (.int (0 : Int32)), .val (.int (1 : Int32)), .val (.int (0 : Int32)), .unset] [(.int (2 : Int32)), (.int (0 : Int32))])) _
      refine Go.by (fun tt_ kk_ => XS.icmpYes X.here hx rfl (pc0 := 117) (pc' := 126) rfl (hb hby at_117) rfl (tlt (by decide : (0 : Int32) < (2 : Int32))).1 (by decide) (by decide) kk_) ?_
      show Go p.tables e below (T.setTop (mkF m 126 #[.val (.int p0), .val (.int p1), .val (.int p2), .val (.int p3), .val (.int p4), .val (.int p5), .val (.ref b1), .val (.int (1 : Int32)), .val (.int (0 : Int32)), .val (.int (1 : Int32)), .val (.int (0 : Int32)), .unset] [])) _
      refine Go.by (fun tt_ kk_ => XS.iload X.here hx rfl (hb hby at_126) rfl kk_) ?_
      show Go p.tables e below (T.setTop (mkF m 128 #[.val (.int p0), .val (.int p1), .val (.int p2), .val (.int p3), .val (.int p4), .val (.int p5), .val (.ref b1), .val (.int (1 : Int32)), .val (.int (0 : Int32)), .val (.int (1 : Int32)), .val (.int (0 : Int32)), .unset] [(.int (0 : Int32))])) _
      refine Go.by (fun tt_ kk_ => XS.iconst X.here hx rfl (hb hby at_128) kk_) ?_
      show Go p.tables e below (T.setTop (mkF m 129 #[.val (.int p0), .val (.int p1), .val (.int p2), .val (.int p3), .val (.int p4), .val (.int p5), .val (.ref b1), .val (.int (1 : Int32)), .val (.int (0 : Int32)), .val (.int (1 : Int32)), .val (.int (0 : Int32)), .unset] [(.int (3 : Int32)), (.int (0 : Int32))])) _
      refine Go.by (fun tt_ kk_ => XS.icmpYes X.here hx rfl (pc0 := 129) (pc' := 138) rfl (hb hby at_129) rfl (tlt (by decide : (0 : Int32) < (3 : Int32))).1 (by decide) (by decide) kk_) ?_
      show Go p.tables e below (T.setTop (mkF m 138 #[.val (.int p0), .val (.int p1), .val (.int p2), .val (.int p3), .val (.int p4), .val (.int p5), .val (.ref b1), .val (.int (1 : Int32)), .val (.int (0 : Int32)), .val (.int (1 : Int32)), .val (.int (0 : Int32)), .unset] [])) _
      refine Go.by (fun tt_ kk_ => XS.aload X.here hx rfl (hb hby at_138) rfl rfl kk_) ?_
      show Go p.tables e below (T.setTop (mkF m 140 #[.val (.int p0), .val (.int p1), .val (.int p2), .val (.int p3), .val (.int p4), .val (.int p5), .val (.ref b1), .val (.int (1 : Int32)), .val (.int (0 : Int32)), .val (.int (1 : Int32)), .val (.int (0 : Int32)), .unset] [(.ref b1)])) _
      have hz : (if (0 : Int32) = 0 then (1 : Int32) else 0) = (1 : Int32) := by decide
      obtain ⟨cq_, kq_, qa_, qb_, qc_⟩ := isOf hZ eT E_b1
      obtain ⟨_, _, ⟨T, L_, k_, n_⟩, -, X, ⟨Lc_, hQ, l_, y_, z_⟩, st⟩ := X.virtualBack hx (y := (⟨"com/example/mode_choice_loop/modechoiceloop/simulation/TimeHeap", "isEmpty", "()Z"⟩ : MethodName)) (z := (⟨"com/example/mode_choice_loop/modechoiceloop/simulation/TimeHeap", "isEmpty", "()Z"⟩ : MethodName)) hown (mvT hZ (hw _ (List.mem_of_getElem? (i := 19) rfl))) (mvT hZ (hw _ (List.mem_of_getElem? (i := 20) rfl))) (notFace_of_selects (args := #[]) (mvT hZ (hw _ (List.mem_of_getElem? (i := 22) rfl)))) (mvT hZ (hw _ (List.mem_of_getElem? (i := 22) rfl))) (mvT hZ (hw _ (List.mem_of_getElem? (i := 21) rfl))) (by decide) (backOf (W := 0) (rm4 l Z a0 hw [] b1 (0 : Int32) h2 n0 (Nat.le_trans Z0 K.1) TH) hZ (hw _ (List.mem_of_getElem? (i := 23) rfl)) (hw _ (List.mem_of_getElem? (i := 2) rfl)) (by decide) (by decide)) qa_ qc_ (g := (mkF m 140 #[.val (.int p0), .val (.int p1), .val (.int p2), .val (.int p3), .val (.int p4), .val (.int p5), .val (.ref b1), .val (.int (1 : Int32)), .val (.int (0 : Int32)), .val (.int (1 : Int32)), .val (.int (0 : Int32)), .unset] [(.ref b1)])) rfl (by rw [hml]; rfl) (Steps.refl _) (argsL := []) (rest := []) (lenOf pd_10 rfl) rfl (by show 2 * 0 + _ ≤ _; exact Nat.le_of_eq rfl) (hb hby at_140) (fun _ _ => ⟨rfl, eT, (by decide : 3 + 0 ≤ _), (by decide : 11 + 0 ≤ _)⟩)
      dsimp only [Pt.U, Pt.locs, Pt.cells, Pt.slots] at X l_ y_ z_ st hQ
      subst l_ y_ z_
      obtain ⟨e_v, Nq, eh⟩ := hQ
      rw [hz] at e_v
      subst e_v
      have N := Fr.app N Nq
      have eT := eh
      refine Go.tr st ?_
      show Go p.tables e below (T.setTop (mkF m 143 #[.val (.int p0), .val (.int p1), .val (.int p2), .val (.int p3), .val (.int p4), .val (.int p5), .val (.ref b1), .val (.int (1 : Int32)), .val (.int (0 : Int32)), .val (.int (1 : Int32)), .val (.int (0 : Int32)), .unset] [(.int (1 : Int32))])) _
      refine Go.by (fun tt_ kk_ => XS.istore X.here hx rfl (hb hby at_143) rfl (l' := #[.val (.int p0), .val (.int p1), .val (.int p2), .val (.int p3), .val (.int p4), .val (.int p5), .val (.ref b1), .val (.int (1 : Int32)), .val (.int (0 : Int32)), .val (.int (1 : Int32)), .val (.int (0 : Int32)), .val (.int (1 : Int32))]) rfl kk_) ?_
      show Go p.tables e below (T.setTop (mkF m 145 #[.val (.int p0), .val (.int p1), .val (.int p2), .val (.int p3), .val (.int p4), .val (.int p5), .val (.ref b1), .val (.int (1 : Int32)), .val (.int (0 : Int32)), .val (.int (1 : Int32)), .val (.int (0 : Int32)), .val (.int (1 : Int32))] [])) _
      refine Go.by (fun tt_ kk_ => XS.iload X.here hx rfl (hb hby at_145) rfl kk_) ?_
      show Go p.tables e below (T.setTop (mkF m 147 #[.val (.int p0), .val (.int p1), .val (.int p2), .val (.int p3), .val (.int p4), .val (.int p5), .val (.ref b1), .val (.int (1 : Int32)), .val (.int (0 : Int32)), .val (.int (1 : Int32)), .val (.int (0 : Int32)), .val (.int (1 : Int32))] [(.int (1 : Int32))])) _
      refine Go.by (fun tt_ kk_ => XS.ifNo X.here hx rfl (hb hby at_147) rfl ((if0 _ _).trans (feq (by decide : ¬ ((1 : Int32) = (0 : Int32)))).1) kk_) ?_
      show Go p.tables e below (T.setTop (mkF m 150 #[.val (.int p0), .val (.int p1), .val (.int p2), .val (.int p3), .val (.int p4), .val (.int p5), .val (.ref b1), .val (.int (1 : Int32)), .val (.int (0 : Int32)), .val (.int (1 : Int32)), .val (.int (0 : Int32)), .val (.int (1 : Int32))] [])) _
      refine Go.by (fun tt_ kk_ => XS.iload X.here hx rfl (hb hby at_150) rfl kk_) ?_
      show Go p.tables e below (T.setTop (mkF m 152 #[.val (.int p0), .val (.int p1), .val (.int p2), .val (.int p3), .val (.int p4), .val (.int p5), .val (.ref b1), .val (.int (1 : Int32)), .val (.int (0 : Int32)), .val (.int (1 : Int32)), .val (.int (0 : Int32)), .val (.int (1 : Int32))] [(.int (1 : Int32))])) _
      refine Go.by (fun tt_ kk_ => XS.iload X.here hx rfl (hb hby at_152) rfl kk_) ?_
      show Go p.tables e below (T.setTop (mkF m 154 #[.val (.int p0), .val (.int p1), .val (.int p2), .val (.int p3), .val (.int p4), .val (.int p5), .val (.ref b1), .val (.int (1 : Int32)), .val (.int (0 : Int32)), .val (.int (1 : Int32)), .val (.int (0 : Int32)), .val (.int (1 : Int32))] [(.int (0 : Int32)), (.int (1 : Int32))])) _
      refine Go.by (fun tt_ kk_ => XS.ifNo X.here hx rfl (hb hby at_154) rfl ((if0 _ _).trans (teq (rfl : (0 : Int32) = (0 : Int32))).2) kk_) ?_
      show Go p.tables e below (T.setTop (mkF m 157 #[.val (.int p0), .val (.int p1), .val (.int p2), .val (.int p3), .val (.int p4), .val (.int p5), .val (.ref b1), .val (.int (1 : Int32)), .val (.int (0 : Int32)), .val (.int (1 : Int32)), .val (.int (0 : Int32)), .val (.int (1 : Int32))] [(.int (1 : Int32))])) _
      refine Go.by (fun tt_ kk_ => XS.iconst X.here hx rfl (hb hby at_157) kk_) ?_
      show Go p.tables e below (T.setTop (mkF m 158 #[.val (.int p0), .val (.int p1), .val (.int p2), .val (.int p3), .val (.int p4), .val (.int p5), .val (.ref b1), .val (.int (1 : Int32)), .val (.int (0 : Int32)), .val (.int (1 : Int32)), .val (.int (0 : Int32)), .val (.int (1 : Int32))] [(.int (1 : Int32)), (.int (1 : Int32))])) _
      refine Go.by (fun tt_ kk_ => XS.goto X.here hx rfl (pc0 := 158) (pc' := 162) rfl (hb hby at_158) (by decide) (by decide) kk_) ?_
      show Go p.tables e below (T.setTop (mkF m 162 #[.val (.int p0), .val (.int p1), .val (.int p2), .val (.int p3), .val (.int p4), .val (.int p5), .val (.ref b1), .val (.int (1 : Int32)), .val (.int (0 : Int32)), .val (.int (1 : Int32)), .val (.int (0 : Int32)), .val (.int (1 : Int32))] [(.int (1 : Int32)), (.int (1 : Int32))])) _
      refine Go.by (fun tt_ kk_ => XS.icmpNo X.here hx rfl (hb hby at_162) rfl (teq (rfl : (1 : Int32) = (1 : Int32))).2 kk_) ?_
      show Go p.tables e below (T.setTop (mkF m 165 #[.val (.int p0), .val (.int p1), .val (.int p2), .val (.int p3), .val (.int p4), .val (.int p5), .val (.ref b1), .val (.int (1 : Int32)), .val (.int (0 : Int32)), .val (.int (1 : Int32)), .val (.int (0 : Int32)), .val (.int (1 : Int32))] [])) _
      refine Go.by (fun tt_ kk_ => XS.iload X.here hx rfl (hb hby at_165) rfl kk_) ?_
      show Go p.tables e below (T.setTop (mkF m 167 #[.val (.int p0), .val (.int p1), .val (.int p2), .val (.int p3), .val (.int p4), .val (.int p5), .val (.ref b1), .val (.int (1 : Int32)), .val (.int (0 : Int32)), .val (.int (1 : Int32)), .val (.int (0 : Int32)), .val (.int (1 : Int32))] [(.int (1 : Int32))])) _
      refine Go.by (fun tt_ kk_ => XS.iload X.here hx rfl (hb hby at_167) rfl kk_) ?_
      show Go p.tables e below (T.setTop (mkF m 169 #[.val (.int p0), .val (.int p1), .val (.int p2), .val (.int p3), .val (.int p4), .val (.int p5), .val (.ref b1), .val (.int (1 : Int32)), .val (.int (0 : Int32)), .val (.int (1 : Int32)), .val (.int (0 : Int32)), .val (.int (1 : Int32))] [(.int (0 : Int32)), (.int (1 : Int32))])) _
      refine Go.by (fun tt_ kk_ => XS.iload X.here hx rfl (hb hby at_169) rfl kk_) ?_
      show Go p.tables e below (T.setTop (mkF m 171 #[.val (.int p0), .val (.int p1), .val (.int p2), .val (.int p3), .val (.int p4), .val (.int p5), .val (.ref b1), .val (.int (1 : Int32)), .val (.int (0 : Int32)), .val (.int (1 : Int32)), .val (.int (0 : Int32)), .val (.int (1 : Int32))] [(.int (0 : Int32)), (.int (0 : Int32)), (.int (1 : Int32))])) _
      refine Go.by (fun tt_ kk_ => XS.icmpNo X.here hx rfl (hb hby at_171) rfl (teq (rfl : (0 : Int32) = (0 : Int32))).2 kk_) ?_
      show Go p.tables e below (T.setTop (mkF m 174 #[.val (.int p0), .val (.int p1), .val (.int p2), .val (.int p3), .val (.int p4), .val (.int p5), .val (.ref b1), .val (.int (1 : Int32)), .val (.int (0 : Int32)), .val (.int (1 : Int32)), .val (.int (0 : Int32)), .val (.int (1 : Int32))] [(.int (1 : Int32))])) _
      refine Go.by (fun tt_ kk_ => XS.iconst X.here hx rfl (hb hby at_174) kk_) ?_
      show Go p.tables e below (T.setTop (mkF m 175 #[.val (.int p0), .val (.int p1), .val (.int p2), .val (.int p3), .val (.int p4), .val (.int p5), .val (.ref b1), .val (.int (1 : Int32)), .val (.int (0 : Int32)), .val (.int (1 : Int32)), .val (.int (0 : Int32)), .val (.int (1 : Int32))] [(.int (1 : Int32)), (.int (1 : Int32))])) _
      refine Go.by (fun tt_ kk_ => XS.goto X.here hx rfl (pc0 := 175) (pc' := 179) rfl (hb hby at_175) (by decide) (by decide) kk_) ?_
      show Go p.tables e below (T.setTop (mkF m 179 #[.val (.int p0), .val (.int p1), .val (.int p2), .val (.int p3), .val (.int p4), .val (.int p5), .val (.ref b1), .val (.int (1 : Int32)), .val (.int (0 : Int32)), .val (.int (1 : Int32)), .val (.int (0 : Int32)), .val (.int (1 : Int32))] [(.int (1 : Int32)), (.int (1 : Int32))])) _
      refine Go.by (fun tt_ kk_ => XS.icmpNo X.here hx rfl (hb hby at_179) rfl (teq (rfl : (1 : Int32) = (1 : Int32))).2 kk_) ?_
      show Go p.tables e below (T.setTop (mkF m 182 #[.val (.int p0), .val (.int p1), .val (.int p2), .val (.int p3), .val (.int p4), .val (.int p5), .val (.ref b1), .val (.int (1 : Int32)), .val (.int (0 : Int32)), .val (.int (1 : Int32)), .val (.int (0 : Int32)), .val (.int (1 : Int32))] [])) _
      refine Go.by (fun tt_ kk_ => XS.iconst X.here hx rfl (hb hby at_182) kk_) ?_
      show Go p.tables e below (T.setTop (mkF m 183 #[.val (.int p0), .val (.int p1), .val (.int p2), .val (.int p3), .val (.int p4), .val (.int p5), .val (.ref b1), .val (.int (1 : Int32)), .val (.int (0 : Int32)), .val (.int (1 : Int32)), .val (.int (0 : Int32)), .val (.int (1 : Int32))] [(.int (1 : Int32))])) _
      refine Go.by (fun tt_ kk_ => XS.goto X.here hx rfl (pc0 := 183) (pc' := 187) rfl (hb hby at_183) (by decide) (by decide) kk_) ?_
      show Go p.tables e below (T.setTop (mkF m 187 #[.val (.int p0), .val (.int p1), .val (.int p2), .val (.int p3), .val (.int p4), .val (.int p5), .val (.ref b1), .val (.int (1 : Int32)), .val (.int (0 : Int32)), .val (.int (1 : Int32)), .val (.int (0 : Int32)), .val (.int (1 : Int32))] [(.int (1 : Int32))])) _
      exact Go.done X  (v := some (.int (1 : Int32))) (fun h => by rw [Bd.returns] at h; cases h) Bd.notSynchronized (fun fs hr => retN X hx (z := (1 : Int32)) (t := .boolean) Bd.returns (by simp) (hb hby at_187) hr) (by rw [eT]; exact ⟨rfl, N⟩) (by decide) (by decide)
    · rw [hcs]
      show Go p.tables e below (T.setTop (mkF m 95 #[.val (.int p0), .val (.int p1), .val (.int p2), .val (.int p3), .val (.int p4), .val (.int p5), .val (.ref b1), .val (.int (1 : Int32)), .val (.int (0 : Int32)), .val (.int (1 : Int32)), .unset, .unset] [(.int (3 : Int32))])) _
      refine Go.by (fun tt_ kk_ => XS.iload X.here hx rfl (hb hby at_95) rfl kk_) ?_
      show Go p.tables e below (T.setTop (mkF m 97 #[.val (.int p0), .val (.int p1), .val (.int p2), .val (.int p3), .val (.int p4), .val (.int p5), .val (.ref b1), .val (.int (1 : Int32)), .val (.int (0 : Int32)), .val (.int (1 : Int32)), .unset, .unset] [(.int (0 : Int32)), (.int (3 : Int32))])) _
      have hz : (if (0 : Int32) < (3 : Int32) then (0 : Int32) else (3 : Int32)) = (0 : Int32) := by decide
      obtain ⟨_, _, ⟨T, L_, k_, n_⟩, -, X, ⟨Lc_, hQ, l_, y_, z_⟩, st⟩ := Jvm.LawKit.callS X hx (y := (⟨"java/lang/Math", "min", "(II)I"⟩ : MethodName)) hown (mvT hZ (hw _ (List.mem_of_getElem? (i := 52) rfl))) (mvT hZ (hw _ (List.mem_of_getElem? (i := 36) rfl))) (mvT hZ (hw _ (List.mem_of_getElem? (i := 11) rfl))) (mvT hZ (hw _ (List.mem_of_getElem? (i := 37) rfl))) (by decide) (backOf (W := 0) (rm7 l Z a0 hw [] (3 : Int32) (0 : Int32) h2 n0 (Nat.le_trans Z0 K.1) ) hZ (hw _ (List.mem_of_getElem? (i := 37) rfl)) (hw _ (List.mem_of_getElem? (i := 11) rfl)) (by decide) (by decide)) (g := (mkF m 97 #[.val (.int p0), .val (.int p1), .val (.int p2), .val (.int p3), .val (.int p4), .val (.int p5), .val (.ref b1), .val (.int (1 : Int32)), .val (.int (0 : Int32)), .val (.int (1 : Int32)), .unset, .unset] [(.int (0 : Int32)), (.int (3 : Int32))])) rfl (by rw [hml]; rfl) (argsL := [(.int (3 : Int32)), (.int (0 : Int32))]) (rest := []) (lenOf pd_3 rfl) rfl (by show 2 * 0 + _ ≤ _; exact Nat.le_of_eq rfl) (hb hby at_97) (fun _ _ => ⟨rfl, eT, (by decide : 3 + 0 ≤ _), (by decide : 11 + 0 ≤ _)⟩)
      dsimp only [Pt.U, Pt.locs, Pt.cells, Pt.slots] at X l_ y_ z_ st hQ
      subst l_ y_ z_
      obtain ⟨e_v, Nq, eh⟩ := hQ
      rw [hz] at e_v
      subst e_v
      have N := Fr.app N Nq
      have eT := eh
      refine Go.by st ?_
      show Go p.tables e below (T.setTop (mkF m 100 #[.val (.int p0), .val (.int p1), .val (.int p2), .val (.int p3), .val (.int p4), .val (.int p5), .val (.ref b1), .val (.int (1 : Int32)), .val (.int (0 : Int32)), .val (.int (1 : Int32)), .unset, .unset] [(.int (0 : Int32))])) _
      refine Go.by (fun tt_ kk_ => XS.istore X.here hx rfl (hb hby at_100) rfl (l' := #[.val (.int p0), .val (.int p1), .val (.int p2), .val (.int p3), .val (.int p4), .val (.int p5), .val (.ref b1), .val (.int (1 : Int32)), .val (.int (0 : Int32)), .val (.int (1 : Int32)), .val (.int (0 : Int32)), .unset]) rfl kk_) ?_
      show Go p.tables e below (T.setTop (mkF m 102 #[.val (.int p0), .val (.int p1), .val (.int p2), .val (.int p3), .val (.int p4), .val (.int p5), .val (.ref b1), .val (.int (1 : Int32)), .val (.int (0 : Int32)), .val (.int (1 : Int32)), .val (.int (0 : Int32)), .unset] [])) _
      refine Go.by (fun tt_ kk_ => XS.iload X.here hx rfl (hb hby at_102) rfl kk_) ?_
      show Go p.tables e below (T.setTop (mkF m 104 #[.val (.int p0), .val (.int p1), .val (.int p2), .val (.int p3), .val (.int p4), .val (.int p5), .val (.ref b1), .val (.int (1 : Int32)), .val (.int (0 : Int32)), .val (.int (1 : Int32)), .val (.int (0 : Int32)), .unset] [(.int (0 : Int32))])) _
      refine Go.by (fun tt_ kk_ => XS.iconst X.here hx rfl (hb hby at_104) kk_) ?_
      show Go p.tables e below (T.setTop (mkF m 105 #[.val (.int p0), .val (.int p1), .val (.int p2), .val (.int p3), .val (.int p4), .val (.int p5), .val (.ref b1), .val (.int (1 : Int32)), .val (.int (0 : Int32)), .val (.int (1 : Int32)), .val (.int (0 : Int32)), .unset] [(.int (1 : Int32)), (.int (0 : Int32))])) _
      refine Go.by (fun tt_ kk_ => XS.icmpYes X.here hx rfl (pc0 := 105) (pc' := 114) rfl (hb hby at_105) rfl (tlt (by decide : (0 : Int32) < (1 : Int32))).1 (by decide) (by decide) kk_) ?_
      show Go p.tables e below (T.setTop (mkF m 114 #[.val (.int p0), .val (.int p1), .val (.int p2), .val (.int p3), .val (.int p4), .val (.int p5), .val (.ref b1), .val (.int (1 : Int32)), .val (.int (0 : Int32)), .val (.int (1 : Int32)), .val (.int (0 : Int32)), .unset] [])) _
      refine Go.by (fun tt_ kk_ => XS.iload X.here hx rfl (hb hby at_114) rfl kk_) ?_
      show Go p.tables e below (T.setTop (mkF m 116 #[.val (.int p0), .val (.int p1), .val (.int p2), .val (.int p3), .val (.int p4), .val (.int p5), .val (.ref b1), .val (.int (1 : Int32)), .val (.int (0 : Int32)), .val (.int (1 : Int32)), .val (.int (0 : Int32)), .unset] [(.int (0 : Int32))])) _
      refine Go.by (fun tt_ kk_ => XS.iconst X.here hx rfl (hb hby at_116) kk_) ?_
      show Go p.tables e below (T.setTop (mkF m 117 #[.val (.int p0), .val (.int p1), .val (.int p2), .val (.int p3), .val (.int p4), .val (.int p5), .val (.ref b1), .val (.int (1 : Int32)), .val (.int (0 : Int32)), .val (.int (1 : Int32)), .val (.int (0 : Int32)), .unset] [(.int (2 : Int32)), (.int (0 : Int32))])) _
      refine Go.by (fun tt_ kk_ => XS.icmpYes X.here hx rfl (pc0 := 117) (pc' := 126) rfl (hb hby at_117) rfl (tlt (by decide : (0 : Int32) < (2 : Int32))).1 (by decide) (by decide) kk_) ?_
      show Go p.tables e below (T.setTop (mkF m 126 #[.val (.int p0), .val (.int p1), .val (.int p2), .val (.int p3), .val (.int p4), .val (.int p5), .val (.ref b1), .val (.int (1 : Int32)), .val (.int (0 : Int32)), .val (.int (1 : Int32)), .val (.int (0 : Int32)), .unset] [])) _
      refine Go.by (fun tt_ kk_ => XS.iload X.here hx rfl (hb hby at_126) rfl kk_) ?_
      show Go p.tables e below (T.setTop (mkF m 128 #[.val (.int p0), .val (.int p1), .val (.int p2), .val (.int p3), .val (.int p4), .val (.int p5), .val (.ref b1), .val (.int (1 : Int32)), .val (.int (0 : Int32)), .val (.int (1 : Int32)), .val (.int (0 : Int32)), .unset] [(.int (0 : Int32))])) _
      refine Go.by (fun tt_ kk_ => XS.iconst X.here hx rfl (hb hby at_128) kk_) ?_
      show Go p.tables e below (T.setTop (mkF m 129 #[.val (.int p0), .val (.int p1), .val (.int p2), .val (.int p3), .val (.int p4), .val (.int p5), .val (.ref b1), .val (.int (1 : Int32)), .val (.int (0 : Int32)), .val (.int (1 : Int32)), .val (.int (0 : Int32)), .unset] [(.int (3 : Int32)), (.int (0 : Int32))])) _
      refine Go.by (fun tt_ kk_ => XS.icmpYes X.here hx rfl (pc0 := 129) (pc' := 138) rfl (hb hby at_129) rfl (tlt (by decide : (0 : Int32) < (3 : Int32))).1 (by decide) (by decide) kk_) ?_
      show Go p.tables e below (T.setTop (mkF m 138 #[.val (.int p0), .val (.int p1), .val (.int p2), .val (.int p3), .val (.int p4), .val (.int p5), .val (.ref b1), .val (.int (1 : Int32)), .val (.int (0 : Int32)), .val (.int (1 : Int32)), .val (.int (0 : Int32)), .unset] [])) _
      refine Go.by (fun tt_ kk_ => XS.aload X.here hx rfl (hb hby at_138) rfl rfl kk_) ?_
      show Go p.tables e below (T.setTop (mkF m 140 #[.val (.int p0), .val (.int p1), .val (.int p2), .val (.int p3), .val (.int p4), .val (.int p5), .val (.ref b1), .val (.int (1 : Int32)), .val (.int (0 : Int32)), .val (.int (1 : Int32)), .val (.int (0 : Int32)), .unset] [(.ref b1)])) _
      have hz : (if (0 : Int32) = 0 then (1 : Int32) else 0) = (1 : Int32) := by decide
      obtain ⟨cq_, kq_, qa_, qb_, qc_⟩ := isOf hZ eT E_b1
      obtain ⟨_, _, ⟨T, L_, k_, n_⟩, -, X, ⟨Lc_, hQ, l_, y_, z_⟩, st⟩ := X.virtualBack hx (y := (⟨"com/example/mode_choice_loop/modechoiceloop/simulation/TimeHeap", "isEmpty", "()Z"⟩ : MethodName)) (z := (⟨"com/example/mode_choice_loop/modechoiceloop/simulation/TimeHeap", "isEmpty", "()Z"⟩ : MethodName)) hown (mvT hZ (hw _ (List.mem_of_getElem? (i := 19) rfl))) (mvT hZ (hw _ (List.mem_of_getElem? (i := 20) rfl))) (notFace_of_selects (args := #[]) (mvT hZ (hw _ (List.mem_of_getElem? (i := 22) rfl)))) (mvT hZ (hw _ (List.mem_of_getElem? (i := 22) rfl))) (mvT hZ (hw _ (List.mem_of_getElem? (i := 21) rfl))) (by decide) (backOf (W := 0) (rm4 l Z a0 hw [] b1 (0 : Int32) h2 n0 (Nat.le_trans Z0 K.1) TH) hZ (hw _ (List.mem_of_getElem? (i := 23) rfl)) (hw _ (List.mem_of_getElem? (i := 2) rfl)) (by decide) (by decide)) qa_ qc_ (g := (mkF m 140 #[.val (.int p0), .val (.int p1), .val (.int p2), .val (.int p3), .val (.int p4), .val (.int p5), .val (.ref b1), .val (.int (1 : Int32)), .val (.int (0 : Int32)), .val (.int (1 : Int32)), .val (.int (0 : Int32)), .unset] [(.ref b1)])) rfl (by rw [hml]; rfl) (Steps.refl _) (argsL := []) (rest := []) (lenOf pd_10 rfl) rfl (by show 2 * 0 + _ ≤ _; exact Nat.le_of_eq rfl) (hb hby at_140) (fun _ _ => ⟨rfl, eT, (by decide : 3 + 0 ≤ _), (by decide : 11 + 0 ≤ _)⟩)
      dsimp only [Pt.U, Pt.locs, Pt.cells, Pt.slots] at X l_ y_ z_ st hQ
      subst l_ y_ z_
      obtain ⟨e_v, Nq, eh⟩ := hQ
      rw [hz] at e_v
      subst e_v
      have N := Fr.app N Nq
      have eT := eh
      refine Go.tr st ?_
      show Go p.tables e below (T.setTop (mkF m 143 #[.val (.int p0), .val (.int p1), .val (.int p2), .val (.int p3), .val (.int p4), .val (.int p5), .val (.ref b1), .val (.int (1 : Int32)), .val (.int (0 : Int32)), .val (.int (1 : Int32)), .val (.int (0 : Int32)), .unset] [(.int (1 : Int32))])) _
      refine Go.by (fun tt_ kk_ => XS.istore X.here hx rfl (hb hby at_143) rfl (l' := #[.val (.int p0), .val (.int p1), .val (.int p2), .val (.int p3), .val (.int p4), .val (.int p5), .val (.ref b1), .val (.int (1 : Int32)), .val (.int (0 : Int32)), .val (.int (1 : Int32)), .val (.int (0 : Int32)), .val (.int (1 : Int32))]) rfl kk_) ?_
      show Go p.tables e below (T.setTop (mkF m 145 #[.val (.int p0), .val (.int p1), .val (.int p2), .val (.int p3), .val (.int p4), .val (.int p5), .val (.ref b1), .val (.int (1 : Int32)), .val (.int (0 : Int32)), .val (.int (1 : Int32)), .val (.int (0 : Int32)), .val (.int (1 : Int32))] [])) _
      refine Go.by (fun tt_ kk_ => XS.iload X.here hx rfl (hb hby at_145) rfl kk_) ?_
      show Go p.tables e below (T.setTop (mkF m 147 #[.val (.int p0), .val (.int p1), .val (.int p2), .val (.int p3), .val (.int p4), .val (.int p5), .val (.ref b1), .val (.int (1 : Int32)), .val (.int (0 : Int32)), .val (.int (1 : Int32)), .val (.int (0 : Int32)), .val (.int (1 : Int32))] [(.int (1 : Int32))])) _
      refine Go.by (fun tt_ kk_ => XS.ifNo X.here hx rfl (hb hby at_147) rfl ((if0 _ _).trans (feq (by decide : ¬ ((1 : Int32) = (0 : Int32)))).1) kk_) ?_
      show Go p.tables e below (T.setTop (mkF m 150 #[.val (.int p0), .val (.int p1), .val (.int p2), .val (.int p3), .val (.int p4), .val (.int p5), .val (.ref b1), .val (.int (1 : Int32)), .val (.int (0 : Int32)), .val (.int (1 : Int32)), .val (.int (0 : Int32)), .val (.int (1 : Int32))] [])) _
      refine Go.by (fun tt_ kk_ => XS.iload X.here hx rfl (hb hby at_150) rfl kk_) ?_
      show Go p.tables e below (T.setTop (mkF m 152 #[.val (.int p0), .val (.int p1), .val (.int p2), .val (.int p3), .val (.int p4), .val (.int p5), .val (.ref b1), .val (.int (1 : Int32)), .val (.int (0 : Int32)), .val (.int (1 : Int32)), .val (.int (0 : Int32)), .val (.int (1 : Int32))] [(.int (1 : Int32))])) _
      refine Go.by (fun tt_ kk_ => XS.iload X.here hx rfl (hb hby at_152) rfl kk_) ?_
      show Go p.tables e below (T.setTop (mkF m 154 #[.val (.int p0), .val (.int p1), .val (.int p2), .val (.int p3), .val (.int p4), .val (.int p5), .val (.ref b1), .val (.int (1 : Int32)), .val (.int (0 : Int32)), .val (.int (1 : Int32)), .val (.int (0 : Int32)), .val (.int (1 : Int32))] [(.int (0 : Int32)), (.int (1 : Int32))])) _
      refine Go.by (fun tt_ kk_ => XS.ifNo X.here hx rfl (hb hby at_154) rfl ((if0 _ _).trans (teq (rfl : (0 : Int32) = (0 : Int32))).2) kk_) ?_
      show Go p.tables e below (T.setTop (mkF m 157 #[.val (.int p0), .val (.int p1), .val (.int p2), .val (.int p3), .val (.int p4), .val (.int p5), .val (.ref b1), .val (.int (1 : Int32)), .val (.int (0 : Int32)), .val (.int (1 : Int32)), .val (.int (0 : Int32)), .val (.int (1 : Int32))] [(.int (1 : Int32))])) _
      refine Go.by (fun tt_ kk_ => XS.iconst X.here hx rfl (hb hby at_157) kk_) ?_
      show Go p.tables e below (T.setTop (mkF m 158 #[.val (.int p0), .val (.int p1), .val (.int p2), .val (.int p3), .val (.int p4), .val (.int p5), .val (.ref b1), .val (.int (1 : Int32)), .val (.int (0 : Int32)), .val (.int (1 : Int32)), .val (.int (0 : Int32)), .val (.int (1 : Int32))] [(.int (1 : Int32)), (.int (1 : Int32))])) _
      refine Go.by (fun tt_ kk_ => XS.goto X.here hx rfl (pc0 := 158) (pc' := 162) rfl (hb hby at_158) (by decide) (by decide) kk_) ?_
      show Go p.tables e below (T.setTop (mkF m 162 #[.val (.int p0), .val (.int p1), .val (.int p2), .val (.int p3), .val (.int p4), .val (.int p5), .val (.ref b1), .val (.int (1 : Int32)), .val (.int (0 : Int32)), .val (.int (1 : Int32)), .val (.int (0 : Int32)), .val (.int (1 : Int32))] [(.int (1 : Int32)), (.int (1 : Int32))])) _
      refine Go.by (fun tt_ kk_ => XS.icmpNo X.here hx rfl (hb hby at_162) rfl (teq (rfl : (1 : Int32) = (1 : Int32))).2 kk_) ?_
      show Go p.tables e below (T.setTop (mkF m 165 #[.val (.int p0), .val (.int p1), .val (.int p2), .val (.int p3), .val (.int p4), .val (.int p5), .val (.ref b1), .val (.int (1 : Int32)), .val (.int (0 : Int32)), .val (.int (1 : Int32)), .val (.int (0 : Int32)), .val (.int (1 : Int32))] [])) _
      refine Go.by (fun tt_ kk_ => XS.iload X.here hx rfl (hb hby at_165) rfl kk_) ?_
      show Go p.tables e below (T.setTop (mkF m 167 #[.val (.int p0), .val (.int p1), .val (.int p2), .val (.int p3), .val (.int p4), .val (.int p5), .val (.ref b1), .val (.int (1 : Int32)), .val (.int (0 : Int32)), .val (.int (1 : Int32)), .val (.int (0 : Int32)), .val (.int (1 : Int32))] [(.int (1 : Int32))])) _
      refine Go.by (fun tt_ kk_ => XS.iload X.here hx rfl (hb hby at_167) rfl kk_) ?_
      show Go p.tables e below (T.setTop (mkF m 169 #[.val (.int p0), .val (.int p1), .val (.int p2), .val (.int p3), .val (.int p4), .val (.int p5), .val (.ref b1), .val (.int (1 : Int32)), .val (.int (0 : Int32)), .val (.int (1 : Int32)), .val (.int (0 : Int32)), .val (.int (1 : Int32))] [(.int (0 : Int32)), (.int (1 : Int32))])) _
      refine Go.by (fun tt_ kk_ => XS.iload X.here hx rfl (hb hby at_169) rfl kk_) ?_
      show Go p.tables e below (T.setTop (mkF m 171 #[.val (.int p0), .val (.int p1), .val (.int p2), .val (.int p3), .val (.int p4), .val (.int p5), .val (.ref b1), .val (.int (1 : Int32)), .val (.int (0 : Int32)), .val (.int (1 : Int32)), .val (.int (0 : Int32)), .val (.int (1 : Int32))] [(.int (0 : Int32)), (.int (0 : Int32)), (.int (1 : Int32))])) _
      refine Go.by (fun tt_ kk_ => XS.icmpNo X.here hx rfl (hb hby at_171) rfl (teq (rfl : (0 : Int32) = (0 : Int32))).2 kk_) ?_
      show Go p.tables e below (T.setTop (mkF m 174 #[.val (.int p0), .val (.int p1), .val (.int p2), .val (.int p3), .val (.int p4), .val (.int p5), .val (.ref b1), .val (.int (1 : Int32)), .val (.int (0 : Int32)), .val (.int (1 : Int32)), .val (.int (0 : Int32)), .val (.int (1 : Int32))] [(.int (1 : Int32))])) _
      refine Go.by (fun tt_ kk_ => XS.iconst X.here hx rfl (hb hby at_174) kk_) ?_
      show Go p.tables e below (T.setTop (mkF m 175 #[.val (.int p0), .val (.int p1), .val (.int p2), .val (.int p3), .val (.int p4), .val (.int p5), .val (.ref b1), .val (.int (1 : Int32)), .val (.int (0 : Int32)), .val (.int (1 : Int32)), .val (.int (0 : Int32)), .val (.int (1 : Int32))] [(.int (1 : Int32)), (.int (1 : Int32))])) _
      refine Go.by (fun tt_ kk_ => XS.goto X.here hx rfl (pc0 := 175) (pc' := 179) rfl (hb hby at_175) (by decide) (by decide) kk_) ?_
      show Go p.tables e below (T.setTop (mkF m 179 #[.val (.int p0), .val (.int p1), .val (.int p2), .val (.int p3), .val (.int p4), .val (.int p5), .val (.ref b1), .val (.int (1 : Int32)), .val (.int (0 : Int32)), .val (.int (1 : Int32)), .val (.int (0 : Int32)), .val (.int (1 : Int32))] [(.int (1 : Int32)), (.int (1 : Int32))])) _
      refine Go.by (fun tt_ kk_ => XS.icmpNo X.here hx rfl (hb hby at_179) rfl (teq (rfl : (1 : Int32) = (1 : Int32))).2 kk_) ?_
      show Go p.tables e below (T.setTop (mkF m 182 #[.val (.int p0), .val (.int p1), .val (.int p2), .val (.int p3), .val (.int p4), .val (.int p5), .val (.ref b1), .val (.int (1 : Int32)), .val (.int (0 : Int32)), .val (.int (1 : Int32)), .val (.int (0 : Int32)), .val (.int (1 : Int32))] [])) _
      refine Go.by (fun tt_ kk_ => XS.iconst X.here hx rfl (hb hby at_182) kk_) ?_
      show Go p.tables e below (T.setTop (mkF m 183 #[.val (.int p0), .val (.int p1), .val (.int p2), .val (.int p3), .val (.int p4), .val (.int p5), .val (.ref b1), .val (.int (1 : Int32)), .val (.int (0 : Int32)), .val (.int (1 : Int32)), .val (.int (0 : Int32)), .val (.int (1 : Int32))] [(.int (1 : Int32))])) _
      refine Go.by (fun tt_ kk_ => XS.goto X.here hx rfl (pc0 := 183) (pc' := 187) rfl (hb hby at_183) (by decide) (by decide) kk_) ?_
      show Go p.tables e below (T.setTop (mkF m 187 #[.val (.int p0), .val (.int p1), .val (.int p2), .val (.int p3), .val (.int p4), .val (.int p5), .val (.ref b1), .val (.int (1 : Int32)), .val (.int (0 : Int32)), .val (.int (1 : Int32)), .val (.int (0 : Int32)), .val (.int (1 : Int32))] [(.int (1 : Int32))])) _
      exact Go.done X  (v := some (.int (1 : Int32))) (fun h => by rw [Bd.returns] at h; cases h) Bd.notSynchronized (fun fs hr => retN X hx (z := (1 : Int32)) (t := .boolean) Bd.returns (by simp) (hb hby at_187) hr) (by rw [eT]; exact ⟨rfl, N⟩) (by decide) (by decide)
  · rw [hcs]
    show Go p.tables e below (T.setTop (mkF m 25 #[.val (.int p0), .val (.int p1), .val (.int p2), .val (.int p3), .val (.int p4), .val (.int p5), .val (.ref b1), .val (.int (1 : Int32)), .unset, .unset, .unset, .unset] [(.int (1 : Int32))])) _
    refine Go.by (fun tt_ kk_ => XS.istore X.here hx rfl (hb hby at_25) rfl (l' := #[.val (.int p0), .val (.int p1), .val (.int p2), .val (.int p3), .val (.int p4), .val (.int p5), .val (.ref b1), .val (.int (1 : Int32)), .val (.int (1 : Int32)), .unset, .unset, .unset]) rfl kk_) ?_
    show Go p.tables e below (T.setTop (mkF m 27 #[.val (.int p0), .val (.int p1), .val (.int p2), .val (.int p3), .val (.int p4), .val (.int p5), .val (.ref b1), .val (.int (1 : Int32)), .val (.int (1 : Int32)), .unset, .unset, .unset] [])) _
    refine Go.by (fun tt_ kk_ => XS.iload X.here hx rfl (hb hby at_27) rfl kk_) ?_
    show Go p.tables e below (T.setTop (mkF m 29 #[.val (.int p0), .val (.int p1), .val (.int p2), .val (.int p3), .val (.int p4), .val (.int p5), .val (.ref b1), .val (.int (1 : Int32)), .val (.int (1 : Int32)), .unset, .unset, .unset] [(.int (1 : Int32))])) _
    refine Go.by (fun tt_ kk_ => XS.iconst X.here hx rfl (hb hby at_29) kk_) ?_
    show Go p.tables e below (T.setTop (mkF m 30 #[.val (.int p0), .val (.int p1), .val (.int p2), .val (.int p3), .val (.int p4), .val (.int p5), .val (.ref b1), .val (.int (1 : Int32)), .val (.int (1 : Int32)), .unset, .unset, .unset] [(.int (1 : Int32)), (.int (1 : Int32))])) _
    refine Go.by (fun tt_ kk_ => XS.icmpNo X.here hx rfl (hb hby at_30) rfl (flt (by decide : ¬ ((1 : Int32) < (1 : Int32)))).1 kk_) ?_
    show Go p.tables e below (T.setTop (mkF m 33 #[.val (.int p0), .val (.int p1), .val (.int p2), .val (.int p3), .val (.int p4), .val (.int p5), .val (.ref b1), .val (.int (1 : Int32)), .val (.int (1 : Int32)), .unset, .unset, .unset] [])) _
    refine Go.by (fun tt_ kk_ => XS.aload X.here hx rfl (hb hby at_33) rfl rfl kk_) ?_
    show Go p.tables e below (T.setTop (mkF m 35 #[.val (.int p0), .val (.int p1), .val (.int p2), .val (.int p3), .val (.int p4), .val (.int p5), .val (.ref b1), .val (.int (1 : Int32)), .val (.int (1 : Int32)), .unset, .unset, .unset] [(.ref b1)])) _
    refine Go.by (fun tt_ kk_ => XS.iloadN X.here hx rfl (hb hby at_35) rfl kk_) ?_
    show Go p.tables e below (T.setTop (mkF m 36 #[.val (.int p0), .val (.int p1), .val (.int p2), .val (.int p3), .val (.int p4), .val (.int p5), .val (.ref b1), .val (.int (1 : Int32)), .val (.int (1 : Int32)), .unset, .unset, .unset] [(.int p3), (.ref b1)])) _
    refine Go.by (fun tt_ kk_ => XS.iloadN X.here hx rfl (hb hby at_36) rfl kk_) ?_
    show Go p.tables e below (T.setTop (mkF m 37 #[.val (.int p0), .val (.int p1), .val (.int p2), .val (.int p3), .val (.int p4), .val (.int p5), .val (.ref b1), .val (.int (1 : Int32)), .val (.int (1 : Int32)), .unset, .unset, .unset] [(.int p3), (.int p3), (.ref b1)])) _
    refine Go.by (fun tt_ kk_ => XS.bipush X.here hx rfl (hb hby at_37) kk_) ?_
    show Go p.tables e below (T.setTop (mkF m 39 #[.val (.int p0), .val (.int p1), .val (.int p2), .val (.int p3), .val (.int p4), .val (.int p5), .val (.ref b1), .val (.int (1 : Int32)), .val (.int (1 : Int32)), .unset, .unset, .unset] [(.int (7 : Int32)), (.int p3), (.int p3), (.ref b1)])) _
    refine Go.by (fun tt_ kk_ => XS.iand X.here hx rfl (hb hby at_39) rfl kk_) ?_
    show Go p.tables e below (T.setTop (mkF m 40 #[.val (.int p0), .val (.int p1), .val (.int p2), .val (.int p3), .val (.int p4), .val (.int p5), .val (.ref b1), .val (.int (1 : Int32)), .val (.int (1 : Int32)), .unset, .unset, .unset] [(.int (p3 &&& (7 : Int32))), (.int p3), (.ref b1)])) _
    refine Go.by (fun tt_ kk_ => XS.i2dS X.here hx rfl (hb hby at_40) rfl rfl kk_) ?_
    show Go p.tables e below (T.setTop (mkF m 41 #[.val (.int p0), .val (.int p1), .val (.int p2), .val (.int p3), .val (.int p4), .val (.int p5), .val (.ref b1), .val (.int (1 : Int32)), .val (.int (1 : Int32)), .unset, .unset, .unset] [(.double (FP.i2d (p3 &&& (7 : Int32)))), (.int p3), (.ref b1)])) _
    obtain ⟨cq_, kq_, qa_, qb_, qc_⟩ := isOf hZ eT E_b1
    obtain ⟨_, _, ⟨T, L_, k_, n_⟩, -, X, ⟨Lc_, hQ, l_, y_, z_⟩, st⟩ := X.virtualBack hx (y := (⟨"com/example/mode_choice_loop/modechoiceloop/simulation/TimeHeap", "add", "(ID)Z"⟩ : MethodName)) (z := (⟨"com/example/mode_choice_loop/modechoiceloop/simulation/TimeHeap", "add", "(ID)Z"⟩ : MethodName)) hown (mvT hZ (hw _ (List.mem_of_getElem? (i := 26) rfl))) (mvT hZ (hw _ (List.mem_of_getElem? (i := 27) rfl))) (notFace_of_selects (args := #[]) (mvT hZ (hw _ (List.mem_of_getElem? (i := 29) rfl)))) (mvT hZ (hw _ (List.mem_of_getElem? (i := 29) rfl))) (mvT hZ (hw _ (List.mem_of_getElem? (i := 28) rfl))) (by decide) (backOf (W := 0) (rm5_0 l Z a0 hw [] b1 p3 (FP.i2d (p3 &&& (7 : Int32))) h2 n0 (Nat.le_trans Z0 K.1) TH (Dy.i2d _).noNaN) hZ (hw _ (List.mem_of_getElem? (i := 30) rfl)) (hw _ (List.mem_of_getElem? (i := 2) rfl)) (by decide) (by decide)) qa_ qc_ (g := (mkF m 41 #[.val (.int p0), .val (.int p1), .val (.int p2), .val (.int p3), .val (.int p4), .val (.int p5), .val (.ref b1), .val (.int (1 : Int32)), .val (.int (1 : Int32)), .unset, .unset, .unset] [(.double (FP.i2d (p3 &&& (7 : Int32)))), (.int p3), (.ref b1)])) rfl (by rw [hml]; rfl) (Steps.refl _) (argsL := [(.int p3), (.double (FP.i2d (p3 &&& (7 : Int32))))]) (rest := []) (lenOf pd_11 rfl) rfl (by show 2 * 0 + _ ≤ _; exact Nat.le_of_eq rfl) (hb hby at_41) (fun _ _ => ⟨rfl, eT, (by decide : 3 + 2 ≤ _), (by decide : 11 + 8 ≤ _)⟩)
    dsimp only [Pt.U, Pt.locs, Pt.cells, Pt.slots] at X l_ y_ z_ st hQ
    subst l_ y_ z_
    obtain ⟨h14, eT⟩ : ∃ z, T.heap = z := ⟨_, rfl⟩
    rw [eT] at hQ
    obtain ⟨r13, rfl, Nq, Kq, TH⟩ := hQ
    have N := Fr.app N Nq
    have K := And.intro (Nat.le_trans K.1 Kq.1) trivial
    have E_b1 := TH.1
    refine Go.tr st ?_
    show Go p.tables e below (T.setTop (mkF m 44 #[.val (.int p0), .val (.int p1), .val (.int p2), .val (.int p3), .val (.int p4), .val (.int p5), .val (.ref b1), .val (.int (1 : Int32)), .val (.int (1 : Int32)), .unset, .unset, .unset] [(.int r13)])) _
    refine Go.by (fun tt_ kk_ => XS.pop X.here hx rfl (hb hby at_44) rfl rfl kk_) ?_
    show Go p.tables e below (T.setTop (mkF m 45 #[.val (.int p0), .val (.int p1), .val (.int p2), .val (.int p3), .val (.int p4), .val (.int p5), .val (.ref b1), .val (.int (1 : Int32)), .val (.int (1 : Int32)), .unset, .unset, .unset] [])) _
    refine Go.by (fun tt_ kk_ => XS.iload X.here hx rfl (hb hby at_45) rfl kk_) ?_
    show Go p.tables e below (T.setTop (mkF m 47 #[.val (.int p0), .val (.int p1), .val (.int p2), .val (.int p3), .val (.int p4), .val (.int p5), .val (.ref b1), .val (.int (1 : Int32)), .val (.int (1 : Int32)), .unset, .unset, .unset] [(.int (1 : Int32))])) _
    refine Go.by (fun tt_ kk_ => XS.iconst X.here hx rfl (hb hby at_47) kk_) ?_
    show Go p.tables e below (T.setTop (mkF m 48 #[.val (.int p0), .val (.int p1), .val (.int p2), .val (.int p3), .val (.int p4), .val (.int p5), .val (.ref b1), .val (.int (1 : Int32)), .val (.int (1 : Int32)), .unset, .unset, .unset] [(.int (2 : Int32)), (.int (1 : Int32))])) _
    refine Go.by (fun tt_ kk_ => XS.icmpYes X.here hx rfl (pc0 := 48) (pc' := 65) rfl (hb hby at_48) rfl (tlt (by decide : (1 : Int32) < (2 : Int32))).1 (by decide) (by decide) kk_) ?_
    show Go p.tables e below (T.setTop (mkF m 65 #[.val (.int p0), .val (.int p1), .val (.int p2), .val (.int p3), .val (.int p4), .val (.int p5), .val (.ref b1), .val (.int (1 : Int32)), .val (.int (1 : Int32)), .unset, .unset, .unset] [])) _
    refine Go.by (fun tt_ kk_ => XS.iload X.here hx rfl (hb hby at_65) rfl kk_) ?_
    show Go p.tables e below (T.setTop (mkF m 67 #[.val (.int p0), .val (.int p1), .val (.int p2), .val (.int p3), .val (.int p4), .val (.int p5), .val (.ref b1), .val (.int (1 : Int32)), .val (.int (1 : Int32)), .unset, .unset, .unset] [(.int (1 : Int32))])) _
    refine Go.by (fun tt_ kk_ => XS.iconst X.here hx rfl (hb hby at_67) kk_) ?_
    show Go p.tables e below (T.setTop (mkF m 68 #[.val (.int p0), .val (.int p1), .val (.int p2), .val (.int p3), .val (.int p4), .val (.int p5), .val (.ref b1), .val (.int (1 : Int32)), .val (.int (1 : Int32)), .unset, .unset, .unset] [(.int (3 : Int32)), (.int (1 : Int32))])) _
    refine Go.by (fun tt_ kk_ => XS.icmpYes X.here hx rfl (pc0 := 68) (pc' := 85) rfl (hb hby at_68) rfl (tlt (by decide : (1 : Int32) < (3 : Int32))).1 (by decide) (by decide) kk_) ?_
    show Go p.tables e below (T.setTop (mkF m 85 #[.val (.int p0), .val (.int p1), .val (.int p2), .val (.int p3), .val (.int p4), .val (.int p5), .val (.ref b1), .val (.int (1 : Int32)), .val (.int (1 : Int32)), .unset, .unset, .unset] [])) _
    refine Go.by (fun tt_ kk_ => XS.aload X.here hx rfl (hb hby at_85) rfl rfl kk_) ?_
    show Go p.tables e below (T.setTop (mkF m 87 #[.val (.int p0), .val (.int p1), .val (.int p2), .val (.int p3), .val (.int p4), .val (.int p5), .val (.ref b1), .val (.int (1 : Int32)), .val (.int (1 : Int32)), .unset, .unset, .unset] [(.ref b1)])) _
    have hz : (if (1 : Int32) = 0 then (1 : Int32) else 0) = (0 : Int32) := by decide
    obtain ⟨cq_, kq_, qa_, qb_, qc_⟩ := isOf hZ eT E_b1
    obtain ⟨_, _, ⟨T, L_, k_, n_⟩, -, X, ⟨Lc_, hQ, l_, y_, z_⟩, st⟩ := X.virtualBack hx (y := (⟨"com/example/mode_choice_loop/modechoiceloop/simulation/TimeHeap", "isEmpty", "()Z"⟩ : MethodName)) (z := (⟨"com/example/mode_choice_loop/modechoiceloop/simulation/TimeHeap", "isEmpty", "()Z"⟩ : MethodName)) hown (mvT hZ (hw _ (List.mem_of_getElem? (i := 19) rfl))) (mvT hZ (hw _ (List.mem_of_getElem? (i := 20) rfl))) (notFace_of_selects (args := #[]) (mvT hZ (hw _ (List.mem_of_getElem? (i := 22) rfl)))) (mvT hZ (hw _ (List.mem_of_getElem? (i := 22) rfl))) (mvT hZ (hw _ (List.mem_of_getElem? (i := 21) rfl))) (by decide) (backOf (W := 0) (rm4 l Z a0 hw [] b1 (1 : Int32) h14 n0 (Nat.le_trans Z0 K.1) TH) hZ (hw _ (List.mem_of_getElem? (i := 23) rfl)) (hw _ (List.mem_of_getElem? (i := 2) rfl)) (by decide) (by decide)) qa_ qc_ (g := (mkF m 87 #[.val (.int p0), .val (.int p1), .val (.int p2), .val (.int p3), .val (.int p4), .val (.int p5), .val (.ref b1), .val (.int (1 : Int32)), .val (.int (1 : Int32)), .unset, .unset, .unset] [(.ref b1)])) rfl (by rw [hml]; rfl) (Steps.refl _) (argsL := []) (rest := []) (lenOf pd_10 rfl) rfl (by show 2 * 0 + _ ≤ _; exact Nat.le_of_eq rfl) (hb hby at_87) (fun _ _ => ⟨rfl, eT, (by decide : 5 + 0 ≤ _), (by decide : 19 + 0 ≤ _)⟩)
    dsimp only [Pt.U, Pt.locs, Pt.cells, Pt.slots] at X l_ y_ z_ st hQ
    subst l_ y_ z_
    obtain ⟨e_v, Nq, eh⟩ := hQ
    rw [hz] at e_v
    subst e_v
    have N := Fr.app N Nq
    have eT := eh
    refine Go.tr st ?_
    show Go p.tables e below (T.setTop (mkF m 90 #[.val (.int p0), .val (.int p1), .val (.int p2), .val (.int p3), .val (.int p4), .val (.int p5), .val (.ref b1), .val (.int (1 : Int32)), .val (.int (1 : Int32)), .unset, .unset, .unset] [(.int (0 : Int32))])) _
    refine Go.by (fun tt_ kk_ => XS.istore X.here hx rfl (hb hby at_90) rfl (l' := #[.val (.int p0), .val (.int p1), .val (.int p2), .val (.int p3), .val (.int p4), .val (.int p5), .val (.ref b1), .val (.int (1 : Int32)), .val (.int (1 : Int32)), .val (.int (0 : Int32)), .unset, .unset]) rfl kk_) ?_
    show Go p.tables e below (T.setTop (mkF m 92 #[.val (.int p0), .val (.int p1), .val (.int p2), .val (.int p3), .val (.int p4), .val (.int p5), .val (.ref b1), .val (.int (1 : Int32)), .val (.int (1 : Int32)), .val (.int (0 : Int32)), .unset, .unset] [])) _
    refine Go.by (fun tt_ kk_ => XS.iloadN X.here hx rfl (hb hby at_92) rfl kk_) ?_
    show Go p.tables e below (T.setTop (mkF m 93 #[.val (.int p0), .val (.int p1), .val (.int p2), .val (.int p3), .val (.int p4), .val (.int p5), .val (.ref b1), .val (.int (1 : Int32)), .val (.int (1 : Int32)), .val (.int (0 : Int32)), .unset, .unset] [(.int p2)])) _
    refine Go.by (fun tt_ kk_ => XS.iconst X.here hx rfl (hb hby at_93) kk_) ?_
    show Go p.tables e below (T.setTop (mkF m 94 #[.val (.int p0), .val (.int p1), .val (.int p2), .val (.int p3), .val (.int p4), .val (.int p5), .val (.ref b1), .val (.int (1 : Int32)), .val (.int (1 : Int32)), .val (.int (0 : Int32)), .unset, .unset] [(.int (3 : Int32)), (.int p2)])) _
    refine Go.by (fun tt_ kk_ => XS.iand X.here hx rfl (hb hby at_94) rfl kk_) ?_
    show Go p.tables e below (T.setTop (mkF m 95 #[.val (.int p0), .val (.int p1), .val (.int p2), .val (.int p3), .val (.int p4), .val (.int p5), .val (.ref b1), .val (.int (1 : Int32)), .val (.int (1 : Int32)), .val (.int (0 : Int32)), .unset, .unset] [(.int (p2 &&& (3 : Int32)))])) _
    have hcs := own_and3 p2
    rcases hcs with hcs | hcs | hcs | hcs
    · rw [hcs]
      show Go p.tables e below (T.setTop (mkF m 95 #[.val (.int p0), .val (.int p1), .val (.int p2), .val (.int p3), .val (.int p4), .val (.int p5), .val (.ref b1), .val (.int (1 : Int32)), .val (.int (1 : Int32)), .val (.int (0 : Int32)), .unset, .unset] [(.int (0 : Int32))])) _
      refine Go.by (fun tt_ kk_ => XS.iload X.here hx rfl (hb hby at_95) rfl kk_) ?_
      show Go p.tables e below (T.setTop (mkF m 97 #[.val (.int p0), .val (.int p1), .val (.int p2), .val (.int p3), .val (.int p4), .val (.int p5), .val (.ref b1), .val (.int (1 : Int32)), .val (.int (1 : Int32)), .val (.int (0 : Int32)), .unset, .unset] [(.int (1 : Int32)), (.int (0 : Int32))])) _
      have hz : (if (1 : Int32) < (0 : Int32) then (1 : Int32) else (0 : Int32)) = (0 : Int32) := by decide
      obtain ⟨_, _, ⟨T, L_, k_, n_⟩, -, X, ⟨Lc_, hQ, l_, y_, z_⟩, st⟩ := Jvm.LawKit.callS X hx (y := (⟨"java/lang/Math", "min", "(II)I"⟩ : MethodName)) hown (mvT hZ (hw _ (List.mem_of_getElem? (i := 52) rfl))) (mvT hZ (hw _ (List.mem_of_getElem? (i := 36) rfl))) (mvT hZ (hw _ (List.mem_of_getElem? (i := 11) rfl))) (mvT hZ (hw _ (List.mem_of_getElem? (i := 37) rfl))) (by decide) (backOf (W := 0) (rm7 l Z a0 hw [] (0 : Int32) (1 : Int32) h14 n0 (Nat.le_trans Z0 K.1) ) hZ (hw _ (List.mem_of_getElem? (i := 37) rfl)) (hw _ (List.mem_of_getElem? (i := 11) rfl)) (by decide) (by decide)) (g := (mkF m 97 #[.val (.int p0), .val (.int p1), .val (.int p2), .val (.int p3), .val (.int p4), .val (.int p5), .val (.ref b1), .val (.int (1 : Int32)), .val (.int (1 : Int32)), .val (.int (0 : Int32)), .unset, .unset] [(.int (1 : Int32)), (.int (0 : Int32))])) rfl (by rw [hml]; rfl) (argsL := [(.int (0 : Int32)), (.int (1 : Int32))]) (rest := []) (lenOf pd_3 rfl) rfl (by show 2 * 0 + _ ≤ _; exact Nat.le_of_eq rfl) (hb hby at_97) (fun _ _ => ⟨rfl, eT, (by decide : 5 + 0 ≤ _), (by decide : 19 + 0 ≤ _)⟩)
      dsimp only [Pt.U, Pt.locs, Pt.cells, Pt.slots] at X l_ y_ z_ st hQ
      subst l_ y_ z_
      obtain ⟨e_v, Nq, eh⟩ := hQ
      rw [hz] at e_v
      subst e_v
      have N := Fr.app N Nq
      have eT := eh
      refine Go.by st ?_
      show Go p.tables e below (T.setTop (mkF m 100 #[.val (.int p0), .val (.int p1), .val (.int p2), .val (.int p3), .val (.int p4), .val (.int p5), .val (.ref b1), .val (.int (1 : Int32)), .val (.int (1 : Int32)), .val (.int (0 : Int32)), .unset, .unset] [(.int (0 : Int32))])) _
      refine Go.by (fun tt_ kk_ => XS.istore X.here hx rfl (hb hby at_100) rfl (l' := #[.val (.int p0), .val (.int p1), .val (.int p2), .val (.int p3), .val (.int p4), .val (.int p5), .val (.ref b1), .val (.int (1 : Int32)), .val (.int (1 : Int32)), .val (.int (0 : Int32)), .val (.int (0 : Int32)), .unset]) rfl kk_) ?_
      show Go p.tables e below (T.setTop (mkF m 102 #[.val (.int p0), .val (.int p1), .val (.int p2), .val (.int p3), .val (.int p4), .val (.int p5), .val (.ref b1), .val (.int (1 : Int32)), .val (.int (1 : Int32)), .val (.int (0 : Int32)), .val (.int (0 : Int32)), .unset] [])) _
      refine Go.by (fun tt_ kk_ => XS.iload X.here hx rfl (hb hby at_102) rfl kk_) ?_
      show Go p.tables e below (T.setTop (mkF m 104 #[.val (.int p0), .val (.int p1), .val (.int p2), .val (.int p3), .val (.int p4), .val (.int p5), .val (.ref b1), .val (.int (1 : Int32)), .val (.int (1 : Int32)), .val (.int (0 : Int32)), .val (.int (0 : Int32)), .unset] [(.int (0 : Int32))])) _
      refine Go.by (fun tt_ kk_ => XS.iconst X.here hx rfl (hb hby at_104) kk_) ?_
      show Go p.tables e below (T.setTop (mkF m 105 #[.val (.int p0), .val (.int p1), .val (.int p2), .val (.int p3), .val (.int p4), .val (.int p5), .val (.ref b1), .val (.int (1 : Int32)), .val (.int (1 : Int32)), .val (.int (0 : Int32)), .val (.int (0 : Int32)), .unset] [(.int (1 : Int32)), (.int (0 : Int32))])) _
      refine Go.by (fun tt_ kk_ => XS.icmpYes X.here hx rfl (pc0 := 105) (pc' := 114) rfl (hb hby at_105) rfl (tlt (by decide : (0 : Int32) < (1 : Int32))).1 (by decide) (by decide) kk_) ?_
      show Go p.tables e below (T.setTop (mkF m 114 #[.val (.int p0), .val (.int p1), .val (.int p2), .val (.int p3), .val (.int p4), .val (.int p5), .val (.ref b1), .val (.int (1 : Int32)), .val (.int (1 : Int32)), .val (.int (0 : Int32)), .val (.int (0 : Int32)), .unset] [])) _
      refine Go.by (fun tt_ kk_ => XS.iload X.here hx rfl (hb hby at_114) rfl kk_) ?_
      show Go p.tables e below (T.setTop (mkF m 116 #[.val (.int p0), .val (.int p1), .val (.int p2), .val (.int p3), .val (.int p4), .val (.int p5), .val (.ref b1), .val (.int (1 : Int32)), .val (.int (1 : Int32)), .val (.int (0 : Int32)), .val (.int (0 : Int32)), .unset] [(.int (0 : Int32))])) _
      refine Go.by (fun tt_ kk_ => XS.iconst X.here hx rfl (hb hby at_116) kk_) ?_
      show Go p.tables e below (T.setTop (mkF m 117 #[.val (.int p0), .val (.int p1), .val (.int p2), .val (.int p3), .val (.int p4), .val (.int p5), .val (.ref b1), .val (.int (1 : Int32)), .val (.int (1 : Int32)), .val (.int (0 : Int32)), .val (.int (0 : Int32)), .unset] [(.int (2 : Int32)), (.int (0 : Int32))])) _
      refine Go.by (fun tt_ kk_ => XS.icmpYes X.here hx rfl (pc0 := 117) (pc' := 126) rfl (hb hby at_117) rfl (tlt (by decide : (0 : Int32) < (2 : Int32))).1 (by decide) (by decide) kk_) ?_
      show Go p.tables e below (T.setTop (mkF m 126 #[.val (.int p0), .val (.int p1), .val (.int p2), .val (.int p3), .val (.int p4), .val (.int p5), .val (.ref b1), .val (.int (1 : Int32)), .val (.int (1 : Int32)), .val (.int (0 : Int32)), .val (.int (0 : Int32)), .unset] [])) _
      refine Go.by (fun tt_ kk_ => XS.iload X.here hx rfl (hb hby at_126) rfl kk_) ?_
      show Go p.tables e below (T.setTop (mkF m 128 #[.val (.int p0), .val (.int p1), .val (.int p2), .val (.int p3), .val (.int p4), .val (.int p5), .val (.ref b1), .val (.int (1 : Int32)), .val (.int (1 : Int32)), .val (.int (0 : Int32)), .val (.int (0 : Int32)), .unset] [(.int (0 : Int32))])) _
      refine Go.by (fun tt_ kk_ => XS.iconst X.here hx rfl (hb hby at_128) kk_) ?_
      show Go p.tables e below (T.setTop (mkF m 129 #[.val (.int p0), .val (.int p1), .val (.int p2), .val (.int p3), .val (.int p4), .val (.int p5), .val (.ref b1), .val (.int (1 : Int32)), .val (.int (1 : Int32)), .val (.int (0 : Int32)), .val (.int (0 : Int32)), .unset] [(.int (3 : Int32)), (.int (0 : Int32))])) _
      refine Go.by (fun tt_ kk_ => XS.icmpYes X.here hx rfl (pc0 := 129) (pc' := 138) rfl (hb hby at_129) rfl (tlt (by decide : (0 : Int32) < (3 : Int32))).1 (by decide) (by decide) kk_) ?_
      show Go p.tables e below (T.setTop (mkF m 138 #[.val (.int p0), .val (.int p1), .val (.int p2), .val (.int p3), .val (.int p4), .val (.int p5), .val (.ref b1), .val (.int (1 : Int32)), .val (.int (1 : Int32)), .val (.int (0 : Int32)), .val (.int (0 : Int32)), .unset] [])) _
      refine Go.by (fun tt_ kk_ => XS.aload X.here hx rfl (hb hby at_138) rfl rfl kk_) ?_
      show Go p.tables e below (T.setTop (mkF m 140 #[.val (.int p0), .val (.int p1), .val (.int p2), .val (.int p3), .val (.int p4), .val (.int p5), .val (.ref b1), .val (.int (1 : Int32)), .val (.int (1 : Int32)), .val (.int (0 : Int32)), .val (.int (0 : Int32)), .unset] [(.ref b1)])) _
      have hz : (if (1 : Int32) = 0 then (1 : Int32) else 0) = (0 : Int32) := by decide
      obtain ⟨cq_, kq_, qa_, qb_, qc_⟩ := isOf hZ eT E_b1
      obtain ⟨_, _, ⟨T, L_, k_, n_⟩, -, X, ⟨Lc_, hQ, l_, y_, z_⟩, st⟩ := X.virtualBack hx (y := (⟨"com/example/mode_choice_loop/modechoiceloop/simulation/TimeHeap", "isEmpty", "()Z"⟩ : MethodName)) (z := (⟨"com/example/mode_choice_loop/modechoiceloop/simulation/TimeHeap", "isEmpty", "()Z"⟩ : MethodName)) hown (mvT hZ (hw _ (List.mem_of_getElem? (i := 19) rfl))) (mvT hZ (hw _ (List.mem_of_getElem? (i := 20) rfl))) (notFace_of_selects (args := #[]) (mvT hZ (hw _ (List.mem_of_getElem? (i := 22) rfl)))) (mvT hZ (hw _ (List.mem_of_getElem? (i := 22) rfl))) (mvT hZ (hw _ (List.mem_of_getElem? (i := 21) rfl))) (by decide) (backOf (W := 0) (rm4 l Z a0 hw [] b1 (1 : Int32) h14 n0 (Nat.le_trans Z0 K.1) TH) hZ (hw _ (List.mem_of_getElem? (i := 23) rfl)) (hw _ (List.mem_of_getElem? (i := 2) rfl)) (by decide) (by decide)) qa_ qc_ (g := (mkF m 140 #[.val (.int p0), .val (.int p1), .val (.int p2), .val (.int p3), .val (.int p4), .val (.int p5), .val (.ref b1), .val (.int (1 : Int32)), .val (.int (1 : Int32)), .val (.int (0 : Int32)), .val (.int (0 : Int32)), .unset] [(.ref b1)])) rfl (by rw [hml]; rfl) (Steps.refl _) (argsL := []) (rest := []) (lenOf pd_10 rfl) rfl (by show 2 * 0 + _ ≤ _; exact Nat.le_of_eq rfl) (hb hby at_140) (fun _ _ => ⟨rfl, eT, (by decide : 5 + 0 ≤ _), (by decide : 19 + 0 ≤ _)⟩)
      dsimp only [Pt.U, Pt.locs, Pt.cells, Pt.slots] at X l_ y_ z_ st hQ
      subst l_ y_ z_
      obtain ⟨e_v, Nq, eh⟩ := hQ
      rw [hz] at e_v
      subst e_v
      have N := Fr.app N Nq
      have eT := eh
      refine Go.tr st ?_
      show Go p.tables e below (T.setTop (mkF m 143 #[.val (.int p0), .val (.int p1), .val (.int p2), .val (.int p3), .val (.int p4), .val (.int p5), .val (.ref b1), .val (.int (1 : Int32)), .val (.int (1 : Int32)), .val (.int (0 : Int32)), .val (.int (0 : Int32)), .unset] [(.int (0 : Int32))])) _
      refine Go.by (fun tt_ kk_ => XS.istore X.here hx rfl (hb hby at_143) rfl (l' := #[.val (.int p0), .val (.int p1), .val (.int p2), .val (.int p3), .val (.int p4), .val (.int p5), .val (.ref b1), .val (.int (1 : Int32)), .val (.int (1 : Int32)), .val (.int (0 : Int32)), .val (.int (0 : Int32)), .val (.int (0 : Int32))]) rfl kk_) ?_
      show Go p.tables e below (T.setTop (mkF m 145 #[.val (.int p0), .val (.int p1), .val (.int p2), .val (.int p3), .val (.int p4), .val (.int p5), .val (.ref b1), .val (.int (1 : Int32)), .val (.int (1 : Int32)), .val (.int (0 : Int32)), .val (.int (0 : Int32)), .val (.int (0 : Int32))] [])) _
      refine Go.by (fun tt_ kk_ => XS.iload X.here hx rfl (hb hby at_145) rfl kk_) ?_
      show Go p.tables e below (T.setTop (mkF m 147 #[.val (.int p0), .val (.int p1), .val (.int p2), .val (.int p3), .val (.int p4), .val (.int p5), .val (.ref b1), .val (.int (1 : Int32)), .val (.int (1 : Int32)), .val (.int (0 : Int32)), .val (.int (0 : Int32)), .val (.int (0 : Int32))] [(.int (1 : Int32))])) _
      refine Go.by (fun tt_ kk_ => XS.ifNo X.here hx rfl (hb hby at_147) rfl ((if0 _ _).trans (feq (by decide : ¬ ((1 : Int32) = (0 : Int32)))).1) kk_) ?_
      show Go p.tables e below (T.setTop (mkF m 150 #[.val (.int p0), .val (.int p1), .val (.int p2), .val (.int p3), .val (.int p4), .val (.int p5), .val (.ref b1), .val (.int (1 : Int32)), .val (.int (1 : Int32)), .val (.int (0 : Int32)), .val (.int (0 : Int32)), .val (.int (0 : Int32))] [])) _
      refine Go.by (fun tt_ kk_ => XS.iload X.here hx rfl (hb hby at_150) rfl kk_) ?_
      show Go p.tables e below (T.setTop (mkF m 152 #[.val (.int p0), .val (.int p1), .val (.int p2), .val (.int p3), .val (.int p4), .val (.int p5), .val (.ref b1), .val (.int (1 : Int32)), .val (.int (1 : Int32)), .val (.int (0 : Int32)), .val (.int (0 : Int32)), .val (.int (0 : Int32))] [(.int (0 : Int32))])) _
      refine Go.by (fun tt_ kk_ => XS.iload X.here hx rfl (hb hby at_152) rfl kk_) ?_
      show Go p.tables e below (T.setTop (mkF m 154 #[.val (.int p0), .val (.int p1), .val (.int p2), .val (.int p3), .val (.int p4), .val (.int p5), .val (.ref b1), .val (.int (1 : Int32)), .val (.int (1 : Int32)), .val (.int (0 : Int32)), .val (.int (0 : Int32)), .val (.int (0 : Int32))] [(.int (1 : Int32)), (.int (0 : Int32))])) _
      refine Go.by (fun tt_ kk_ => XS.ifYes X.here hx rfl (pc0 := 154) (pc' := 161) rfl (hb hby at_154) rfl ((if0 _ _).trans (feq (by decide : ¬ ((1 : Int32) = (0 : Int32)))).2) (by decide) (by decide) kk_) ?_
      show Go p.tables e below (T.setTop (mkF m 161 #[.val (.int p0), .val (.int p1), .val (.int p2), .val (.int p3), .val (.int p4), .val (.int p5), .val (.ref b1), .val (.int (1 : Int32)), .val (.int (1 : Int32)), .val (.int (0 : Int32)), .val (.int (0 : Int32)), .val (.int (0 : Int32))] [(.int (0 : Int32))])) _
      refine Go.by (fun tt_ kk_ => XS.iconst X.here hx rfl (hb hby at_161) kk_) ?_
      show Go p.tables e below (T.setTop (mkF m 162 #[.val (.int p0), .val (.int p1), .val (.int p2), .val (.int p3), .val (.int p4), .val (.int p5), .val (.ref b1), .val (.int (1 : Int32)), .val (.int (1 : Int32)), .val (.int (0 : Int32)), .val (.int (0 : Int32)), .val (.int (0 : Int32))] [(.int (0 : Int32)), (.int (0 : Int32))])) _
      refine Go.by (fun tt_ kk_ => XS.icmpNo X.here hx rfl (hb hby at_162) rfl (teq (rfl : (0 : Int32) = (0 : Int32))).2 kk_) ?_
      show Go p.tables e below (T.setTop (mkF m 165 #[.val (.int p0), .val (.int p1), .val (.int p2), .val (.int p3), .val (.int p4), .val (.int p5), .val (.ref b1), .val (.int (1 : Int32)), .val (.int (1 : Int32)), .val (.int (0 : Int32)), .val (.int (0 : Int32)), .val (.int (0 : Int32))] [])) _
      refine Go.by (fun tt_ kk_ => XS.iload X.here hx rfl (hb hby at_165) rfl kk_) ?_
      show Go p.tables e below (T.setTop (mkF m 167 #[.val (.int p0), .val (.int p1), .val (.int p2), .val (.int p3), .val (.int p4), .val (.int p5), .val (.ref b1), .val (.int (1 : Int32)), .val (.int (1 : Int32)), .val (.int (0 : Int32)), .val (.int (0 : Int32)), .val (.int (0 : Int32))] [(.int (0 : Int32))])) _
      refine Go.by (fun tt_ kk_ => XS.iload X.here hx rfl (hb hby at_167) rfl kk_) ?_
      show Go p.tables e below (T.setTop (mkF m 169 #[.val (.int p0), .val (.int p1), .val (.int p2), .val (.int p3), .val (.int p4), .val (.int p5), .val (.ref b1), .val (.int (1 : Int32)), .val (.int (1 : Int32)), .val (.int (0 : Int32)), .val (.int (0 : Int32)), .val (.int (0 : Int32))] [(.int (1 : Int32)), (.int (0 : Int32))])) _
      refine Go.by (fun tt_ kk_ => XS.iload X.here hx rfl (hb hby at_169) rfl kk_) ?_
      show Go p.tables e below (T.setTop (mkF m 171 #[.val (.int p0), .val (.int p1), .val (.int p2), .val (.int p3), .val (.int p4), .val (.int p5), .val (.ref b1), .val (.int (1 : Int32)), .val (.int (1 : Int32)), .val (.int (0 : Int32)), .val (.int (0 : Int32)), .val (.int (0 : Int32))] [(.int (0 : Int32)), (.int (1 : Int32)), (.int (0 : Int32))])) _
      refine Go.by (fun tt_ kk_ => XS.icmpYes X.here hx rfl (pc0 := 171) (pc' := 178) rfl (hb hby at_171) rfl (feq (by decide : ¬ ((1 : Int32) = (0 : Int32)))).2 (by decide) (by decide) kk_) ?_
      show Go p.tables e below (T.setTop (mkF m 178 #[.val (.int p0), .val (.int p1), .val (.int p2), .val (.int p3), .val (.int p4), .val (.int p5), .val (.ref b1), .val (.int (1 : Int32)), .val (.int (1 : Int32)), .val (.int (0 : Int32)), .val (.int (0 : Int32)), .val (.int (0 : Int32))] [(.int (0 : Int32))])) _
      refine Go.by (fun tt_ kk_ => XS.iconst X.here hx rfl (hb hby at_178) kk_) ?_
      show Go p.tables e below (T.setTop (mkF m 179 #[.val (.int p0), .val (.int p1), .val (.int p2), .val (.int p3), .val (.int p4), .val (.int p5), .val (.ref b1), .val (.int (1 : Int32)), .val (.int (1 : Int32)), .val (.int (0 : Int32)), .val (.int (0 : Int32)), .val (.int (0 : Int32))] [(.int (0 : Int32)), (.int (0 : Int32))])) _
      refine Go.by (fun tt_ kk_ => XS.icmpNo X.here hx rfl (hb hby at_179) rfl (teq (rfl : (0 : Int32) = (0 : Int32))).2 kk_) ?_
      show Go p.tables e below (T.setTop (mkF m 182 #[.val (.int p0), .val (.int p1), .val (.int p2), .val (.int p3), .val (.int p4), .val (.int p5), .val (.ref b1), .val (.int (1 : Int32)), .val (.int (1 : Int32)), .val (.int (0 : Int32)), .val (.int (0 : Int32)), .val (.int (0 : Int32))] [])) _
      refine Go.by (fun tt_ kk_ => XS.iconst X.here hx rfl (hb hby at_182) kk_) ?_
      show Go p.tables e below (T.setTop (mkF m 183 #[.val (.int p0), .val (.int p1), .val (.int p2), .val (.int p3), .val (.int p4), .val (.int p5), .val (.ref b1), .val (.int (1 : Int32)), .val (.int (1 : Int32)), .val (.int (0 : Int32)), .val (.int (0 : Int32)), .val (.int (0 : Int32))] [(.int (1 : Int32))])) _
      refine Go.by (fun tt_ kk_ => XS.goto X.here hx rfl (pc0 := 183) (pc' := 187) rfl (hb hby at_183) (by decide) (by decide) kk_) ?_
      show Go p.tables e below (T.setTop (mkF m 187 #[.val (.int p0), .val (.int p1), .val (.int p2), .val (.int p3), .val (.int p4), .val (.int p5), .val (.ref b1), .val (.int (1 : Int32)), .val (.int (1 : Int32)), .val (.int (0 : Int32)), .val (.int (0 : Int32)), .val (.int (0 : Int32))] [(.int (1 : Int32))])) _
      exact Go.done X  (v := some (.int (1 : Int32))) (fun h => by rw [Bd.returns] at h; cases h) Bd.notSynchronized (fun fs hr => retN X hx (z := (1 : Int32)) (t := .boolean) Bd.returns (by simp) (hb hby at_187) hr) (by rw [eT]; exact ⟨rfl, N⟩) (by decide) (by decide)
    · rw [hcs]
      show Go p.tables e below (T.setTop (mkF m 95 #[.val (.int p0), .val (.int p1), .val (.int p2), .val (.int p3), .val (.int p4), .val (.int p5), .val (.ref b1), .val (.int (1 : Int32)), .val (.int (1 : Int32)), .val (.int (0 : Int32)), .unset, .unset] [(.int (1 : Int32))])) _
      refine Go.by (fun tt_ kk_ => XS.iload X.here hx rfl (hb hby at_95) rfl kk_) ?_
      show Go p.tables e below (T.setTop (mkF m 97 #[.val (.int p0), .val (.int p1), .val (.int p2), .val (.int p3), .val (.int p4), .val (.int p5), .val (.ref b1), .val (.int (1 : Int32)), .val (.int (1 : Int32)), .val (.int (0 : Int32)), .unset, .unset] [(.int (1 : Int32)), (.int (1 : Int32))])) _
      have hz : (if (1 : Int32) < (1 : Int32) then (1 : Int32) else (1 : Int32)) = (1 : Int32) := by decide
      obtain ⟨_, _, ⟨T, L_, k_, n_⟩, -, X, ⟨Lc_, hQ, l_, y_, z_⟩, st⟩ := Jvm.LawKit.callS X hx (y := (⟨"java/lang/Math", "min", "(II)I"⟩ : MethodName)) hown (mvT hZ (hw _ (List.mem_of_getElem? (i := 52) rfl))) (mvT hZ (hw _ (List.mem_of_getElem? (i := 36) rfl))) (mvT hZ (hw _ (List.mem_of_getElem? (i := 11) rfl))) (mvT hZ (hw _ (List.mem_of_getElem? (i := 37) rfl))) (by decide) (backOf (W := 0) (rm7 l Z a0 hw [] (1 : Int32) (1 : Int32) h14 n0 (Nat.le_trans Z0 K.1) ) hZ (hw _ (List.mem_of_getElem? (i := 37) rfl)) (hw _ (List.mem_of_getElem? (i := 11) rfl)) (by decide) (by decide)) (g := (mkF m 97 #[.val (.int p0), .val (.int p1), .val (.int p2), .val (.int p3), .val (.int p4), .val (.int p5), .val (.ref b1), .val (.int (1 : Int32)), .val (.int (1 : Int32)), .val (.int (0 : Int32)), .unset, .unset] [(.int (1 : Int32)), (.int (1 : Int32))])) rfl (by rw [hml]; rfl) (argsL := [(.int (1 : Int32)), (.int (1 : Int32))]) (rest := []) (lenOf pd_3 rfl) rfl (by show 2 * 0 + _ ≤ _; exact Nat.le_of_eq rfl) (hb hby at_97) (fun _ _ => ⟨rfl, eT, (by decide : 5 + 0 ≤ _), (by decide : 19 + 0 ≤ _)⟩)
      dsimp only [Pt.U, Pt.locs, Pt.cells, Pt.slots] at X l_ y_ z_ st hQ
      subst l_ y_ z_
      obtain ⟨e_v, Nq, eh⟩ := hQ
      rw [hz] at e_v
      subst e_v
      have N := Fr.app N Nq
      have eT := eh
      refine Go.by st ?_
      show Go p.tables e below (T.setTop (mkF m 100 #[.val (.int p0), .val (.int p1), .val (.int p2), .val (.int p3), .val (.int p4), .val (.int p5), .val (.ref b1), .val (.int (1 : Int32)), .val (.int (1 : Int32)), .val (.int (0 : Int32)), .unset, .unset] [(.int (1 : Int32))])) _
      refine Go.by (fun tt_ kk_ => XS.istore X.here hx rfl (hb hby at_100) rfl (l' := #[.val (.int p0), .val (.int p1), .val (.int p2), .val (.int p3), .val (.int p4), .val (.int p5), .val (.ref b1), .val (.int (1 : Int32)), .val (.int (1 : Int32)), .val (.int (0 : Int32)), .val (.int (1 : Int32)), .unset]) rfl kk_) ?_
      show Go p.tables e below (T.setTop (mkF m 102 #[.val (.int p0), .val (.int p1), .val (.int p2), .val (.int p3), .val (.int p4), .val (.int p5), .val (.ref b1), .val (.int (1 : Int32)), .val (.int (1 : Int32)), .val (.int (0 : Int32)), .val (.int (1 : Int32)), .unset] [])) _
      refine Go.by (fun tt_ kk_ => XS.iload X.here hx rfl (hb hby at_102) rfl kk_) ?_
      show Go p.tables e below (T.setTop (mkF m 104 #[.val (.int p0), .val (.int p1), .val (.int p2), .val (.int p3), .val (.int p4), .val (.int p5), .val (.ref b1), .val (.int (1 : Int32)), .val (.int (1 : Int32)), .val (.int (0 : Int32)), .val (.int (1 : Int32)), .unset] [(.int (1 : Int32))])) _
      refine Go.by (fun tt_ kk_ => XS.iconst X.here hx rfl (hb hby at_104) kk_) ?_
      show Go p.tables e below (T.setTop (mkF m 105 #[.val (.int p0), .val (.int p1), .val (.int p2), .val (.int p3), .val (.int p4), .val (.int p5), .val (.ref b1), .val (.int (1 : Int32)), .val (.int (1 : Int32)), .val (.int (0 : Int32)), .val (.int (1 : Int32)), .unset] [(.int (1 : Int32)), (.int (1 : Int32))])) _
      refine Go.by (fun tt_ kk_ => XS.icmpNo X.here hx rfl (hb hby at_105) rfl (flt (by decide : ¬ ((1 : Int32) < (1 : Int32)))).1 kk_) ?_
      show Go p.tables e below (T.setTop (mkF m 108 #[.val (.int p0), .val (.int p1), .val (.int p2), .val (.int p3), .val (.int p4), .val (.int p5), .val (.ref b1), .val (.int (1 : Int32)), .val (.int (1 : Int32)), .val (.int (0 : Int32)), .val (.int (1 : Int32)), .unset] [])) _
      refine Go.by (fun tt_ kk_ => XS.aload X.here hx rfl (hb hby at_108) rfl rfl kk_) ?_
      show Go p.tables e below (T.setTop (mkF m 110 #[.val (.int p0), .val (.int p1), .val (.int p2), .val (.int p3), .val (.int p4), .val (.int p5), .val (.ref b1), .val (.int (1 : Int32)), .val (.int (1 : Int32)), .val (.int (0 : Int32)), .val (.int (1 : Int32)), .unset] [(.ref b1)])) _
      obtain ⟨cq_, kq_, qa_, qb_, qc_⟩ := isOf hZ eT E_b1
      obtain ⟨_, _, ⟨T, L_, k_, n_⟩, -, X, ⟨Lc_, hQ, l_, y_, z_⟩, st⟩ := X.virtualBack hx (y := (⟨"com/example/mode_choice_loop/modechoiceloop/simulation/TimeHeap", "removeFirst", "()I"⟩ : MethodName)) (z := (⟨"com/example/mode_choice_loop/modechoiceloop/simulation/TimeHeap", "removeFirst", "()I"⟩ : MethodName)) hown (mvT hZ (hw _ (List.mem_of_getElem? (i := 53) rfl))) (mvT hZ (hw _ (List.mem_of_getElem? (i := 54) rfl))) (notFace_of_selects (args := #[]) (mvT hZ (hw _ (List.mem_of_getElem? (i := 56) rfl)))) (mvT hZ (hw _ (List.mem_of_getElem? (i := 56) rfl))) (mvT hZ (hw _ (List.mem_of_getElem? (i := 55) rfl))) (by decide) (backOf (W := 0) (rm11_1 l Z a0 hw [] b1 h14 n0 (Nat.le_trans Z0 K.1) TH) hZ (hw _ (List.mem_of_getElem? (i := 57) rfl)) (hw _ (List.mem_of_getElem? (i := 2) rfl)) (by decide) (by decide)) qa_ qc_ (g := (mkF m 110 #[.val (.int p0), .val (.int p1), .val (.int p2), .val (.int p3), .val (.int p4), .val (.int p5), .val (.ref b1), .val (.int (1 : Int32)), .val (.int (1 : Int32)), .val (.int (0 : Int32)), .val (.int (1 : Int32)), .unset] [(.ref b1)])) rfl (by rw [hml]; rfl) (Steps.refl _) (argsL := []) (rest := []) (lenOf pd_12 rfl) rfl (by show 2 * 0 + _ ≤ _; exact Nat.le_of_eq rfl) (hb hby at_110) (fun _ _ => ⟨rfl, eT, (by decide : 5 + 0 ≤ _), (by decide : 19 + 0 ≤ _)⟩)
      dsimp only [Pt.U, Pt.locs, Pt.cells, Pt.slots] at X l_ y_ z_ st hQ
      subst l_ y_ z_
      obtain ⟨h20, eT⟩ : ∃ z, T.heap = z := ⟨_, rfl⟩
      rw [eT] at hQ
      obtain ⟨r19, rfl, Nq, Kq, TH⟩ := hQ
      have N := Fr.app N Nq
      have K := And.intro (Nat.le_trans K.1 Kq.1) trivial
      have E_b1 := TH.1
      refine Go.tr st ?_
      show Go p.tables e below (T.setTop (mkF m 113 #[.val (.int p0), .val (.int p1), .val (.int p2), .val (.int p3), .val (.int p4), .val (.int p5), .val (.ref b1), .val (.int (1 : Int32)), .val (.int (1 : Int32)), .val (.int (0 : Int32)), .val (.int (1 : Int32)), .unset] [(.int r19)])) _
      refine Go.by (fun tt_ kk_ => XS.pop X.here hx rfl (hb hby at_113) rfl rfl kk_) ?_
      show Go p.tables e below (T.setTop (mkF m 114 #[.val (.int p0), .val (.int p1), .val (.int p2), .val (.int p3), .val (.int p4), .val (.int p5), .val (.ref b1), .val (.int (1 : Int32)), .val (.int (1 : Int32)), .val (.int (0 : Int32)), .val (.int (1 : Int32)), .unset] [])) _
      refine Go.by (fun tt_ kk_ => XS.iload X.here hx rfl (hb hby at_114) rfl kk_) ?_
      show Go p.tables e below (T.setTop (mkF m 116 #[.val (.int p0), .val (.int p1), .val (.int p2), .val (.int p3), .val (.int p4), .val (.int p5), .val (.ref b1), .val (.int (1 : Int32)), .val (.int (1 : Int32)), .val (.int (0 : Int32)), .val (.int (1 : Int32)), .unset] [(.int (1 : Int32))])) _
      refine Go.by (fun tt_ kk_ => XS.iconst X.here hx rfl (hb hby at_116) kk_) ?_
      show Go p.tables e below (T.setTop (mkF m 117 #[.val (.int p0), .val (.int p1), .val (.int p2), .val (.int p3), .val (.int p4), .val (.int p5), .val (.ref b1), .val (.int (1 : Int32)), .val (.int (1 : Int32)), .val (.int (0 : Int32)), .val (.int (1 : Int32)), .unset] [(.int (2 : Int32)), (.int (1 : Int32))])) _
      refine Go.by (fun tt_ kk_ => XS.icmpYes X.here hx rfl (pc0 := 117) (pc' := 126) rfl (hb hby at_117) rfl (tlt (by decide : (1 : Int32) < (2 : Int32))).1 (by decide) (by decide) kk_) ?_
      show Go p.tables e below (T.setTop (mkF m 126 #[.val (.int p0), .val (.int p1), .val (.int p2), .val (.int p3), .val (.int p4), .val (.int p5), .val (.ref b1), .val (.int (1 : Int32)), .val (.int (1 : Int32)), .val (.int (0 : Int32)), .val (.int (1 : Int32)), .unset] [])) _
      refine Go.by (fun tt_ kk_ => XS.iload X.here hx rfl (hb hby at_126) rfl kk_) ?_
      show Go p.tables e below (T.setTop (mkF m 128 #[.val (.int p0), .val (.int p1), .val (.int p2), .val (.int p3), .val (.int p4), .val (.int p5), .val (.ref b1), .val (.int (1 : Int32)), .val (.int (1 : Int32)), .val (.int (0 : Int32)), .val (.int (1 : Int32)), .unset] [(.int (1 : Int32))])) _
      refine Go.by (fun tt_ kk_ => XS.iconst X.here hx rfl (hb hby at_128) kk_) ?_
      show Go p.tables e below (T.setTop (mkF m 129 #[.val (.int p0), .val (.int p1), .val (.int p2), .val (.int p3), .val (.int p4), .val (.int p5), .val (.ref b1), .val (.int (1 : Int32)), .val (.int (1 : Int32)), .val (.int (0 : Int32)), .val (.int (1 : Int32)), .unset] [(.int (3 : Int32)), (.int (1 : Int32))])) _
      refine Go.by (fun tt_ kk_ => XS.icmpYes X.here hx rfl (pc0 := 129) (pc' := 138) rfl (hb hby at_129) rfl (tlt (by decide : (1 : Int32) < (3 : Int32))).1 (by decide) (by decide) kk_) ?_
      show Go p.tables e below (T.setTop (mkF m 138 #[.val (.int p0), .val (.int p1), .val (.int p2), .val (.int p3), .val (.int p4), .val (.int p5), .val (.ref b1), .val (.int (1 : Int32)), .val (.int (1 : Int32)), .val (.int (0 : Int32)), .val (.int (1 : Int32)), .unset] [])) _
      refine Go.by (fun tt_ kk_ => XS.aload X.here hx rfl (hb hby at_138) rfl rfl kk_) ?_
      show Go p.tables e below (T.setTop (mkF m 140 #[.val (.int p0), .val (.int p1), .val (.int p2), .val (.int p3), .val (.int p4), .val (.int p5), .val (.ref b1), .val (.int (1 : Int32)), .val (.int (1 : Int32)), .val (.int (0 : Int32)), .val (.int (1 : Int32)), .unset] [(.ref b1)])) _
      have hz : (if (0 : Int32) = 0 then (1 : Int32) else 0) = (1 : Int32) := by decide
      obtain ⟨cq_, kq_, qa_, qb_, qc_⟩ := isOf hZ eT E_b1
      obtain ⟨_, _, ⟨T, L_, k_, n_⟩, -, X, ⟨Lc_, hQ, l_, y_, z_⟩, st⟩ := X.virtualBack hx (y := (⟨"com/example/mode_choice_loop/modechoiceloop/simulation/TimeHeap", "isEmpty", "()Z"⟩ : MethodName)) (z := (⟨"com/example/mode_choice_loop/modechoiceloop/simulation/TimeHeap", "isEmpty", "()Z"⟩ : MethodName)) hown (mvT hZ (hw _ (List.mem_of_getElem? (i := 19) rfl))) (mvT hZ (hw _ (List.mem_of_getElem? (i := 20) rfl))) (notFace_of_selects (args := #[]) (mvT hZ (hw _ (List.mem_of_getElem? (i := 22) rfl)))) (mvT hZ (hw _ (List.mem_of_getElem? (i := 22) rfl))) (mvT hZ (hw _ (List.mem_of_getElem? (i := 21) rfl))) (by decide) (backOf (W := 0) (rm4 l Z a0 hw [] b1 (0 : Int32) h20 n0 (Nat.le_trans Z0 K.1) TH) hZ (hw _ (List.mem_of_getElem? (i := 23) rfl)) (hw _ (List.mem_of_getElem? (i := 2) rfl)) (by decide) (by decide)) qa_ qc_ (g := (mkF m 140 #[.val (.int p0), .val (.int p1), .val (.int p2), .val (.int p3), .val (.int p4), .val (.int p5), .val (.ref b1), .val (.int (1 : Int32)), .val (.int (1 : Int32)), .val (.int (0 : Int32)), .val (.int (1 : Int32)), .unset] [(.ref b1)])) rfl (by rw [hml]; rfl) (Steps.refl _) (argsL := []) (rest := []) (lenOf pd_10 rfl) rfl (by show 2 * 0 + _ ≤ _; exact Nat.le_of_eq rfl) (hb hby at_140) (fun _ _ => ⟨rfl, eT, (by decide : 5 + 0 ≤ _), (by decide : 19 + 0 ≤ _)⟩)
      dsimp only [Pt.U, Pt.locs, Pt.cells, Pt.slots] at X l_ y_ z_ st hQ
      subst l_ y_ z_
      obtain ⟨e_v, Nq, eh⟩ := hQ
      rw [hz] at e_v
      subst e_v
      have N := Fr.app N Nq
      have eT := eh
      refine Go.tr st ?_
      show Go p.tables e below (T.setTop (mkF m 143 #[.val (.int p0), .val (.int p1), .val (.int p2), .val (.int p3), .val (.int p4), .val (.int p5), .val (.ref b1), .val (.int (1 : Int32)), .val (.int (1 : Int32)), .val (.int (0 : Int32)), .val (.int (1 : Int32)), .unset] [(.int (1 : Int32))])) _
      refine Go.by (fun tt_ kk_ => XS.istore X.here hx rfl (hb hby at_143) rfl (l' := #[.val (.int p0), .val (.int p1), .val (.int p2), .val (.int p3), .val (.int p4), .val (.int p5), .val (.ref b1), .val (.int (1 : Int32)), .val (.int (1 : Int32)), .val (.int (0 : Int32)), .val (.int (1 : Int32)), .val (.int (1 : Int32))]) rfl kk_) ?_
      show Go p.tables e below (T.setTop (mkF m 145 #[.val (.int p0), .val (.int p1), .val (.int p2), .val (.int p3), .val (.int p4), .val (.int p5), .val (.ref b1), .val (.int (1 : Int32)), .val (.int (1 : Int32)), .val (.int (0 : Int32)), .val (.int (1 : Int32)), .val (.int (1 : Int32))] [])) _
      refine Go.by (fun tt_ kk_ => XS.iload X.here hx rfl (hb hby at_145) rfl kk_) ?_
      show Go p.tables e below (T.setTop (mkF m 147 #[.val (.int p0), .val (.int p1), .val (.int p2), .val (.int p3), .val (.int p4), .val (.int p5), .val (.ref b1), .val (.int (1 : Int32)), .val (.int (1 : Int32)), .val (.int (0 : Int32)), .val (.int (1 : Int32)), .val (.int (1 : Int32))] [(.int (1 : Int32))])) _
      refine Go.by (fun tt_ kk_ => XS.ifNo X.here hx rfl (hb hby at_147) rfl ((if0 _ _).trans (feq (by decide : ¬ ((1 : Int32) = (0 : Int32)))).1) kk_) ?_
      show Go p.tables e below (T.setTop (mkF m 150 #[.val (.int p0), .val (.int p1), .val (.int p2), .val (.int p3), .val (.int p4), .val (.int p5), .val (.ref b1), .val (.int (1 : Int32)), .val (.int (1 : Int32)), .val (.int (0 : Int32)), .val (.int (1 : Int32)), .val (.int (1 : Int32))] [])) _
      refine Go.by (fun tt_ kk_ => XS.iload X.here hx rfl (hb hby at_150) rfl kk_) ?_
      show Go p.tables e below (T.setTop (mkF m 152 #[.val (.int p0), .val (.int p1), .val (.int p2), .val (.int p3), .val (.int p4), .val (.int p5), .val (.ref b1), .val (.int (1 : Int32)), .val (.int (1 : Int32)), .val (.int (0 : Int32)), .val (.int (1 : Int32)), .val (.int (1 : Int32))] [(.int (0 : Int32))])) _
      refine Go.by (fun tt_ kk_ => XS.iload X.here hx rfl (hb hby at_152) rfl kk_) ?_
      show Go p.tables e below (T.setTop (mkF m 154 #[.val (.int p0), .val (.int p1), .val (.int p2), .val (.int p3), .val (.int p4), .val (.int p5), .val (.ref b1), .val (.int (1 : Int32)), .val (.int (1 : Int32)), .val (.int (0 : Int32)), .val (.int (1 : Int32)), .val (.int (1 : Int32))] [(.int (1 : Int32)), (.int (0 : Int32))])) _
      refine Go.by (fun tt_ kk_ => XS.ifYes X.here hx rfl (pc0 := 154) (pc' := 161) rfl (hb hby at_154) rfl ((if0 _ _).trans (feq (by decide : ¬ ((1 : Int32) = (0 : Int32)))).2) (by decide) (by decide) kk_) ?_
      show Go p.tables e below (T.setTop (mkF m 161 #[.val (.int p0), .val (.int p1), .val (.int p2), .val (.int p3), .val (.int p4), .val (.int p5), .val (.ref b1), .val (.int (1 : Int32)), .val (.int (1 : Int32)), .val (.int (0 : Int32)), .val (.int (1 : Int32)), .val (.int (1 : Int32))] [(.int (0 : Int32))])) _
      refine Go.by (fun tt_ kk_ => XS.iconst X.here hx rfl (hb hby at_161) kk_) ?_
      show Go p.tables e below (T.setTop (mkF m 162 #[.val (.int p0), .val (.int p1), .val (.int p2), .val (.int p3), .val (.int p4), .val (.int p5), .val (.ref b1), .val (.int (1 : Int32)), .val (.int (1 : Int32)), .val (.int (0 : Int32)), .val (.int (1 : Int32)), .val (.int (1 : Int32))] [(.int (0 : Int32)), (.int (0 : Int32))])) _
      refine Go.by (fun tt_ kk_ => XS.icmpNo X.here hx rfl (hb hby at_162) rfl (teq (rfl : (0 : Int32) = (0 : Int32))).2 kk_) ?_
      show Go p.tables e below (T.setTop (mkF m 165 #[.val (.int p0), .val (.int p1), .val (.int p2), .val (.int p3), .val (.int p4), .val (.int p5), .val (.ref b1), .val (.int (1 : Int32)), .val (.int (1 : Int32)), .val (.int (0 : Int32)), .val (.int (1 : Int32)), .val (.int (1 : Int32))] [])) _
      refine Go.by (fun tt_ kk_ => XS.iload X.here hx rfl (hb hby at_165) rfl kk_) ?_
      show Go p.tables e below (T.setTop (mkF m 167 #[.val (.int p0), .val (.int p1), .val (.int p2), .val (.int p3), .val (.int p4), .val (.int p5), .val (.ref b1), .val (.int (1 : Int32)), .val (.int (1 : Int32)), .val (.int (0 : Int32)), .val (.int (1 : Int32)), .val (.int (1 : Int32))] [(.int (1 : Int32))])) _
      refine Go.by (fun tt_ kk_ => XS.iload X.here hx rfl (hb hby at_167) rfl kk_) ?_
      show Go p.tables e below (T.setTop (mkF m 169 #[.val (.int p0), .val (.int p1), .val (.int p2), .val (.int p3), .val (.int p4), .val (.int p5), .val (.ref b1), .val (.int (1 : Int32)), .val (.int (1 : Int32)), .val (.int (0 : Int32)), .val (.int (1 : Int32)), .val (.int (1 : Int32))] [(.int (1 : Int32)), (.int (1 : Int32))])) _
      refine Go.by (fun tt_ kk_ => XS.iload X.here hx rfl (hb hby at_169) rfl kk_) ?_
      show Go p.tables e below (T.setTop (mkF m 171 #[.val (.int p0), .val (.int p1), .val (.int p2), .val (.int p3), .val (.int p4), .val (.int p5), .val (.ref b1), .val (.int (1 : Int32)), .val (.int (1 : Int32)), .val (.int (0 : Int32)), .val (.int (1 : Int32)), .val (.int (1 : Int32))] [(.int (1 : Int32)), (.int (1 : Int32)), (.int (1 : Int32))])) _
      refine Go.by (fun tt_ kk_ => XS.icmpNo X.here hx rfl (hb hby at_171) rfl (teq (rfl : (1 : Int32) = (1 : Int32))).2 kk_) ?_
      show Go p.tables e below (T.setTop (mkF m 174 #[.val (.int p0), .val (.int p1), .val (.int p2), .val (.int p3), .val (.int p4), .val (.int p5), .val (.ref b1), .val (.int (1 : Int32)), .val (.int (1 : Int32)), .val (.int (0 : Int32)), .val (.int (1 : Int32)), .val (.int (1 : Int32))] [(.int (1 : Int32))])) _
      refine Go.by (fun tt_ kk_ => XS.iconst X.here hx rfl (hb hby at_174) kk_) ?_
      show Go p.tables e below (T.setTop (mkF m 175 #[.val (.int p0), .val (.int p1), .val (.int p2), .val (.int p3), .val (.int p4), .val (.int p5), .val (.ref b1), .val (.int (1 : Int32)), .val (.int (1 : Int32)), .val (.int (0 : Int32)), .val (.int (1 : Int32)), .val (.int (1 : Int32))] [(.int (1 : Int32)), (.int (1 : Int32))])) _
      refine Go.by (fun tt_ kk_ => XS.goto X.here hx rfl (pc0 := 175) (pc' := 179) rfl (hb hby at_175) (by decide) (by decide) kk_) ?_
      show Go p.tables e below (T.setTop (mkF m 179 #[.val (.int p0), .val (.int p1), .val (.int p2), .val (.int p3), .val (.int p4), .val (.int p5), .val (.ref b1), .val (.int (1 : Int32)), .val (.int (1 : Int32)), .val (.int (0 : Int32)), .val (.int (1 : Int32)), .val (.int (1 : Int32))] [(.int (1 : Int32)), (.int (1 : Int32))])) _
      refine Go.by (fun tt_ kk_ => XS.icmpNo X.here hx rfl (hb hby at_179) rfl (teq (rfl : (1 : Int32) = (1 : Int32))).2 kk_) ?_
      show Go p.tables e below (T.setTop (mkF m 182 #[.val (.int p0), .val (.int p1), .val (.int p2), .val (.int p3), .val (.int p4), .val (.int p5), .val (.ref b1), .val (.int (1 : Int32)), .val (.int (1 : Int32)), .val (.int (0 : Int32)), .val (.int (1 : Int32)), .val (.int (1 : Int32))] [])) _
      refine Go.by (fun tt_ kk_ => XS.iconst X.here hx rfl (hb hby at_182) kk_) ?_
      show Go p.tables e below (T.setTop (mkF m 183 #[.val (.int p0), .val (.int p1), .val (.int p2), .val (.int p3), .val (.int p4), .val (.int p5), .val (.ref b1), .val (.int (1 : Int32)), .val (.int (1 : Int32)), .val (.int (0 : Int32)), .val (.int (1 : Int32)), .val (.int (1 : Int32))] [(.int (1 : Int32))])) _
      refine Go.by (fun tt_ kk_ => XS.goto X.here hx rfl (pc0 := 183) (pc' := 187) rfl (hb hby at_183) (by decide) (by decide) kk_) ?_
      show Go p.tables e below (T.setTop (mkF m 187 #[.val (.int p0), .val (.int p1), .val (.int p2), .val (.int p3), .val (.int p4), .val (.int p5), .val (.ref b1), .val (.int (1 : Int32)), .val (.int (1 : Int32)), .val (.int (0 : Int32)), .val (.int (1 : Int32)), .val (.int (1 : Int32))] [(.int (1 : Int32))])) _
      exact Go.done X  (v := some (.int (1 : Int32))) (fun h => by rw [Bd.returns] at h; cases h) Bd.notSynchronized (fun fs hr => retN X hx (z := (1 : Int32)) (t := .boolean) Bd.returns (by simp) (hb hby at_187) hr) (by rw [eT]; exact ⟨rfl, N⟩) (by decide) (by decide)
    · rw [hcs]
      show Go p.tables e below (T.setTop (mkF m 95 #[.val (.int p0), .val (.int p1), .val (.int p2), .val (.int p3), .val (.int p4), .val (.int p5), .val (.ref b1), .val (.int (1 : Int32)), .val (.int (1 : Int32)), .val (.int (0 : Int32)), .unset, .unset] [(.int (2 : Int32))])) _
      refine Go.by (fun tt_ kk_ => XS.iload X.here hx rfl (hb hby at_95) rfl kk_) ?_
      show Go p.tables e below (T.setTop (mkF m 97 #[.val (.int p0), .val (.int p1), .val (.int p2), .val (.int p3), .val (.int p4), .val (.int p5), .val (.ref b1), .val (.int (1 : Int32)), .val (.int (1 : Int32)), .val (.int (0 : Int32)), .unset, .unset] [(.int (1 : Int32)), (.int (2 : Int32))])) _
      have hz : (if (1 : Int32) < (2 : Int32) then (1 : Int32) else (2 : Int32)) = (1 : Int32) := by decide
      obtain ⟨_, _, ⟨T, L_, k_, n_⟩, -, X, ⟨Lc_, hQ, l_, y_, z_⟩, st⟩ := Jvm.LawKit.callS X hx (y := (⟨"java/lang/Math", "min", "(II)I"⟩ : MethodName)) hown (mvT hZ (hw _ (List.mem_of_getElem? (i := 52) rfl))) (mvT hZ (hw _ (List.mem_of_getElem? (i := 36) rfl))) (mvT hZ (hw _ (List.mem_of_getElem? (i := 11) rfl))) (mvT hZ (hw _ (List.mem_of_getElem? (i := 37) rfl))) (by decide) (backOf (W := 0) (rm7 l Z a0 hw [] (2 : Int32) (1 : Int32) h14 n0 (Nat.le_trans Z0 K.1) ) hZ (hw _ (List.mem_of_getElem? (i := 37) rfl)) (hw _ (List.mem_of_getElem? (i := 11) rfl)) (by decide) (by decide)) (g := (mkF m 97 #[.val (.int p0), .val (.int p1), .val (.int p2), .val (.int p3), .val (.int p4), .val (.int p5), .val (.ref b1), .val (.int (1 : Int32)), .val (.int (1 : Int32)), .val (.int (0 : Int32)), .unset, .unset] [(.int (1 : Int32)), (.int (2 : Int32))])) rfl (by rw [hml]; rfl) (argsL := [(.int (2 : Int32)), (.int (1 : Int32))]) (rest := []) (lenOf pd_3 rfl) rfl (by show 2 * 0 + _ ≤ _; exact Nat.le_of_eq rfl) (hb hby at_97) (fun _ _ => ⟨rfl, eT, (by decide : 5 + 0 ≤ _), (by decide : 19 + 0 ≤ _)⟩)
      dsimp only [Pt.U, Pt.locs, Pt.cells, Pt.slots] at X l_ y_ z_ st hQ
      subst l_ y_ z_
      obtain ⟨e_v, Nq, eh⟩ := hQ
      rw [hz] at e_v
      subst e_v
      have N := Fr.app N Nq
      have eT := eh
      refine Go.by st ?_
      show Go p.tables e below (T.setTop (mkF m 100 #[.val (.int p0), .val (.int p1), .val (.int p2), .val (.int p3), .val (.int p4), .val (.int p5), .val (.ref b1), .val (.int (1 : Int32)), .val (.int (1 : Int32)), .val (.int (0 : Int32)), .unset, .unset] [(.int (1 : Int32))])) _
      refine Go.by (fun tt_ kk_ => XS.istore X.here hx rfl (hb hby at_100) rfl (l' := #[.val (.int p0), .val (.int p1), .val (.int p2), .val (.int p3), .val (.int p4), .val (.int p5), .val (.ref b1), .val (.int (1 : Int32)), .val (.int (1 : Int32)), .val (.int (0 : Int32)), .val (.int (1 : Int32)), .unset]) rfl kk_) ?_
      show Go p.tables e below (T.setTop (mkF m 102 #[.val (.int p0), .val (.int p1), .val (.int p2), .val (.int p3), .val (.int p4), .val (.int p5), .val (.ref b1), .val (.int (1 : Int32)), .val (.int (1 : Int32)), .val (.int (0 : Int32)), .val (.int (1 : Int32)), .unset] [])) _
      refine Go.by (fun tt_ kk_ => XS.iload X.here hx rfl (hb hby at_102) rfl kk_) ?_
      show Go p.tables e below (T.setTop (mkF m 104 #[.val (.int p0), .val (.int p1), .val (.int p2), .val (.int p3), .val (.int p4), .val (.int p5), .val (.ref b1), .val (.int (1 : Int32)), .val (.int (1 : Int32)), .val (.int (0 : Int32)), .val (.int (1 : Int32)), .unset] [(.int (1 : Int32))])) _
      refine Go.by (fun tt_ kk_ => XS.iconst X.here hx rfl (hb hby at_104) kk_) ?_
      show Go p.tables e below (T.setTop (mkF m 105 #[.val (.int p0), .val (.int p1), .val (.int p2), .val (.int p3), .val (.int p4), .val (.int p5), .val (.ref b1), .val (.int (1 : Int32)), .val (.int (1 : Int32)), .val (.int (0 : Int32)), .val (.int (1 : Int32)), .unset] [(.int (1 : Int32)), (.int (1 : Int32))])) _
      refine Go.by (fun tt_ kk_ => XS.icmpNo X.here hx rfl (hb hby at_105) rfl (flt (by decide : ¬ ((1 : Int32) < (1 : Int32)))).1 kk_) ?_
      show Go p.tables e below (T.setTop (mkF m 108 #[.val (.int p0), .val (.int p1), .val (.int p2), .val (.int p3), .val (.int p4), .val (.int p5), .val (.ref b1), .val (.int (1 : Int32)), .val (.int (1 : Int32)), .val (.int (0 : Int32)), .val (.int (1 : Int32)), .unset] [])) _
      refine Go.by (fun tt_ kk_ => XS.aload X.here hx rfl (hb hby at_108) rfl rfl kk_) ?_
      show Go p.tables e below (T.setTop (mkF m 110 #[.val (.int p0), .val (.int p1), .val (.int p2), .val (.int p3), .val (.int p4), .val (.int p5), .val (.ref b1), .val (.int (1 : Int32)), .val (.int (1 : Int32)), .val (.int (0 : Int32)), .val (.int (1 : Int32)), .unset] [(.ref b1)])) _
      obtain ⟨cq_, kq_, qa_, qb_, qc_⟩ := isOf hZ eT E_b1
      obtain ⟨_, _, ⟨T, L_, k_, n_⟩, -, X, ⟨Lc_, hQ, l_, y_, z_⟩, st⟩ := X.virtualBack hx (y := (⟨"com/example/mode_choice_loop/modechoiceloop/simulation/TimeHeap", "removeFirst", "()I"⟩ : MethodName)) (z := (⟨"com/example/mode_choice_loop/modechoiceloop/simulation/TimeHeap", "removeFirst", "()I"⟩ : MethodName)) hown (mvT hZ (hw _ (List.mem_of_getElem? (i := 53) rfl))) (mvT hZ (hw _ (List.mem_of_getElem? (i := 54) rfl))) (notFace_of_selects (args := #[]) (mvT hZ (hw _ (List.mem_of_getElem? (i := 56) rfl)))) (mvT hZ (hw _ (List.mem_of_getElem? (i := 56) rfl))) (mvT hZ (hw _ (List.mem_of_getElem? (i := 55) rfl))) (by decide) (backOf (W := 0) (rm11_1 l Z a0 hw [] b1 h14 n0 (Nat.le_trans Z0 K.1) TH) hZ (hw _ (List.mem_of_getElem? (i := 57) rfl)) (hw _ (List.mem_of_getElem? (i := 2) rfl)) (by decide) (by decide)) qa_ qc_ (g := (mkF m 110 #[.val (.int p0), .val (.int p1), .val (.int p2), .val (.int p3), .val (.int p4), .val (.int p5), .val (.ref b1), .val (.int (1 : Int32)), .val (.int (1 : Int32)), .val (.int (0 : Int32)), .val (.int (1 : Int32)), .unset] [(.ref b1)])) rfl (by rw [hml]; rfl) (Steps.refl _) (argsL := []) (rest := []) (lenOf pd_12 rfl) rfl (by show 2 * 0 + _ ≤ _; exact Nat.le_of_eq rfl) (hb hby at_110) (fun _ _ => ⟨rfl, eT, (by decide : 5 + 0 ≤ _), (by decide : 19 + 0 ≤ _)⟩)
      dsimp only [Pt.U, Pt.locs, Pt.cells, Pt.slots] at X l_ y_ z_ st hQ
      subst l_ y_ z_
      obtain ⟨h24, eT⟩ : ∃ z, T.heap = z := ⟨_, rfl⟩
      rw [eT] at hQ
      obtain ⟨r23, rfl, Nq, Kq, TH⟩ := hQ
      have N := Fr.app N Nq
      have K := And.intro (Nat.le_trans K.1 Kq.1) trivial
      have E_b1 := TH.1
      refine Go.tr st ?_
      show Go p.tables e below (T.setTop (mkF m 113 #[.val (.int p0), .val (.int p1), .val (.int p2), .val (.int p3), .val (.int p4), .val (.int p5), .val (.ref b1), .val (.int (1 : Int32)), .val (.int (1 : Int32)), .val (.int (0 : Int32)), .val (.int (1 : Int32)), .unset] [(.int r23)])) _
      refine Go.by (fun tt_ kk_ => XS.pop X.here hx rfl (hb hby at_113) rfl rfl kk_) ?_
      show Go p.tables e below (T.setTop (mkF m 114 #[.val (.int p0), .val (.int p1), .val (.int p2), .val (.int p3), .val (.int p4), .val (.int p5), .val (.ref b1), .val (.int (1 : Int32)), .val (.int (1 : Int32)), .val (.int (0 : Int32)), .val (.int (1 : Int32)), .unset] [])) _
      refine Go.by (fun tt_ kk_ => XS.iload X.here hx rfl (hb hby at_114) rfl kk_) ?_
      show Go p.tables e below (T.setTop (mkF m 116 #[.val (.int p0), .val (.int p1), .val (.int p2), .val (.int p3), .val (.int p4), .val (.int p5), .val (.ref b1), .val (.int (1 : Int32)), .val (.int (1 : Int32)), .val (.int (0 : Int32)), .val (.int (1 : Int32)), .unset] [(.int (1 : Int32))])) _
      refine Go.by (fun tt_ kk_ => XS.iconst X.here hx rfl (hb hby at_116) kk_) ?_
      show Go p.tables e below (T.setTop (mkF m 117 #[.val (.int p0), .val (.int p1), .val (.int p2), .val (.int p3), .val (.int p4), .val (.int p5), .val (.ref b1), .val (.int (1 : Int32)), .val (.int (1 : Int32)), .val (.int (0 : Int32)), .val (.int (1 : Int32)), .unset] [(.int (2 : Int32)), (.int (1 : Int32))])) _
      refine Go.by (fun tt_ kk_ => XS.icmpYes X.here hx rfl (pc0 := 117) (pc' := 126) rfl (hb hby at_117) rfl (tlt (by decide : (1 : Int32) < (2 : Int32))).1 (by decide) (by decide) kk_) ?_
      show Go p.tables e below (T.setTop (mkF m 126 #[.val (.int p0), .val (.int p1), .val (.int p2), .val (.int p3), .val (.int p4), .val (.int p5), .val (.ref b1), .val (.int (1 : Int32)), .val (.int (1 : Int32)), .val (.int (0 : Int32)), .val (.int (1 : Int32)), .unset] [])) _
      refine Go.by (fun tt_ kk_ => XS.iload X.here hx rfl (hb hby at_126) rfl kk_) ?_
      show Go p.tables e below (T.setTop (mkF m 128 #[.val (.int p0), .val (.int p1), .val (.int p2), .val (.int p3), .val (.int p4), .val (.int p5), .val (.ref b1), .val (.int (1 : Int32)), .val (.int (1 : Int32)), .val (.int (0 : Int32)), .val (.int (1 : Int32)), .unset] [(.int (1 : Int32))])) _
      refine Go.by (fun tt_ kk_ => XS.iconst X.here hx rfl (hb hby at_128) kk_) ?_
      show Go p.tables e below (T.setTop (mkF m 129 #[.val (.int p0), .val (.int p1), .val (.int p2), .val (.int p3), .val (.int p4), .val (.int p5), .val (.ref b1), .val (.int (1 : Int32)), .val (.int (1 : Int32)), .val (.int (0 : Int32)), .val (.int (1 : Int32)), .unset] [(.int (3 : Int32)), (.int (1 : Int32))])) _
      refine Go.by (fun tt_ kk_ => XS.icmpYes X.here hx rfl (pc0 := 129) (pc' := 138) rfl (hb hby at_129) rfl (tlt (by decide : (1 : Int32) < (3 : Int32))).1 (by decide) (by decide) kk_) ?_
      show Go p.tables e below (T.setTop (mkF m 138 #[.val (.int p0), .val (.int p1), .val (.int p2), .val (.int p3), .val (.int p4), .val (.int p5), .val (.ref b1), .val (.int (1 : Int32)), .val (.int (1 : Int32)), .val (.int (0 : Int32)), .val (.int (1 : Int32)), .unset] [])) _
      refine Go.by (fun tt_ kk_ => XS.aload X.here hx rfl (hb hby at_138) rfl rfl kk_) ?_
      show Go p.tables e below (T.setTop (mkF m 140 #[.val (.int p0), .val (.int p1), .val (.int p2), .val (.int p3), .val (.int p4), .val (.int p5), .val (.ref b1), .val (.int (1 : Int32)), .val (.int (1 : Int32)), .val (.int (0 : Int32)), .val (.int (1 : Int32)), .unset] [(.ref b1)])) _
      have hz : (if (0 : Int32) = 0 then (1 : Int32) else 0) = (1 : Int32) := by decide
      obtain ⟨cq_, kq_, qa_, qb_, qc_⟩ := isOf hZ eT E_b1
      obtain ⟨_, _, ⟨T, L_, k_, n_⟩, -, X, ⟨Lc_, hQ, l_, y_, z_⟩, st⟩ := X.virtualBack hx (y := (⟨"com/example/mode_choice_loop/modechoiceloop/simulation/TimeHeap", "isEmpty", "()Z"⟩ : MethodName)) (z := (⟨"com/example/mode_choice_loop/modechoiceloop/simulation/TimeHeap", "isEmpty", "()Z"⟩ : MethodName)) hown (mvT hZ (hw _ (List.mem_of_getElem? (i := 19) rfl))) (mvT hZ (hw _ (List.mem_of_getElem? (i := 20) rfl))) (notFace_of_selects (args := #[]) (mvT hZ (hw _ (List.mem_of_getElem? (i := 22) rfl)))) (mvT hZ (hw _ (List.mem_of_getElem? (i := 22) rfl))) (mvT hZ (hw _ (List.mem_of_getElem? (i := 21) rfl))) (by decide) (backOf (W := 0) (rm4 l Z a0 hw [] b1 (0 : Int32) h24 n0 (Nat.le_trans Z0 K.1) TH) hZ (hw _ (List.mem_of_getElem? (i := 23) rfl)) (hw _ (List.mem_of_getElem? (i := 2) rfl)) (by decide) (by decide)) qa_ qc_ (g := (mkF m 140 #[.val (.int p0), .val (.int p1), .val (.int p2), .val (.int p3), .val (.int p4), .val (.int p5), .val (.ref b1), .val (.int (1 : Int32)), .val (.int (1 : Int32)), .val (.int (0 : Int32)), .val (.int (1 : Int32)), .unset] [(.ref b1)])) rfl (by rw [hml]; rfl) (Steps.refl _) (argsL := []) (rest := []) (lenOf pd_10 rfl) rfl (by show 2 * 0 + _ ≤ _; exact Nat.le_of_eq rfl) (hb hby at_140) (fun _ _ => ⟨rfl, eT, (by decide : 5 + 0 ≤ _), (by decide : 19 + 0 ≤ _)⟩)
      dsimp only [Pt.U, Pt.locs, Pt.cells, Pt.slots] at X l_ y_ z_ st hQ
      subst l_ y_ z_
      obtain ⟨e_v, Nq, eh⟩ := hQ
      rw [hz] at e_v
      subst e_v
      have N := Fr.app N Nq
      have eT := eh
      refine Go.tr st ?_
      show Go p.tables e below (T.setTop (mkF m 143 #[.val (.int p0), .val (.int p1), .val (.int p2), .val (.int p3), .val (.int p4), .val (.int p5), .val (.ref b1), .val (.int (1 : Int32)), .val (.int (1 : Int32)), .val (.int (0 : Int32)), .val (.int (1 : Int32)), .unset] [(.int (1 : Int32))])) _
      refine Go.by (fun tt_ kk_ => XS.istore X.here hx rfl (hb hby at_143) rfl (l' := #[.val (.int p0), .val (.int p1), .val (.int p2), .val (.int p3), .val (.int p4), .val (.int p5), .val (.ref b1), .val (.int (1 : Int32)), .val (.int (1 : Int32)), .val (.int (0 : Int32)), .val (.int (1 : Int32)), .val (.int (1 : Int32))]) rfl kk_) ?_
      show Go p.tables e below (T.setTop (mkF m 145 #[.val (.int p0), .val (.int p1), .val (.int p2), .val (.int p3), .val (.int p4), .val (.int p5), .val (.ref b1), .val (.int (1 : Int32)), .val (.int (1 : Int32)), .val (.int (0 : Int32)), .val (.int (1 : Int32)), .val (.int (1 : Int32))] [])) _
      refine Go.by (fun tt_ kk_ => XS.iload X.here hx rfl (hb hby at_145) rfl kk_) ?_
      show Go p.tables e below (T.setTop (mkF m 147 #[.val (.int p0), .val (.int p1), .val (.int p2), .val (.int p3), .val (.int p4), .val (.int p5), .val (.ref b1), .val (.int (1 : Int32)), .val (.int (1 : Int32)), .val (.int (0 : Int32)), .val (.int (1 : Int32)), .val (.int (1 : Int32))] [(.int (1 : Int32))])) _
      refine Go.by (fun tt_ kk_ => XS.ifNo X.here hx rfl (hb hby at_147) rfl ((if0 _ _).trans (feq (by decide : ¬ ((1 : Int32) = (0 : Int32)))).1) kk_) ?_
      show Go p.tables e below (T.setTop (mkF m 150 #[.val (.int p0), .val (.int p1), .val (.int p2), .val (.int p3), .val (.int p4), .val (.int p5), .val (.ref b1), .val (.int (1 : Int32)), .val (.int (1 : Int32)), .val (.int (0 : Int32)), .val (.int (1 : Int32)), .val (.int (1 : Int32))] [])) _
      refine Go.by (fun tt_ kk_ => XS.iload X.here hx rfl (hb hby at_150) rfl kk_) ?_
      show Go p.tables e below (T.setTop (mkF m 152 #[.val (.int p0), .val (.int p1), .val (.int p2), .val (.int p3), .val (.int p4), .val (.int p5), .val (.ref b1), .val (.int (1 : Int32)), .val (.int (1 : Int32)), .val (.int (0 : Int32)), .val (.int (1 : Int32)), .val (.int (1 : Int32))] [(.int (0 : Int32))])) _
      refine Go.by (fun tt_ kk_ => XS.iload X.here hx rfl (hb hby at_152) rfl kk_) ?_
      show Go p.tables e below (T.setTop (mkF m 154 #[.val (.int p0), .val (.int p1), .val (.int p2), .val (.int p3), .val (.int p4), .val (.int p5), .val (.ref b1), .val (.int (1 : Int32)), .val (.int (1 : Int32)), .val (.int (0 : Int32)), .val (.int (1 : Int32)), .val (.int (1 : Int32))] [(.int (1 : Int32)), (.int (0 : Int32))])) _
      refine Go.by (fun tt_ kk_ => XS.ifYes X.here hx rfl (pc0 := 154) (pc' := 161) rfl (hb hby at_154) rfl ((if0 _ _).trans (feq (by decide : ¬ ((1 : Int32) = (0 : Int32)))).2) (by decide) (by decide) kk_) ?_
      show Go p.tables e below (T.setTop (mkF m 161 #[.val (.int p0), .val (.int p1), .val (.int p2), .val (.int p3), .val (.int p4), .val (.int p5), .val (.ref b1), .val (.int (1 : Int32)), .val (.int (1 : Int32)), .val (.int (0 : Int32)), .val (.int (1 : Int32)), .val (.int (1 : Int32))] [(.int (0 : Int32))])) _
      refine Go.by (fun tt_ kk_ => XS.iconst X.here hx rfl (hb hby at_161) kk_) ?_
      show Go p.tables e below (T.setTop (mkF m 162 #[.val (.int p0), .val (.int p1), .val (.int p2), .val (.int p3), .val (.int p4), .val (.int p5), .val (.ref b1), .val (.int (1 : Int32)), .val (.int (1 : Int32)), .val (.int (0 : Int32)), .val (.int (1 : Int32)), .val (.int (1 : Int32))] [(.int (0 : Int32)), (.int (0 : Int32))])) _
      refine Go.by (fun tt_ kk_ => XS.icmpNo X.here hx rfl (hb hby at_162) rfl (teq (rfl : (0 : Int32) = (0 : Int32))).2 kk_) ?_
      show Go p.tables e below (T.setTop (mkF m 165 #[.val (.int p0), .val (.int p1), .val (.int p2), .val (.int p3), .val (.int p4), .val (.int p5), .val (.ref b1), .val (.int (1 : Int32)), .val (.int (1 : Int32)), .val (.int (0 : Int32)), .val (.int (1 : Int32)), .val (.int (1 : Int32))] [])) _
      refine Go.by (fun tt_ kk_ => XS.iload X.here hx rfl (hb hby at_165) rfl kk_) ?_
      show Go p.tables e below (T.setTop (mkF m 167 #[.val (.int p0), .val (.int p1), .val (.int p2), .val (.int p3), .val (.int p4), .val (.int p5), .val (.ref b1), .val (.int (1 : Int32)), .val (.int (1 : Int32)), .val (.int (0 : Int32)), .val (.int (1 : Int32)), .val (.int (1 : Int32))] [(.int (1 : Int32))])) _
      refine Go.by (fun tt_ kk_ => XS.iload X.here hx rfl (hb hby at_167) rfl kk_) ?_
      show Go p.tables e below (T.setTop (mkF m 169 #[.val (.int p0), .val (.int p1), .val (.int p2), .val (.int p3), .val (.int p4), .val (.int p5), .val (.ref b1), .val (.int (1 : Int32)), .val (.int (1 : Int32)), .val (.int (0 : Int32)), .val (.int (1 : Int32)), .val (.int (1 : Int32))] [(.int (1 : Int32)), (.int (1 : Int32))])) _
      refine Go.by (fun tt_ kk_ => XS.iload X.here hx rfl (hb hby at_169) rfl kk_) ?_
      show Go p.tables e below (T.setTop (mkF m 171 #[.val (.int p0), .val (.int p1), .val (.int p2), .val (.int p3), .val (.int p4), .val (.int p5), .val (.ref b1), .val (.int (1 : Int32)), .val (.int (1 : Int32)), .val (.int (0 : Int32)), .val (.int (1 : Int32)), .val (.int (1 : Int32))] [(.int (1 : Int32)), (.int (1 : Int32)), (.int (1 : Int32))])) _
      refine Go.by (fun tt_ kk_ => XS.icmpNo X.here hx rfl (hb hby at_171) rfl (teq (rfl : (1 : Int32) = (1 : Int32))).2 kk_) ?_
      show Go p.tables e below (T.setTop (mkF m 174 #[.val (.int p0), .val (.int p1), .val (.int p2), .val (.int p3), .val (.int p4), .val (.int p5), .val (.ref b1), .val (.int (1 : Int32)), .val (.int (1 : Int32)), .val (.int (0 : Int32)), .val (.int (1 : Int32)), .val (.int (1 : Int32))] [(.int (1 : Int32))])) _
      refine Go.by (fun tt_ kk_ => XS.iconst X.here hx rfl (hb hby at_174) kk_) ?_
      show Go p.tables e below (T.setTop (mkF m 175 #[.val (.int p0), .val (.int p1), .val (.int p2), .val (.int p3), .val (.int p4), .val (.int p5), .val (.ref b1), .val (.int (1 : Int32)), .val (.int (1 : Int32)), .val (.int (0 : Int32)), .val (.int (1 : Int32)), .val (.int (1 : Int32))] [(.int (1 : Int32)), (.int (1 : Int32))])) _
      refine Go.by (fun tt_ kk_ => XS.goto X.here hx rfl (pc0 := 175) (pc' := 179) rfl (hb hby at_175) (by decide) (by decide) kk_) ?_
      show Go p.tables e below (T.setTop (mkF m 179 #[.val (.int p0), .val (.int p1), .val (.int p2), .val (.int p3), .val (.int p4), .val (.int p5), .val (.ref b1), .val (.int (1 : Int32)), .val (.int (1 : Int32)), .val (.int (0 : Int32)), .val (.int (1 : Int32)), .val (.int (1 : Int32))] [(.int (1 : Int32)), (.int (1 : Int32))])) _
      refine Go.by (fun tt_ kk_ => XS.icmpNo X.here hx rfl (hb hby at_179) rfl (teq (rfl : (1 : Int32) = (1 : Int32))).2 kk_) ?_
      show Go p.tables e below (T.setTop (mkF m 182 #[.val (.int p0), .val (.int p1), .val (.int p2), .val (.int p3), .val (.int p4), .val (.int p5), .val (.ref b1), .val (.int (1 : Int32)), .val (.int (1 : Int32)), .val (.int (0 : Int32)), .val (.int (1 : Int32)), .val (.int (1 : Int32))] [])) _
      refine Go.by (fun tt_ kk_ => XS.iconst X.here hx rfl (hb hby at_182) kk_) ?_
      show Go p.tables e below (T.setTop (mkF m 183 #[.val (.int p0), .val (.int p1), .val (.int p2), .val (.int p3), .val (.int p4), .val (.int p5), .val (.ref b1), .val (.int (1 : Int32)), .val (.int (1 : Int32)), .val (.int (0 : Int32)), .val (.int (1 : Int32)), .val (.int (1 : Int32))] [(.int (1 : Int32))])) _
      refine Go.by (fun tt_ kk_ => XS.goto X.here hx rfl (pc0 := 183) (pc' := 187) rfl (hb hby at_183) (by decide) (by decide) kk_) ?_
      show Go p.tables e below (T.setTop (mkF m 187 #[.val (.int p0), .val (.int p1), .val (.int p2), .val (.int p3), .val (.int p4), .val (.int p5), .val (.ref b1), .val (.int (1 : Int32)), .val (.int (1 : Int32)), .val (.int (0 : Int32)), .val (.int (1 : Int32)), .val (.int (1 : Int32))] [(.int (1 : Int32))])) _
      exact Go.done X  (v := some (.int (1 : Int32))) (fun h => by rw [Bd.returns] at h; cases h) Bd.notSynchronized (fun fs hr => retN X hx (z := (1 : Int32)) (t := .boolean) Bd.returns (by simp) (hb hby at_187) hr) (by rw [eT]; exact ⟨rfl, N⟩) (by decide) (by decide)
    · rw [hcs]
      show Go p.tables e below (T.setTop (mkF m 95 #[.val (.int p0), .val (.int p1), .val (.int p2), .val (.int p3), .val (.int p4), .val (.int p5), .val (.ref b1), .val (.int (1 : Int32)), .val (.int (1 : Int32)), .val (.int (0 : Int32)), .unset, .unset] [(.int (3 : Int32))])) _
      refine Go.by (fun tt_ kk_ => XS.iload X.here hx rfl (hb hby at_95) rfl kk_) ?_
      show Go p.tables e below (T.setTop (mkF m 97 #[.val (.int p0), .val (.int p1), .val (.int p2), .val (.int p3), .val (.int p4), .val (.int p5), .val (.ref b1), .val (.int (1 : Int32)), .val (.int (1 : Int32)), .val (.int (0 : Int32)), .unset, .unset] [(.int (1 : Int32)), (.int (3 : Int32))])) _
      have hz : (if (1 : Int32) < (3 : Int32) then (1 : Int32) else (3 : Int32)) = (1 : Int32) := by decide
      obtain ⟨_, _, ⟨T, L_, k_, n_⟩, -, X, ⟨Lc_, hQ, l_, y_, z_⟩, st⟩ := Jvm.LawKit.callS X hx (y := (⟨"java/lang/Math", "min", "(II)I"⟩ : MethodName)) hown (mvT hZ (hw _ (List.mem_of_getElem? (i := 52) rfl))) (mvT hZ (hw _ (List.mem_of_getElem? (i := 36) rfl))) (mvT hZ (hw _ (List.mem_of_getElem? (i := 11) rfl))) (mvT hZ (hw _ (List.mem_of_getElem? (i := 37) rfl))) (by decide) (backOf (W := 0) (rm7 l Z a0 hw [] (3 : Int32) (1 : Int32) h14 n0 (Nat.le_trans Z0 K.1) ) hZ (hw _ (List.mem_of_getElem? (i := 37) rfl)) (hw _ (List.mem_of_getElem? (i := 11) rfl)) (by decide) (by decide)) (g := (mkF m 97 #[.val (.int p0), .val (.int p1), .val (.int p2), .val (.int p3), .val (.int p4), .val (.int p5), .val (.ref b1), .val (.int (1 : Int32)), .val (.int (1 : Int32)), .val (.int (0 : Int32)), .unset, .unset] [(.int (1 : Int32)), (.int (3 : Int32))])) rfl (by rw [hml]; rfl) (argsL := [(.int (3 : Int32)), (.int (1 : Int32))]) (rest := []) (lenOf pd_3 rfl) rfl (by show 2 * 0 + _ ≤ _; exact Nat.le_of_eq rfl) (hb hby at_97) (fun _ _ => ⟨rfl, eT, (by decide : 5 + 0 ≤ _), (by decide : 19 + 0 ≤ _)⟩)
      dsimp only [Pt.U, Pt.locs, Pt.cells, Pt.slots] at X l_ y_ z_ st hQ
      subst l_ y_ z_
      obtain ⟨e_v, Nq, eh⟩ := hQ
      rw [hz] at e_v
      subst e_v
      have N := Fr.app N Nq
      have eT := eh
      refine Go.by st ?_
      show Go p.tables e below (T.setTop (mkF m 100 #[.val (.int p0), .val (.int p1), .val (.int p2), .val (.int p3), .val (.int p4), .val (.int p5), .val (.ref b1), .val (.int (1 : Int32)), .val (.int (1 : Int32)), .val (.int (0 : Int32)), .unset, .unset] [(.int (1 : Int32))])) _
      refine Go.by (fun tt_ kk_ => XS.istore X.here hx rfl (hb hby at_100) rfl (l' := #[.val (.int p0), .val (.int p1), .val (.int p2), .val (.int p3), .val (.int p4), .val (.int p5), .val (.ref b1), .val (.int (1 : Int32)), .val (.int (1 : Int32)), .val (.int (0 : Int32)), .val (.int (1 : Int32)), .unset]) rfl kk_) ?_
      show Go p.tables e below (T.setTop (mkF m 102 #[.val (.int p0), .val (.int p1), .val (.int p2), .val (.int p3), .val (.int p4), .val (.int p5), .val (.ref b1), .val (.int (1 : Int32)), .val (.int (1 : Int32)), .val (.int (0 : Int32)), .val (.int (1 : Int32)), .unset] [])) _
      refine Go.by (fun tt_ kk_ => XS.iload X.here hx rfl (hb hby at_102) rfl kk_) ?_
      show Go p.tables e below (T.setTop (mkF m 104 #[.val (.int p0), .val (.int p1), .val (.int p2), .val (.int p3), .val (.int p4), .val (.int p5), .val (.ref b1), .val (.int (1 : Int32)), .val (.int (1 : Int32)), .val (.int (0 : Int32)), .val (.int (1 : Int32)), .unset] [(.int (1 : Int32))])) _
      refine Go.by (fun tt_ kk_ => XS.iconst X.here hx rfl (hb hby at_104) kk_) ?_
      show Go p.tables e below (T.setTop (mkF m 105 #[.val (.int p0), .val (.int p1), .val (.int p2), .val (.int p3), .val (.int p4), .val (.int p5), .val (.ref b1), .val (.int (1 : Int32)), .val (.int (1 : Int32)), .val (.int (0 : Int32)), .val (.int (1 : Int32)), .unset] [(.int (1 : Int32)), (.int (1 : Int32))])) _
      refine Go.by (fun tt_ kk_ => XS.icmpNo X.here hx rfl (hb hby at_105) rfl (flt (by decide : ¬ ((1 : Int32) < (1 : Int32)))).1 kk_) ?_
      show Go p.tables e below (T.setTop (mkF m 108 #[.val (.int p0), .val (.int p1), .val (.int p2), .val (.int p3), .val (.int p4), .val (.int p5), .val (.ref b1), .val (.int (1 : Int32)), .val (.int (1 : Int32)), .val (.int (0 : Int32)), .val (.int (1 : Int32)), .unset] [])) _
      refine Go.by (fun tt_ kk_ => XS.aload X.here hx rfl (hb hby at_108) rfl rfl kk_) ?_
      show Go p.tables e below (T.setTop (mkF m 110 #[.val (.int p0), .val (.int p1), .val (.int p2), .val (.int p3), .val (.int p4), .val (.int p5), .val (.ref b1), .val (.int (1 : Int32)), .val (.int (1 : Int32)), .val (.int (0 : Int32)), .val (.int (1 : Int32)), .unset] [(.ref b1)])) _
      obtain ⟨cq_, kq_, qa_, qb_, qc_⟩ := isOf hZ eT E_b1
      obtain ⟨_, _, ⟨T, L_, k_, n_⟩, -, X, ⟨Lc_, hQ, l_, y_, z_⟩, st⟩ := X.virtualBack hx (y := (⟨"com/example/mode_choice_loop/modechoiceloop/simulation/TimeHeap", "removeFirst", "()I"⟩ : MethodName)) (z := (⟨"com/example/mode_choice_loop/modechoiceloop/simulation/TimeHeap", "removeFirst", "()I"⟩ : MethodName)) hown (mvT hZ (hw _ (List.mem_of_getElem? (i := 53) rfl))) (mvT hZ (hw _ (List.mem_of_getElem? (i := 54) rfl))) (notFace_of_selects (args := #[]) (mvT hZ (hw _ (List.mem_of_getElem? (i := 56) rfl)))) (mvT hZ (hw _ (List.mem_of_getElem? (i := 56) rfl))) (mvT hZ (hw _ (List.mem_of_getElem? (i := 55) rfl))) (by decide) (backOf (W := 0) (rm11_1 l Z a0 hw [] b1 h14 n0 (Nat.le_trans Z0 K.1) TH) hZ (hw _ (List.mem_of_getElem? (i := 57) rfl)) (hw _ (List.mem_of_getElem? (i := 2) rfl)) (by decide) (by decide)) qa_ qc_ (g := (mkF m 110 #[.val (.int p0), .val (.int p1), .val (.int p2), .val (.int p3), .val (.int p4), .val (.int p5), .val (.ref b1), .val (.int (1 : Int32)), .val (.int (1 : Int32)), .val (.int (0 : Int32)), .val (.int (1 : Int32)), .unset] [(.ref b1)])) rfl (by rw [hml]; rfl) (Steps.refl _) (argsL := []) (rest := []) (lenOf pd_12 rfl) rfl (by show 2 * 0 + _ ≤ _; exact Nat.le_of_eq rfl) (hb hby at_110) (fun _ _ => ⟨rfl, eT, (by decide : 5 + 0 ≤ _), (by decide : 19 + 0 ≤ _)⟩)
      dsimp only [Pt.U, Pt.locs, Pt.cells, Pt.slots] at X l_ y_ z_ st hQ
      subst l_ y_ z_
      obtain ⟨h28, eT⟩ : ∃ z, T.heap = z := ⟨_, rfl⟩
      rw [eT] at hQ
      obtain ⟨r27, rfl, Nq, Kq, TH⟩ := hQ
      have N := Fr.app N Nq
      have K := And.intro (Nat.le_trans K.1 Kq.1) trivial
      have E_b1 := TH.1
      refine Go.tr st ?_
      show Go p.tables e below (T.setTop (mkF m 113 #[.val (.int p0), .val (.int p1), .val (.int p2), .val (.int p3), .val (.int p4), .val (.int p5), .val (.ref b1), .val (.int (1 : Int32)), .val (.int (1 : Int32)), .val (.int (0 : Int32)), .val (.int (1 : Int32)), .unset] [(.int r27)])) _
      refine Go.by (fun tt_ kk_ => XS.pop X.here hx rfl (hb hby at_113) rfl rfl kk_) ?_
      show Go p.tables e below (T.setTop (mkF m 114 #[.val (.int p0), .val (.int p1), .val (.int p2), .val (.int p3), .val (.int p4), .val (.int p5), .val (.ref b1), .val (.int (1 : Int32)), .val (.int (1 : Int32)), .val (.int (0 : Int32)), .val (.int (1 : Int32)), .unset] [])) _
      refine Go.by (fun tt_ kk_ => XS.iload X.here hx rfl (hb hby at_114) rfl kk_) ?_
      show Go p.tables e below (T.setTop (mkF m 116 #[.val (.int p0), .val (.int p1), .val (.int p2), .val (.int p3), .val (.int p4), .val (.int p5), .val (.ref b1), .val (.int (1 : Int32)), .val (.int (1 : Int32)), .val (.int (0 : Int32)), .val (.int (1 : Int32)), .unset] [(.int (1 : Int32))])) _
      refine Go.by (fun tt_ kk_ => XS.iconst X.here hx rfl (hb hby at_116) kk_) ?_
      show Go p.tables e below (T.setTop (mkF m 117 #[.val (.int p0), .val (.int p1), .val (.int p2), .val (.int p3), .val (.int p4), .val (.int p5), .val (.ref b1), .val (.int (1 : Int32)), .val (.int (1 : Int32)), .val (.int (0 : Int32)), .val (.int (1 : Int32)), .unset] [(.int (2 : Int32)), (.int (1 : Int32))])) _
      refine Go.by (fun tt_ kk_ => XS.icmpYes X.here hx rfl (pc0 := 117) (pc' := 126) rfl (hb hby at_117) rfl (tlt (by decide : (1 : Int32) < (2 : Int32))).1 (by decide) (by decide) kk_) ?_
      show Go p.tables e below (T.setTop (mkF m 126 #[.val (.int p0), .val (.int p1), .val (.int p2), .val (.int p3), .val (.int p4), .val (.int p5), .val (.ref b1), .val (.int (1 : Int32)), .val (.int (1 : Int32)), .val (.int (0 : Int32)), .val (.int (1 : Int32)), .unset] [])) _
      refine Go.by (fun tt_ kk_ => XS.iload X.here hx rfl (hb hby at_126) rfl kk_) ?_
      show Go p.tables e below (T.setTop (mkF m 128 #[.val (.int p0), .val (.int p1), .val (.int p2), .val (.int p3), .val (.int p4), .val (.int p5), .val (.ref b1), .val (.int (1 : Int32)), .val (.int (1 : Int32)), .val (.int (0 : Int32)), .val (.int (1 : Int32)), .unset] [(.int (1 : Int32))])) _
      refine Go.by (fun tt_ kk_ => XS.iconst X.here hx rfl (hb hby at_128) kk_) ?_
      show Go p.tables e below (T.setTop (mkF m 129 #[.val (.int p0), .val (.int p1), .val (.int p2), .val (.int p3), .val (.int p4), .val (.int p5), .val (.ref b1), .val (.int (1 : Int32)), .val (.int (1 : Int32)), .val (.int (0 : Int32)), .val (.int (1 : Int32)), .unset] [(.int (3 : Int32)), (.int (1 : Int32))])) _
      refine Go.by (fun tt_ kk_ => XS.icmpYes X.here hx rfl (pc0 := 129) (pc' := 138) rfl (hb hby at_129) rfl (tlt (by decide : (1 : Int32) < (3 : Int32))).1 (by decide) (by decide) kk_) ?_
      show Go p.tables e below (T.setTop (mkF m 138 #[.val (.int p0), .val (.int p1), .val (.int p2), .val (.int p3), .val (.int p4), .val (.int p5), .val (.ref b1), .val (.int (1 : Int32)), .val (.int (1 : Int32)), .val (.int (0 : Int32)), .val (.int (1 : Int32)), .unset] [])) _
      refine Go.by (fun tt_ kk_ => XS.aload X.here hx rfl (hb hby at_138) rfl rfl kk_) ?_
      show Go p.tables e below (T.setTop (mkF m 140 #[.val (.int p0), .val (.int p1), .val (.int p2), .val (.int p3), .val (.int p4), .val (.int p5), .val (.ref b1), .val (.int (1 : Int32)), .val (.int (1 : Int32)), .val (.int (0 : Int32)), .val (.int (1 : Int32)), .unset] [(.ref b1)])) _
      have hz : (if (0 : Int32) = 0 then (1 : Int32) else 0) = (1 : Int32) := by decide
      obtain ⟨cq_, kq_, qa_, qb_, qc_⟩ := isOf hZ eT E_b1
      obtain ⟨_, _, ⟨T, L_, k_, n_⟩, -, X, ⟨Lc_, hQ, l_, y_, z_⟩, st⟩ := X.virtualBack hx (y := (⟨"com/example/mode_choice_loop/modechoiceloop/simulation/TimeHeap", "isEmpty", "()Z"⟩ : MethodName)) (z := (⟨"com/example/mode_choice_loop/modechoiceloop/simulation/TimeHeap", "isEmpty", "()Z"⟩ : MethodName)) hown (mvT hZ (hw _ (List.mem_of_getElem? (i := 19) rfl))) (mvT hZ (hw _ (List.mem_of_getElem? (i := 20) rfl))) (notFace_of_selects (args := #[]) (mvT hZ (hw _ (List.mem_of_getElem? (i := 22) rfl)))) (mvT hZ (hw _ (List.mem_of_getElem? (i := 22) rfl))) (mvT hZ (hw _ (List.mem_of_getElem? (i := 21) rfl))) (by decide) (backOf (W := 0) (rm4 l Z a0 hw [] b1 (0 : Int32) h28 n0 (Nat.le_trans Z0 K.1) TH) hZ (hw _ (List.mem_of_getElem? (i := 23) rfl)) (hw _ (List.mem_of_getElem? (i := 2) rfl)) (by decide) (by decide)) qa_ qc_ (g := (mkF m 140 #[.val (.int p0), .val (.int p1), .val (.int p2), .val (.int p3), .val (.int p4), .val (.int p5), .val (.ref b1), .val (.int (1 : Int32)), .val (.int (1 : Int32)), .val (.int (0 : Int32)), .val (.int (1 : Int32)), .unset] [(.ref b1)])) rfl (by rw [hml]; rfl) (Steps.refl _) (argsL := []) (rest := []) (lenOf pd_10 rfl) rfl (by show 2 * 0 + _ ≤ _; exact Nat.le_of_eq rfl) (hb hby at_140) (fun _ _ => ⟨rfl, eT, (by decide : 5 + 0 ≤ _), (by decide : 19 + 0 ≤ _)⟩)
      dsimp only [Pt.U, Pt.locs, Pt.cells, Pt.slots] at X l_ y_ z_ st hQ
      subst l_ y_ z_
      obtain ⟨e_v, Nq, eh⟩ := hQ
      rw [hz] at e_v
      subst e_v
      have N := Fr.app N Nq
      have eT := eh
      refine Go.tr st ?_
      show Go p.tables e below (T.setTop (mkF m 143 #[.val (.int p0), .val (.int p1), .val (.int p2), .val (.int p3), .val (.int p4), .val (.int p5), .val (.ref b1), .val (.int (1 : Int32)), .val (.int (1 : Int32)), .val (.int (0 : Int32)), .val (.int (1 : Int32)), .unset] [(.int (1 : Int32))])) _
      refine Go.by (fun tt_ kk_ => XS.istore X.here hx rfl (hb hby at_143) rfl (l' := #[.val (.int p0), .val (.int p1), .val (.int p2), .val (.int p3), .val (.int p4), .val (.int p5), .val (.ref b1), .val (.int (1 : Int32)), .val (.int (1 : Int32)), .val (.int (0 : Int32)), .val (.int (1 : Int32)), .val (.int (1 : Int32))]) rfl kk_) ?_
      show Go p.tables e below (T.setTop (mkF m 145 #[.val (.int p0), .val (.int p1), .val (.int p2), .val (.int p3), .val (.int p4), .val (.int p5), .val (.ref b1), .val (.int (1 : Int32)), .val (.int (1 : Int32)), .val (.int (0 : Int32)), .val (.int (1 : Int32)), .val (.int (1 : Int32))] [])) _
      refine Go.by (fun tt_ kk_ => XS.iload X.here hx rfl (hb hby at_145) rfl kk_) ?_
      show Go p.tables e below (T.setTop (mkF m 147 #[.val (.int p0), .val (.int p1), .val (.int p2), .val (.int p3), .val (.int p4), .val (.int p5), .val (.ref b1), .val (.int (1 : Int32)), .val (.int (1 : Int32)), .val (.int (0 : Int32)), .val (.int (1 : Int32)), .val (.int (1 : Int32))] [(.int (1 : Int32))])) _
      refine Go.by (fun tt_ kk_ => XS.ifNo X.here hx rfl (hb hby at_147) rfl ((if0 _ _).trans (feq (by decide : ¬ ((1 : Int32) = (0 : Int32)))).1) kk_) ?_
      show Go p.tables e below (T.setTop (mkF m 150 #[.val (.int p0), .val (.int p1), .val (.int p2), .val (.int p3), .val (.int p4), .val (.int p5), .val (.ref b1), .val (.int (1 : Int32)), .val (.int (1 : Int32)), .val (.int (0 : Int32)), .val (.int (1 : Int32)), .val (.int (1 : Int32))] [])) _
      refine Go.by (fun tt_ kk_ => XS.iload X.here hx rfl (hb hby at_150) rfl kk_) ?_
      show Go p.tables e below (T.setTop (mkF m 152 #[.val (.int p0), .val (.int p1), .val (.int p2), .val (.int p3), .val (.int p4), .val (.int p5), .val (.ref b1), .val (.int (1 : Int32)), .val (.int (1 : Int32)), .val (.int (0 : Int32)), .val (.int (1 : Int32)), .val (.int (1 : Int32))] [(.int (0 : Int32))])) _
      refine Go.by (fun tt_ kk_ => XS.iload X.here hx rfl (hb hby at_152) rfl kk_) ?_
      show Go p.tables e below (T.setTop (mkF m 154 #[.val (.int p0), .val (.int p1), .val (.int p2), .val (.int p3), .val (.int p4), .val (.int p5), .val (.ref b1), .val (.int (1 : Int32)), .val (.int (1 : Int32)), .val (.int (0 : Int32)), .val (.int (1 : Int32)), .val (.int (1 : Int32))] [(.int (1 : Int32)), (.int (0 : Int32))])) _
      refine Go.by (fun tt_ kk_ => XS.ifYes X.here hx rfl (pc0 := 154) (pc' := 161) rfl (hb hby at_154) rfl ((if0 _ _).trans (feq (by decide : ¬ ((1 : Int32) = (0 : Int32)))).2) (by decide) (by decide) kk_) ?_
      show Go p.tables e below (T.setTop (mkF m 161 #[.val (.int p0), .val (.int p1), .val (.int p2), .val (.int p3), .val (.int p4), .val (.int p5), .val (.ref b1), .val (.int (1 : Int32)), .val (.int (1 : Int32)), .val (.int (0 : Int32)), .val (.int (1 : Int32)), .val (.int (1 : Int32))] [(.int (0 : Int32))])) _
      refine Go.by (fun tt_ kk_ => XS.iconst X.here hx rfl (hb hby at_161) kk_) ?_
      show Go p.tables e below (T.setTop (mkF m 162 #[.val (.int p0), .val (.int p1), .val (.int p2), .val (.int p3), .val (.int p4), .val (.int p5), .val (.ref b1), .val (.int (1 : Int32)), .val (.int (1 : Int32)), .val (.int (0 : Int32)), .val (.int (1 : Int32)), .val (.int (1 : Int32))] [(.int (0 : Int32)), (.int (0 : Int32))])) _
      refine Go.by (fun tt_ kk_ => XS.icmpNo X.here hx rfl (hb hby at_162) rfl (teq (rfl : (0 : Int32) = (0 : Int32))).2 kk_) ?_
      show Go p.tables e below (T.setTop (mkF m 165 #[.val (.int p0), .val (.int p1), .val (.int p2), .val (.int p3), .val (.int p4), .val (.int p5), .val (.ref b1), .val (.int (1 : Int32)), .val (.int (1 : Int32)), .val (.int (0 : Int32)), .val (.int (1 : Int32)), .val (.int (1 : Int32))] [])) _
      refine Go.by (fun tt_ kk_ => XS.iload X.here hx rfl (hb hby at_165) rfl kk_) ?_
      show Go p.tables e below (T.setTop (mkF m 167 #[.val (.int p0), .val (.int p1), .val (.int p2), .val (.int p3), .val (.int p4), .val (.int p5), .val (.ref b1), .val (.int (1 : Int32)), .val (.int (1 : Int32)), .val (.int (0 : Int32)), .val (.int (1 : Int32)), .val (.int (1 : Int32))] [(.int (1 : Int32))])) _
      refine Go.by (fun tt_ kk_ => XS.iload X.here hx rfl (hb hby at_167) rfl kk_) ?_
      show Go p.tables e below (T.setTop (mkF m 169 #[.val (.int p0), .val (.int p1), .val (.int p2), .val (.int p3), .val (.int p4), .val (.int p5), .val (.ref b1), .val (.int (1 : Int32)), .val (.int (1 : Int32)), .val (.int (0 : Int32)), .val (.int (1 : Int32)), .val (.int (1 : Int32))] [(.int (1 : Int32)), (.int (1 : Int32))])) _
      refine Go.by (fun tt_ kk_ => XS.iload X.here hx rfl (hb hby at_169) rfl kk_) ?_
      show Go p.tables e below (T.setTop (mkF m 171 #[.val (.int p0), .val (.int p1), .val (.int p2), .val (.int p3), .val (.int p4), .val (.int p5), .val (.ref b1), .val (.int (1 : Int32)), .val (.int (1 : Int32)), .val (.int (0 : Int32)), .val (.int (1 : Int32)), .val (.int (1 : Int32))] [(.int (1 : Int32)), (.int (1 : Int32)), (.int (1 : Int32))])) _
      refine Go.by (fun tt_ kk_ => XS.icmpNo X.here hx rfl (hb hby at_171) rfl (teq (rfl : (1 : Int32) = (1 : Int32))).2 kk_) ?_
      show Go p.tables e below (T.setTop (mkF m 174 #[.val (.int p0), .val (.int p1), .val (.int p2), .val (.int p3), .val (.int p4), .val (.int p5), .val (.ref b1), .val (.int (1 : Int32)), .val (.int (1 : Int32)), .val (.int (0 : Int32)), .val (.int (1 : Int32)), .val (.int (1 : Int32))] [(.int (1 : Int32))])) _
      refine Go.by (fun tt_ kk_ => XS.iconst X.here hx rfl (hb hby at_174) kk_) ?_
      show Go p.tables e below (T.setTop (mkF m 175 #[.val (.int p0), .val (.int p1), .val (.int p2), .val (.int p3), .val (.int p4), .val (.int p5), .val (.ref b1), .val (.int (1 : Int32)), .val (.int (1 : Int32)), .val (.int (0 : Int32)), .val (.int (1 : Int32)), .val (.int (1 : Int32))] [(.int (1 : Int32)), (.int (1 : Int32))])) _
      refine Go.by (fun tt_ kk_ => XS.goto X.here hx rfl (pc0 := 175) (pc' := 179) rfl (hb hby at_175) (by decide) (by decide) kk_) ?_
      show Go p.tables e below (T.setTop (mkF m 179 #[.val (.int p0), .val (.int p1), .val (.int p2), .val (.int p3), .val (.int p4), .val (.int p5), .val (.ref b1), .val (.int (1 : Int32)), .val (.int (1 : Int32)), .val (.int (0 : Int32)), .val (.int (1 : Int32)), .val (.int (1 : Int32))] [(.int (1 : Int32)), (.int (1 : Int32))])) _
      refine Go.by (fun tt_ kk_ => XS.icmpNo X.here hx rfl (hb hby at_179) rfl (teq (rfl : (1 : Int32) = (1 : Int32))).2 kk_) ?_
      show Go p.tables e below (T.setTop (mkF m 182 #[.val (.int p0), .val (.int p1), .val (.int p2), .val (.int p3), .val (.int p4), .val (.int p5), .val (.ref b1), .val (.int (1 : Int32)), .val (.int (1 : Int32)), .val (.int (0 : Int32)), .val (.int (1 : Int32)), .val (.int (1 : Int32))] [])) _
      refine Go.by (fun tt_ kk_ => XS.iconst X.here hx rfl (hb hby at_182) kk_) ?_
      show Go p.tables e below (T.setTop (mkF m 183 #[.val (.int p0), .val (.int p1), .val (.int p2), .val (.int p3), .val (.int p4), .val (.int p5), .val (.ref b1), .val (.int (1 : Int32)), .val (.int (1 : Int32)), .val (.int (0 : Int32)), .val (.int (1 : Int32)), .val (.int (1 : Int32))] [(.int (1 : Int32))])) _
      refine Go.by (fun tt_ kk_ => XS.goto X.here hx rfl (pc0 := 183) (pc' := 187) rfl (hb hby at_183) (by decide) (by decide) kk_) ?_
      show Go p.tables e below (T.setTop (mkF m 187 #[.val (.int p0), .val (.int p1), .val (.int p2), .val (.int p3), .val (.int p4), .val (.int p5), .val (.ref b1), .val (.int (1 : Int32)), .val (.int (1 : Int32)), .val (.int (0 : Int32)), .val (.int (1 : Int32)), .val (.int (1 : Int32))] [(.int (1 : Int32))])) _
      exact Go.done X  (v := some (.int (1 : Int32))) (fun h => by rw [Bd.returns] at h; cases h) Bd.notSynchronized (fun fs hr => retN X hx (z := (1 : Int32)) (t := .boolean) Bd.returns (by simp) (hb hby at_187) hr) (by rw [eT]; exact ⟨rfl, N⟩) (by decide) (by decide)
  · rw [hcs]
    show Go p.tables e below (T.setTop (mkF m 25 #[.val (.int p0), .val (.int p1), .val (.int p2), .val (.int p3), .val (.int p4), .val (.int p5), .val (.ref b1), .val (.int (1 : Int32)), .unset, .unset, .unset, .unset] [(.int (2 : Int32))])) _
    refine Go.by (fun tt_ kk_ => XS.istore X.here hx rfl (hb hby at_25) rfl (l' := #[.val (.int p0), .val (.int p1), .val (.int p2), .val (.int p3), .val (.int p4), .val (.int p5), .val (.ref b1), .val (.int (1 : Int32)), .val (.int (2 : Int32)), .unset, .unset, .unset]) rfl kk_) ?_
    show Go p.tables e below (T.setTop (mkF m 27 #[.val (.int p0), .val (.int p1), .val (.int p2), .val (.int p3), .val (.int p4), .val (.int p5), .val (.ref b1), .val (.int (1 : Int32)), .val (.int (2 : Int32)), .unset, .unset, .unset] [])) _
    refine Go.by (fun tt_ kk_ => XS.iload X.here hx rfl (hb hby at_27) rfl kk_) ?_
    show Go p.tables e below (T.setTop (mkF m 29 #[.val (.int p0), .val (.int p1), .val (.int p2), .val (.int p3), .val (.int p4), .val (.int p5), .val (.ref b1), .val (.int (1 : Int32)), .val (.int (2 : Int32)), .unset, .unset, .unset] [(.int (2 : Int32))])) _
    refine Go.by (fun tt_ kk_ => XS.iconst X.here hx rfl (hb hby at_29) kk_) ?_
    show Go p.tables e below (T.setTop (mkF m 30 #[.val (.int p0), .val (.int p1), .val (.int p2), .val (.int p3), .val (.int p4), .val (.int p5), .val (.ref b1), .val (.int (1 : Int32)), .val (.int (2 : Int32)), .unset, .unset, .unset] [(.int (1 : Int32)), (.int (2 : Int32))])) _
    refine Go.by (fun tt_ kk_ => XS.icmpNo X.here hx rfl (hb hby at_30) rfl (flt (by decide : ¬ ((2 : Int32) < (1 : Int32)))).1 kk_) ?_
    show Go p.tables e below (T.setTop (mkF m 33 #[.val (.int p0), .val (.int p1), .val (.int p2), .val (.int p3), .val (.int p4), .val (.int p5), .val (.ref b1), .val (.int (1 : Int32)), .val (.int (2 : Int32)), .unset, .unset, .unset] [])) _
    refine Go.by (fun tt_ kk_ => XS.aload X.here hx rfl (hb hby at_33) rfl rfl kk_) ?_
    show Go p.tables e below (T.setTop (mkF m 35 #[.val (.int p0), .val (.int p1), .val (.int p2), .val (.int p3), .val (.int p4), .val (.int p5), .val (.ref b1), .val (.int (1 : Int32)), .val (.int (2 : Int32)), .unset, .unset, .unset] [(.ref b1)])) _
    refine Go.by (fun tt_ kk_ => XS.iloadN X.here hx rfl (hb hby at_35) rfl kk_) ?_
    show Go p.tables e below (T.setTop (mkF m 36 #[.val (.int p0), .val (.int p1), .val (.int p2), .val (.int p3), .val (.int p4), .val (.int p5), .val (.ref b1), .val (.int (1 : Int32)), .val (.int (2 : Int32)), .unset, .unset, .unset] [(.int p3), (.ref b1)])) _
    refine Go.by (fun tt_ kk_ => XS.iloadN X.here hx rfl (hb hby at_36) rfl kk_) ?_
    show Go p.tables e below (T.setTop (mkF m 37 #[.val (.int p0), .val (.int p1), .val (.int p2), .val (.int p3), .val (.int p4), .val (.int p5), .val (.ref b1), .val (.int (1 : Int32)), .val (.int (2 : Int32)), .unset, .unset, .unset] [(.int p3), (.int p3), (.ref b1)])) _
    refine Go.by (fun tt_ kk_ => XS.bipush X.here hx rfl (hb hby at_37) kk_) ?_
    show Go p.tables e below (T.setTop (mkF m 39 #[.val (.int p0), .val (.int p1), .val (.int p2), .val (.int p3), .val (.int p4), .val (.int p5), .val (.ref b1), .val (.int (1 : Int32)), .val (.int (2 : Int32)), .unset, .unset, .unset] [(.int (7 : Int32)), (.int p3), (.int p3), (.ref b1)])) _
    refine Go.by (fun tt_ kk_ => XS.iand X.here hx rfl (hb hby at_39) rfl kk_) ?_
    show Go p.tables e below (T.setTop (mkF m 40 #[.val (.int p0), .val (.int p1), .val (.int p2), .val (.int p3), .val (.int p4), .val (.int p5), .val (.ref b1), .val (.int (1 : Int32)), .val (.int (2 : Int32)), .unset, .unset, .unset] [(.int (p3 &&& (7 : Int32))), (.int p3), (.ref b1)])) _
    refine Go.by (fun tt_ kk_ => XS.i2dS X.here hx rfl (hb hby at_40) rfl rfl kk_) ?_
    show Go p.tables e below (T.setTop (mkF m 41 #[.val (.int p0), .val (.int p1), .val (.int p2), .val (.int p3), .val (.int p4), .val (.int p5), .val (.ref b1), .val (.int (1 : Int32)), .val (.int (2 : Int32)), .unset, .unset, .unset] [(.double (FP.i2d (p3 &&& (7 : Int32)))), (.int p3), (.ref b1)])) _
    obtain ⟨cq_, kq_, qa_, qb_, qc_⟩ := isOf hZ eT E_b1
    obtain ⟨_, _, ⟨T, L_, k_, n_⟩, -, X, ⟨Lc_, hQ, l_, y_, z_⟩, st⟩ := X.virtualBack hx (y := (⟨"com/example/mode_choice_loop/modechoiceloop/simulation/TimeHeap", "add", "(ID)Z"⟩ : MethodName)) (z := (⟨"com/example/mode_choice_loop/modechoiceloop/simulation/TimeHeap", "add", "(ID)Z"⟩ : MethodName)) hown (mvT hZ (hw _ (List.mem_of_getElem? (i := 26) rfl))) (mvT hZ (hw _ (List.mem_of_getElem? (i := 27) rfl))) (notFace_of_selects (args := #[]) (mvT hZ (hw _ (List.mem_of_getElem? (i := 29) rfl)))) (mvT hZ (hw _ (List.mem_of_getElem? (i := 29) rfl))) (mvT hZ (hw _ (List.mem_of_getElem? (i := 28) rfl))) (by decide) (backOf (W := 0) (rm5_0 l Z a0 hw [] b1 p3 (FP.i2d (p3 &&& (7 : Int32))) h2 n0 (Nat.le_trans Z0 K.1) TH (Dy.i2d _).noNaN) hZ (hw _ (List.mem_of_getElem? (i := 30) rfl)) (hw _ (List.mem_of_getElem? (i := 2) rfl)) (by decide) (by decide)) qa_ qc_ (g := (mkF m 41 #[.val (.int p0), .val (.int p1), .val (.int p2), .val (.int p3), .val (.int p4), .val (.int p5), .val (.ref b1), .val (.int (1 : Int32)), .val (.int (2 : Int32)), .unset, .unset, .unset] [(.double (FP.i2d (p3 &&& (7 : Int32)))), (.int p3), (.ref b1)])) rfl (by rw [hml]; rfl) (Steps.refl _) (argsL := [(.int p3), (.double (FP.i2d (p3 &&& (7 : Int32))))]) (rest := []) (lenOf pd_11 rfl) rfl (by show 2 * 0 + _ ≤ _; exact Nat.le_of_eq rfl) (hb hby at_41) (fun _ _ => ⟨rfl, eT, (by decide : 3 + 2 ≤ _), (by decide : 11 + 8 ≤ _)⟩)
    dsimp only [Pt.U, Pt.locs, Pt.cells, Pt.slots] at X l_ y_ z_ st hQ
    subst l_ y_ z_
    obtain ⟨h31, eT⟩ : ∃ z, T.heap = z := ⟨_, rfl⟩
    rw [eT] at hQ
    obtain ⟨r30, rfl, Nq, Kq, TH⟩ := hQ
    have N := Fr.app N Nq
    have K := And.intro (Nat.le_trans K.1 Kq.1) trivial
    have E_b1 := TH.1
    refine Go.tr st ?_
    show Go p.tables e below (T.setTop (mkF m 44 #[.val (.int p0), .val (.int p1), .val (.int p2), .val (.int p3), .val (.int p4), .val (.int p5), .val (.ref b1), .val (.int (1 : Int32)), .val (.int (2 : Int32)), .unset, .unset, .unset] [(.int r30)])) _
    refine Go.by (fun tt_ kk_ => XS.pop X.here hx rfl (hb hby at_44) rfl rfl kk_) ?_
    show Go p.tables e below (T.setTop (mkF m 45 #[.val (.int p0), .val (.int p1), .val (.int p2), .val (.int p3), .val (.int p4), .val (.int p5), .val (.ref b1), .val (.int (1 : Int32)), .val (.int (2 : Int32)), .unset, .unset, .unset] [])) _
    refine Go.by (fun tt_ kk_ => XS.iload X.here hx rfl (hb hby at_45) rfl kk_) ?_
    show Go p.tables e below (T.setTop (mkF m 47 #[.val (.int p0), .val (.int p1), .val (.int p2), .val (.int p3), .val (.int p4), .val (.int p5), .val (.ref b1), .val (.int (1 : Int32)), .val (.int (2 : Int32)), .unset, .unset, .unset] [(.int (2 : Int32))])) _
    refine Go.by (fun tt_ kk_ => XS.iconst X.here hx rfl (hb hby at_47) kk_) ?_
    show Go p.tables e below (T.setTop (mkF m 48 #[.val (.int p0), .val (.int p1), .val (.int p2), .val (.int p3), .val (.int p4), .val (.int p5), .val (.ref b1), .val (.int (1 : Int32)), .val (.int (2 : Int32)), .unset, .unset, .unset] [(.int (2 : Int32)), (.int (2 : Int32))])) _
    refine Go.by (fun tt_ kk_ => XS.icmpNo X.here hx rfl (hb hby at_48) rfl (flt (by decide : ¬ ((2 : Int32) < (2 : Int32)))).1 kk_) ?_
    show Go p.tables e below (T.setTop (mkF m 51 #[.val (.int p0), .val (.int p1), .val (.int p2), .val (.int p3), .val (.int p4), .val (.int p5), .val (.ref b1), .val (.int (1 : Int32)), .val (.int (2 : Int32)), .unset, .unset, .unset] [])) _
    refine Go.by (fun tt_ kk_ => XS.aload X.here hx rfl (hb hby at_51) rfl rfl kk_) ?_
    show Go p.tables e below (T.setTop (mkF m 53 #[.val (.int p0), .val (.int p1), .val (.int p2), .val (.int p3), .val (.int p4), .val (.int p5), .val (.ref b1), .val (.int (1 : Int32)), .val (.int (2 : Int32)), .unset, .unset, .unset] [(.ref b1)])) _
    refine Go.by (fun tt_ kk_ => XS.iload X.here hx rfl (hb hby at_53) rfl kk_) ?_
    show Go p.tables e below (T.setTop (mkF m 55 #[.val (.int p0), .val (.int p1), .val (.int p2), .val (.int p3), .val (.int p4), .val (.int p5), .val (.ref b1), .val (.int (1 : Int32)), .val (.int (2 : Int32)), .unset, .unset, .unset] [(.int p4), (.ref b1)])) _
    refine Go.by (fun tt_ kk_ => XS.iload X.here hx rfl (hb hby at_55) rfl kk_) ?_
    show Go p.tables e below (T.setTop (mkF m 57 #[.val (.int p0), .val (.int p1), .val (.int p2), .val (.int p3), .val (.int p4), .val (.int p5), .val (.ref b1), .val (.int (1 : Int32)), .val (.int (2 : Int32)), .unset, .unset, .unset] [(.int p4), (.int p4), (.ref b1)])) _
    refine Go.by (fun tt_ kk_ => XS.bipush X.here hx rfl (hb hby at_57) kk_) ?_
    show Go p.tables e below (T.setTop (mkF m 59 #[.val (.int p0), .val (.int p1), .val (.int p2), .val (.int p3), .val (.int p4), .val (.int p5), .val (.ref b1), .val (.int (1 : Int32)), .val (.int (2 : Int32)), .unset, .unset, .unset] [(.int (7 : Int32)), (.int p4), (.int p4), (.ref b1)])) _
    refine Go.by (fun tt_ kk_ => XS.iand X.here hx rfl (hb hby at_59) rfl kk_) ?_
    show Go p.tables e below (T.setTop (mkF m 60 #[.val (.int p0), .val (.int p1), .val (.int p2), .val (.int p3), .val (.int p4), .val (.int p5), .val (.ref b1), .val (.int (1 : Int32)), .val (.int (2 : Int32)), .unset, .unset, .unset] [(.int (p4 &&& (7 : Int32))), (.int p4), (.ref b1)])) _
    refine Go.by (fun tt_ kk_ => XS.i2dS X.here hx rfl (hb hby at_60) rfl rfl kk_) ?_
    show Go p.tables e below (T.setTop (mkF m 61 #[.val (.int p0), .val (.int p1), .val (.int p2), .val (.int p3), .val (.int p4), .val (.int p5), .val (.ref b1), .val (.int (1 : Int32)), .val (.int (2 : Int32)), .unset, .unset, .unset] [(.double (FP.i2d (p4 &&& (7 : Int32)))), (.int p4), (.ref b1)])) _
    obtain ⟨cq_, kq_, qa_, qb_, qc_⟩ := isOf hZ eT E_b1
    obtain ⟨_, _, ⟨T, L_, k_, n_⟩, -, X, ⟨Lc_, hQ, l_, y_, z_⟩, st⟩ := X.virtualBack hx (y := (⟨"com/example/mode_choice_loop/modechoiceloop/simulation/TimeHeap", "add", "(ID)Z"⟩ : MethodName)) (z := (⟨"com/example/mode_choice_loop/modechoiceloop/simulation/TimeHeap", "add", "(ID)Z"⟩ : MethodName)) hown (mvT hZ (hw _ (List.mem_of_getElem? (i := 26) rfl))) (mvT hZ (hw _ (List.mem_of_getElem? (i := 27) rfl))) (notFace_of_selects (args := #[]) (mvT hZ (hw _ (List.mem_of_getElem? (i := 29) rfl)))) (mvT hZ (hw _ (List.mem_of_getElem? (i := 29) rfl))) (mvT hZ (hw _ (List.mem_of_getElem? (i := 28) rfl))) (by decide) (backOf (W := 0) (rm5_1 l Z a0 hw [] b1 p4 (FP.i2d (p4 &&& (7 : Int32))) h31 n0 (Nat.le_trans Z0 K.1) TH (Dy.i2d _).noNaN) hZ (hw _ (List.mem_of_getElem? (i := 30) rfl)) (hw _ (List.mem_of_getElem? (i := 2) rfl)) (by decide) (by decide)) qa_ qc_ (g := (mkF m 61 #[.val (.int p0), .val (.int p1), .val (.int p2), .val (.int p3), .val (.int p4), .val (.int p5), .val (.ref b1), .val (.int (1 : Int32)), .val (.int (2 : Int32)), .unset, .unset, .unset] [(.double (FP.i2d (p4 &&& (7 : Int32)))), (.int p4), (.ref b1)])) rfl (by rw [hml]; rfl) (Steps.refl _) (argsL := [(.int p4), (.double (FP.i2d (p4 &&& (7 : Int32))))]) (rest := []) (lenOf pd_11 rfl) rfl (by show 2 * 0 + _ ≤ _; exact Nat.le_of_eq rfl) (hb hby at_61) (fun _ _ => ⟨rfl, eT, (by decide : 5 + 2 ≤ _), (by decide : 19 + 8 ≤ _)⟩)
    dsimp only [Pt.U, Pt.locs, Pt.cells, Pt.slots] at X l_ y_ z_ st hQ
    subst l_ y_ z_
    obtain ⟨h33, eT⟩ : ∃ z, T.heap = z := ⟨_, rfl⟩
    rw [eT] at hQ
    obtain ⟨r32, rfl, Nq, Kq, TH⟩ := hQ
    have N := Fr.app N Nq
    have K := And.intro (Nat.le_trans K.1 Kq.1) trivial
    have E_b1 := TH.1
    refine Go.tr st ?_
    show Go p.tables e below (T.setTop (mkF m 64 #[.val (.int p0), .val (.int p1), .val (.int p2), .val (.int p3), .val (.int p4), .val (.int p5), .val (.ref b1), .val (.int (1 : Int32)), .val (.int (2 : Int32)), .unset, .unset, .unset] [(.int r32)])) _
    refine Go.by (fun tt_ kk_ => XS.pop X.here hx rfl (hb hby at_64) rfl rfl kk_) ?_
    show Go p.tables e below (T.setTop (mkF m 65 #[.val (.int p0), .val (.int p1), .val (.int p2), .val (.int p3), .val (.int p4), .val (.int p5), .val (.ref b1), .val (.int (1 : Int32)), .val (.int (2 : Int32)), .unset, .unset, .unset] [])) _
    refine Go.by (fun tt_ kk_ => XS.iload X.here hx rfl (hb hby at_65) rfl kk_) ?_
    show Go p.tables e below (T.setTop (mkF m 67 #[.val (.int p0), .val (.int p1), .val (.int p2), .val (.int p3), .val (.int p4), .val (.int p5), .val (.ref b1), .val (.int (1 : Int32)), .val (.int (2 : Int32)), .unset, .unset, .unset] [(.int (2 : Int32))])) _
    refine Go.by (fun tt_ kk_ => XS.iconst X.here hx rfl (hb hby at_67) kk_) ?_
    show Go p.tables e below (T.setTop (mkF m 68 #[.val (.int p0), .val (.int p1), .val (.int p2), .val (.int p3), .val (.int p4), .val (.int p5), .val (.ref b1), .val (.int (1 : Int32)), .val (.int (2 : Int32)), .unset, .unset, .unset] [(.int (3 : Int32)), (.int (2 : Int32))])) _
    refine Go.by (fun tt_ kk_ => XS.icmpYes X.here hx rfl (pc0 := 68) (pc' := 85) rfl (hb hby at_68) rfl (tlt (by decide : (2 : Int32) < (3 : Int32))).1 (by decide) (by decide) kk_) ?_
    show Go p.tables e below (T.setTop (mkF m 85 #[.val (.int p0), .val (.int p1), .val (.int p2), .val (.int p3), .val (.int p4), .val (.int p5), .val (.ref b1), .val (.int (1 : Int32)), .val (.int (2 : Int32)), .unset, .unset, .unset] [])) _
    refine Go.by (fun tt_ kk_ => XS.aload X.here hx rfl (hb hby at_85) rfl rfl kk_) ?_
    show Go p.tables e below (T.setTop (mkF m 87 #[.val (.int p0), .val (.int p1), .val (.int p2), .val (.int p3), .val (.int p4), .val (.int p5), .val (.ref b1), .val (.int (1 : Int32)), .val (.int (2 : Int32)), .unset, .unset, .unset] [(.ref b1)])) _
    have hz : (if (2 : Int32) = 0 then (1 : Int32) else 0) = (0 : Int32) := by decide
    obtain ⟨cq_, kq_, qa_, qb_, qc_⟩ := isOf hZ eT E_b1
    obtain ⟨_, _, ⟨T, L_, k_, n_⟩, -, X, ⟨Lc_, hQ, l_, y_, z_⟩, st⟩ := X.virtualBack hx (y := (⟨"com/example/mode_choice_loop/modechoiceloop/simulation/TimeHeap", "isEmpty", "()Z"⟩ : MethodName)) (z := (⟨"com/example/mode_choice_loop/modechoiceloop/simulation/TimeHeap", "isEmpty", "()Z"⟩ : MethodName)) hown (mvT hZ (hw _ (List.mem_of_getElem? (i := 19) rfl))) (mvT hZ (hw _ (List.mem_of_getElem? (i := 20) rfl))) (notFace_of_selects (args := #[]) (mvT hZ (hw _ (List.mem_of_getElem? (i := 22) rfl)))) (mvT hZ (hw _ (List.mem_of_getElem? (i := 22) rfl))) (mvT hZ (hw _ (List.mem_of_getElem? (i := 21) rfl))) (by decide) (backOf (W := 0) (rm4 l Z a0 hw [] b1 (2 : Int32) h33 n0 (Nat.le_trans Z0 K.1) TH) hZ (hw _ (List.mem_of_getElem? (i := 23) rfl)) (hw _ (List.mem_of_getElem? (i := 2) rfl)) (by decide) (by decide)) qa_ qc_ (g := (mkF m 87 #[.val (.int p0), .val (.int p1), .val (.int p2), .val (.int p3), .val (.int p4), .val (.int p5), .val (.ref b1), .val (.int (1 : Int32)), .val (.int (2 : Int32)), .unset, .unset, .unset] [(.ref b1)])) rfl (by rw [hml]; rfl) (Steps.refl _) (argsL := []) (rest := []) (lenOf pd_10 rfl) rfl (by show 2 * 0 + _ ≤ _; exact Nat.le_of_eq rfl) (hb hby at_87) (fun _ _ => ⟨rfl, eT, (by decide : 7 + 0 ≤ _), (by decide : 27 + 0 ≤ _)⟩)
    dsimp only [Pt.U, Pt.locs, Pt.cells, Pt.slots] at X l_ y_ z_ st hQ
    subst l_ y_ z_
    obtain ⟨e_v, Nq, eh⟩ := hQ
    rw [hz] at e_v
    subst e_v
    have N := Fr.app N Nq
    have eT := eh
    refine Go.tr st ?_
    show Go p.tables e below (T.setTop (mkF m 90 #[.val (.int p0), .val (.int p1), .val (.int p2), .val (.int p3), .val (.int p4), .val (.int p5), .val (.ref b1), .val (.int (1 : Int32)), .val (.int (2 : Int32)), .unset, .unset, .unset] [(.int (0 : Int32))])) _
    refine Go.by (fun tt_ kk_ => XS.istore X.here hx rfl (hb hby at_90) rfl (l' := #[.val (.int p0), .val (.int p1), .val (.int p2), .val (.int p3), .val (.int p4), .val (.int p5), .val (.ref b1), .val (.int (1 : Int32)), .val (.int (2 : Int32)), .val (.int (0 : Int32)), .unset, .unset]) rfl kk_) ?_
    show Go p.tables e below (T.setTop (mkF m 92 #[.val (.int p0), .val (.int p1), .val (.int p2), .val (.int p3), .val (.int p4), .val (.int p5), .val (.ref b1), .val (.int (1 : Int32)), .val (.int (2 : Int32)), .val (.int (0 : Int32)), .unset, .unset] [])) _
    refine Go.by (fun tt_ kk_ => XS.iloadN X.here hx rfl (hb hby at_92) rfl kk_) ?_
    show Go p.tables e below (T.setTop (mkF m 93 #[.val (.int p0), .val (.int p1), .val (.int p2), .val (.int p3), .val (.int p4), .val (.int p5), .val (.ref b1), .val (.int (1 : Int32)), .val (.int (2 : Int32)), .val (.int (0 : Int32)), .unset, .unset] [(.int p2)])) _
    refine Go.by (fun tt_ kk_ => XS.iconst X.here hx rfl (hb hby at_93) kk_) ?_
    show Go p.tables e below (T.setTop (mkF m 94 #[.val (.int p0), .val (.int p1), .val (.int p2), .val (.int p3), .val (.int p4), .val (.int p5), .val (.ref b1), .val (.int (1 : Int32)), .val (.int (2 : Int32)), .val (.int (0 : Int32)), .unset, .unset] [(.int (3 : Int32)), (.int p2)])) _
    refine Go.by (fun tt_ kk_ => XS.iand X.here hx rfl (hb hby at_94) rfl kk_) ?_
    show Go p.tables e below (T.setTop (mkF m 95 #[.val (.int p0), .val (.int p1), .val (.int p2), .val (.int p3), .val (.int p4), .val (.int p5), .val (.ref b1), .val (.int (1 : Int32)), .val (.int (2 : Int32)), .val (.int (0 : Int32)), .unset, .unset] [(.int (p2 &&& (3 : Int32)))])) _
    have hcs := own_and3 p2
    rcases hcs with hcs | hcs | hcs | hcs
    · rw [hcs]
      show Go p.tables e below (T.setTop (mkF m 95 #[.val (.int p0), .val (.int p1), .val (.int p2), .val (.int p3), .val (.int p4), .val (.int p5), .val (.ref b1), .val (.int (1 : Int32)), .val (.int (2 : Int32)), .val (.int (0 : Int32)), .unset, .unset] [(.int (0 : Int32))])) _
      refine Go.by (fun tt_ kk_ => XS.iload X.here hx rfl (hb hby at_95) rfl kk_) ?_
      show Go p.tables e below (T.setTop (mkF m 97 #[.val (.int p0), .val (.int p1), .val (.int p2), .val (.int p3), .val (.int p4), .val (.int p5), .val (.ref b1), .val (.int (1 : Int32)), .val (.int (2 : Int32)), .val (.int (0 : Int32)), .unset, .unset] [(.int (2 : Int32)), (.int (0 : Int32))])) _
      have hz : (if (2 : Int32) < (0 : Int32) then (2 : Int32) else (0 : Int32)) = (0 : Int32) := by decide
      obtain ⟨_, _, ⟨T, L_, k_, n_⟩, -, X, ⟨Lc_, hQ, l_, y_, z_⟩, st⟩ := Jvm.LawKit.callS X hx (y := (⟨"java/lang/Math", "min", "(II)I"⟩ : MethodName)) hown (mvT hZ (hw _ (List.mem_of_getElem? (i := 52) rfl))) (mvT hZ (hw _ (List.mem_of_getElem? (i := 36) rfl))) (mvT hZ (hw _ (List.mem_of_getElem? (i := 11) rfl))) (mvT hZ (hw _ (List.mem_of_getElem? (i := 37) rfl))) (by decide) (backOf (W := 0) (rm7 l Z a0 hw [] (0 : Int32) (2 : Int32) h33 n0 (Nat.le_trans Z0 K.1) ) hZ (hw _ (List.mem_of_getElem? (i := 37) rfl)) (hw _ (List.mem_of_getElem? (i := 11) rfl)) (by decide) (by decide)) (g := (mkF m 97 #[.val (.int p0), .val (.int p1), .val (.int p2), .val (.int p3), .val (.int p4), .val (.int p5), .val (.ref b1), .val (.int (1 : Int32)), .val (.int (2 : Int32)), .val (.int (0 : Int32)), .unset, .unset] [(.int (2 : Int32)), (.int (0 : Int32))])) rfl (by rw [hml]; rfl) (argsL := [(.int (0 : Int32)), (.int (2 : Int32))]) (rest := []) (lenOf pd_3 rfl) rfl (by show 2 * 0 + _ ≤ _; exact Nat.le_of_eq rfl) (hb hby at_97) (fun _ _ => ⟨rfl, eT, (by decide : 7 + 0 ≤ _), (by decide : 27 + 0 ≤ _)⟩)
      dsimp only [Pt.U, Pt.locs, Pt.cells, Pt.slots] at X l_ y_ z_ st hQ
      subst l_ y_ z_
      obtain ⟨e_v, Nq, eh⟩ := hQ
      rw [hz] at e_v
      subst e_v
      have N := Fr.app N Nq
      have eT := eh
      refine Go.by st ?_
      show Go p.tables e below (T.setTop (mkF m 100 #[.val (.int p0), .val (.int p1), .val (.int p2), .val (.int p3), .val (.int p4), .val (.int p5), .val (.ref b1), .val (.int (1 : Int32)), .val (.int (2 : Int32)), .val (.int (0 : Int32)), .unset, .unset] [(.int (0 : Int32))])) _
      refine Go.by (fun tt_ kk_ => XS.istore X.here hx rfl (hb hby at_100) rfl (l' := #[.val (.int p0), .val (.int p1), .val (.int p2), .val (.int p3), .val (.int p4), .val (.int p5), .val (.ref b1), .val (.int (1 : Int32)), .val (.int (2 : Int32)), .val (.int (0 : Int32)), .val (.int (0 : Int32)), .unset]) rfl kk_) ?_
      show Go p.tables e below (T.setTop (mkF m 102 #[.val (.int p0), .val (.int p1), .val (.int p2), .val (.int p3), .val (.int p4), .val (.int p5), .val (.ref b1), .val (.int (1 : Int32)), .val (.int (2 : Int32)), .val (.int (0 : Int32)), .val (.int (0 : Int32)), .unset] [])) _
      refine Go.by (fun tt_ kk_ => XS.iload X.here hx rfl (hb hby at_102) rfl kk_) ?_
      show Go p.tables e below (T.setTop (mkF m 104 #[.val (.int p0), .val (.int p1), .val (.int p2), .val (.int p3), .val (.int p4), .val (.int p5), .val (.ref b1), .val (.int (1 : Int32)), .val (.int (2 : Int32)), .val (.int (0 : Int32)), .val (.int (0 : Int32)), .unset] [(.int (0 : Int32))])) _
      refine Go.by (fun tt_ kk_ => XS.iconst X.here hx rfl (hb hby at_104) kk_) ?_
      show Go p.tables e below (T.setTop (mkF m 105 #[.val (.int p0), .val (.int p1), .val (.int p2), .val (.int p3), .val (.int p4), .val (.int p5), .val (.ref b1), .val (.int (1 : Int32)), .val (.int (2 : Int32)), .val (.int (0 : Int32)), .val (.int (0 : Int32)), .unset] [(.int (1 : Int32)), (.int (0 : Int32))])) _
      refine Go.by (fun tt_ kk_ => XS.icmpYes X.here hx rfl (pc0 := 105) (pc' := 114) rfl (hb hby at_105) rfl (tlt (by decide : (0 : Int32) < (1 : Int32))).1 (by decide) (by decide) kk_) ?_
      show Go p.tables e below (T.setTop (mkF m 114 #[.val (.int p0), .val (.int p1), .val (.int p2), .val (.int p3), .val (.int p4), .val (.int p5), .val (.ref b1), .val (.int (1 : Int32)), .val (.int (2 : Int32)), .val (.int (0 : Int32)), .val (.int (0 : Int32)), .unset] [])) _
      refine Go.by (fun tt_ kk_ => XS.iload X.here hx rfl (hb hby at_114) rfl kk_) ?_
      show Go p.tables e below (T.setTop (mkF m 116 #[.val (.int p0), .val (.int p1), .val (.int p2), .val (.int p3), .val (.int p4), .val (.int p5), .val (.ref b1), .val (.int (1 : Int32)), .val (.int (2 : Int32)), .val (.int (0 : Int32)), .val (.int (0 : Int32)), .unset] [(.int (0 : Int32))])) _
      refine Go.by (fun tt_ kk_ => XS.iconst X.here hx rfl (hb hby at_116) kk_) ?_
      show Go p.tables e below (T.setTop (mkF m 117 #[.val (.int p0), .val (.int p1), .val (.int p2), .val (.int p3), .val (.int p4), .val (.int p5), .val (.ref b1), .val (.int (1 : Int32)), .val (.int (2 : Int32)), .val (.int (0 : Int32)), .val (.int (0 : Int32)), .unset] [(.int (2 : Int32)), (.int (0 : Int32))])) _
      refine Go.by (fun tt_ kk_ => XS.icmpYes X.here hx rfl (pc0 := 117) (pc' := 126) rfl (hb hby at_117) rfl (tlt (by decide : (0 : Int32) < (2 : Int32))).1 (by decide) (by decide) kk_) ?_
      show Go p.tables e below (T.setTop (mkF m 126 #[.val (.int p0), .val (.int p1), .val (.int p2), .val (.int p3), .val (.int p4), .val (.int p5), .val (.ref b1), .val (.int (1 : Int32)), .val (.int (2 : Int32)), .val (.int (0 : Int32)), .val (.int (0 : Int32)), .unset] [])) _
      refine Go.by (fun tt_ kk_ => XS.iload X.here hx rfl (hb hby at_126) rfl kk_) ?_
      show Go p.tables e below (T.setTop (mkF m 128 #[.val (.int p0), .val (.int p1), .val (.int p2), .val (.int p3), .val (.int p4), .val (.int p5), .val (.ref b1), .val (.int (1 : Int32)), .val (.int (2 : Int32)), .val (.int (0 : Int32)), .val (.int (0 : Int32)), .unset] [(.int (0 : Int32))])) _
      refine Go.by (fun tt_ kk_ => XS.iconst X.here hx rfl (hb hby at_128) kk_) ?_
      show Go p.tables e below (T.setTop (mkF m 129 #[.val (.int p0), .val (.int p1), .val (.int p2), .val (.int p3), .val (.int p4), .val (.int p5), .val (.ref b1), .val (.int (1 : Int32)), .val (.int (2 : Int32)), .val (.int (0 : Int32)), .val (.int (0 : Int32)), .unset] [(.int (3 : Int32)), (.int (0 : Int32))])) _
      refine Go.by (fun tt_ kk_ => XS.icmpYes X.here hx rfl (pc0 := 129) (pc' := 138) rfl (hb hby at_129) rfl (tlt (by decide : (0 : Int32) < (3 : Int32))).1 (by decide) (by decide) kk_) ?_
      show Go p.tables e below (T.setTop (mkF m 138 #[.val (.int p0), .val (.int p1), .val (.int p2), .val (.int p3), .val (.int p4), .val (.int p5), .val (.ref b1), .val (.int (1 : Int32)), .val (.int (2 : Int32)), .val (.int (0 : Int32)), .val (.int (0 : Int32)), .unset] [])) _
      refine Go.by (fun tt_ kk_ => XS.aload X.here hx rfl (hb hby at_138) rfl rfl kk_) ?_
      show Go p.tables e below (T.setTop (mkF m 140 #[.val (.int p0), .val (.int p1), .val (.int p2), .val (.int p3), .val (.int p4), .val (.int p5), .val (.ref b1), .val (.int (1 : Int32)), .val (.int (2 : Int32)), .val (.int (0 : Int32)), .val (.int (0 : Int32)), .unset] [(.ref b1)])) _
      have hz : (if (2 : Int32) = 0 then (1 : Int32) else 0) = (0 : Int32) := by decide
      obtain ⟨cq_, kq_, qa_, qb_, qc_⟩ := isOf hZ eT E_b1
      obtain ⟨_, _, ⟨T, L_, k_, n_⟩, -, X, ⟨Lc_, hQ, l_, y_, z_⟩, st⟩ := X.virtualBack hx (y := (⟨"com/example/mode_choice_loop/modechoiceloop/simulation/TimeHeap", "isEmpty", "()Z"⟩ : MethodName)) (z := (⟨"com/example/mode_choice_loop/modechoiceloop/simulation/TimeHeap", "isEmpty", "()Z"⟩ : MethodName)) hown (mvT hZ (hw _ (List.mem_of_getElem? (i := 19) rfl))) (mvT hZ (hw _ (List.mem_of_getElem? (i := 20) rfl))) (notFace_of_selects (args := #[]) (mvT hZ (hw _ (List.mem_of_getElem? (i := 22) rfl)))) (mvT hZ (hw _ (List.mem_of_getElem? (i := 22) rfl))) (mvT hZ (hw _ (List.mem_of_getElem? (i := 21) rfl))) (by decide) (backOf (W := 0) (rm4 l Z a0 hw [] b1 (2 : Int32) h33 n0 (Nat.le_trans Z0 K.1) TH) hZ (hw _ (List.mem_of_getElem? (i := 23) rfl)) (hw _ (List.mem_of_getElem? (i := 2) rfl)) (by decide) (by decide)) qa_ qc_ (g := (mkF m 140 #[.val (.int p0), .val (.int p1), .val (.int p2), .val (.int p3), .val (.int p4), .val (.int p5), .val (.ref b1), .val (.int (1 : Int32)), .val (.int (2 : Int32)), .val (.int (0 : Int32)), .val (.int (0 : Int32)), .unset] [(.ref b1)])) rfl (by rw [hml]; rfl) (Steps.refl _) (argsL := []) (rest := []) (lenOf pd_10 rfl) rfl (by show 2 * 0 + _ ≤ _; exact Nat.le_of_eq rfl) (hb hby at_140) (fun _ _ => ⟨rfl, eT, (by decide : 7 + 0 ≤ _), (by decide : 27 + 0 ≤ _)⟩)
      dsimp only [Pt.U, Pt.locs, Pt.cells, Pt.slots] at X l_ y_ z_ st hQ
      subst l_ y_ z_
      obtain ⟨e_v, Nq, eh⟩ := hQ
      rw [hz] at e_v
      subst e_v
      have N := Fr.app N Nq
      have eT := eh
      refine Go.tr st ?_
      show Go p.tables e below (T.setTop (mkF m 143 #[.val (.int p0), .val (.int p1), .val (.int p2), .val (.int p3), .val (.int p4), .val (.int p5), .val (.ref b1), .val (.int (1 : Int32)), .val (.int (2 : Int32)), .val (.int (0 : Int32)), .val (.int (0 : Int32)), .unset] [(.int (0 : Int32))])) _
      refine Go.by (fun tt_ kk_ => XS.istore X.here hx rfl (hb hby at_143) rfl (l' := #[.val (.int p0), .val (.int p1), .val (.int p2), .val (.int p3), .val (.int p4), .val (.int p5), .val (.ref b1), .val (.int (1 : Int32)), .val (.int (2 : Int32)), .val (.int (0 : Int32)), .val (.int (0 : Int32)), .val (.int (0 : Int32))]) rfl kk_) ?_
      show Go p.tables e below (T.setTop (mkF m 145 #[.val (.int p0), .val (.int p1), .val (.int p2), .val (.int p3), .val (.int p4), .val (.int p5), .val (.ref b1), .val (.int (1 : Int32)), .val (.int (2 : Int32)), .val (.int (0 : Int32)), .val (.int (0 : Int32)), .val (.int (0 : Int32))] [])) _
      refine Go.by (fun tt_ kk_ => XS.iload X.here hx rfl (hb hby at_145) rfl kk_) ?_
      show Go p.tables e below (T.setTop (mkF m 147 #[.val (.int p0), .val (.int p1), .val (.int p2), .val (.int p3), .val (.int p4), .val (.int p5), .val (.ref b1), .val (.int (1 : Int32)), .val (.int (2 : Int32)), .val (.int (0 : Int32)), .val (.int (0 : Int32)), .val (.int (0 : Int32))] [(.int (1 : Int32))])) _
      refine Go.by (fun tt_ kk_ => XS.ifNo X.here hx rfl (hb hby at_147) rfl ((if0 _ _).trans (feq (by decide : ¬ ((1 : Int32) = (0 : Int32)))).1) kk_) ?_
      show Go p.tables e below (T.setTop (mkF m 150 #[.val (.int p0), .val (.int p1), .val (.int p2), .val (.int p3), .val (.int p4), .val (.int p5), .val (.ref b1), .val (.int (1 : Int32)), .val (.int (2 : Int32)), .val (.int (0 : Int32)), .val (.int (0 : Int32)), .val (.int (0 : Int32))] [])) _
      refine Go.by (fun tt_ kk_ => XS.iload X.here hx rfl (hb hby at_150) rfl kk_) ?_
      show Go p.tables e below (T.setTop (mkF m 152 #[.val (.int p0), .val (.int p1), .val (.int p2), .val (.int p3), .val (.int p4), .val (.int p5), .val (.ref b1), .val (.int (1 : Int32)), .val (.int (2 : Int32)), .val (.int (0 : Int32)), .val (.int (0 : Int32)), .val (.int (0 : Int32))] [(.int (0 : Int32))])) _
      refine Go.by (fun tt_ kk_ => XS.iload X.here hx rfl (hb hby at_152) rfl kk_) ?_
      show Go p.tables e below (T.setTop (mkF m 154 #[.val (.int p0), .val (.int p1), .val (.int p2), .val (.int p3), .val (.int p4), .val (.int p5), .val (.ref b1), .val (.int (1 : Int32)), .val (.int (2 : Int32)), .val (.int (0 : Int32)), .val (.int (0 : Int32)), .val (.int (0 : Int32))] [(.int (2 : Int32)), (.int (0 : Int32))])) _
      refine Go.by (fun tt_ kk_ => XS.ifYes X.here hx rfl (pc0 := 154) (pc' := 161) rfl (hb hby at_154) rfl ((if0 _ _).trans (feq (by decide : ¬ ((2 : Int32) = (0 : Int32)))).2) (by decide) (by decide) kk_) ?_
      show Go p.tables e below (T.setTop (mkF m 161 #[.val (.int p0), .val (.int p1), .val (.int p2), .val (.int p3), .val (.int p4), .val (.int p5), .val (.ref b1), .val (.int (1 : Int32)), .val (.int (2 : Int32)), .val (.int (0 : Int32)), .val (.int (0 : Int32)), .val (.int (0 : Int32))] [(.int (0 : Int32))])) _
      refine Go.by (fun tt_ kk_ => XS.iconst X.here hx rfl (hb hby at_161) kk_) ?_
      show Go p.tables e below (T.setTop (mkF m 162 #[.val (.int p0), .val (.int p1), .val (.int p2), .val (.int p3), .val (.int p4), .val (.int p5), .val (.ref b1), .val (.int (1 : Int32)), .val (.int (2 : Int32)), .val (.int (0 : Int32)), .val (.int (0 : Int32)), .val (.int (0 : Int32))] [(.int (0 : Int32)), (.int (0 : Int32))])) _
      refine Go.by (fun tt_ kk_ => XS.icmpNo X.here hx rfl (hb hby at_162) rfl (teq (rfl : (0 : Int32) = (0 : Int32))).2 kk_) ?_
      show Go p.tables e below (T.setTop (mkF m 165 #[.val (.int p0), .val (.int p1), .val (.int p2), .val (.int p3), .val (.int p4), .val (.int p5), .val (.ref b1), .val (.int (1 : Int32)), .val (.int (2 : Int32)), .val (.int (0 : Int32)), .val (.int (0 : Int32)), .val (.int (0 : Int32))] [])) _
      refine Go.by (fun tt_ kk_ => XS.iload X.here hx rfl (hb hby at_165) rfl kk_) ?_
      show Go p.tables e below (T.setTop (mkF m 167 #[.val (.int p0), .val (.int p1), .val (.int p2), .val (.int p3), .val (.int p4), .val (.int p5), .val (.ref b1), .val (.int (1 : Int32)), .val (.int (2 : Int32)), .val (.int (0 : Int32)), .val (.int (0 : Int32)), .val (.int (0 : Int32))] [(.int (0 : Int32))])) _
      refine Go.by (fun tt_ kk_ => XS.iload X.here hx rfl (hb hby at_167) rfl kk_) ?_
      show Go p.tables e below (T.setTop (mkF m 169 #[.val (.int p0), .val (.int p1), .val (.int p2), .val (.int p3), .val (.int p4), .val (.int p5), .val (.ref b1), .val (.int (1 : Int32)), .val (.int (2 : Int32)), .val (.int (0 : Int32)), .val (.int (0 : Int32)), .val (.int (0 : Int32))] [(.int (2 : Int32)), (.int (0 : Int32))])) _
      refine Go.by (fun tt_ kk_ => XS.iload X.here hx rfl (hb hby at_169) rfl kk_) ?_
      show Go p.tables e below (T.setTop (mkF m 171 #[.val (.int p0), .val (.int p1), .val (.int p2), .val (.int p3), .val (.int p4), .val (.int p5), .val (.ref b1), .val (.int (1 : Int32)), .val (.int (2 : Int32)), .val (.int (0 : Int32)), .val (.int (0 : Int32)), .val (.int (0 : Int32))] [(.int (0 : Int32)), (.int (2 : Int32)), (.int (0 : Int32))])) _
      refine Go.by (fun tt_ kk_ => XS.icmpYes X.here hx rfl (pc0 := 171) (pc' := 178) rfl (hb hby at_171) rfl (feq (by decide : ¬ ((2 : Int32) = (0 : Int32)))).2 (by decide) (by decide) kk_) ?_
      show Go p.tables e below (T.setTop (mkF m 178 #[.val (.int p0), .val (.int p1), .val (.int p2), .val (.int p3), .val (.int p4), .val (.int p5), .val (.ref b1), .val (.int (1 : Int32)), .val (.int (2 : Int32)), .val (.int (0 : Int32)), .val (.int (0 : Int32)), .val (.int (0 : Int32))] [(.int (0 : Int32))])) _
      refine Go.by (fun tt_ kk_ => XS.iconst X.here hx rfl (hb hby at_178) kk_) ?_
      show Go p.tables e below (T.setTop (mkF m 179 #[.val (.int p0), .val (.int p1), .val (.int p2), .val (.int p3), .val (.int p4), .val (.int p5), .val (.ref b1), .val (.int (1 : Int32)), .val (.int (2 : Int32)), .val (.int (0 : Int32)), .val (.int (0 : Int32)), .val (.int (0 : Int32))] [(.int (0 : Int32)), (.int (0 : Int32))])) _
      refine Go.by (fun tt_ kk_ => XS.icmpNo X.here hx rfl (hb hby at_179) rfl (teq (rfl : (0 : Int32) = (0 : Int32))).2 kk_) ?_
      show Go p.tables e below (T.setTop (mkF m 182 #[.val (.int p0), .val (.int p1), .val (.int p2), .val (.int p3), .val (.int p4), .val (.int p5), .val (.ref b1), .val (.int (1 : Int32)), .val (.int (2 : Int32)), .val (.int (0 : Int32)), .val (.int (0 : Int32)), .val (.int (0 : Int32))] [])) _
      refine Go.by (fun tt_ kk_ => XS.iconst X.here hx rfl (hb hby at_182) kk_) ?_
      show Go p.tables e below (T.setTop (mkF m 183 #[.val (.int p0), .val (.int p1), .val (.int p2), .val (.int p3), .val (.int p4), .val (.int p5), .val (.ref b1), .val (.int (1 : Int32)), .val (.int (2 : Int32)), .val (.int (0 : Int32)), .val (.int (0 : Int32)), .val (.int (0 : Int32))] [(.int (1 : Int32))])) _
      refine Go.by (fun tt_ kk_ => XS.goto X.here hx rfl (pc0 := 183) (pc' := 187) rfl (hb hby at_183) (by decide) (by decide) kk_) ?_
      show Go p.tables e below (T.setTop (mkF m 187 #[.val (.int p0), .val (.int p1), .val (.int p2), .val (.int p3), .val (.int p4), .val (.int p5), .val (.ref b1), .val (.int (1 : Int32)), .val (.int (2 : Int32)), .val (.int (0 : Int32)), .val (.int (0 : Int32)), .val (.int (0 : Int32))] [(.int (1 : Int32))])) _
      exact Go.done X  (v := some (.int (1 : Int32))) (fun h => by rw [Bd.returns] at h; cases h) Bd.notSynchronized (fun fs hr => retN X hx (z := (1 : Int32)) (t := .boolean) Bd.returns (by simp) (hb hby at_187) hr) (by rw [eT]; exact ⟨rfl, N⟩) (by decide) (by decide)
    · rw [hcs]
      show Go p.tables e below (T.setTop (mkF m 95 #[.val (.int p0), .val (.int p1), .val (.int p2), .val (.int p3), .val (.int p4), .val (.int p5), .val (.ref b1), .val (.int (1 : Int32)), .val (.int (2 : Int32)), .val (.int (0 : Int32)), .unset, .unset] [(.int (1 : Int32))])) _
      refine Go.by (fun tt_ kk_ => XS.iload X.here hx rfl (hb hby at_95) rfl kk_) ?_
      show Go p.tables e below (T.setTop (mkF m 97 #[.val (.int p0), .val (.int p1), .val (.int p2), .val (.int p3), .val (.int p4), .val (.int p5), .val (.ref b1), .val (.int (1 : Int32)), .val (.int (2 : Int32)), .val (.int (0 : Int32)), .unset, .unset] [(.int (2 : Int32)), (.int (1 : Int32))])) _
      have hz : (if (2 : Int32) < (1 : Int32) then (2 : Int32) else (1 : Int32)) = (1 : Int32) := by decide
      obtain ⟨_, _, ⟨T, L_, k_, n_⟩, -, X, ⟨Lc_, hQ, l_, y_, z_⟩, st⟩ := Jvm.LawKit.callS X hx (y := (⟨"java/lang/Math", "min", "(II)I"⟩ : MethodName)) hown (mvT hZ (hw _ (List.mem_of_getElem? (i := 52) rfl))) (mvT hZ (hw _ (List.mem_of_getElem? (i := 36) rfl))) (mvT hZ (hw _ (List.mem_of_getElem? (i := 11) rfl))) (mvT hZ (hw _ (List.mem_of_getElem? (i := 37) rfl))) (by decide) (backOf (W := 0) (rm7 l Z a0 hw [] (1 : Int32) (2 : Int32) h33 n0 (Nat.le_trans Z0 K.1) ) hZ (hw _ (List.mem_of_getElem? (i := 37) rfl)) (hw _ (List.mem_of_getElem? (i := 11) rfl)) (by decide) (by decide)) (g := (mkF m 97 #[.val (.int p0), .val (.int p1), .val (.int p2), .val (.int p3), .val (.int p4), .val (.int p5), .val (.ref b1), .val (.int (1 : Int32)), .val (.int (2 : Int32)), .val (.int (0 : Int32)), .unset, .unset] [(.int (2 : Int32)), (.int (1 : Int32))])) rfl (by rw [hml]; rfl) (argsL := [(.int (1 : Int32)), (.int (2 : Int32))]) (rest := []) (lenOf pd_3 rfl) rfl (by show 2 * 0 + _ ≤ _; exact Nat.le_of_eq rfl) (hb hby at_97) (fun _ _ => ⟨rfl, eT, (by decide : 7 + 0 ≤ _), (by decide : 27 + 0 ≤ _)⟩)
      dsimp only [Pt.U, Pt.locs, Pt.cells, Pt.slots] at X l_ y_ z_ st hQ
      subst l_ y_ z_
      obtain ⟨e_v, Nq, eh⟩ := hQ
      rw [hz] at e_v
      subst e_v
      have N := Fr.app N Nq
      have eT := eh
      refine Go.by st ?_
      show Go p.tables e below (T.setTop (mkF m 100 #[.val (.int p0), .val (.int p1), .val (.int p2), .val (.int p3), .val (.int p4), .val (.int p5), .val (.ref b1), .val (.int (1 : Int32)), .val (.int (2 : Int32)), .val (.int (0 : Int32)), .unset, .unset] [(.int (1 : Int32))])) _
      refine Go.by (fun tt_ kk_ => XS.istore X.here hx rfl (hb hby at_100) rfl (l' := #[.val (.int p0), .val (.int p1), .val (.int p2), .val (.int p3), .val (.int p4), .val (.int p5), .val (.ref b1), .val (.int (1 : Int32)), .val (.int (2 : Int32)), .val (.int (0 : Int32)), .val (.int (1 : Int32)), .unset]) rfl kk_) ?_
      show Go p.tables e below (T.setTop (mkF m 102 #[.val (.int p0), .val (.int p1), .val (.int p2), .val (.int p3), .val (.int p4), .val (.int p5), .val (.ref b1), .val (.int (1 : Int32)), .val (.int (2 : Int32)), .val (.int (0 : Int32)), .val (.int (1 : Int32)), .unset] [])) _
      refine Go.by (fun tt_ kk_ => XS.iload X.here hx rfl (hb hby at_102) rfl kk_) ?_
      show Go p.tables e below (T.setTop (mkF m 104 #[.val (.int p0), .val (.int p1), .val (.int p2), .val (.int p3), .val (.int p4), .val (.int p5), .val (.ref b1), .val (.int (1 : Int32)), .val (.int (2 : Int32)), .val (.int (0 : Int32)), .val (.int (1 : Int32)), .unset] [(.int (1 : Int32))])) _
      refine Go.by (fun tt_ kk_ => XS.iconst X.here hx rfl (hb hby at_104) kk_) ?_
      show Go p.tables e below (T.setTop (mkF m 105 #[.val (.int p0), .val (.int p1), .val (.int p2), .val (.int p3), .val (.int p4), .val (.int p5), .val (.ref b1), .val (.int (1 : Int32)), .val (.int (2 : Int32)), .val (.int (0 : Int32)), .val (.int (1 : Int32)), .unset] [(.int (1 : Int32)), (.int (1 : Int32))])) _
      refine Go.by (fun tt_ kk_ => XS.icmpNo X.here hx rfl (hb hby at_105) rfl (flt (by decide : ¬ ((1 : Int32) < (1 : Int32)))).1 kk_) ?_
      show Go p.tables e below (T.setTop (mkF m 108 #[.val (.int p0), .val (.int p1), .val (.int p2), .val (.int p3), .val (.int p4), .val (.int p5), .val (.ref b1), .val (.int (1 : Int32)), .val (.int (2 : Int32)), .val (.int (0 : Int32)), .val (.int (1 : Int32)), .unset] [])) _
      refine Go.by (fun tt_ kk_ => XS.aload X.here hx rfl (hb hby at_108) rfl rfl kk_) ?_
      show Go p.tables e below (T.setTop (mkF m 110 #[.val (.int p0), .val (.int p1), .val (.int p2), .val (.int p3), .val (.int p4), .val (.int p5), .val (.ref b1), .val (.int (1 : Int32)), .val (.int (2 : Int32)), .val (.int (0 : Int32)), .val (.int (1 : Int32)), .unset] [(.ref b1)])) _
      obtain ⟨cq_, kq_, qa_, qb_, qc_⟩ := isOf hZ eT E_b1
      obtain ⟨_, _, ⟨T, L_, k_, n_⟩, -, X, ⟨Lc_, hQ, l_, y_, z_⟩, st⟩ := X.virtualBack hx (y := (⟨"com/example/mode_choice_loop/modechoiceloop/simulation/TimeHeap", "removeFirst", "()I"⟩ : MethodName)) (z := (⟨"com/example/mode_choice_loop/modechoiceloop/simulation/TimeHeap", "removeFirst", "()I"⟩ : MethodName)) hown (mvT hZ (hw _ (List.mem_of_getElem? (i := 53) rfl))) (mvT hZ (hw _ (List.mem_of_getElem? (i := 54) rfl))) (notFace_of_selects (args := #[]) (mvT hZ (hw _ (List.mem_of_getElem? (i := 56) rfl)))) (mvT hZ (hw _ (List.mem_of_getElem? (i := 56) rfl))) (mvT hZ (hw _ (List.mem_of_getElem? (i := 55) rfl))) (by decide) (backOf (W := 0) (rm11_2 l Z a0 hw [] b1 h33 n0 (Nat.le_trans Z0 K.1) TH) hZ (hw _ (List.mem_of_getElem? (i := 57) rfl)) (hw _ (List.mem_of_getElem? (i := 2) rfl)) (by decide) (by decide)) qa_ qc_ (g := (mkF m 110 #[.val (.int p0), .val (.int p1), .val (.int p2), .val (.int p3), .val (.int p4), .val (.int p5), .val (.ref b1), .val (.int (1 : Int32)), .val (.int (2 : Int32)), .val (.int (0 : Int32)), .val (.int (1 : Int32)), .unset] [(.ref b1)])) rfl (by rw [hml]; rfl) (Steps.refl _) (argsL := []) (rest := []) (lenOf pd_12 rfl) rfl (by show 2 * 0 + _ ≤ _; exact Nat.le_of_eq rfl) (hb hby at_110) (fun _ _ => ⟨rfl, eT, (by decide : 7 + 0 ≤ _), (by decide : 27 + 0 ≤ _)⟩)
      dsimp only [Pt.U, Pt.locs, Pt.cells, Pt.slots] at X l_ y_ z_ st hQ
      subst l_ y_ z_
      obtain ⟨h39, eT⟩ : ∃ z, T.heap = z := ⟨_, rfl⟩
      rw [eT] at hQ
      obtain ⟨r38, rfl, Nq, Kq, TH⟩ := hQ
      have N := Fr.app N Nq
      have K := And.intro (Nat.le_trans K.1 Kq.1) trivial
      have E_b1 := TH.1
      refine Go.tr st ?_
      show Go p.tables e below (T.setTop (mkF m 113 #[.val (.int p0), .val (.int p1), .val (.int p2), .val (.int p3), .val (.int p4), .val (.int p5), .val (.ref b1), .val (.int (1 : Int32)), .val (.int (2 : Int32)), .val (.int (0 : Int32)), .val (.int (1 : Int32)), .unset] [(.int r38)])) _
      refine Go.by (fun tt_ kk_ => XS.pop X.here hx rfl (hb hby at_113) rfl rfl kk_) ?_
      show Go p.tables e below (T.setTop (mkF m 114 #[.val (.int p0), .val (.int p1), .val (.int p2), .val (.int p3), .val (.int p4), .val (.int p5), .val (.ref b1), .val (.int (1 : Int32)), .val (.int (2 : Int32)), .val (.int (0 : Int32)), .val (.int (1 : Int32)), .unset] [])) _
      refine Go.by (fun tt_ kk_ => XS.iload X.here hx rfl (hb hby at_114) rfl kk_) ?_
      show Go p.tables e below (T.setTop (mkF m 116 #[.val (.int p0), .val (.int p1), .val (.int p2), .val (.int p3), .val (.int p4), .val (.int p5), .val (.ref b1), .val (.int (1 : Int32)), .val (.int (2 : Int32)), .val (.int (0 : Int32)), .val (.int (1 : Int32)), .unset] [(.int (1 : Int32))])) _
      refine Go.by (fun tt_ kk_ => XS.iconst X.here hx rfl (hb hby at_116) kk_) ?_
      show Go p.tables e below (T.setTop (mkF m 117 #[.val (.int p0), .val (.int p1), .val (.int p2), .val (.int p3), .val (.int p4), .val (.int p5), .val (.ref b1), .val (.int (1 : Int32)), .val (.int (2 : Int32)), .val (.int (0 : Int32)), .val (.int (1 : Int32)), .unset] [(.int (2 : Int32)), (.int (1 : Int32))])) _
      refine Go.by (fun tt_ kk_ => XS.icmpYes X.here hx rfl (pc0 := 117) (pc' := 126) rfl (hb hby at_117) rfl (tlt (by decide : (1 : Int32) < (2 : Int32))).1 (by decide) (by decide) kk_) ?_
      show Go p.tables e below (T.setTop (mkF m 126 #[.val (.int p0), .val (.int p1), .val (.int p2), .val (.int p3), .val (.int p4), .val (.int p5), .val (.ref b1), .val (.int (1 : Int32)), .val (.int (2 : Int32)), .val (.int (0 : Int32)), .val (.int (1 : Int32)), .unset] [])) _
      refine Go.by (fun tt_ kk_ => XS.iload X.here hx rfl (hb hby at_126) rfl kk_) ?_
      show Go p.tables e below (T.setTop (mkF m 128 #[.val (.int p0), .val (.int p1), .val (.int p2), .val (.int p3), .val (.int p4), .val (.int p5), .val (.ref b1), .val (.int (1 : Int32)), .val (.int (2 : Int32)), .val (.int (0 : Int32)), .val (.int (1 : Int32)), .unset] [(.int (1 : Int32))])) _
      refine Go.by (fun tt_ kk_ => XS.iconst X.here hx rfl (hb hby at_128) kk_) ?_
      show Go p.tables e below (T.setTop (mkF m 129 #[.val (.int p0), .val (.int p1), .val (.int p2), .val (.int p3), .val (.int p4), .val (.int p5), .val (.ref b1), .val (.int (1 : Int32)), .val (.int (2 : Int32)), .val (.int (0 : Int32)), .val (.int (1 : Int32)), .unset] [(.int (3 : Int32)), (.int (1 : Int32))])) _
      refine Go.by (fun tt_ kk_ => XS.icmpYes X.here hx rfl (pc0 := 129) (pc' := 138) rfl (hb hby at_129) rfl (tlt (by decide : (1 : Int32) < (3 : Int32))).1 (by decide) (by decide) kk_) ?_
      show Go p.tables e below (T.setTop (mkF m 138 #[.val (.int p0), .val (.int p1), .val (.int p2), .val (.int p3), .val (.int p4), .val (.int p5), .val (.ref b1), .val (.int (1 : Int32)), .val (.int (2 : Int32)), .val (.int (0 : Int32)), .val (.int (1 : Int32)), .unset] [])) _
      refine Go.by (fun tt_ kk_ => XS.aload X.here hx rfl (hb hby at_138) rfl rfl kk_) ?_
      show Go p.tables e below (T.setTop (mkF m 140 #[.val (.int p0), .val (.int p1), .val (.int p2), .val (.int p3), .val (.int p4), .val (.int p5), .val (.ref b1), .val (.int (1 : Int32)), .val (.int (2 : Int32)), .val (.int (0 : Int32)), .val (.int (1 : Int32)), .unset] [(.ref b1)])) _
      have hz : (if (1 : Int32) = 0 then (1 : Int32) else 0) = (0 : Int32) := by decide
      obtain ⟨cq_, kq_, qa_, qb_, qc_⟩ := isOf hZ eT E_b1
      obtain ⟨_, _, ⟨T, L_, k_, n_⟩, -, X, ⟨Lc_, hQ, l_, y_, z_⟩, st⟩ := X.virtualBack hx (y := (⟨"com/example/mode_choice_loop/modechoiceloop/simulation/TimeHeap", "isEmpty", "()Z"⟩ : MethodName)) (z := (⟨"com/example/mode_choice_loop/modechoiceloop/simulation/TimeHeap", "isEmpty", "()Z"⟩ : MethodName)) hown (mvT hZ (hw _ (List.mem_of_getElem? (i := 19) rfl))) (mvT hZ (hw _ (List.mem_of_getElem? (i := 20) rfl))) (notFace_of_selects (args := #[]) (mvT hZ (hw _ (List.mem_of_getElem? (i := 22) rfl)))) (mvT hZ (hw _ (List.mem_of_getElem? (i := 22) rfl))) (mvT hZ (hw _ (List.mem_of_getElem? (i := 21) rfl))) (by decide) (backOf (W := 0) (rm4 l Z a0 hw [] b1 (1 : Int32) h39 n0 (Nat.le_trans Z0 K.1) TH) hZ (hw _ (List.mem_of_getElem? (i := 23) rfl)) (hw _ (List.mem_of_getElem? (i := 2) rfl)) (by decide) (by decide)) qa_ qc_ (g := (mkF m 140 #[.val (.int p0), .val (.int p1), .val (.int p2), .val (.int p3), .val (.int p4), .val (.int p5), .val (.ref b1), .val (.int (1 : Int32)), .val (.int (2 : Int32)), .val (.int (0 : Int32)), .val (.int (1 : Int32)), .unset] [(.ref b1)])) rfl (by rw [hml]; rfl) (Steps.refl _) (argsL := []) (rest := []) (lenOf pd_10 rfl) rfl (by show 2 * 0 + _ ≤ _; exact Nat.le_of_eq rfl) (hb hby at_140) (fun _ _ => ⟨rfl, eT, (by decide : 7 + 0 ≤ _), (by decide : 27 + 0 ≤ _)⟩)
      dsimp only [Pt.U, Pt.locs, Pt.cells, Pt.slots] at X l_ y_ z_ st hQ
      subst l_ y_ z_
      obtain ⟨e_v, Nq, eh⟩ := hQ
      rw [hz] at e_v
      subst e_v
      have N := Fr.app N Nq
      have eT := eh
      refine Go.tr st ?_
      show Go p.tables e below (T.setTop (mkF m 143 #[.val (.int p0), .val (.int p1), .val (.int p2), .val (.int p3), .val (.int p4), .val (.int p5), .val (.ref b1), .val (.int (1 : Int32)), .val (.int (2 : Int32)), .val (.int (0 : Int32)), .val (.int (1 : Int32)), .unset] [(.int (0 : Int32))])) _
      refine Go.by (fun tt_ kk_ => XS.istore X.here hx rfl (hb hby at_143) rfl (l' := #[.val (.int p0), .val (.int p1), .val (.int p2), .val (.int p3), .val (.int p4), .val (.int p5), .val (.ref b1), .val (.int (1 : Int32)), .val (.int (2 : Int32)), .val (.int (0 : Int32)), .val (.int (1 : Int32)), .val (.int (0 : Int32))]) rfl kk_) ?_
      show Go p.tables e below (T.setTop (mkF m 145 #[.val (.int p0), .val (.int p1), .val (.int p2), .val (.int p3), .val (.int p4), .val (.int p5), .val (.ref b1), .val (.int (1 : Int32)), .val (.int (2 : Int32)), .val (.int (0 : Int32)), .val (.int (1 : Int32)), .val (.int (0 : Int32))] [])) _
      refine Go.by (fun tt_ kk_ => XS.iload X.here hx rfl (hb hby at_145) rfl kk_) ?_
      show Go p.tables e below (T.setTop (mkF m 147 #[.val (.int p0), .val (.int p1), .val (.int p2), .val (.int p3), .val (.int p4), .val (.int p5), .val (.ref b1), .val (.int (1 : Int32)), .val (.int (2 : Int32)), .val (.int (0 : Int32)), .val (.int (1 : Int32)), .val (.int (0 : Int32))] [(.int (1 : Int32))])) _
      refine Go.by (fun tt_ kk_ => XS.ifNo X.here hx rfl (hb hby at_147) rfl ((if0 _ _).trans (feq (by decide : ¬ ((1 : Int32) = (0 : Int32)))).1) kk_) ?_
      show Go p.tables e below (T.setTop (mkF m 150 #[.val (.int p0), .val (.int p1), .val (.int p2), .val (.int p3), .val (.int p4), .val (.int p5), .val (.ref b1), .val (.int (1 : Int32)), .val (.int (2 : Int32)), .val (.int (0 : Int32)), .val (.int (1 : Int32)), .val (.int (0 : Int32))] [])) _
      refine Go.by (fun tt_ kk_ => XS.iload X.here hx rfl (hb hby at_150) rfl kk_) ?_
      show Go p.tables e below (T.setTop (mkF m 152 #[.val (.int p0), .val (.int p1), .val (.int p2), .val (.int p3), .val (.int p4), .val (.int p5), .val (.ref b1), .val (.int (1 : Int32)), .val (.int (2 : Int32)), .val (.int (0 : Int32)), .val (.int (1 : Int32)), .val (.int (0 : Int32))] [(.int (0 : Int32))])) _
      refine Go.by (fun tt_ kk_ => XS.iload X.here hx rfl (hb hby at_152) rfl kk_) ?_
      show Go p.tables e below (T.setTop (mkF m 154 #[.val (.int p0), .val (.int p1), .val (.int p2), .val (.int p3), .val (.int p4), .val (.int p5), .val (.ref b1), .val (.int (1 : Int32)), .val (.int (2 : Int32)), .val (.int (0 : Int32)), .val (.int (1 : Int32)), .val (.int (0 : Int32))] [(.int (2 : Int32)), (.int (0 : Int32))])) _
      refine Go.by (fun tt_ kk_ => XS.ifYes X.here hx rfl (pc0 := 154) (pc' := 161) rfl (hb hby at_154) rfl ((if0 _ _).trans (feq (by decide : ¬ ((2 : Int32) = (0 : Int32)))).2) (by decide) (by decide) kk_) ?_
      show Go p.tables e below (T.setTop (mkF m 161 #[.val (.int p0), .val (.int p1), .val (.int p2), .val (.int p3), .val (.int p4), .val (.int p5), .val (.ref b1), .val (.int (1 : Int32)), .val (.int (2 : Int32)), .val (.int (0 : Int32)), .val (.int (1 : Int32)), .val (.int (0 : Int32))] [(.int (0 : Int32))])) _
      refine Go.by (fun tt_ kk_ => XS.iconst X.here hx rfl (hb hby at_161) kk_) ?_
      show Go p.tables e below (T.setTop (mkF m 162 #[.val (.int p0), .val (.int p1), .val (.int p2), .val (.int p3), .val (.int p4), .val (.int p5), .val (.ref b1), .val (.int (1 : Int32)), .val (.int (2 : Int32)), .val (.int (0 : Int32)), .val (.int (1 : Int32)), .val (.int (0 : Int32))] [(.int (0 : Int32)), (.int (0 : Int32))])) _
      refine Go.by (fun tt_ kk_ => XS.icmpNo X.here hx rfl (hb hby at_162) rfl (teq (rfl : (0 : Int32) = (0 : Int32))).2 kk_) ?_
      show Go p.tables e below (T.setTop (mkF m 165 #[.val (.int p0), .val (.int p1), .val (.int p2), .val (.int p3), .val (.int p4), .val (.int p5), .val (.ref b1), .val (.int (1 : Int32)), .val (.int (2 : Int32)), .val (.int (0 : Int32)), .val (.int (1 : Int32)), .val (.int (0 : Int32))] [])) _
      refine Go.by (fun tt_ kk_ => XS.iload X.here hx rfl (hb hby at_165) rfl kk_) ?_
      show Go p.tables e below (T.setTop (mkF m 167 #[.val (.int p0), .val (.int p1), .val (.int p2), .val (.int p3), .val (.int p4), .val (.int p5), .val (.ref b1), .val (.int (1 : Int32)), .val (.int (2 : Int32)), .val (.int (0 : Int32)), .val (.int (1 : Int32)), .val (.int (0 : Int32))] [(.int (0 : Int32))])) _
      refine Go.by (fun tt_ kk_ => XS.iload X.here hx rfl (hb hby at_167) rfl kk_) ?_
      show Go p.tables e below (T.setTop (mkF m 169 #[.val (.int p0), .val (.int p1), .val (.int p2), .val (.int p3), .val (.int p4), .val (.int p5), .val (.ref b1), .val (.int (1 : Int32)), .val (.int (2 : Int32)), .val (.int (0 : Int32)), .val (.int (1 : Int32)), .val (.int (0 : Int32))] [(.int (2 : Int32)), (.int (0 : Int32))])) _
      refine Go.by (fun tt_ kk_ => XS.iload X.here hx rfl (hb hby at_169) rfl kk_) ?_
      show Go p.tables e below (T.setTop (mkF m 171 #[.val (.int p0), .val (.int p1), .val (.int p2), .val (.int p3), .val (.int p4), .val (.int p5), .val (.ref b1), .val (.int (1 : Int32)), .val (.int (2 : Int32)), .val (.int (0 : Int32)), .val (.int (1 : Int32)), .val (.int (0 : Int32))] [(.int (1 : Int32)), (.int (2 : Int32)), (.int (0 : Int32))])) _
      refine Go.by (fun tt_ kk_ => XS.icmpYes X.here hx rfl (pc0 := 171) (pc' := 178) rfl (hb hby at_171) rfl (feq (by decide : ¬ ((2 : Int32) = (1 : Int32)))).2 (by decide) (by decide) kk_) ?_
      show Go p.tables e below (T.setTop (mkF m 178 #[.val (.int p0), .val (.int p1), .val (.int p2), .val (.int p3), .val (.int p4), .val (.int p5), .val (.ref b1), .val (.int (1 : Int32)), .val (.int (2 : Int32)), .val (.int (0 : Int32)), .val (.int (1 : Int32)), .val (.int (0 : Int32))] [(.int (0 : Int32))])) _
      refine Go.by (fun tt_ kk_ => XS.iconst X.here hx rfl (hb hby at_178) kk_) ?_
      show Go p.tables e below (T.setTop (mkF m 179 #[.val (.int p0), .val (.int p1), .val (.int p2), .val (.int p3), .val (.int p4), .val (.int p5), .val (.ref b1), .val (.int (1 : Int32)), .val (.int (2 : Int32)), .val (.int (0 : Int32)), .val (.int (1 : Int32)), .val (.int (0 : Int32))] [(.int (0 : Int32)), (.int (0 : Int32))])) _
      refine Go.by (fun tt_ kk_ => XS.icmpNo X.here hx rfl (hb hby at_179) rfl (teq (rfl : (0 : Int32) = (0 : Int32))).2 kk_) ?_
      show Go p.tables e below (T.setTop (mkF m 182 #[.val (.int p0), .val (.int p1), .val (.int p2), .val (.int p3), .val (.int p4), .val (.int p5), .val (.ref b1), .val (.int (1 : Int32)), .val (.int (2 : Int32)), .val (.int (0 : Int32)), .val (.int (1 : Int32)), .val (.int (0 : Int32))] [])) _
      refine Go.by (fun tt_ kk_ => XS.iconst X.here hx rfl (hb hby at_182) kk_) ?_
      show Go p.tables e below (T.setTop (mkF m 183 #[.val (.int p0), .val (.int p1), .val (.int p2), .val (.int p3), .val (.int p4), .val (.int p5), .val (.ref b1), .val (.int (1 : Int32)), .val (.int (2 : Int32)), .val (.int (0 : Int32)), .val (.int (1 : Int32)), .val (.int (0 : Int32))] [(.int (1 : Int32))])) _
      refine Go.by (fun tt_ kk_ => XS.goto X.here hx rfl (pc0 := 183) (pc' := 187) rfl (hb hby at_183) (by decide) (by decide) kk_) ?_
      show Go p.tables e below (T.setTop (mkF m 187 #[.val (.int p0), .val (.int p1), .val (.int p2), .val (.int p3), .val (.int p4), .val (.int p5), .val (.ref b1), .val (.int (1 : Int32)), .val (.int (2 : Int32)), .val (.int (0 : Int32)), .val (.int (1 : Int32)), .val (.int (0 : Int32))] [(.int (1 : Int32))])) _
      exact Go.done X  (v := some (.int (1 : Int32))) (fun h => by rw [Bd.returns] at h; cases h) Bd.notSynchronized (fun fs hr => retN X hx (z := (1 : Int32)) (t := .boolean) Bd.returns (by simp) (hb hby at_187) hr) (by rw [eT]; exact ⟨rfl, N⟩) (by decide) (by decide)
    · rw [hcs]
      show Go p.tables e below (T.setTop (mkF m 95 #[.val (.int p0), .val (.int p1), .val (.int p2), .val (.int p3), .val (.int p4), .val (.int p5), .val (.ref b1), .val (.int (1 : Int32)), .val (.int (2 : Int32)), .val (.int (0 : Int32)), .unset, .unset] [(.int (2 : Int32))])) _
      refine Go.by (fun tt_ kk_ => XS.iload X.here hx rfl (hb hby at_95) rfl kk_) ?_
      show Go p.tables e below (T.setTop (mkF m 97 #[.val (.int p0), .val (.int p1), .val (.int p2), .val (.int p3), .val (.int p4), .val (.int p5), .val (.ref b1), .val (.int (1 : Int32)), .val (.int (2 : Int32)), .val (.int (0 : Int32)), .unset, .unset] [(.int (2 : Int32)), (.int (2 : Int32))])) _
      have hz : (if (2 : Int32) < (2 : Int32) then (2 : Int32) else (2 : Int32)) = (2 : Int32) := by decide
      obtain ⟨_, _, ⟨T, L_, k_, n_⟩, -, X, ⟨Lc_, hQ, l_, y_, z_⟩, st⟩ := Jvm.LawKit.callS X hx (y := (⟨"java/lang/Math", "min", "(II)I"⟩ : MethodName)) hown (mvT hZ (hw _ (List.mem_of_getElem? (i := 52) rfl))) (mvT hZ (hw _ (List.mem_of_getElem? (i := 36) rfl))) (mvT hZ (hw _ (List.mem_of_getElem? (i := 11) rfl))) (mvT hZ (hw _ (List.mem_of_getElem? (i := 37) rfl))) (by decide) (backOf (W := 0) (rm7 l Z a0 hw [] (2 : Int32) (2 : Int32) h33 n0 (Nat.le_trans Z0 K.1) ) hZ (hw _ (List.mem_of_getElem? (i := 37) rfl)) (hw _ (List.mem_of_getElem? (i := 11) rfl)) (by decide) (by decide)) (g := (mkF m 97 #[.val (.int p0), .val (.int p1), .val (.int p2), .val (.int p3), .val (.int p4), .val (.int p5), .val (.ref b1), .val (.int (1 : Int32)), .val (.int (2 : Int32)), .val (.int (0 : Int32)), .unset, .unset] [(.int (2 : Int32)), (.int (2 : Int32))])) rfl (by rw [hml]; rfl) (argsL := [(.int (2 : Int32)), (.int (2 : Int32))]) (rest := []) (lenOf pd_3 rfl) rfl (by show 2 * 0 + _ ≤ _; exact Nat.le_of_eq rfl) (hb hby at_97) (fun _ _ => ⟨rfl, eT, (by decide : 7 + 0 ≤ _), (by decide : 27 + 0 ≤ _)⟩)
      dsimp only [Pt.U, Pt.locs, Pt.cells, Pt.slots] at X l_ y_ z_ st hQ
      subst l_ y_ z_
      obtain ⟨e_v, Nq, eh⟩ := hQ
      rw [hz] at e_v
      subst e_v
      have N := Fr.app N Nq
      have eT := eh
      refine Go.by st ?_
      show Go p.tables e below (T.setTop (mkF m 100 #[.val (.int p0), .val (.int p1), .val (.int p2), .val (.int p3), .val (.int p4), .val (.int p5), .val (.ref b1), .val (.int (1 : Int32)), .val (.int (2 : Int32)), .val (.int (0 : Int32)), .unset, .unset] [(.int (2 : Int32))])) _
      refine Go.by (fun tt_ kk_ => XS.istore X.here hx rfl (hb hby at_100) rfl (l' := #[.val (.int p0), .val (.int p1), .val (.int p2), .val (.int p3), .val (.int p4), .val (.int p5), .val (.ref b1), .val (.int (1 : Int32)), .val (.int (2 : Int32)), .val (.int (0 : Int32)), .val (.int (2 : Int32)), .unset]) rfl kk_) ?_
      show Go p.tables e below (T.setTop (mkF m 102 #[.val (.int p0), .val (.int p1), .val (.int p2), .val (.int p3), .val (.int p4), .val (.int p5), .val (.ref b1), .val (.int (1 : Int32)), .val (.int (2 : Int32)), .val (.int (0 : Int32)), .val (.int (2 : Int32)), .unset] [])) _
      refine Go.by (fun tt_ kk_ => XS.iload X.here hx rfl (hb hby at_102) rfl kk_) ?_
      show Go p.tables e below (T.setTop (mkF m 104 #[.val (.int p0), .val (.int p1), .val (.int p2), .val (.int p3), .val (.int p4), .val (.int p5), .val (.ref b1), .val (.int (1 : Int32)), .val (.int (2 : Int32)), .val (.int (0 : Int32)), .val (.int (2 : Int32)), .unset] [(.int (2 : Int32))])) _
      refine Go.by (fun tt_ kk_ => XS.iconst X.here hx rfl (hb hby at_104) kk_) ?_
      show Go p.tables e below (T.setTop (mkF m 105 #[.val (.int p0), .val (.int p1), .val (.int p2), .val (.int p3), .val (.int p4), .val (.int p5), .val (.ref b1), .val (.int (1 : Int32)), .val (.int (2 : Int32)), .val (.int (0 : Int32)), .val (.int (2 : Int32)), .unset] [(.int (1 : Int32)), (.int (2 : Int32))])) _
      refine Go.by (fun tt_ kk_ => XS.icmpNo X.here hx rfl (hb hby at_105) rfl (flt (by decide : ¬ ((2 : Int32) < (1 : Int32)))).1 kk_) ?_
      show Go p.tables e below (T.setTop (mkF m 108 #[.val (.int p0), .val (.int p1), .val (.int p2), .val (.int p3), .val (.int p4), .val (.int p5), .val (.ref b1), .val (.int (1 : Int32)), .val (.int (2 : Int32)), .val (.int (0 : Int32)), .val (.int (2 : Int32)), .unset] [])) _
      refine Go.by (fun tt_ kk_ => XS.aload X.here hx rfl (hb hby at_108) rfl rfl kk_) ?_
      show Go p.tables e below (T.setTop (mkF m 110 #[.val (.int p0), .val (.int p1), .val (.int p2), .val (.int p3), .val (.int p4), .val (.int p5), .val (.ref b1), .val (.int (1 : Int32)), .val (.int (2 : Int32)), .val (.int (0 : Int32)), .val (.int (2 : Int32)), .unset] [(.ref b1)])) _
      obtain ⟨cq_, kq_, qa_, qb_, qc_⟩ := isOf hZ eT E_b1
      obtain ⟨_, _, ⟨T, L_, k_, n_⟩, -, X, ⟨Lc_, hQ, l_, y_, z_⟩, st⟩ := X.virtualBack hx (y := (⟨"com/example/mode_choice_loop/modechoiceloop/simulation/TimeHeap", "removeFirst", "()I"⟩ : MethodName)) (z := (⟨"com/example/mode_choice_loop/modechoiceloop/simulation/TimeHeap", "removeFirst", "()I"⟩ : MethodName)) hown (mvT hZ (hw _ (List.mem_of_getElem? (i := 53) rfl))) (mvT hZ (hw _ (List.mem_of_getElem? (i := 54) rfl))) (notFace_of_selects (args := #[]) (mvT hZ (hw _ (List.mem_of_getElem? (i := 56) rfl)))) (mvT hZ (hw _ (List.mem_of_getElem? (i := 56) rfl))) (mvT hZ (hw _ (List.mem_of_getElem? (i := 55) rfl))) (by decide) (backOf (W := 0) (rm11_2 l Z a0 hw [] b1 h33 n0 (Nat.le_trans Z0 K.1) TH) hZ (hw _ (List.mem_of_getElem? (i := 57) rfl)) (hw _ (List.mem_of_getElem? (i := 2) rfl)) (by decide) (by decide)) qa_ qc_ (g := (mkF m 110 #[.val (.int p0), .val (.int p1), .val (.int p2), .val (.int p3), .val (.int p4), .val (.int p5), .val (.ref b1), .val (.int (1 : Int32)), .val (.int (2 : Int32)), .val (.int (0 : Int32)), .val (.int (2 : Int32)), .unset] [(.ref b1)])) rfl (by rw [hml]; rfl) (Steps.refl _) (argsL := []) (rest := []) (lenOf pd_12 rfl) rfl (by show 2 * 0 + _ ≤ _; exact Nat.le_of_eq rfl) (hb hby at_110) (fun _ _ => ⟨rfl, eT, (by decide : 7 + 0 ≤ _), (by decide : 27 + 0 ≤ _)⟩)
      dsimp only [Pt.U, Pt.locs, Pt.cells, Pt.slots] at X l_ y_ z_ st hQ
      subst l_ y_ z_
      obtain ⟨h43, eT⟩ : ∃ z, T.heap = z := ⟨_, rfl⟩
      rw [eT] at hQ
      obtain ⟨r42, rfl, Nq, Kq, TH⟩ := hQ
      have N := Fr.app N Nq
      have K := And.intro (Nat.le_trans K.1 Kq.1) trivial
      have E_b1 := TH.1
      refine Go.tr st ?_
      show Go p.tables e below (T.setTop (mkF m 113 #[.val (.int p0), .val (.int p1), .val (.int p2), .val (.int p3), .val (.int p4), .val (.int p5), .val (.ref b1), .val (.int (1 : Int32)), .val (.int (2 : Int32)), .val (.int (0 : Int32)), .val (.int (2 : Int32)), .unset] [(.int r42)])) _
      refine Go.by (fun tt_ kk_ => XS.pop X.here hx rfl (hb hby at_113) rfl rfl kk_) ?_
      show Go p.tables e below (T.setTop (mkF m 114 #[.val (.int p0), .val (.int p1), .val (.int p2), .val (.int p3), .val (.int p4), .val (.int p5), .val (.ref b1), .val (.int (1 : Int32)), .val (.int (2 : Int32)), .val (.int (0 : Int32)), .val (.int (2 : Int32)), .unset] [])) _
      refine Go.by (fun tt_ kk_ => XS.iload X.here hx rfl (hb hby at_114) rfl kk_) ?_
      show Go p.tables e below (T.setTop (mkF m 116 #[.val (.int p0), .val (.int p1), .val (.int p2), .val (.int p3), .val (.int p4), .val (.int p5), .val (.ref b1), .val (.int (1 : Int32)), .val (.int (2 : Int32)), .val (.int (0 : Int32)), .val (.int (2 : Int32)), .unset] [(.int (2 : Int32))])) _
      refine Go.by (fun tt_ kk_ => XS.iconst X.here hx rfl (hb hby at_116) kk_) ?_
      show Go p.tables e below (T.setTop (mkF m 117 #[.val (.int p0), .val (.int p1), .val (.int p2), .val (.int p3), .val (.int p4), .val (.int p5), .val (.ref b1), .val (.int (1 : Int32)), .val (.int (2 : Int32)), .val (.int (0 : Int32)), .val (.int (2 : Int32)), .unset] [(.int (2 : Int32)), (.int (2 : Int32))])) _
      refine Go.by (fun tt_ kk_ => XS.icmpNo X.here hx rfl (hb hby at_117) rfl (flt (by decide : ¬ ((2 : Int32) < (2 : Int32)))).1 kk_) ?_
      show Go p.tables e below (T.setTop (mkF m 120 #[.val (.int p0), .val (.int p1), .val (.int p2), .val (.int p3), .val (.int p4), .val (.int p5), .val (.ref b1), .val (.int (1 : Int32)), .val (.int (2 : Int32)), .val (.int (0 : Int32)), .val (.int (2 : Int32)), .unset] [])) _
      refine Go.by (fun tt_ kk_ => XS.aload X.here hx rfl (hb hby at_120) rfl rfl kk_) ?_
      show Go p.tables e below (T.setTop (mkF m 122 #[.val (.int p0), .val (.int p1), .val (.int p2), .val (.int p3), .val (.int p4), .val (.int p5), .val (.ref b1), .val (.int (1 : Int32)), .val (.int (2 : Int32)), .val (.int (0 : Int32)), .val (.int (2 : Int32)), .unset] [(.ref b1)])) _
      obtain ⟨cq_, kq_, qa_, qb_, qc_⟩ := isOf hZ eT E_b1
      obtain ⟨_, _, ⟨T, L_, k_, n_⟩, -, X, ⟨Lc_, hQ, l_, y_, z_⟩, st⟩ := X.virtualBack hx (y := (⟨"com/example/mode_choice_loop/modechoiceloop/simulation/TimeHeap", "removeFirst", "()I"⟩ : MethodName)) (z := (⟨"com/example/mode_choice_loop/modechoiceloop/simulation/TimeHeap", "removeFirst", "()I"⟩ : MethodName)) hown (mvT hZ (hw _ (List.mem_of_getElem? (i := 53) rfl))) (mvT hZ (hw _ (List.mem_of_getElem? (i := 54) rfl))) (notFace_of_selects (args := #[]) (mvT hZ (hw _ (List.mem_of_getElem? (i := 56) rfl)))) (mvT hZ (hw _ (List.mem_of_getElem? (i := 56) rfl))) (mvT hZ (hw _ (List.mem_of_getElem? (i := 55) rfl))) (by decide) (backOf (W := 0) (rm11_1 l Z a0 hw [] b1 h43 n0 (Nat.le_trans Z0 K.1) TH) hZ (hw _ (List.mem_of_getElem? (i := 57) rfl)) (hw _ (List.mem_of_getElem? (i := 2) rfl)) (by decide) (by decide)) qa_ qc_ (g := (mkF m 122 #[.val (.int p0), .val (.int p1), .val (.int p2), .val (.int p3), .val (.int p4), .val (.int p5), .val (.ref b1), .val (.int (1 : Int32)), .val (.int (2 : Int32)), .val (.int (0 : Int32)), .val (.int (2 : Int32)), .unset] [(.ref b1)])) rfl (by rw [hml]; rfl) (Steps.refl _) (argsL := []) (rest := []) (lenOf pd_12 rfl) rfl (by show 2 * 0 + _ ≤ _; exact Nat.le_of_eq rfl) (hb hby at_122) (fun _ _ => ⟨rfl, eT, (by decide : 7 + 0 ≤ _), (by decide : 27 + 0 ≤ _)⟩)
      dsimp only [Pt.U, Pt.locs, Pt.cells, Pt.slots] at X l_ y_ z_ st hQ
      subst l_ y_ z_
      obtain ⟨h45, eT⟩ : ∃ z, T.heap = z := ⟨_, rfl⟩
      rw [eT] at hQ
      obtain ⟨r44, rfl, Nq, Kq, TH⟩ := hQ
      have N := Fr.app N Nq
      have K := And.intro (Nat.le_trans K.1 Kq.1) trivial
      have E_b1 := TH.1
      refine Go.tr st ?_
      show Go p.tables e below (T.setTop (mkF m 125 #[.val (.int p0), .val (.int p1), .val (.int p2), .val (.int p3), .val (.int p4), .val (.int p5), .val (.ref b1), .val (.int (1 : Int32)), .val (.int (2 : Int32)), .val (.int (0 : Int32)), .val (.int (2 : Int32)), .unset] [(.int r44)])) _
      refine Go.by (fun tt_ kk_ => XS.pop X.here hx rfl (hb hby at_125) rfl rfl kk_) ?_
      show Go p.tables e below (T.setTop (mkF m 126 #[.val (.int p0), .val (.int p1), .val (.int p2), .val (.int p3), .val (.int p4), .val (.int p5), .val (.ref b1), .val (.int (1 : Int32)), .val (.int (2 : Int32)), .val (.int (0 : Int32)), .val (.int (2 : Int32)), .unset] [])) _
      refine Go.by (fun tt_ kk_ => XS.iload X.here hx rfl (hb hby at_126) rfl kk_) ?_
      show Go p.tables e below (T.setTop (mkF m 128 #[.val (.int p0), .val (.int p1), .val (.int p2), .val (.int p3), .val (.int p4), .val (.int p5), .val (.ref b1), .val (.int (1 : Int32)), .val (.int (2 : Int32)), .val (.int (0 : Int32)), .val (.int (2 : Int32)), .unset] [(.int (2 : Int32))])) _
      refine Go.by (fun tt_ kk_ => XS.iconst X.here hx rfl (hb hby at_128) kk_) ?_
      show Go p.tables e below (T.setTop (mkF m 129 #[.val (.int p0), .val (.int p1), .val (.int p2), .val (.int p3), .val (.int p4), .val (.int p5), .val (.ref b1), .val (.int (1 : Int32)), .val (.int (2 : Int32)), .val (.int (0 : Int32)), .val (.int (2 : Int32)), .unset] [(.int (3 : Int32)), (.int (2 : Int32))])) _
      refine Go.by (fun tt_ kk_ => XS.icmpYes X.here hx rfl (pc0 := 129) (pc' := 138) rfl (hb hby at_129) rfl (tlt (by decide : (2 : Int32) < (3 : Int32))).1 (by decide) (by decide) kk_) ?_
      show Go p.tables e below (T.setTop (mkF m 138 #[.val (.int p0), .val (.int p1), .val (.int p2), .val (.int p3), .val (.int p4), .val (.int p5), .val (.ref b1), .val (.int (1 : Int32)), .val (.int (2 : Int32)), .val (.int (0 : Int32)), .val (.int (2 : Int32)), .unset] [])) _
      refine Go.by (fun tt_ kk_ => XS.aload X.here hx rfl (hb hby at_138) rfl rfl kk_) ?_
      show Go p.tables e below (T.setTop (mkF m 140 #[.val (.int p0), .val (.int p1), .val (.int p2), .val (.int p3), .val (.int p4), .val (.int p5), .val (.ref b1), .val (.int (1 : Int32)), .val (.int (2 : Int32)), .val (.int (0 : Int32)), .val (.int (2 : Int32)), .unset] [(.ref b1)])) _
      have hz : (if (0 : Int32) = 0 then (1 : Int32) else 0) = (1 : Int32) := by decide
      obtain ⟨cq_, kq_, qa_, qb_, qc_⟩ := isOf hZ eT E_b1
      obtain ⟨_, _, ⟨T, L_, k_, n_⟩, -, X, ⟨Lc_, hQ, l_, y_, z_⟩, st⟩ := X.virtualBack hx (y := (⟨"com/example/mode_choice_loop/modechoiceloop/simulation/TimeHeap", "isEmpty", "()Z"⟩ : MethodName)) (z := (⟨"com/example/mode_choice_loop/modechoiceloop/simulation/TimeHeap", "isEmpty", "()Z"⟩ : MethodName)) hown (mvT hZ (hw _ (List.mem_of_getElem? (i := 19) rfl))) (mvT hZ (hw _ (List.mem_of_getElem? (i := 20) rfl))) (notFace_of_selects (args := #[]) (mvT hZ (hw _ (List.mem_of_getElem? (i := 22) rfl)))) (mvT hZ (hw _ (List.mem_of_getElem? (i := 22) rfl))) (mvT hZ (hw _ (List.mem_of_getElem? (i := 21) rfl))) (by decide) (backOf (W := 0) (rm4 l Z a0 hw [] b1 (0 : Int32) h45 n0 (Nat.le_trans Z0 K.1) TH) hZ (hw _ (List.mem_of_getElem? (i := 23) rfl)) (hw _ (List.mem_of_getElem? (i := 2) rfl)) (by decide) (by decide)) qa_ qc_ (g := (mkF m 140 #[.val (.int p0), .val (.int p1), .val (.int p2), .val (.int p3), .val (.int p4), .val (.int p5), .val (.ref b1), .val (.int (1 : Int32)), .val (.int (2 : Int32)), .val (.int (0 : Int32)), .val (.int (2 : Int32)), .unset] [(.ref b1)])) rfl (by rw [hml]; rfl) (Steps.refl _) (argsL := []) (rest := []) (lenOf pd_10 rfl) rfl (by show 2 * 0 + _ ≤ _; exact Nat.le_of_eq rfl) (hb hby at_140) (fun _ _ => ⟨rfl, eT, (by decide : 7 + 0 ≤ _), (by decide : 27 + 0 ≤ _)⟩)
      dsimp only [Pt.U, Pt.locs, Pt.cells, Pt.slots] at X l_ y_ z_ st hQ
      subst l_ y_ z_
      obtain ⟨e_v, Nq, eh⟩ := hQ
      rw [hz] at e_v
      subst e_v
      have N := Fr.app N Nq
      have eT := eh
      refine Go.tr st ?_
      show Go p.tables e below (T.setTop (mkF m 143 #[.val (.int p0), .val (.int p1), .val (.int p2), .val (.int p3), .val (.int p4), .val (.int p5), .val (.ref b1), .val (.int (1 : Int32)), .val (.int (2 : Int32)), .val (.int (0 : Int32)), .val (.int (2 : Int32)), .unset] [(.int (1 : Int32))])) _
      refine Go.by (fun tt_ kk_ => XS.istore X.here hx rfl (hb hby at_143) rfl (l' := #[.val (.int p0), .val (.int p1), .val (.int p2), .val (.int p3), .val (.int p4), .val (.int p5), .val (.ref b1), .val (.int (1 : Int32)), .val (.int (2 : Int32)), .val (.int (0 : Int32)), .val (.int (2 : Int32)), .val (.int (1 : Int32))]) rfl kk_) ?_
      show Go p.tables e below (T.setTop (mkF m 145 #[.val (.int p0), .val (.int p1), .val (.int p2), .val (.int p3), .val (.int p4), .val (.int p5), .val (.ref b1), .val (.int (1 : Int32)), .val (.int (2 : Int32)), .val (.int (0 : Int32)), .val (.int (2 : Int32)), .val (.int (1 : Int32))] [])) _
      refine Go.by (fun tt_ kk_ => XS.iload X.here hx rfl (hb hby at_145) rfl kk_) ?_
      show Go p.tables e below (T.setTop (mkF m 147 #[.val (.int p0), .val (.int p1), .val (.int p2), .val (.int p3), .val (.int p4), .val (.int p5), .val (.ref b1), .val (.int (1 : Int32)), .val (.int (2 : Int32)), .val (.int (0 : Int32)), .val (.int (2 : Int32)), .val (.int (1 : Int32))] [(.int (1 : Int32))])) _
      refine Go.by (fun tt_ kk_ => XS.ifNo X.here hx rfl (hb hby at_147) rfl ((if0 _ _).trans (feq (by decide : ¬ ((1 : Int32) = (0 : Int32)))).1) kk_) ?_
      show Go p.tables e below (T.setTop (mkF m 150 #[.val (.int p0), .val (.int p1), .val (.int p2), .val (.int p3), .val (.int p4), .val (.int p5), .val (.ref b1), .val (.int (1 : Int32)), .val (.int (2 : Int32)), .val (.int (0 : Int32)), .val (.int (2 : Int32)), .val (.int (1 : Int32))] [])) _
      refine Go.by (fun tt_ kk_ => XS.iload X.here hx rfl (hb hby at_150) rfl kk_) ?_
      show Go p.tables e below (T.setTop (mkF m 152 #[.val (.int p0), .val (.int p1), .val (.int p2), .val (.int p3), .val (.int p4), .val (.int p5), .val (.ref b1), .val (.int (1 : Int32)), .val (.int (2 : Int32)), .val (.int (0 : Int32)), .val (.int (2 : Int32)), .val (.int (1 : Int32))] [(.int (0 : Int32))])) _
      refine Go.by (fun tt_ kk_ => XS.iload X.here hx rfl (hb hby at_152) rfl kk_) ?_
      show Go p.tables e below (T.setTop (mkF m 154 #[.val (.int p0), .val (.int p1), .val (.int p2), .val (.int p3), .val (.int p4), .val (.int p5), .val (.ref b1), .val (.int (1 : Int32)), .val (.int (2 : Int32)), .val (.int (0 : Int32)), .val (.int (2 : Int32)), .val (.int (1 : Int32))] [(.int (2 : Int32)), (.int (0 : Int32))])) _
      refine Go.by (fun tt_ kk_ => XS.ifYes X.here hx rfl (pc0 := 154) (pc' := 161) rfl (hb hby at_154) rfl ((if0 _ _).trans (feq (by decide : ¬ ((2 : Int32) = (0 : Int32)))).2) (by decide) (by decide) kk_) ?_
      show Go p.tables e below (T.setTop (mkF m 161 #[.val (.int p0), .val (.int p1), .val (.int p2), .val (.int p3), .val (.int p4), .val (.int p5), .val (.ref b1), .val (.int (1 : Int32)), .val (.int (2 : Int32)), .val (.int (0 : Int32)), .val (.int (2 : Int32)), .val (.int (1 : Int32))] [(.int (0 : Int32))])) _
      refine Go.by (fun tt_ kk_ => XS.iconst X.here hx rfl (hb hby at_161) kk_) ?_
      show Go p.tables e below (T.setTop (mkF m 162 #[.val (.int p0), .val (.int p1), .val (.int p2), .val (.int p3), .val (.int p4), .val (.int p5), .val (.ref b1), .val (.int (1 : Int32)), .val (.int (2 : Int32)), .val (.int (0 : Int32)), .val (.int (2 : Int32)), .val (.int (1 : Int32))] [(.int (0 : Int32)), (.int (0 : Int32))])) _
      refine Go.by (fun tt_ kk_ => XS.icmpNo X.here hx rfl (hb hby at_162) rfl (teq (rfl : (0 : Int32) = (0 : Int32))).2 kk_) ?_
      show Go p.tables e below (T.setTop (mkF m 165 #[.val (.int p0), .val (.int p1), .val (.int p2), .val (.int p3), .val (.int p4), .val (.int p5), .val (.ref b1), .val (.int (1 : Int32)), .val (.int (2 : Int32)), .val (.int (0 : Int32)), .val (.int (2 : Int32)), .val (.int (1 : Int32))] [])) _
      refine Go.by (fun tt_ kk_ => XS.iload X.here hx rfl (hb hby at_165) rfl kk_) ?_
      show Go p.tables e below (T.setTop (mkF m 167 #[.val (.int p0), .val (.int p1), .val (.int p2), .val (.int p3), .val (.int p4), .val (.int p5), .val (.ref b1), .val (.int (1 : Int32)), .val (.int (2 : Int32)), .val (.int (0 : Int32)), .val (.int (2 : Int32)), .val (.int (1 : Int32))] [(.int (1 : Int32))])) _
      refine Go.by (fun tt_ kk_ => XS.iload X.here hx rfl (hb hby at_167) rfl kk_) ?_
      show Go p.tables e below (T.setTop (mkF m 169 #[.val (.int p0), .val (.int p1), .val (.int p2), .val (.int p3), .val (.int p4), .val (.int p5), .val (.ref b1), .val (.int (1 : Int32)), .val (.int (2 : Int32)), .val (.int (0 : Int32)), .val (.int (2 : Int32)), .val (.int (1 : Int32))] [(.int (2 : Int32)), (.int (1 : Int32))])) _
      refine Go.by (fun tt_ kk_ => XS.iload X.here hx rfl (hb hby at_169) rfl kk_) ?_
      show Go p.tables e below (T.setTop (mkF m 171 #[.val (.int p0), .val (.int p1), .val (.int p2), .val (.int p3), .val (.int p4), .val (.int p5), .val (.ref b1), .val (.int (1 : Int32)), .val (.int (2 : Int32)), .val (.int (0 : Int32)), .val (.int (2 : Int32)), .val (.int (1 : Int32))] [(.int (2 : Int32)), (.int (2 : Int32)), (.int (1 : Int32))])) _
      refine Go.by (fun tt_ kk_ => XS.icmpNo X.here hx rfl (hb hby at_171) rfl (teq (rfl : (2 : Int32) = (2 : Int32))).2 kk_) ?_
      show Go p.tables e below (T.setTop (mkF m 174 #[.val (.int p0), .val (.int p1), .val (.int p2), .val (.int p3), .val (.int p4), .val (.int p5), .val (.ref b1), .val (.int (1 : Int32)), .val (.int (2 : Int32)), .val (.int (0 : Int32)), .val (.int (2 : Int32)), .val (.int (1 : Int32))] [(.int (1 : Int32))])) _
      refine Go.by (fun tt_ kk_ => XS.iconst X.here hx rfl (hb hby at_174) kk_) ?_
      show Go p.tables e below (T.setTop (mkF m 175 #[.val (.int p0), .val (.int p1), .val (.int p2), .val (.int p3), .val (.int p4), .val (.int p5), .val (.ref b1), .val (.int (1 : Int32)), .val (.int (2 : Int32)), .val (.int (0 : Int32)), .val (.int (2 : Int32)), .val (.int (1 : Int32))] [(.int (1 : Int32)), (.int (1 : Int32))])) _
      refine Go.by (fun tt_ kk_ => XS.goto X.here hx rfl (pc0 := 175) (pc' := 179) rfl (hb hby at_175) (by decide) (by decide) kk_) ?_
      show Go p.tables e below (T.setTop (mkF m 179 #[.val (.int p0), .val (.int p1), .val (.int p2), .val (.int p3), .val (.int p4), .val (.int p5), .val (.ref b1), .val (.int (1 : Int32)), .val (.int (2 : Int32)), .val (.int (0 : Int32)), .val (.int (2 : Int32)), .val (.int (1 : Int32))] [(.int (1 : Int32)), (.int (1 : Int32))])) _
      refine Go.by (fun tt_ kk_ => XS.icmpNo X.here hx rfl (hb hby at_179) rfl (teq (rfl : (1 : Int32) = (1 : Int32))).2 kk_) ?_
      show Go p.tables e below (T.setTop (mkF m 182 #[.val (.int p0), .val (.int p1), .val (.int p2), .val (.int p3), .val (.int p4), .val (.int p5), .val (.ref b1), .val (.int (1 : Int32)), .val (.int (2 : Int32)), .val (.int (0 : Int32)), .val (.int (2 : Int32)), .val (.int (1 : Int32))] [])) _
      refine Go.by (fun tt_ kk_ => XS.iconst X.here hx rfl (hb hby at_182) kk_) ?_
      show Go p.tables e below (T.setTop (mkF m 183 #[.val (.int p0), .val (.int p1), .val (.int p2), .val (.int p3), .val (.int p4), .val (.int p5), .val (.ref b1), .val (.int (1 : Int32)), .val (.int (2 : Int32)), .val (.int (0 : Int32)), .val (.int (2 : Int32)), .val (.int (1 : Int32))] [(.int (1 : Int32))])) _
      refine Go.by (fun tt_ kk_ => XS.goto X.here hx rfl (pc0 := 183) (pc' := 187) rfl (hb hby at_183) (by decide) (by decide) kk_) ?_
      show Go p.tables e below (T.setTop (mkF m 187 #[.val (.int p0), .val (.int p1), .val (.int p2), .val (.int p3), .val (.int p4), .val (.int p5), .val (.ref b1), .val (.int (1 : Int32)), .val (.int (2 : Int32)), .val (.int (0 : Int32)), .val (.int (2 : Int32)), .val (.int (1 : Int32))] [(.int (1 : Int32))])) _
      exact Go.done X  (v := some (.int (1 : Int32))) (fun h => by rw [Bd.returns] at h; cases h) Bd.notSynchronized (fun fs hr => retN X hx (z := (1 : Int32)) (t := .boolean) Bd.returns (by simp) (hb hby at_187) hr) (by rw [eT]; exact ⟨rfl, N⟩) (by decide) (by decide)
    · rw [hcs]
      show Go p.tables e below (T.setTop (mkF m 95 #[.val (.int p0), .val (.int p1), .val (.int p2), .val (.int p3), .val (.int p4), .val (.int p5), .val (.ref b1), .val (.int (1 : Int32)), .val (.int (2 : Int32)), .val (.int (0 : Int32)), .unset, .unset] [(.int (3 : Int32))])) _
      refine Go.by (fun tt_ kk_ => XS.iload X.here hx rfl (hb hby at_95) rfl kk_) ?_
      show Go p.tables e below (T.setTop (mkF m 97 #[.val (.int p0), .val (.int p1), .val (.int p2), .val (.int p3), .val (.int p4), .val (.int p5), .val (.ref b1), .val (.int (1 : Int32)), .val (.int (2 : Int32)), .val (.int (0 : Int32)), .unset, .unset] [(.int (2 : Int32)), (.int (3 : Int32))])) _
      have hz : (if (2 : Int32) < (3 : Int32) then (2 : Int32) else (3 : Int32)) = (2 : Int32) := by decide
      obtain ⟨_, _, ⟨T, L_, k_, n_⟩, -, X, ⟨Lc_, hQ, l_, y_, z_⟩, st⟩ := Jvm.LawKit.callS X hx (y := (⟨"java/lang/Math", "min", "(II)I"⟩ : MethodName)) hown (mvT hZ (hw _ (List.mem_of_getElem? (i := 52) rfl))) (mvT hZ (hw _ (List.mem_of_getElem? (i := 36) rfl))) (mvT hZ (hw _ (List.mem_of_getElem? (i := 11) rfl))) (mvT hZ (hw _ (List.mem_of_getElem? (i := 37) rfl))) (by decide) (backOf (W := 0) (rm7 l Z a0 hw [] (3 : Int32) (2 : Int32) h33 n0 (Nat.le_trans Z0 K.1) ) hZ (hw _ (List.mem_of_getElem? (i := 37) rfl)) (hw _ (List.mem_of_getElem? (i := 11) rfl)) (by decide) (by decide)) (g := (mkF m 97 #[.val (.int p0), .val (.int p1), .val (.int p2), .val (.int p3), .val (.int p4), .val (.int p5), .val (.ref b1), .val (.int (1 : Int32)), .val (.int (2 : Int32)), .val (.int (0 : Int32)), .unset, .unset] [(.int (2 : Int32)), (.int (3 : Int32))])) rfl (by rw [hml]; rfl) (argsL := [(.int (3 : Int32)), (.int (2 : Int32))]) (rest := []) (lenOf pd_3 rfl) rfl (by show 2 * 0 + _ ≤ _; exact Nat.le_of_eq rfl) (hb hby at_97) (fun _ _ => ⟨rfl, eT, (by decide : 7 + 0 ≤ _), (by decide : 27 + 0 ≤ _)⟩)
      dsimp only [Pt.U, Pt.locs, Pt.cells, Pt.slots] at X l_ y_ z_ st hQ
      subst l_ y_ z_
      obtain ⟨e_v, Nq, eh⟩ := hQ
      rw [hz] at e_v
      subst e_v
      have N := Fr.app N Nq
      have eT := eh
      refine Go.by st ?_
      show Go p.tables e below (T.setTop (mkF m 100 #[.val (.int p0), .val (.int p1), .val (.int p2), .val (.int p3), .val (.int p4), .val (.int p5), .val (.ref b1), .val (.int (1 : Int32)), .val (.int (2 : Int32)), .val (.int (0 : Int32)), .unset, .unset] [(.int (2 : Int32))])) _
      refine Go.by (fun tt_ kk_ => XS.istore X.here hx rfl (hb hby at_100) rfl (l' := #[.val (.int p0), .val (.int p1), .val (.int p2), .val (.int p3), .val (.int p4), .val (.int p5), .val (.ref b1), .val (.int (1 : Int32)), .val (.int (2 : Int32)), .val (.int (0 : Int32)), .val (.int (2 : Int32)), .unset]) rfl kk_) ?_
      show Go p.tables e below (T.setTop (mkF m 102 #[.val (.int p0), .val (.int p1), .val (.int p2), .val (.int p3), .val (.int p4), .val (.int p5), .val (.ref b1), .val (.int (1 : Int32)), .val (.int (2 : Int32)), .val (.int (0 : Int32)), .val (.int (2 : Int32)), .unset] [])) _
      refine Go.by (fun tt_ kk_ => XS.iload X.here hx rfl (hb hby at_102) rfl kk_) ?_
      show Go p.tables e below (T.setTop (mkF m 104 #[.val (.int p0), .val (.int p1), .val (.int p2), .val (.int p3), .val (.int p4), .val (.int p5), .val (.ref b1), .val (.int (1 : Int32)), .val (.int (2 : Int32)), .val (.int (0 : Int32)), .val (.int (2 : Int32)), .unset] [(.int (2 : Int32))])) _
      refine Go.by (fun tt_ kk_ => XS.iconst X.here hx rfl (hb hby at_104) kk_) ?_
      show Go p.tables e below (T.setTop (mkF m 105 #[.val (.int p0), .val (.int p1), .val (.int p2), .val (.int p3), .val (.int p4), .val (.int p5), .val (.ref b1), .val (.int (1 : Int32)), .val (.int (2 : Int32)), .val (.int (0 : Int32)), .val (.int (2 : Int32)), .unset] [(.int (1 : Int32)), (.int (2 : Int32))])) _
      refine Go.by (fun tt_ kk_ => XS.icmpNo X.here hx rfl (hb hby at_105) rfl (flt (by decide : ¬ ((2 : Int32) < (1 : Int32)))).1 kk_) ?_
      show Go p.tables e below (T.setTop (mkF m 108 #[.val (.int p0), .val (.int p1), .val (.int p2), .val (.int p3), .val (.int p4), .val (.int p5), .val (.ref b1), .val (.int (1 : Int32)), .val (.int (2 : Int32)), .val (.int (0 : Int32)), .val (.int (2 : Int32)), .unset] [])) _
      refine Go.by (fun tt_ kk_ => XS.aload X.here hx rfl (hb hby at_108) rfl rfl kk_) ?_
      show Go p.tables e below (T.setTop (mkF m 110 #[.val (.int p0), .val (.int p1), .val (.int p2), .val (.int p3), .val (.int p4), .val (.int p5), .val (.ref b1), .val (.int (1 : Int32)), .val (.int (2 : Int32)), .val (.int (0 : Int32)), .val (.int (2 : Int32)), .unset] [(.ref b1)])) _
      obtain ⟨cq_, kq_, qa_, qb_, qc_⟩ := isOf hZ eT E_b1
      obtain ⟨_, _, ⟨T, L_, k_, n_⟩, -, X, ⟨Lc_, hQ, l_, y_, z_⟩, st⟩ := X.virtualBack hx (y := (⟨"com/example/mode_choice_loop/modechoiceloop/simulation/TimeHeap", "removeFirst", "()I"⟩ : MethodName)) (z := (⟨"com/example/mode_choice_loop/modechoiceloop/simulation/TimeHeap", "removeFirst", "()I"⟩ : MethodName)) hown (mvT hZ (hw _ (List.mem_of_getElem? (i := 53) rfl))) (mvT hZ (hw _ (List.mem_of_getElem? (i := 54) rfl))) (notFace_of_selects (args := #[]) (mvT hZ (hw _ (List.mem_of_getElem? (i := 56) rfl)))) (mvT hZ (hw _ (List.mem_of_getElem? (i := 56) rfl))) (mvT hZ (hw _ (List.mem_of_getElem? (i := 55) rfl))) (by decide) (backOf (W := 0) (rm11_2 l Z a0 hw [] b1 h33 n0 (Nat.le_trans Z0 K.1) TH) hZ (hw _ (List.mem_of_getElem? (i := 57) rfl)) (hw _ (List.mem_of_getElem? (i := 2) rfl)) (by decide) (by decide)) qa_ qc_ (g := (mkF m 110 #[.val (.int p0), .val (.int p1), .val (.int p2), .val (.int p3), .val (.int p4), .val (.int p5), .val (.ref b1), .val (.int (1 : Int32)), .val (.int (2 : Int32)), .val (.int (0 : Int32)), .val (.int (2 : Int32)), .unset] [(.ref b1)])) rfl (by rw [hml]; rfl) (Steps.refl _) (argsL := []) (rest := []) (lenOf pd_12 rfl) rfl (by show 2 * 0 + _ ≤ _; exact Nat.le_of_eq rfl) (hb hby at_110) (fun _ _ => ⟨rfl, eT, (by decide : 7 + 0 ≤ _), (by decide : 27 + 0 ≤ _)⟩)
      dsimp only [Pt.U, Pt.locs, Pt.cells, Pt.slots] at X l_ y_ z_ st hQ
      subst l_ y_ z_
      obtain ⟨h49, eT⟩ : ∃ z, T.heap = z := ⟨_, rfl⟩
      rw [eT] at hQ
      obtain ⟨r48, rfl, Nq, Kq, TH⟩ := hQ
      have N := Fr.app N Nq
      have K := And.intro (Nat.le_trans K.1 Kq.1) trivial
      have E_b1 := TH.1
      refine Go.tr st ?_
      show Go p.tables e below (T.setTop (mkF m 113 #[.val (.int p0), .val (.int p1), .val (.int p2), .val (.int p3), .val (.int p4), .val (.int p5), .val (.ref b1), .val (.int (1 : Int32)), .val (.int (2 : Int32)), .val (.int (0 : Int32)), .val (.int (2 : Int32)), .unset] [(.int r48)])) _
      refine Go.by (fun tt_ kk_ => XS.pop X.here hx rfl (hb hby at_113) rfl rfl kk_) ?_
      show Go p.tables e below (T.setTop (mkF m 114 #[.val (.int p0), .val (.int p1), .val (.int p2), .val (.int p3), .val (.int p4), .val (.int p5), .val (.ref b1), .val (.int (1 : Int32)), .val (.int (2 : Int32)), .val (.int (0 : Int32)), .val (.int (2 : Int32)), .unset] [])) _
      refine Go.by (fun tt_ kk_ => XS.iload X.here hx rfl (hb hby at_114) rfl kk_) ?_
      show Go p.tables e below (T.setTop (mkF m 116 #[.val (.int p0), .val (.int p1), .val (.int p2), .val (.int p3), .val (.int p4), .val (.int p5), .val (.ref b1), .val (.int (1 : Int32)), .val (.int (2 : Int32)), .val (.int (0 : Int32)), .val (.int (2 : Int32)), .unset] [(.int (2 : Int32))])) _
      refine Go.by (fun tt_ kk_ => XS.iconst X.here hx rfl (hb hby at_116) kk_) ?_
      show Go p.tables e below (T.setTop (mkF m 117 #[.val (.int p0), .val (.int p1), .val (.int p2), .val (.int p3), .val (.int p4), .val (.int p5), .val (.ref b1), .val (.int (1 : Int32)), .val (.int (2 : Int32)), .val (.int (0 : Int32)), .val (.int (2 : Int32)), .unset] [(.int (2 : Int32)), (.int (2 : Int32))])) _
      refine Go.by (fun tt_ kk_ => XS.icmpNo X.here hx rfl (hb hby at_117) rfl (flt (by decide : ¬ ((2 : Int32) < (2 : Int32)))).1 kk_) ?_
      show Go p.tables e below (T.setTop (mkF m 120 #[.val (.int p0), .val (.int p1), .val (.int p2), .val (.int p3), .val (.int p4), .val (.int p5), .val (.ref b1), .val (.int (1 : Int32)), .val (.int (2 : Int32)), .val (.int (0 : Int32)), .val (.int (2 : Int32)), .unset] [])) _
      refine Go.by (fun tt_ kk_ => XS.aload X.here hx rfl (hb hby at_120) rfl rfl kk_) ?_
      show Go p.tables e below (T.setTop (mkF m 122 #[.val (.int p0), .val (.int p1), .val (.int p2), .val (.int p3), .val (.int p4), .val (.int p5), .val (.ref b1), .val (.int (1 : Int32)), .val (.int (2 : Int32)), .val (.int (0 : Int32)), .val (.int (2 : Int32)), .unset] [(.ref b1)])) _
      obtain ⟨cq_, kq_, qa_, qb_, qc_⟩ := isOf hZ eT E_b1
      obtain ⟨_, _, ⟨T, L_, k_, n_⟩, -, X, ⟨Lc_, hQ, l_, y_, z_⟩, st⟩ := X.virtualBack hx (y := (⟨"com/example/mode_choice_loop/modechoiceloop/simulation/TimeHeap", "removeFirst", "()I"⟩ : MethodName)) (z := (⟨"com/example/mode_choice_loop/modechoiceloop/simulation/TimeHeap", "removeFirst", "()I"⟩ : MethodName)) hown (mvT hZ (hw _ (List.mem_of_getElem? (i := 53) rfl))) (mvT hZ (hw _ (List.mem_of_getElem? (i := 54) rfl))) (notFace_of_selects (args := #[]) (mvT hZ (hw _ (List.mem_of_getElem? (i := 56) rfl)))) (mvT hZ (hw _ (List.mem_of_getElem? (i := 56) rfl))) (mvT hZ (hw _ (List.mem_of_getElem? (i := 55) rfl))) (by decide) (backOf (W := 0) (rm11_1 l Z a0 hw [] b1 h49 n0 (Nat.le_trans Z0 K.1) TH) hZ (hw _ (List.mem_of_getElem? (i := 57) rfl)) (hw _ (List.mem_of_getElem? (i := 2) rfl)) (by decide) (by decide)) qa_ qc_ (g := (mkF m 122 #[.val (.int p0), .val (.int p1), .val (.int p2), .val (.int p3), .val (.int p4), .val (.int p5), .val (.ref b1), .val (.int (1 : Int32)), .val (.int (2 : Int32)), .val (.int (0 : Int32)), .val (.int (2 : Int32)), .unset] [(.ref b1)])) rfl (by rw [hml]; rfl) (Steps.refl _) (argsL := []) (rest := []) (lenOf pd_12 rfl) rfl (by show 2 * 0 + _ ≤ _; exact Nat.le_of_eq rfl) (hb hby at_122) (fun _ _ => ⟨rfl, eT, (by decide : 7 + 0 ≤ _), (by decide : 27 + 0 ≤ _)⟩)
      dsimp only [Pt.U, Pt.locs, Pt.cells, Pt.slots] at X l_ y_ z_ st hQ
      subst l_ y_ z_
      obtain ⟨h51, eT⟩ : ∃ z, T.heap = z := ⟨_, rfl⟩
      rw [eT] at hQ
      obtain ⟨r50, rfl, Nq, Kq, TH⟩ := hQ
      have N := Fr.app N Nq
      have K := And.intro (Nat.le_trans K.1 Kq.1) trivial
      have E_b1 := TH.1
      refine Go.tr st ?_
      show Go p.tables e below (T.setTop (mkF m 125 #[.val (.int p0), .val (.int p1), .val (.int p2), .val (.int p3), .val (.int p4), .val (.int p5), .val (.ref b1), .val (.int (1 : Int32)), .val (.int (2 : Int32)), .val (.int (0 : Int32)), .val (.int (2 : Int32)), .unset] [(.int r50)])) _
      refine Go.by (fun tt_ kk_ => XS.pop X.here hx rfl (hb hby at_125) rfl rfl kk_) ?_
      show Go p.tables e below (T.setTop (mkF m 126 #[.val (.int p0), .val (.int p1), .val (.int p2), .val (.int p3), .val (.int p4), .val (.int p5), .val (.ref b1), .val (.int (1 : Int32)), .val (.int (2 : Int32)), .val (.int (0 : Int32)), .val (.int (2 : Int32)), .unset] [])) _
      refine Go.by (fun tt_ kk_ => XS.iload X.here hx rfl (hb hby at_126) rfl kk_) ?_
      show Go p.tables e below (T.setTop (mkF m 128 #[.val (.int p0), .val (.int p1), .val (.int p2), .val (.int p3), .val (.int p4), .val (.int p5), .val (.ref b1), .val (.int (1 : Int32)), .val (.int (2 : Int32)), .val (.int (0 : Int32)), .val (.int (2 : Int32)), .unset] [(.int (2 : Int32))])) _
      refine Go.by (fun tt_ kk_ => XS.iconst X.here hx rfl (hb hby at_128) kk_) ?_
      show Go p.tables e below (T.setTop (mkF m 129 #[.val (.int p0), .val (.int p1), .val (.int p2), .val (.int p3), .val (.int p4), .val (.int p5), .val (.ref b1), .val (.int (1 : Int32)), .val (.int (2 : Int32)), .val (.int (0 : Int32)), .val (.int (2 : Int32)), .unset] [(.int (3 : Int32)), (.int (2 : Int32))])) _
      refine Go.by (fun tt_ kk_ => XS.icmpYes X.here hx rfl (pc0 := 129) (pc' := 138) rfl (hb hby at_129) rfl (tlt (by decide : (2 : Int32) < (3 : Int32))).1 (by decide) (by decide) kk_) ?_
      show Go p.tables e below (T.setTop (mkF m 138 #[.val (.int p0), .val (.int p1), .val (.int p2), .val (.int p3), .val (.int p4), .val (.int p5), .val (.ref b1), .val (.int (1 : Int32)), .val (.int (2 : Int32)), .val (.int (0 : Int32)), .val (.int (2 : Int32)), .unset] [])) _
      refine Go.by (fun tt_ kk_ => XS.aload X.here hx rfl (hb hby at_138) rfl rfl kk_) ?_
      show Go p.tables e below (T.setTop (mkF m 140 #[.val (.int p0), .val (.int p1), .val (.int p2), .val (.int p3), .val (.int p4), .val (.int p5), .val (.ref b1), .val (.int (1 : Int32)), .val (.int (2 : Int32)), .val (.int (0 : Int32)), .val (.int (2 : Int32)), .unset] [(.ref b1)])) _
      have hz : (if (0 : Int32) = 0 then (1 : Int32) else 0) = (1 : Int32) := by decide
      obtain ⟨cq_, kq_, qa_, qb_, qc_⟩ := isOf hZ eT E_b1
      obtain ⟨_, _, ⟨T, L_, k_, n_⟩, -, X, ⟨Lc_, hQ, l_, y_, z_⟩, st⟩ := X.virtualBack hx (y := (⟨"com/example/mode_choice_loop/modechoiceloop/simulation/TimeHeap", "isEmpty", "()Z"⟩ : MethodName)) (z := (⟨"com/example/mode_choice_loop/modechoiceloop/simulation/TimeHeap", "isEmpty", "()Z"⟩ : MethodName)) hown (mvT hZ (hw _ (List.mem_of_getElem? (i := 19) rfl))) (mvT hZ (hw _ (List.mem_of_getElem? (i := 20) rfl))) (notFace_of_selects (args := #[]) (mvT hZ (hw _ (List.mem_of_getElem? (i := 22) rfl)))) (mvT hZ (hw _ (List.mem_of_getElem? (i := 22) rfl))) (mvT hZ (hw _ (List.mem_of_getElem? (i := 21) rfl))) (by decide) (backOf (W := 0) (rm4 l Z a0 hw [] b1 (0 : Int32) h51 n0 (Nat.le_trans Z0 K.1) TH) hZ (hw _ (List.mem_of_getElem? (i := 23) rfl)) (hw _ (List.mem_of_getElem? (i := 2) rfl)) (by decide) (by decide)) qa_ qc_ (g := (mkF m 140 #[.val (.int p0), .val (.int p1), .val (.int p2), .val (.int p3), .val (.int p4), .val (.int p5), .val (.ref b1), .val (.int (1 : Int32)), .val (.int (2 : Int32)), .val (.int (0 : Int32)), .val (.int (2 : Int32)), .unset] [(.ref b1)])) rfl (by rw [hml]; rfl) (Steps.refl _) (argsL := []) (rest := []) (lenOf pd_10 rfl) rfl (by show 2 * 0 + _ ≤ _; exact Nat.le_of_eq rfl) (hb hby at_140) (fun _ _ => ⟨rfl, eT, (by decide : 7 + 0 ≤ _), (by decide : 27 + 0 ≤ _)⟩)
      dsimp only [Pt.U, Pt.locs, Pt.cells, Pt.slots] at X l_ y_ z_ st hQ
      subst l_ y_ z_
      obtain ⟨e_v, Nq, eh⟩ := hQ
      rw [hz] at e_v
      subst e_v
      have N := Fr.app N Nq
      have eT := eh
      refine Go.tr st ?_
      show Go p.tables e below (T.setTop (mkF m 143 #[.val (.int p0), .val (.int p1), .val (.int p2), .val (.int p3), .val (.int p4), .val (.int p5), .val (.ref b1), .val (.int (1 : Int32)), .val (.int (2 : Int32)), .val (.int (0 : Int32)), .val (.int (2 : Int32)), .unset] [(.int (1 : Int32))])) _
      refine Go.by (fun tt_ kk_ => XS.istore X.here hx rfl (hb hby at_143) rfl (l' := #[.val (.int p0), .val (.int p1), .val (.int p2), .val (.int p3), .val (.int p4), .val (.int p5), .val (.ref b1), .val (.int (1 : Int32)), .val (.int (2 : Int32)), .val (.int (0 : Int32)), .val (.int (2 : Int32)), .val (.int (1 : Int32))]) rfl kk_) ?_
      show Go p.tables e below (T.setTop (mkF m 145 #[.val (.int p0), .val (.int p1), .val (.int p2), .val (.int p3), .val (.int p4), .val (.int p5), .val (.ref b1), .val (.int (1 : Int32)), .val (.int (2 : Int32)), .val (.int (0 : Int32)), .val (.int (2 : Int32)), .val (.int (1 : Int32))] [])) _
      refine Go.by (fun tt_ kk_ => XS.iload X.here hx rfl (hb hby at_145) rfl kk_) ?_
      show Go p.tables e below (T.setTop (mkF m 147 #[.val (.int p0), .val (.int p1), .val (.int p2), .val (.int p3), .val (.int p4), .val (.int p5), .val (.ref b1), .val (.int (1 : Int32)), .val (.int (2 : Int32)), .val (.int (0 : Int32)), .val (.int (2 : Int32)), .val (.int (1 : Int32))] [(.int (1 : Int32))])) _
      refine Go.by (fun tt_ kk_ => XS.ifNo X.here hx rfl (hb hby at_147) rfl ((if0 _ _).trans (feq (by decide : ¬ ((1 : Int32) = (0 : Int32)))).1) kk_) ?_
      show Go p.tables e below (T.setTop (mkF m 150 #[.val (.int p0), .val (.int p1), .val (.int p2), .val (.int p3), .val (.int p4), .val (.int p5), .val (.ref b1), .val (.int (1 : Int32)), .val (.int (2 : Int32)), .val (.int (0 : Int32)), .val (.int (2 : Int32)), .val (.int (1 : Int32))] [])) _
      refine Go.by (fun tt_ kk_ => XS.iload X.here hx rfl (hb hby at_150) rfl kk_) ?_
      show Go p.tables e below (T.setTop (mkF m 152 #[.val (.int p0), .val (.int p1), .val (.int p2), .val (.int p3), .val (.int p4), .val (.int p5), .val (.ref b1), .val (.int (1 : Int32)), .val (.int (2 : Int32)), .val (.int (0 : Int32)), .val (.int (2 : Int32)), .val (.int (1 : Int32))] [(.int (0 : Int32))])) _
      refine Go.by (fun tt_ kk_ => XS.iload X.here hx rfl (hb hby at_152) rfl kk_) ?_
      show Go p.tables e below (T.setTop (mkF m 154 #[.val (.int p0), .val (.int p1), .val (.int p2), .val (.int p3), .val (.int p4), .val (.int p5), .val (.ref b1), .val (.int (1 : Int32)), .val (.int (2 : Int32)), .val (.int (0 : Int32)), .val (.int (2 : Int32)), .val (.int (1 : Int32))] [(.int (2 : Int32)), (.int (0 : Int32))])) _
      refine Go.by (fun tt_ kk_ => XS.ifYes X.here hx rfl (pc0 := 154) (pc' := 161) rfl (hb hby at_154) rfl ((if0 _ _).trans (feq (by decide : ¬ ((2 : Int32) = (0 : Int32)))).2) (by decide) (by decide) kk_) ?_
      show Go p.tables e below (T.setTop (mkF m 161 #[.val (.int p0), .val (.int p1), .val (.int p2), .val (.int p3), .val (.int p4), .val (.int p5), .val (.ref b1), .val (.int (1 : Int32)), .val (.int (2 : Int32)), .val (.int (0 : Int32)), .val (.int (2 : Int32)), .val (.int (1 : Int32))] [(.int (0 : Int32))])) _
      refine Go.by (fun tt_ kk_ => XS.iconst X.here hx rfl (hb hby at_161) kk_) ?_
      show Go p.tables e below (T.setTop (mkF m 162 #[.val (.int p0), .val (.int p1), .val (.int p2), .val (.int p3), .val (.int p4), .val (.int p5), .val (.ref b1), .val (.int (1 : Int32)), .val (.int (2 : Int32)), .val (.int (0 : Int32)), .val (.int (2 : Int32)), .val (.int (1 : Int32))] [(.int (0 : Int32)), (.int (0 : Int32))])) _
      refine Go.by (fun tt_ kk_ => XS.icmpNo X.here hx rfl (hb hby at_162) rfl (teq (rfl : (0 : Int32) = (0 : Int32))).2 kk_) ?_
      show Go p.tables e below (T.setTop (mkF m 165 #[.val (.int p0), .val (.int p1), .val (.int p2), .val (.int p3), .val (.int p4), .val (.int p5), .val (.ref b1), .val (.int (1 : Int32)), .val (.int (2 : Int32)), .val (.int (0 : Int32)), .val (.int (2 : Int32)), .val (.int (1 : Int32))] [])) _
      refine Go.by (fun tt_ kk_ => XS.iload X.here hx rfl (hb hby at_165) rfl kk_) ?_
      show Go p.tables e below (T.setTop (mkF m 167 #[.val (.int p0), .val (.int p1), .val (.int p2), .val (.int p3), .val (.int p4), .val (.int p5), .val (.ref b1), .val (.int (1 : Int32)), .val (.int (2 : Int32)), .val (.int (0 : Int32)), .val (.int (2 : Int32)), .val (.int (1 : Int32))] [(.int (1 : Int32))])) _
      refine Go.by (fun tt_ kk_ => XS.iload X.here hx rfl (hb hby at_167) rfl kk_) ?_
      show Go p.tables e below (T.setTop (mkF m 169 #[.val (.int p0), .val (.int p1), .val (.int p2), .val (.int p3), .val (.int p4), .val (.int p5), .val (.ref b1), .val (.int (1 : Int32)), .val (.int (2 : Int32)), .val (.int (0 : Int32)), .val (.int (2 : Int32)), .val (.int (1 : Int32))] [(.int (2 : Int32)), (.int (1 : Int32))])) _
      refine Go.by (fun tt_ kk_ => XS.iload X.here hx rfl (hb hby at_169) rfl kk_) ?_
      show Go p.tables e below (T.setTop (mkF m 171 #[.val (.int p0), .val (.int p1), .val (.int p2), .val (.int p3), .val (.int p4), .val (.int p5), .val (.ref b1), .val (.int (1 : Int32)), .val (.int (2 : Int32)), .val (.int (0 : Int32)), .val (.int (2 : Int32)), .val (.int (1 : Int32))] [(.int (2 : Int32)), (.int (2 : Int32)), (.int (1 : Int32))])) _
      refine Go.by (fun tt_ kk_ => XS.icmpNo X.here hx rfl (hb hby at_171) rfl (teq (rfl : (2 : Int32) = (2 : Int32))).2 kk_) ?_
      show Go p.tables e below (T.setTop (mkF m 174 #[.val (.int p0), .val (.int p1), .val (.int p2), .val (.int p3), .val (.int p4), .val (.int p5), .val (.ref b1), .val (.int (1 : Int32)), .val (.int (2 : Int32)), .val (.int (0 : Int32)), .val (.int (2 : Int32)), .val (.int (1 : Int32))] [(.int (1 : Int32))])) _
      refine Go.by (fun tt_ kk_ => XS.iconst X.here hx rfl (hb hby at_174) kk_) ?_
      show Go p.tables e below (T.setTop (mkF m 175 #[.val (.int p0), .val (.int p1), .val (.int p2), .val (.int p3), .val (.int p4), .val (.int p5), .val (.ref b1), .val (.int (1 : Int32)), .val (.int (2 : Int32)), .val (.int (0 : Int32)), .val (.int (2 : Int32)), .val (.int (1 : Int32))] [(.int (1 : Int32)), (.int (1 : Int32))])) _
      refine Go.by (fun tt_ kk_ => XS.goto X.here hx rfl (pc0 := 175) (pc' := 179) rfl (hb hby at_175) (by decide) (by decide) kk_) ?_
      show Go p.tables e below (T.setTop (mkF m 179 #[.val (.int p0), .val (.int p1), .val (.int p2), .val (.int p3), .val (.int p4), .val (.int p5), .val (.ref b1), .val (.int (1 : Int32)), .val (.int (2 : Int32)), .val (.int (0 : Int32)), .val (.int (2 : Int32)), .val (.int (1 : Int32))] [(.int (1 : Int32)), (.int (1 : Int32))])) _
      refine Go.by (fun tt_ kk_ => XS.icmpNo X.here hx rfl (hb hby at_179) rfl (teq (rfl : (1 : Int32) = (1 : Int32))).2 kk_) ?_
      show Go p.tables e below (T.setTop (mkF m 182 #[.val (.int p0), .val (.int p1), .val (.int p2), .val (.int p3), .val (.int p4), .val (.int p5), .val (.ref b1), .val (.int (1 : Int32)), .val (.int (2 : Int32)), .val (.int (0 : Int32)), .val (.int (2 : Int32)), .val (.int (1 : Int32))] [])) _
      refine Go.by (fun tt_ kk_ => XS.iconst X.here hx rfl (hb hby at_182) kk_) ?_
      show Go p.tables e below (T.setTop (mkF m 183 #[.val (.int p0), .val (.int p1), .val (.int p2), .val (.int p3), .val (.int p4), .val (.int p5), .val (.ref b1), .val (.int (1 : Int32)), .val (.int (2 : Int32)), .val (.int (0 : Int32)), .val (.int (2 : Int32)), .val (.int (1 : Int32))] [(.int (1 : Int32))])) _
      refine Go.by (fun tt_ kk_ => XS.goto X.here hx rfl (pc0 := 183) (pc' := 187) rfl (hb hby at_183) (by decide) (by decide) kk_) ?_
      show Go p.tables e below (T.setTop (mkF m 187 #[.val (.int p0), .val (.int p1), .val (.int p2), .val (.int p3), .val (.int p4), .val (.int p5), .val (.ref b1), .val (.int (1 : Int32)), .val (.int (2 : Int32)), .val (.int (0 : Int32)), .val (.int (2 : Int32)), .val (.int (1 : Int32))] [(.int (1 : Int32))])) _
      exact Go.done X  (v := some (.int (1 : Int32))) (fun h => by rw [Bd.returns] at h; cases h) Bd.notSynchronized (fun fs hr => retN X hx (z := (1 : Int32)) (t := .boolean) Bd.returns (by simp) (hb hby at_187) hr) (by rw [eT]; exact ⟨rfl, N⟩) (by decide) (by decide)
  · rw [hcs]
    show Go p.tables e below (T.setTop (mkF m 25 #[.val (.int p0), .val (.int p1), .val (.int p2), .val (.int p3), .val (.int p4), .val (.int p5), .val (.ref b1), .val (.int (1 : Int32)), .unset, .unset, .unset, .unset] [(.int (3 : Int32))])) _
    refine Go.by (fun tt_ kk_ => XS.istore X.here hx rfl (hb hby at_25) rfl (l' := #[.val (.int p0), .val (.int p1), .val (.int p2), .val (.int p3), .val (.int p4), .val (.int p5), .val (.ref b1), .val (.int (1 : Int32)), .val (.int (3 : Int32)), .unset, .unset, .unset]) rfl kk_) ?_
    show Go p.tables e below (T.setTop (mkF m 27 #[.val (.int p0), .val (.int p1), .val (.int p2), .val (.int p3), .val (.int p4), .val (.int p5), .val (.ref b1), .val (.int (1 : Int32)), .val (.int (3 : Int32)), .unset, .unset, .unset] [])) _
    refine Go.by (fun tt_ kk_ => XS.iload X.here hx rfl (hb hby at_27) rfl kk_) ?_
    show Go p.tables e below (T.setTop (mkF m 29 #[.val (.int p0), .val (.int p1), .val (.int p2), .val (.int p3), .val (.int p4), .val (.int p5), .val (.ref b1), .val (.int (1 : Int32)), .val (.int (3 : Int32)), .unset, .unset, .unset] [(.int (3 : Int32))])) _
    refine Go.by (fun tt_ kk_ => XS.iconst X.here hx rfl (hb hby at_29) kk_) ?_
    show Go p.tables e below (T.setTop (mkF m 30 #[.val (.int p0), .val (.int p1), .val (.int p2), .val (.int p3), .val (.int p4), .val (.int p5), .val (.ref b1), .val (.int (1 : Int32)), .val (.int (3 : Int32)), .unset, .unset, .unset] [(.int (1 : Int32)), (.int (3 : Int32))])) _
    refine Go.by (fun tt_ kk_ => XS.icmpNo X.here hx rfl (hb hby at_30) rfl (flt (by decide : ¬ ((3 : Int32) < (1 : Int32)))).1 kk_) ?_
    show Go p.tables e below (T.setTop (mkF m 33 #[.val (.int p0), .val (.int p1), .val (.int p2), .val (.int p3), .val (.int p4), .val (.int p5), .val (.ref b1), .val (.int (1 : Int32)), .val (.int (3 : Int32)), .unset, .unset, .unset] [])) _
    refine Go.by (fun tt_ kk_ => XS.aload X.here hx rfl (hb hby at_33) rfl rfl kk_) ?_
    show Go p.tables e below (T.setTop (mkF m 35 #[.val (.int p0), .val (.int p1), .val (.int p2), .val (.int p3), .val (.int p4), .val (.int p5), .val (.ref b1), .val (.int (1 : Int32)), .val (.int (3 : Int32)), .unset, .unset, .unset] [(.ref b1)])) _
    refine Go.by (fun tt_ kk_ => XS.iloadN X.here hx rfl (hb hby at_35) rfl kk_) ?_
    show Go p.tables e below (T.setTop (mkF m 36 #[.val (.int p0), .val (.int p1), .val (.int p2), .val (.int p3), .val (.int p4), .val (.int p5), .val (.ref b1), .val (.int (1 : Int32)), .val (.int (3 : Int32)), .unset, .unset, .unset] [(.int p3), (.ref b1)])) _
    refine Go.by (fun tt_ kk_ => XS.iloadN X.here hx rfl (hb hby at_36) rfl kk_) ?_
    show Go p.tables e below (T.setTop (mkF m 37 #[.val (.int p0), .val (.int p1), .val (.int p2), .val (.int p3), .val (.int p4), .val (.int p5), .val (.ref b1), .val (.int (1 : Int32)), .val (.int (3 : Int32)), .unset, .unset, .unset] [(.int p3), (.int p3), (.ref b1)])) _
    refine Go.by (fun tt_ kk_ => XS.bipush X.here hx rfl (hb hby at_37) kk_) ?_
    show Go p.tables e below (T.setTop (mkF m 39 #[.val (.int p0), .val (.int p1), .val (.int p2), .val (.int p3), .val (.int p4), .val (.int p5), .val (.ref b1), .val (.int (1 : Int32)), .val (.int (3 : Int32)), .unset, .unset, .unset] [(.int (7 : Int32)), (.int p3), (.int p3), (.ref b1)])) _
    refine Go.by (fun tt_ kk_ => XS.iand X.here hx rfl (hb hby at_39) rfl kk_) ?_
    show Go p.tables e below (T.setTop (mkF m 40 #[.val (.int p0), .val (.int p1), .val (.int p2), .val (.int p3), .val (.int p4), .val (.int p5), .val (.ref b1), .val (.int (1 : Int32)), .val (.int (3 : Int32)), .unset, .unset, .unset] [(.int (p3 &&& (7 : Int32))), (.int p3), (.ref b1)])) _
    refine Go.by (fun tt_ kk_ => XS.i2dS X.here hx rfl (hb hby at_40) rfl rfl kk_) ?_
    show Go p.tables e below (T.setTop (mkF m 41 #[.val (.int p0), .val (.int p1), .val (.int p2), .val (.int p3), .val (.int p4), .val (.int p5), .val (.ref b1), .val (.int (1 : Int32)), .val (.int (3 : Int32)), .unset, .unset, .unset] [(.double (FP.i2d (p3 &&& (7 : Int32)))), (.int p3), (.ref b1)])) _
    obtain ⟨cq_, kq_, qa_, qb_, qc_⟩ := isOf hZ eT E_b1
    obtain ⟨_, _, ⟨T, L_, k_, n_⟩, -, X, ⟨Lc_, hQ, l_, y_, z_⟩, st⟩ := X.virtualBack hx (y := (⟨"com/example/mode_choice_loop/modechoiceloop/simulation/TimeHeap", "add", "(ID)Z"⟩ : MethodName)) (z := (⟨"com/example/mode_choice_loop/modechoiceloop/simulation/TimeHeap", "add", "(ID)Z"⟩ : MethodName)) hown (mvT hZ (hw _ (List.mem_of_getElem? (i := 26) rfl))) (mvT hZ (hw _ (List.mem_of_getElem? (i := 27) rfl))) (notFace_of_selects (args := #[]) (mvT hZ (hw _ (List.mem_of_getElem? (i := 29) rfl)))) (mvT hZ (hw _ (List.mem_of_getElem? (i := 29) rfl))) (mvT hZ (hw _ (List.mem_of_getElem? (i := 28) rfl))) (by decide) (backOf (W := 0) (rm5_0 l Z a0 hw [] b1 p3 (FP.i2d (p3 &&& (7 : Int32))) h2 n0 (Nat.le_trans Z0 K.1) TH (Dy.i2d _).noNaN) hZ (hw _ (List.mem_of_getElem? (i := 30) rfl)) (hw _ (List.mem_of_getElem? (i := 2) rfl)) (by decide) (by decide)) qa_ qc_ (g := (mkF m 41 #[.val (.int p0), .val (.int p1), .val (.int p2), .val (.int p3), .val (.int p4), .val (.int p5), .val (.ref b1), .val (.int (1 : Int32)), .val (.int (3 : Int32)), .unset, .unset, .unset] [(.double (FP.i2d (p3 &&& (7 : Int32)))), (.int p3), (.ref b1)])) rfl (by rw [hml]; rfl) (Steps.refl _) (argsL := [(.int p3), (.double (FP.i2d (p3 &&& (7 : Int32))))]) (rest := []) (lenOf pd_11 rfl) rfl (by show 2 * 0 + _ ≤ _; exact Nat.le_of_eq rfl) (hb hby at_41) (fun _ _ => ⟨rfl, eT, (by decide : 3 + 2 ≤ _), (by decide : 11 + 8 ≤ _)⟩)
    dsimp only [Pt.U, Pt.locs, Pt.cells, Pt.slots] at X l_ y_ z_ st hQ
    subst l_ y_ z_
    obtain ⟨h54, eT⟩ : ∃ z, T.heap = z := ⟨_, rfl⟩
    rw [eT] at hQ
    obtain ⟨r53, rfl, Nq, Kq, TH⟩ := hQ
    have N := Fr.app N Nq
    have K := And.intro (Nat.le_trans K.1 Kq.1) trivial
    have E_b1 := TH.1
    refine Go.tr st ?_
    show Go p.tables e below (T.setTop (mkF m 44 #[.val (.int p0), .val (.int p1), .val (.int p2), .val (.int p3), .val (.int p4), .val (.int p5), .val (.ref b1), .val (.int (1 : Int32)), .val (.int (3 : Int32)), .unset, .unset, .unset] [(.int r53)])) _
    refine Go.by (fun tt_ kk_ => XS.pop X.here hx rfl (hb hby at_44) rfl rfl kk_) ?_
    show Go p.tables e below (T.setTop (mkF m 45 #[.val (.int p0), .val (.int p1), .val (.int p2), .val (.int p3), .val (.int p4), .val (.int p5), .val (.ref b1), .val (.int (1 : Int32)), .val (.int (3 : Int32)), .unset, .unset, .unset] [])) _
    refine Go.by (fun tt_ kk_ => XS.iload X.here hx rfl (hb hby at_45) rfl kk_) ?_
    show Go p.tables e below (T.setTop (mkF m 47 #[.val (.int p0), .val (.int p1), .val (.int p2), .val (.int p3), .val (.int p4), .val (.int p5), .val (.ref b1), .val (.int (1 : Int32)), .val (.int (3 : Int32)), .unset, .unset, .unset] [(.int (3 : Int32))])) _
    refine Go.by (fun tt_ kk_ => XS.iconst X.here hx rfl (hb hby at_47) kk_) ?_
    show Go p.tables e below (T.setTop (mkF m 48 #[.val (.int p0), .val (.int p1), .val (.int p2), .val (.int p3), .val (.int p4), .val (.int p5), .val (.ref b1), .val (.int (1 : Int32)), .val (.int (3 : Int32)), .unset, .unset, .unset] [(.int (2 : Int32)), (.int (3 : Int32))])) _
    refine Go.by (fun tt_ kk_ => XS.icmpNo X.here hx rfl (hb hby at_48) rfl (flt (by decide : ¬ ((3 : Int32) < (2 : Int32)))).1 kk_) ?_
    show Go p.tables e below (T.setTop (mkF m 51 #[.val (.int p0), .val (.int p1), .val (.int p2), .val (.int p3), .val (.int p4), .val (.int p5), .val (.ref b1), .val (.int (1 : Int32)), .val (.int (3 : Int32)), .unset, .unset, .unset] [])) _
    refine Go.by (fun tt_ kk_ => XS.aload X.here hx rfl (hb hby at_51) rfl rfl kk_) ?_
    show Go p.tables e below (T.setTop (mkF m 53 #[.val (.int p0), .val (.int p1), .val (.int p2), .val (.int p3), .val (.int p4), .val (.int p5), .val (.ref b1), .val (.int (1 : Int32)), .val (.int (3 : Int32)), .unset, .unset, .unset] [(.ref b1)])) _
    refine Go.by (fun tt_ kk_ => XS.iload X.here hx rfl (hb hby at_53) rfl kk_) ?_
    show Go p.tables e below (T.setTop (mkF m 55 #[.val (.int p0), .val (.int p1), .val (.int p2), .val (.int p3), .val (.int p4), .val (.int p5), .val (.ref b1), .val (.int (1 : Int32)), .val (.int (3 : Int32)), .unset, .unset, .unset] [(.int p4), (.ref b1)])) _
    refine Go.by (fun tt_ kk_ => XS.iload X.here hx rfl (hb hby at_55) rfl kk_) ?_
    show Go p.tables e below (T.setTop (mkF m 57 #[.val (.int p0), .val (.int p1), .val (.int p2), .val (.int p3), .val (.int p4), .val (.int p5), .val (.ref b1), .val (.int (1 : Int32)), .val (.int (3 : Int32)), .unset, .unset, .unset] [(.int p4), (.int p4), (.ref b1)])) _
    refine Go.by (fun tt_ kk_ => XS.bipush X.here hx rfl (hb hby at_57) kk_) ?_
    show Go p.tables e below (T.setTop (mkF m 59 #[.val (.int p0), .val (.int p1), .val (.int p2), .val (.int p3), .val (.int p4), .val (.int p5), .val (.ref b1), .val (.int (1 : Int32)), .val (.int (3 : Int32)), .unset, .unset, .unset] [(.int (7 : Int32)), (.int p4), (.int p4), (.ref b1)])) _
    refine Go.by (fun tt_ kk_ => XS.iand X.here hx rfl (hb hby at_59) rfl kk_) ?_
    show Go p.tables e below (T.setTop (mkF m 60 #[.val (.int p0), .val (.int p1), .val (.int p2), .val (.int p3), .val (.int p4), .val (.int p5), .val (.ref b1), .val (.int (1 : Int32)), .val (.int (3 : Int32)), .unset, .unset, .unset] [(.int (p4 &&& (7 : Int32))), (.int p4), (.ref b1)])) _
    refine Go.by (fun tt_ kk_ => XS.i2dS X.here hx rfl (hb hby at_60) rfl rfl kk_) ?_
    show Go p.tables e below (T.setTop (mkF m 61 #[.val (.int p0), .val (.int p1), .val (.int p2), .val (.int p3), .val (.int p4), .val (.int p5), .val (.ref b1), .val (.int (1 : Int32)), .val (.int (3 : Int32)), .unset, .unset, .unset] [(.double (FP.i2d (p4 &&& (7 : Int32)))), (.int p4), (.ref b1)])) _
    obtain ⟨cq_, kq_, qa_, qb_, qc_⟩ := isOf hZ eT E_b1
    obtain ⟨_, _, ⟨T, L_, k_, n_⟩, -, X, ⟨Lc_, hQ, l_, y_, z_⟩, st⟩ := X.virtualBack hx (y := (⟨"com/example/mode_choice_loop/modechoiceloop/simulation/TimeHeap", "add", "(ID)Z"⟩ : MethodName)) (z := (⟨"com/example/mode_choice_loop/modechoiceloop/simulation/TimeHeap", "add", "(ID)Z"⟩ : MethodName)) hown (mvT hZ (hw _ (List.mem_of_getElem? (i := 26) rfl))) (mvT hZ (hw _ (List.mem_of_getElem? (i := 27) rfl))) (notFace_of_selects (args := #[]) (mvT hZ (hw _ (List.mem_of_getElem? (i := 29) rfl)))) (mvT hZ (hw _ (List.mem_of_getElem? (i := 29) rfl))) (mvT hZ (hw _ (List.mem_of_getElem? (i := 28) rfl))) (by decide) (backOf (W := 0) (rm5_1 l Z a0 hw [] b1 p4 (FP.i2d (p4 &&& (7 : Int32))) h54 n0 (Nat.le_trans Z0 K.1) TH (Dy.i2d _).noNaN) hZ (hw _ (List.mem_of_getElem? (i := 30) rfl)) (hw _ (List.mem_of_getElem? (i := 2) rfl)) (by decide) (by decide)) qa_ qc_ (g := (mkF m 61 #[.val (.int p0), .val (.int p1), .val (.int p2), .val (.int p3), .val (.int p4), .val (.int p5), .val (.ref b1), .val (.int (1 : Int32)), .val (.int (3 : Int32)), .unset, .unset, .unset] [(.double (FP.i2d (p4 &&& (7 : Int32)))), (.int p4), (.ref b1)])) rfl (by rw [hml]; rfl) (Steps.refl _) (argsL := [(.int p4), (.double (FP.i2d (p4 &&& (7 : Int32))))]) (rest := []) (lenOf pd_11 rfl) rfl (by show 2 * 0 + _ ≤ _; exact Nat.le_of_eq rfl) (hb hby at_61) (fun _ _ => ⟨rfl, eT, (by decide : 5 + 2 ≤ _), (by decide : 19 + 8 ≤ _)⟩)
    dsimp only [Pt.U, Pt.locs, Pt.cells, Pt.slots] at X l_ y_ z_ st hQ
    subst l_ y_ z_
    obtain ⟨h56, eT⟩ : ∃ z, T.heap = z := ⟨_, rfl⟩
    rw [eT] at hQ
    obtain ⟨r55, rfl, Nq, Kq, TH⟩ := hQ
    have N := Fr.app N Nq
    have K := And.intro (Nat.le_trans K.1 Kq.1) trivial
    have E_b1 := TH.1
    refine Go.tr st ?_
    show Go p.tables e below (T.setTop (mkF m 64 #[.val (.int p0), .val (.int p1), .val (.int p2), .val (.int p3), .val (.int p4), .val (.int p5), .val (.ref b1), .val (.int (1 : Int32)), .val (.int (3 : Int32)), .unset, .unset, .unset] [(.int r55)])) _
    refine Go.by (fun tt_ kk_ => XS.pop X.here hx rfl (hb hby at_64) rfl rfl kk_) ?_
    show Go p.tables e below (T.setTop (mkF m 65 #[.val (.int p0), .val (.int p1), .val (.int p2), .val (.int p3), .val (.int p4), .val (.int p5), .val (.ref b1), .val (.int (1 : Int32)), .val (.int (3 : Int32)), .unset, .unset, .unset] [])) _
    refine Go.by (fun tt_ kk_ => XS.iload X.here hx rfl (hb hby at_65) rfl kk_) ?_
    show Go p.tables e below (T.setTop (mkF m 67 #[.val (.int p0), .val (.int p1), .val (.int p2), .val (.int p3), .val (.int p4), .val (.int p5), .val (.ref b1), .val (.int (1 : Int32)), .val (.int (3 : Int32)), .unset, .unset, .unset] [(.int (3 : Int32))])) _
    refine Go.by (fun tt_ kk_ => XS.iconst X.here hx rfl (hb hby at_67) kk_) ?_
    show Go p.tables e below (T.setTop (mkF m 68 #[.val (.int p0), .val (.int p1), .val (.int p2), .val (.int p3), .val (.int p4), .val (.int p5), .val (.ref b1), .val (.int (1 : Int32)), .val (.int (3 : Int32)), .unset, .unset, .unset] [(.int (3 : Int32)), (.int (3 : Int32))])) _
    refine Go.by (fun tt_ kk_ => XS.icmpNo X.here hx rfl (hb hby at_68) rfl (flt (by decide : ¬ ((3 : Int32) < (3 : Int32)))).1 kk_) ?_
    show Go p.tables e below (T.setTop (mkF m 71 #[.val (.int p0), .val (.int p1), .val (.int p2), .val (.int p3), .val (.int p4), .val (.int p5), .val (.ref b1), .val (.int (1 : Int32)), .val (.int (3 : Int32)), .unset, .unset, .unset] [])) _
    refine Go.by (fun tt_ kk_ => XS.aload X.here hx rfl (hb hby at_71) rfl rfl kk_) ?_
    show Go p.tables e below (T.setTop (mkF m 73 #[.val (.int p0), .val (.int p1), .val (.int p2), .val (.int p3), .val (.int p4), .val (.int p5), .val (.ref b1), .val (.int (1 : Int32)), .val (.int (3 : Int32)), .unset, .unset, .unset] [(.ref b1)])) _
    refine Go.by (fun tt_ kk_ => XS.iload X.here hx rfl (hb hby at_73) rfl kk_) ?_
    show Go p.tables e below (T.setTop (mkF m 75 #[.val (.int p0), .val (.int p1), .val (.int p2), .val (.int p3), .val (.int p4), .val (.int p5), .val (.ref b1), .val (.int (1 : Int32)), .val (.int (3 : Int32)), .unset, .unset, .unset] [(.int p5), (.ref b1)])) _
    refine Go.by (fun tt_ kk_ => XS.iload X.here hx rfl (hb hby at_75) rfl kk_) ?_
    show Go p.tables e below (T.setTop (mkF m 77 #[.val (.int p0), .val (.int p1), .val (.int p2), .val (.int p3), .val (.int p4), .val (.int p5), .val (.ref b1), .val (.int (1 : Int32)), .val (.int (3 : Int32)), .unset, .unset, .unset] [(.int p5), (.int p5), (.ref b1)])) _
    refine Go.by (fun tt_ kk_ => XS.bipush X.here hx rfl (hb hby at_77) kk_) ?_
    show Go p.tables e below (T.setTop (mkF m 79 #[.val (.int p0), .val (.int p1), .val (.int p2), .val (.int p3), .val (.int p4), .val (.int p5), .val (.ref b1), .val (.int (1 : Int32)), .val (.int (3 : Int32)), .unset, .unset, .unset] [(.int (7 : Int32)), (.int p5), (.int p5), (.ref b1)])) _
    refine Go.by (fun tt_ kk_ => XS.iand X.here hx rfl (hb hby at_79) rfl kk_) ?_
    show Go p.tables e below (T.setTop (mkF m 80 #[.val (.int p0), .val (.int p1), .val (.int p2), .val (.int p3), .val (.int p4), .val (.int p5), .val (.ref b1), .val (.int (1 : Int32)), .val (.int (3 : Int32)), .unset, .unset, .unset] [(.int (p5 &&& (7 : Int32))), (.int p5), (.ref b1)])) _
    refine Go.by (fun tt_ kk_ => XS.i2dS X.here hx rfl (hb hby at_80) rfl rfl kk_) ?_
    show Go p.tables e below (T.setTop (mkF m 81 #[.val (.int p0), .val (.int p1), .val (.int p2), .val (.int p3), .val (.int p4), .val (.int p5), .val (.ref b1), .val (.int (1 : Int32)), .val (.int (3 : Int32)), .unset, .unset, .unset] [(.double (FP.i2d (p5 &&& (7 : Int32)))), (.int p5), (.ref b1)])) _
    obtain ⟨cq_, kq_, qa_, qb_, qc_⟩ := isOf hZ eT E_b1
    obtain ⟨_, _, ⟨T, L_, k_, n_⟩, -, X, ⟨Lc_, hQ, l_, y_, z_⟩, st⟩ := X.virtualBack hx (y := (⟨"com/example/mode_choice_loop/modechoiceloop/simulation/TimeHeap", "add", "(ID)Z"⟩ : MethodName)) (z := (⟨"com/example/mode_choice_loop/modechoiceloop/simulation/TimeHeap", "add", "(ID)Z"⟩ : MethodName)) hown (mvT hZ (hw _ (List.mem_of_getElem? (i := 26) rfl))) (mvT hZ (hw _ (List.mem_of_getElem? (i := 27) rfl))) (notFace_of_selects (args := #[]) (mvT hZ (hw _ (List.mem_of_getElem? (i := 29) rfl)))) (mvT hZ (hw _ (List.mem_of_getElem? (i := 29) rfl))) (mvT hZ (hw _ (List.mem_of_getElem? (i := 28) rfl))) (by decide) (backOf (W := 0) (rm5_2 l Z a0 hw [] b1 p5 (FP.i2d (p5 &&& (7 : Int32))) h56 n0 (Nat.le_trans Z0 K.1) TH (Dy.i2d _).noNaN) hZ (hw _ (List.mem_of_getElem? (i := 30) rfl)) (hw _ (List.mem_of_getElem? (i := 2) rfl)) (by decide) (by decide)) qa_ qc_ (g := (mkF m 81 #[.val (.int p0), .val (.int p1), .val (.int p2), .val (.int p3), .val (.int p4), .val (.int p5), .val (.ref b1), .val (.int (1 : Int32)), .val (.int (3 : Int32)), .unset, .unset, .unset] [(.double (FP.i2d (p5 &&& (7 : Int32)))), (.int p5), (.ref b1)])) rfl (by rw [hml]; rfl) (Steps.refl _) (argsL := [(.int p5), (.double (FP.i2d (p5 &&& (7 : Int32))))]) (rest := []) (lenOf pd_11 rfl) rfl (by show 2 * 0 + _ ≤ _; exact Nat.le_of_eq rfl) (hb hby at_81) (fun _ _ => ⟨rfl, eT, (by decide : 7 + 2 ≤ _), (by decide : 27 + 8 ≤ _)⟩)
    dsimp only [Pt.U, Pt.locs, Pt.cells, Pt.slots] at X l_ y_ z_ st hQ
    subst l_ y_ z_
    obtain ⟨h58, eT⟩ : ∃ z, T.heap = z := ⟨_, rfl⟩
    rw [eT] at hQ
    obtain ⟨r57, rfl, Nq, Kq, TH⟩ := hQ
    have N := Fr.app N Nq
    have K := And.intro (Nat.le_trans K.1 Kq.1) trivial
    have E_b1 := TH.1
    refine Go.tr st ?_
    show Go p.tables e below (T.setTop (mkF m 84 #[.val (.int p0), .val (.int p1), .val (.int p2), .val (.int p3), .val (.int p4), .val (.int p5), .val (.ref b1), .val (.int (1 : Int32)), .val (.int (3 : Int32)), .unset, .unset, .unset] [(.int r57)])) _
    refine Go.by (fun tt_ kk_ => XS.pop X.here hx rfl (hb hby at_84) rfl rfl kk_) ?_
    show Go p.tables e below (T.setTop (mkF m 85 #[.val (.int p0), .val (.int p1), .val (.int p2), .val (.int p3), .val (.int p4), .val (.int p5), .val (.ref b1), .val (.int (1 : Int32)), .val (.int (3 : Int32)), .unset, .unset, .unset] [])) _
    refine Go.by (fun tt_ kk_ => XS.aload X.here hx rfl (hb hby at_85) rfl rfl kk_) ?_
    show Go p.tables e below (T.setTop (mkF m 87 #[.val (.int p0), .val (.int p1), .val (.int p2), .val (.int p3), .val (.int p4), .val (.int p5), .val (.ref b1), .val (.int (1 : Int32)), .val (.int (3 : Int32)), .unset, .unset, .unset] [(.ref b1)])) _
    have hz : (if (3 : Int32) = 0 then (1 : Int32) else 0) = (0 : Int32) := by decide
    obtain ⟨cq_, kq_, qa_, qb_, qc_⟩ := isOf hZ eT E_b1
    obtain ⟨_, _, ⟨T, L_, k_, n_⟩, -, X, ⟨Lc_, hQ, l_, y_, z_⟩, st⟩ := X.virtualBack hx (y := (⟨"com/example/mode_choice_loop/modechoiceloop/simulation/TimeHeap", "isEmpty", "()Z"⟩ : MethodName)) (z := (⟨"com/example/mode_choice_loop/modechoiceloop/simulation/TimeHeap", "isEmpty", "()Z"⟩ : MethodName)) hown (mvT hZ (hw _ (List.mem_of_getElem? (i := 19) rfl))) (mvT hZ (hw _ (List.mem_of_getElem? (i := 20) rfl))) (notFace_of_selects (args := #[]) (mvT hZ (hw _ (List.mem_of_getElem? (i := 22) rfl)))) (mvT hZ (hw _ (List.mem_of_getElem? (i := 22) rfl))) (mvT hZ (hw _ (List.mem_of_getElem? (i := 21) rfl))) (by decide) (backOf (W := 0) (rm4 l Z a0 hw [] b1 (3 : Int32) h58 n0 (Nat.le_trans Z0 K.1) TH) hZ (hw _ (List.mem_of_getElem? (i := 23) rfl)) (hw _ (List.mem_of_getElem? (i := 2) rfl)) (by decide) (by decide)) qa_ qc_ (g := (mkF m 87 #[.val (.int p0), .val (.int p1), .val (.int p2), .val (.int p3), .val (.int p4), .val (.int p5), .val (.ref b1), .val (.int (1 : Int32)), .val (.int (3 : Int32)), .unset, .unset, .unset] [(.ref b1)])) rfl (by rw [hml]; rfl) (Steps.refl _) (argsL := []) (rest := []) (lenOf pd_10 rfl) rfl (by show 2 * 0 + _ ≤ _; exact Nat.le_of_eq rfl) (hb hby at_87) (fun _ _ => ⟨rfl, eT, (by decide : 9 + 0 ≤ _), (by decide : 35 + 0 ≤ _)⟩)
    dsimp only [Pt.U, Pt.locs, Pt.cells, Pt.slots] at X l_ y_ z_ st hQ
    subst l_ y_ z_
    obtain ⟨e_v, Nq, eh⟩ := hQ
    rw [hz] at e_v
    subst e_v
    have N := Fr.app N Nq
    have eT := eh
    refine Go.tr st ?_
    show Go p.tables e below (T.setTop (mkF m 90 #[.val (.int p0), .val (.int p1), .val (.int p2), .val (.int p3), .val (.int p4), .val (.int p5), .val (.ref b1), .val (.int (1 : Int32)), .val (.int (3 : Int32)), .unset, .unset, .unset] [(.int (0 : Int32))])) _
    refine Go.by (fun tt_ kk_ => XS.istore X.here hx rfl (hb hby at_90) rfl (l' := #[.val (.int p0), .val (.int p1), .val (.int p2), .val (.int p3), .val (.int p4), .val (.int p5), .val (.ref b1), .val (.int (1 : Int32)), .val (.int (3 : Int32)), .val (.int (0 : Int32)), .unset, .unset]) rfl kk_) ?_
    show Go p.tables e below (T.setTop (mkF m 92 #[.val (.int p0), .val (.int p1), .val (.int p2), .val (.int p3), .val (.int p4), .val (.int p5), .val (.ref b1), .val (.int (1 : Int32)), .val (.int (3 : Int32)), .val (.int (0 : Int32)), .unset, .unset] [])) _
    refine Go.by (fun tt_ kk_ => XS.iloadN X.here hx rfl (hb hby at_92) rfl kk_) ?_
    show Go p.tables e below (T.setTop (mkF m 93 #[.val (.int p0), .val (.int p1), .val (.int p2), .val (.int p3), .val (.int p4), .val (.int p5), .val (.ref b1), .val (.int (1 : Int32)), .val (.int (3 : Int32)), .val (.int (0 : Int32)), .unset, .unset] [(.int p2)])) _
    refine Go.by (fun tt_ kk_ => XS.iconst X.here hx rfl (hb hby at_93) kk_) ?_
    show Go p.tables e below (T.setTop (mkF m 94 #[.val (.int p0), .val (.int p1), .val (.int p2), .val (.int p3), .val (.int p4), .val (.int p5), .val (.ref b1), .val (.int (1 : Int32)), .val (.int (3 : Int32)), .val (.int (0 : Int32)), .unset, .unset] [(.int (3 : Int32)), (.int p2)])) _
    refine Go.by (fun tt_ kk_ => XS.iand X.here hx rfl (hb hby at_94) rfl kk_) ?_
    show Go p.tables e below (T.setTop (mkF m 95 #[.val (.int p0), .val (.int p1), .val (.int p2), .val (.int p3), .val (.int p4), .val (.int p5), .val (.ref b1), .val (.int (1 : Int32)), .val (.int (3 : Int32)), .val (.int (0 : Int32)), .unset, .unset] [(.int (p2 &&& (3 : Int32)))])) _
    have hcs := own_and3 p2
    rcases hcs with hcs | hcs | hcs | hcs
    · rw [hcs]
      show Go p.tables e below (T.setTop (mkF m 95 #[.val (.int p0), .val (.int p1), .val (.int p2), .val (.int p3), .val (.int p4), .val (.int p5), .val (.ref b1), .val (.int (1 : Int32)), .val (.int (3 : Int32)), .val (.int (0 : Int32)), .unset, .unset] [(.int (0 : Int32))])) _
      refine Go.by (fun tt_ kk_ => XS.iload X.here hx rfl (hb hby at_95) rfl kk_) ?_
      show Go p.tables e below (T.setTop (mkF m 97 #[.val (.int p0), .val (.int p1), .val (.int p2), .val (.int p3), .val (.int p4), .val (.int p5), .val (.ref b1), .val (.int (1 : Int32)), .val (.int (3 : Int32)), .val (.int (0 : Int32)), .unset, .unset] [(.int (3 : Int32)), (.int (0 : Int32))])) _
      have hz : (if (3 : Int32) < (0 : Int32) then (3 : Int32) else (0 : Int32)) = (0 : Int32) := by decide
      obtain ⟨_, _, ⟨T, L_, k_, n_⟩, -, X, ⟨Lc_, hQ, l_, y_, z_⟩, st⟩ := Jvm.LawKit.callS X hx (y := (⟨"java/lang/Math", "min", "(II)I"⟩ : MethodName)) hown (mvT hZ (hw _ (List.mem_of_getElem? (i := 52) rfl))) (mvT hZ (hw _ (List.mem_of_getElem? (i := 36) rfl))) (mvT hZ (hw _ (List.mem_of_getElem? (i := 11) rfl))) (mvT hZ (hw _ (List.mem_of_getElem? (i := 37) rfl))) (by decide) (backOf (W := 0) (rm7 l Z a0 hw [] (0 : Int32) (3 : Int32) h58 n0 (Nat.le_trans Z0 K.1) ) hZ (hw _ (List.mem_of_getElem? (i := 37) rfl)) (hw _ (List.mem_of_getElem? (i := 11) rfl)) (by decide) (by decide)) (g := (mkF m 97 #[.val (.int p0), .val (.int p1), .val (.int p2), .val (.int p3), .val (.int p4), .val (.int p5), .val (.ref b1), .val (.int (1 : Int32)), .val (.int (3 : Int32)), .val (.int (0 : Int32)), .unset, .unset] [(.int (3 : Int32)), (.int (0 : Int32))])) rfl (by rw [hml]; rfl) (argsL := [(.int (0 : Int32)), (.int (3 : Int32))]) (rest := []) (lenOf pd_3 rfl) rfl (by show 2 * 0 + _ ≤ _; exact Nat.le_of_eq rfl) (hb hby at_97) (fun _ _ => ⟨rfl, eT, (by decide : 9 + 0 ≤ _), (by decide : 35 + 0 ≤ _)⟩)
      dsimp only [Pt.U, Pt.locs, Pt.cells, Pt.slots] at X l_ y_ z_ st hQ
      subst l_ y_ z_
      obtain ⟨e_v, Nq, eh⟩ := hQ
      rw [hz] at e_v
      subst e_v
      have N := Fr.app N Nq
      have eT := eh
      refine Go.by st ?_
      show Go p.tables e below (T.setTop (mkF m 100 #[.val (.int p0), .val (.int p1), .val (.int p2), .val (.int p3), .val (.int p4), .val (.int p5), .val (.ref b1), .val (.int (1 : Int32)), .val (.int (3 : Int32)), .val (.int (0 : Int32)), .unset, .unset] [(.int (0 : Int32))])) _
      refine Go.by (fun tt_ kk_ => XS.istore X.here hx rfl (hb hby at_100) rfl (l' := #[.val (.int p0), .val (.int p1), .val (.int p2), .val (.int p3), .val (.int p4), .val (.int p5), .val (.ref b1), .val (.int (1 : Int32)), .val (.int (3 : Int32)), .val (.int (0 : Int32)), .val (.int (0 : Int32)), .unset]) rfl kk_) ?_
      show Go p.tables e below (T.setTop (mkF m 102 #[.val (.int p0), .val (.int p1), .val (.int p2), .val (.int p3), .val (.int p4), .val (.int p5), .val (.ref b1), .val (.int (1 : Int32)), .val (.int (3 : Int32)), .val (.int (0 : Int32)), .val (.int (0 : Int32)), .unset] [])) _
      refine Go.by (fun tt_ kk_ => XS.iload X.here hx rfl (hb hby at_102) rfl kk_) ?_
      show Go p.tables e below (T.setTop (mkF m 104 #[.val (.int p0), .val (.int p1), .val (.int p2), .val (.int p3), .val (.int p4), .val (.int p5), .val (.ref b1), .val (.int (1 : Int32)), .val (.int (3 : Int32)), .val (.int (0 : Int32)), .val (.int (0 : Int32)), .unset] [(.int (0 : Int32))])) _
      refine Go.by (fun tt_ kk_ => XS.iconst X.here hx rfl (hb hby at_104) kk_) ?_
      show Go p.tables e below (T.setTop (mkF m 105 #[.val (.int p0), .val (.int p1), .val (.int p2), .val (.int p3), .val (.int p4), .val (.int p5), .val (.ref b1), .val (.int (1 : Int32)), .val (.int (3 : Int32)), .val (.int (0 : Int32)), .val (.int (0 : Int32)), .unset] [(.int (1 : Int32)), (.int (0 : Int32))])) _
      refine Go.by (fun tt_ kk_ => XS.icmpYes X.here hx rfl (pc0 := 105) (pc' := 114) rfl (hb hby at_105) rfl (tlt (by decide : (0 : Int32) < (1 : Int32))).1 (by decide) (by decide) kk_) ?_
      show Go p.tables e below (T.setTop (mkF m 114 #[.val (.int p0), .val (.int p1), .val (.int p2), .val (.int p3), .val (.int p4), .val (.int p5), .val (.ref b1), .val (.int (1 : Int32)), .val (.int (3 : Int32)), .val (.int (0 : Int32)), .val (.int (0 : Int32)), .unset] [])) _
      refine Go.by (fun tt_ kk_ => XS.iload X.here hx rfl (hb hby at_114) rfl kk_) ?_
      show Go p.tables e below (T.setTop (mkF m 116 #[.val (.int p0), .val (.int p1), .val (.int p2), .val (.int p3), .val (.int p4), .val (.int p5), .val (.ref b1), .val (.int (1 : Int32)), .val (.int (3 : Int32)), .val (.int (0 : Int32)), .val (.int (0 : Int32)), .unset] [(.int (0 : Int32))])) _
      refine Go.by (fun tt_ kk_ => XS.iconst X.here hx rfl (hb hby at_116) kk_) ?_
      show Go p.tables e below (T.setTop (mkF m 117 #[.val (.int p0), .val (.int p1), .val (.int p2), .val (.int p3), .val (.int p4), .val (.int p5), .val (.ref b1), .val (.int (1 : Int32)), .val (.int (3 : Int32)), .val (.int (0 : Int32)), .val (.int (0 : Int32)), .unset] [(.int (2 : Int32)), (.int (0 : Int32))])) _
      refine Go.by (fun tt_ kk_ => XS.icmpYes X.here hx rfl (pc0 := 117) (pc' := 126) rfl (hb hby at_117) rfl (tlt (by decide : (0 : Int32) < (2 : Int32))).1 (by decide) (by decide) kk_) ?_
      show Go p.tables e below (T.setTop (mkF m 126 #[.val (.int p0), .val (.int p1), .val (.int p2), .val (.int p3), .val (.int p4), .val (.int p5), .val (.ref b1), .val (.int (1 : Int32)), .val (.int (3 : Int32)), .val (.int (0 : Int32)), .val (.int (0 : Int32)), .unset] [])) _
      refine Go.by (fun tt_ kk_ => XS.iload X.here hx rfl (hb hby at_126) rfl kk_) ?_
      show Go p.tables e below (T.setTop (mkF m 128 #[.val (.int p0), .val (.int p1), .val (.int p2), .val (.int p3), .val (.int p4), .val (.int p5), .val (.ref b1), .val (.int (1 : Int32)), .val (.int (3 : Int32)), .val (.int (0 : Int32)), .val (.int (0 : Int32)), .unset] [(.int (0 : Int32))])) _
      refine Go.by (fun tt_ kk_ => XS.iconst X.here hx rfl (hb hby at_128) kk_) ?_
      show Go p.tables e below (T.setTop (mkF m 129 #[.val (.int p0), .val (.int p1), .val (.int p2), .val (.int p3), .val (.int p4), .val (.int p5), .val (.ref b1), .val (.int (1 : Int32)), .val (.int (3 : Int32)), .val (.int (0 : Int32)), .val (.int (0 : Int32)), .unset] [(.int (3 : Int32)), (.int (0 : Int32))])) _
      refine Go.by (fun tt_ kk_ => XS.icmpYes X.here hx rfl (pc0 := 129) (pc' := 138) rfl (hb hby at_129) rfl (tlt (by decide : (0 : Int32) < (3 : Int32))).1 (by decide) (by decide) kk_) ?_
      show Go p.tables e below (T.setTop (mkF m 138 #[.val (.int p0), .val (.int p1), .val (.int p2), .val (.int p3), .val (.int p4), .val (.int p5), .val (.ref b1), .val (.int (1 : Int32)), .val (.int (3 : Int32)), .val (.int (0 : Int32)), .val (.int (0 : Int32)), .unset] [])) _
      refine Go.by (fun tt_ kk_ => XS.aload X.here hx rfl (hb hby at_138) rfl rfl kk_) ?_
      show Go p.tables e below (T.setTop (mkF m 140 #[.val (.int p0), .val (.int p1), .val (.int p2), .val (.int p3), .val (.int p4), .val (.int p5), .val (.ref b1), .val (.int (1 : Int32)), .val (.int (3 : Int32)), .val (.int (0 : Int32)), .val (.int (0 : Int32)), .unset] [(.ref b1)])) _
      have hz : (if (3 : Int32) = 0 then (1 : Int32) else 0) = (0 : Int32) := by decide
      obtain ⟨cq_, kq_, qa_, qb_, qc_⟩ := isOf hZ eT E_b1
      obtain ⟨_, _, ⟨T, L_, k_, n_⟩, -, X, ⟨Lc_, hQ, l_, y_, z_⟩, st⟩ := X.virtualBack hx (y := (⟨"com/example/mode_choice_loop/modechoiceloop/simulation/TimeHeap", "isEmpty", "()Z"⟩ : MethodName)) (z := (⟨"com/example/mode_choice_loop/modechoiceloop/simulation/TimeHeap", "isEmpty", "()Z"⟩ : MethodName)) hown (mvT hZ (hw _ (List.mem_of_getElem? (i := 19) rfl))) (mvT hZ (hw _ (List.mem_of_getElem? (i := 20) rfl))) (notFace_of_selects (args := #[]) (mvT hZ (hw _ (List.mem_of_getElem? (i := 22) rfl)))) (mvT hZ (hw _ (List.mem_of_getElem? (i := 22) rfl))) (mvT hZ (hw _ (List.mem_of_getElem? (i := 21) rfl))) (by decide) (backOf (W := 0) (rm4 l Z a0 hw [] b1 (3 : Int32) h58 n0 (Nat.le_trans Z0 K.1) TH) hZ (hw _ (List.mem_of_getElem? (i := 23) rfl)) (hw _ (List.mem_of_getElem? (i := 2) rfl)) (by decide) (by decide)) qa_ qc_ (g := (mkF m 140 #[.val (.int p0), .val (.int p1), .val (.int p2), .val (.int p3), .val (.int p4), .val (.int p5), .val (.ref b1), .val (.int (1 : Int32)), .val (.int (3 : Int32)), .val (.int (0 : Int32)), .val (.int (0 : Int32)), .unset] [(.ref b1)])) rfl (by rw [hml]; rfl) (Steps.refl _) (argsL := []) (rest := []) (lenOf pd_10 rfl) rfl (by show 2 * 0 + _ ≤ _; exact Nat.le_of_eq rfl) (hb hby at_140) (fun _ _ => ⟨rfl, eT, (by decide : 9 + 0 ≤ _), (by decide : 35 + 0 ≤ _)⟩)
      dsimp only [Pt.U, Pt.locs, Pt.cells, Pt.slots] at X l_ y_ z_ st hQ
      subst l_ y_ z_
      obtain ⟨e_v, Nq, eh⟩ := hQ
      rw [hz] at e_v
      subst e_v
      have N := Fr.app N Nq
      have eT := eh
      refine Go.tr st ?_
      show Go p.tables e below (T.setTop (mkF m 143 #[.val (.int p0), .val (.int p1), .val (.int p2), .val (.int p3), .val (.int p4), .val (.int p5), .val (.ref b1), .val (.int (1 : Int32)), .val (.int (3 : Int32)), .val (.int (0 : Int32)), .val (.int (0 : Int32)), .unset] [(.int (0 : Int32))])) _
      refine Go.by (fun tt_ kk_ => XS.istore X.here hx rfl (hb hby at_143) rfl (l' := #[.val (.int p0), .val (.int p1), .val (.int p2), .val (.int p3), .val (.int p4), .val (.int p5), .val (.ref b1), .val (.int (1 : Int32)), .val (.int (3 : Int32)), .val (.int (0 : Int32)), .val (.int (0 : Int32)), .val (.int (0 : Int32))]) rfl kk_) ?_
      show Go p.tables e below (T.setTop (mkF m 145 #[.val (.int p0), .val (.int p1), .val (.int p2), .val (.int p3), .val (.int p4), .val (.int p5), .val (.ref b1), .val (.int (1 : Int32)), .val (.int (3 : Int32)), .val (.int (0 : Int32)), .val (.int (0 : Int32)), .val (.int (0 : Int32))] [])) _
      refine Go.by (fun tt_ kk_ => XS.iload X.here hx rfl (hb hby at_145) rfl kk_) ?_
      show Go p.tables e below (T.setTop (mkF m 147 #[.val (.int p0), .val (.int p1), .val (.int p2), .val (.int p3), .val (.int p4), .val (.int p5), .val (.ref b1), .val (.int (1 : Int32)), .val (.int (3 : Int32)), .val (.int (0 : Int32)), .val (.int (0 : Int32)), .val (.int (0 : Int32))] [(.int (1 : Int32))])) _
      refine Go.by (fun tt_ kk_ => XS.ifNo X.here hx rfl (hb hby at_147) rfl ((if0 _ _).trans (feq (by decide : ¬ ((1 : Int32) = (0 : Int32)))).1) kk_) ?_
      show Go p.tables e below (T.setTop (mkF m 150 #[.val (.int p0), .val (.int p1), .val (.int p2), .val (.int p3), .val (.int p4), .val (.int p5), .val (.ref b1), .val (.int (1 : Int32)), .val (.int (3 : Int32)), .val (.int (0 : Int32)), .val (.int (0 : Int32)), .val (.int (0 : Int32))] [])) _
      refine Go.by (fun tt_ kk_ => XS.iload X.here hx rfl (hb hby at_150) rfl kk_) ?_
      show Go p.tables e below (T.setTop (mkF m 152 #[.val (.int p0), .val (.int p1), .val (.int p2), .val (.int p3), .val (.int p4), .val (.int p5), .val (.ref b1), .val (.int (1 : Int32)), .val (.int (3 : Int32)), .val (.int (0 : Int32)), .val (.int (0 : Int32)), .val (.int (0 : Int32))] [(.int (0 : Int32))])) _
      refine Go.by (fun tt_ kk_ => XS.iload X.here hx rfl (hb hby at_152) rfl kk_) ?_
      show Go p.tables e below (T.setTop (mkF m 154 #[.val (.int p0), .val (.int p1), .val (.int p2), .val (.int p3), .val (.int p4), .val (.int p5), .val (.ref b1), .val (.int (1 : Int32)), .val (.int (3 : Int32)), .val (.int (0 : Int32)), .val (.int (0 : Int32)), .val (.int (0 : Int32))] [(.int (3 : Int32)), (.int (0 : Int32))])) _
      refine Go.by (fun tt_ kk_ => XS.ifYes X.here hx rfl (pc0 := 154) (pc' := 161) rfl (hb hby at_154) rfl ((if0 _ _).trans (feq (by decide : ¬ ((3 : Int32) = (0 : Int32)))).2) (by decide) (by decide) kk_) ?_
      show Go p.tables e below (T.setTop (mkF m 161 #[.val (.int p0), .val (.int p1), .val (.int p2), .val (.int p3), .val (.int p4), .val (.int p5), .val (.ref b1), .val (.int (1 : Int32)), .val (.int (3 : Int32)), .val (.int (0 : Int32)), .val (.int (0 : Int32)), .val (.int (0 : Int32))] [(.int (0 : Int32))])) _
      refine Go.by (fun tt_ kk_ => XS.iconst X.here hx rfl (hb hby at_161) kk_) ?_
      show Go p.tables e below (T.setTop (mkF m 162 #[.val (.int p0), .val (.int p1), .val (.int p2), .val (.int p3), .val (.int p4), .val (.int p5), .val (.ref b1), .val (.int (1 : Int32)), .val (.int (3 : Int32)), .val (.int (0 : Int32)), .val (.int (0 : Int32)), .val (.int (0 : Int32))] [(.int (0 : Int32)), (.int (0 : Int32))])) _
      refine Go.by (fun tt_ kk_ => XS.icmpNo X.here hx rfl (hb hby at_162) rfl (teq (rfl : (0 : Int32) = (0 : Int32))).2 kk_) ?_
      show Go p.tables e below (T.setTop (mkF m 165 #[.val (.int p0), .val (.int p1), .val (.int p2), .val (.int p3), .val (.int p4), .val (.int p5), .val (.ref b1), .val (.int (1 : Int32)), .val (.int (3 : Int32)), .val (.int (0 : Int32)), .val (.int (0 : Int32)), .val (.int (0 : Int32))] [])) _
      refine Go.by (fun tt_ kk_ => XS.iload X.here hx rfl (hb hby at_165) rfl kk_) ?_
      show Go p.tables e below (T.setTop (mkF m 167 #[.val (.int p0), .val (.int p1), .val (.int p2), .val (.int p3), .val (.int p4), .val (.int p5), .val (.ref b1), .val (.int (1 : Int32)), .val (.int (3 : Int32)), .val (.int (0 : Int32)), .val (.int (0 : Int32)), .val (.int (0 : Int32))] [(.int (0 : Int32))])) _
      refine Go.by (fun tt_ kk_ => XS.iload X.here hx rfl (hb hby at_167) rfl kk_) ?_
      show Go p.tables e below (T.setTop (mkF m 169 #[.val (.int p0), .val (.int p1), .val (.int p2), .val (.int p3), .val (.int p4), .val (.int p5), .val (.ref b1), .val (.int (1 : Int32)), .val (.int (3 : Int32)), .val (.int (0 : Int32)), .val (.int (0 : Int32)), .val (.int (0 : Int32))] [(.int (3 : Int32)), (.int (0 : Int32))])) _
      refine Go.by (fun tt_ kk_ => XS.iload X.here hx rfl (hb hby at_169) rfl kk_) ?_
      show Go p.tables e below (T.setTop (mkF m 171 #[.val (.int p0), .val (.int p1), .val (.int p2), .val (.int p3), .val (.int p4), .val (.int p5), .val (.ref b1), .val (.int (1 : Int32)), .val (.int (3 : Int32)), .val (.int (0 : Int32)), .val (.int (0 : Int32)), .val (.int (0 : Int32))] [(.int (0 : Int32)), (.int (3 : Int32)), (.int (0 : Int32))])) _
      refine Go.by (fun tt_ kk_ => XS.icmpYes X.here hx rfl (pc0 := 171) (pc' := 178) rfl (hb hby at_171) rfl (feq (by decide : ¬ ((3 : Int32) = (0 : Int32)))).2 (by decide) (by decide) kk_) ?_
      show Go p.tables e below (T.setTop (mkF m 178 #[.val (.int p0), .val (.int p1), .val (.int p2), .val (.int p3), .val (.int p4), .val (.int p5), .val (.ref b1), .val (.int (1 : Int32)), .val (.int (3 : Int32)), .val (.int (0 : Int32)), .val (.int (0 : Int32)), .val (.int (0 : Int32))] [(.int (0 : Int32))])) _
      refine Go.by (fun tt_ kk_ => XS.iconst X.here hx rfl (hb hby at_178) kk_) ?_
      show Go p.tables e below (T.setTop (mkF m 179 #[.val (.int p0), .val (.int p1), .val (.int p2), .val (.int p3), .val (.int p4), .val (.int p5), .val (.ref b1), .val (.int (1 : Int32)), .val (.int (3 : Int32)), .val (.int (0 : Int32)), .val (.int (0 : Int32)), .val (.int (0 : Int32))] [(.int (0 : Int32)), (.int (0 : Int32))])) _
      refine Go.by (fun tt_ kk_ => XS.icmpNo X.here hx rfl (hb hby at_179) rfl (teq (rfl : (0 : Int32) = (0 : Int32))).2 kk_) ?_
      show Go p.tables e below (T.setTop (mkF m 182 #[.val (.int p0), .val (.int p1), .val (.int p2), .val (.int p3), .val (.int p4), .val (.int p5), .val (.ref b1), .val (.int (1 : Int32)), .val (.int (3 : Int32)), .val (.int (0 : Int32)), .val (.int (0 : Int32)), .val (.int (0 : Int32))] [])) _
      refine Go.by (fun tt_ kk_ => XS.iconst X.here hx rfl (hb hby at_182) kk_) ?_
      show Go p.tables e below (T.setTop (mkF m 183 #[.val (.int p0), .val (.int p1), .val (.int p2), .val (.int p3), .val (.int p4), .val (.int p5), .val (.ref b1), .val (.int (1 : Int32)), .val (.int (3 : Int32)), .val (.int (0 : Int32)), .val (.int (0 : Int32)), .val (.int (0 : Int32))] [(.int (1 : Int32))])) _
      refine Go.by (fun tt_ kk_ => XS.goto X.here hx rfl (pc0 := 183) (pc' := 187) rfl (hb hby at_183) (by decide) (by decide) kk_) ?_
      show Go p.tables e below (T.setTop (mkF m 187 #[.val (.int p0), .val (.int p1), .val (.int p2), .val (.int p3), .val (.int p4), .val (.int p5), .val (.ref b1), .val (.int (1 : Int32)), .val (.int (3 : Int32)), .val (.int (0 : Int32)), .val (.int (0 : Int32)), .val (.int (0 : Int32))] [(.int (1 : Int32))])) _
      exact Go.done X  (v := some (.int (1 : Int32))) (fun h => by rw [Bd.returns] at h; cases h) Bd.notSynchronized (fun fs hr => retN X hx (z := (1 : Int32)) (t := .boolean) Bd.returns (by simp) (hb hby at_187) hr) (by rw [eT]; exact ⟨rfl, N⟩) (by decide) (by decide)
    · rw [hcs]
      show Go p.tables e below (T.setTop (mkF m 95 #[.val (.int p0), .val (.int p1), .val (.int p2), .val (.int p3), .val (.int p4), .val (.int p5), .val (.ref b1), .val (.int (1 : Int32)), .val (.int (3 : Int32)), .val (.int (0 : Int32)), .unset, .unset] [(.int (1 : Int32))])) _
      refine Go.by (fun tt_ kk_ => XS.iload X.here hx rfl (hb hby at_95) rfl kk_) ?_
      show Go p.tables e below (T.setTop (mkF m 97 #[.val (.int p0), .val (.int p1), .val (.int p2), .val (.int p3), .val (.int p4), .val (.int p5), .val (.ref b1), .val (.int (1 : Int32)), .val (.int (3 : Int32)), .val (.int (0 : Int32)), .unset, .unset] [(.int (3 : Int32)), (.int (1 : Int32))])) _
      have hz : (if (3 : Int32) < (1 : Int32) then (3 : Int32) else (1 : Int32)) = (1 : Int32) := by decide
      obtain ⟨_, _, ⟨T, L_, k_, n_⟩, -, X, ⟨Lc_, hQ, l_, y_, z_⟩, st⟩ := Jvm.LawKit.callS X hx (y := (⟨"java/lang/Math", "min", "(II)I"⟩ : MethodName)) hown (mvT hZ (hw _ (List.mem_of_getElem? (i := 52) rfl))) (mvT hZ (hw _ (List.mem_of_getElem? (i := 36) rfl))) (mvT hZ (hw _ (List.mem_of_getElem? (i := 11) rfl))) (mvT hZ (hw _ (List.mem_of_getElem? (i := 37) rfl))) (by decide) (backOf (W := 0) (rm7 l Z a0 hw [] (1 : Int32) (3 : Int32) h58 n0 (Nat.le_trans Z0 K.1) ) hZ (hw _ (List.mem_of_getElem? (i := 37) rfl)) (hw _ (List.mem_of_getElem? (i := 11) rfl)) (by decide) (by decide)) (g := (mkF m 97 #[.val (.int p0), .val (.int p1), .val (.int p2), .val (.int p3), .val (.int p4), .val (.int p5), .val (.ref b1), .val (.int (1 : Int32)), .val (.int (3 : Int32)), .val (.int (0 : Int32)), .unset, .unset] [(.int (3 : Int32)), (.int (1 : Int32))])) rfl (by rw [hml]; rfl) (argsL := [(.int (1 : Int32)), (.int (3 : Int32))]) (rest := []) (lenOf pd_3 rfl) rfl (by show 2 * 0 + _ ≤ _; exact Nat.le_of_eq rfl) (hb hby at_97) (fun _ _ => ⟨rfl, eT, (by decide : 9 + 0 ≤ _), (by decide : 35 + 0 ≤ _)⟩)
      dsimp only [Pt.U, Pt.locs, Pt.cells, Pt.slots] at X l_ y_ z_ st hQ
      subst l_ y_ z_
      obtain ⟨e_v, Nq, eh⟩ := hQ
      rw [hz] at e_v
      subst e_v
      have N := Fr.app N Nq
      have eT := eh
      refine Go.by st ?_
      show Go p.tables e below (T.setTop (mkF m 100 #[.val (.int p0), .val (.int p1), .val (.int p2), .val (.int p3), .val (.int p4), .val (.int p5), .val (.ref b1), .val (.int (1 : Int32)), .val (.int (3 : Int32)), .val (.int (0 : Int32)), .unset, .unset] [(.int (1 : Int32))])) _
      refine Go.by (fun tt_ kk_ => XS.istore X.here hx rfl (hb hby at_100) rfl (l' := #[.val (.int p0), .val (.int p1), .val (.int p2), .val (.int p3), .val (.int p4), .val (.int p5), .val (.ref b1), .val (.int (1 : Int32)), .val (.int (3 : Int32)), .val (.int (0 : Int32)), .val (.int (1 : Int32)), .unset]) rfl kk_) ?_
      show Go p.tables e below (T.setTop (mkF m 102 #[.val (.int p0), .val (.int p1), .val (.int p2), .val (.int p3), .val (.int p4), .val (.int p5), .val (.ref b1), .val (.int (1 : Int32)), .val (.int (3 : Int32)), .val (.int (0 : Int32)), .val (.int (1 : Int32)), .unset] [])) _
      refine Go.by (fun tt_ kk_ => XS.iload X.here hx rfl (hb hby at_102) rfl kk_) ?_
      show Go p.tables e below (T.setTop (mkF m 104 #[.val (.int p0), .val (.int p1), .val (.int p2), .val (.int p3), .val (.int p4), .val (.int p5), .val (.ref b1), .val (.int (1 : Int32)), .val (.int (3 : Int32)), .val (.int (0 : Int32)), .val (.int (1 : Int32)), .unset] [(.int (1 : Int32))])) _
      refine Go.by (fun tt_ kk_ => XS.iconst X.here hx rfl (hb hby at_104) kk_) ?_
      show Go p.tables e below (T.setTop (mkF m 105 #[.val (.int p0), .val (.int p1), .val (.int p2), .val (.int p3), .val (.int p4), .val (.int p5), .val (.ref b1), .val (.int (1 : Int32)), .val (.int (3 : Int32)), .val (.int (0 : Int32)), .val (.int (1 : Int32)), .unset] [(.int (1 : Int32)), (.int (1 : Int32))])) _
      refine Go.by (fun tt_ kk_ => XS.icmpNo X.here hx rfl (hb hby at_105) rfl (flt (by decide : ¬ ((1 : Int32) < (1 : Int32)))).1 kk_) ?_
      show Go p.tables e below (T.setTop (mkF m 108 #[.val (.int p0), .val (.int p1), .val (.int p2), .val (.int p3), .val (.int p4), .val (.int p5), .val (.ref b1), .val (.int (1 : Int32)), .val (.int (3 : Int32)), .val (.int (0 : Int32)), .val (.int (1 : Int32)), .unset] [])) _
      refine Go.by (fun tt_ kk_ => XS.aload X.here hx rfl (hb hby at_108) rfl rfl kk_) ?_
      show Go p.tables e below (T.setTop (mkF m 110 #[.val (.int p0), .val (.int p1), .val (.int p2), .val (.int p3), .val (.int p4), .val (.int p5), .val (.ref b1), .val (.int (1 : Int32)), .val (.int (3 : Int32)), .val (.int (0 : Int32)), .val (.int (1 : Int32)), .unset] [(.ref b1)])) _
      obtain ⟨cq_, kq_, qa_, qb_, qc_⟩ := isOf hZ eT E_b1
      obtain ⟨_, _, ⟨T, L_, k_, n_⟩, -, X, ⟨Lc_, hQ, l_, y_, z_⟩, st⟩ := X.virtualBack hx (y := (⟨"com/example/mode_choice_loop/modechoiceloop/simulation/TimeHeap", "removeFirst", "()I"⟩ : MethodName)) (z := (⟨"com/example/mode_choice_loop/modechoiceloop/simulation/TimeHeap", "removeFirst", "()I"⟩ : MethodName)) hown (mvT hZ (hw _ (List.mem_of_getElem? (i := 53) rfl))) (mvT hZ (hw _ (List.mem_of_getElem? (i := 54) rfl))) (notFace_of_selects (args := #[]) (mvT hZ (hw _ (List.mem_of_getElem? (i := 56) rfl)))) (mvT hZ (hw _ (List.mem_of_getElem? (i := 56) rfl))) (mvT hZ (hw _ (List.mem_of_getElem? (i := 55) rfl))) (by decide) (backOf (W := 0) (rm11_3 l Z a0 hw [] b1 h58 n0 (Nat.le_trans Z0 K.1) TH) hZ (hw _ (List.mem_of_getElem? (i := 57) rfl)) (hw _ (List.mem_of_getElem? (i := 2) rfl)) (by decide) (by decide)) qa_ qc_ (g := (mkF m 110 #[.val (.int p0), .val (.int p1), .val (.int p2), .val (.int p3), .val (.int p4), .val (.int p5), .val (.ref b1), .val (.int (1 : Int32)), .val (.int (3 : Int32)), .val (.int (0 : Int32)), .val (.int (1 : Int32)), .unset] [(.ref b1)])) rfl (by rw [hml]; rfl) (Steps.refl _) (argsL := []) (rest := []) (lenOf pd_12 rfl) rfl (by show 2 * 0 + _ ≤ _; exact Nat.le_of_eq rfl) (hb hby at_110) (fun _ _ => ⟨rfl, eT, (by decide : 9 + 0 ≤ _), (by decide : 35 + 0 ≤ _)⟩)
      dsimp only [Pt.U, Pt.locs, Pt.cells, Pt.slots] at X l_ y_ z_ st hQ
      subst l_ y_ z_
      obtain ⟨h64, eT⟩ : ∃ z, T.heap = z := ⟨_, rfl⟩
      rw [eT] at hQ
      obtain ⟨r63, rfl, Nq, Kq, TH⟩ := hQ
      have N := Fr.app N Nq
      have K := And.intro (Nat.le_trans K.1 Kq.1) trivial
      have E_b1 := TH.1
      refine Go.tr st ?_
      show Go p.tables e below (T.setTop (mkF m 113 #[.val (.int p0), .val (.int p1), .val (.int p2), .val (.int p3), .val (.int p4), .val (.int p5), .val (.ref b1), .val (.int (1 : Int32)), .val (.int (3 : Int32)), .val (.int (0 : Int32)), .val (.int (1 : Int32)), .unset] [(.int r63)])) _
      refine Go.by (fun tt_ kk_ => XS.pop X.here hx rfl (hb hby at_113) rfl rfl kk_) ?_
      show Go p.tables e below (T.setTop (mkF m 114 #[.val (.int p0), .val (.int p1), .val (.int p2), .val (.int p3), .val (.int p4), .val (.int p5), .val (.ref b1), .val (.int (1 : Int32)), .val (.int (3 : Int32)), .val (.int (0 : Int32)), .val (.int (1 : Int32)), .unset] [])) _
      refine Go.by (fun tt_ kk_ => XS.iload X.here hx rfl (hb hby at_114) rfl kk_) ?_
      show Go p.tables e below (T.setTop (mkF m 116 #[.val (.int p0), .val (.int p1), .val (.int p2), .val (.int p3), .val (.int p4), .val (.int p5), .val (.ref b1), .val (.int (1 : Int32)), .val (.int (3 : Int32)), .val (.int (0 : Int32)), .val (.int (1 : Int32)), .unset] [(.int (1 : Int32))])) _
      refine Go.by (fun tt_ kk_ => XS.iconst X.here hx rfl (hb hby at_116) kk_) ?_
      show Go p.tables e below (T.setTop (mkF m 117 #[.val (.int p0), .val (.int p1), .val (.int p2), .val (.int p3), .val (.int p4), .val (.int p5), .val (.ref b1), .val (.int (1 : Int32)), .val (.int (3 : Int32)), .val (.int (0 : Int32)), .val (.int (1 : Int32)), .unset] [(.int (2 : Int32)), (.int (1 : Int32))])) _
      refine Go.by (fun tt_ kk_ => XS.icmpYes X.here hx rfl (pc0 := 117) (pc' := 126) rfl (hb hby at_117) rfl (tlt (by decide : (1 : Int32) < (2 : Int32))).1 (by decide) (by decide) kk_) ?_
      show Go p.tables e below (T.setTop (mkF m 126 #[.val (.int p0), .val (.int p1), .val (.int p2), .val (.int p3), .val (.int p4), .val (.int p5), .val (.ref b1), .val (.int (1 : Int32)), .val (.int (3 : Int32)), .val (.int (0 : Int32)), .val (.int (1 : Int32)), .unset] [])) _
      refine Go.by (fun tt_ kk_ => XS.iload X.here hx rfl (hb hby at_126) rfl kk_) ?_
      show Go p.tables e below (T.setTop (mkF m 128 #[.val (.int p0), .val (.int p1), .val (.int p2), .val (.int p3), .val (.int p4), .val (.int p5), .val (.ref b1), .val (.int (1 : Int32)), .val (.int (3 : Int32)), .val (.int (0 : Int32)), .val (.int (1 : Int32)), .unset] [(.int (1 : Int32))])) _
      refine Go.by (fun tt_ kk_ => XS.iconst X.here hx rfl (hb hby at_128) kk_) ?_
      show Go p.tables e below (T.setTop (mkF m 129 #[.val (.int p0), .val (.int p1), .val (.int p2), .val (.int p3), .val (.int p4), .val (.int p5), .val (.ref b1), .val (.int (1 : Int32)), .val (.int (3 : Int32)), .val (.int (0 : Int32)), .val (.int (1 : Int32)), .unset] [(.int (3 : Int32)), (.int (1 : Int32))])) _
      refine Go.by (fun tt_ kk_ => XS.icmpYes X.here hx rfl (pc0 := 129) (pc' := 138) rfl (hb hby at_129) rfl (tlt (by decide : (1 : Int32) < (3 : Int32))).1 (by decide) (by decide) kk_) ?_
      show Go p.tables e below (T.setTop (mkF m 138 #[.val (.int p0), .val (.int p1), .val (.int p2), .val (.int p3), .val (.int p4), .val (.int p5), .val (.ref b1), .val (.int (1 : Int32)), .val (.int (3 : Int32)), .val (.int (0 : Int32)), .val (.int (1 : Int32)), .unset] [])) _
      refine Go.by (fun tt_ kk_ => XS.aload X.here hx rfl (hb hby at_138) rfl rfl kk_) ?_
      show Go p.tables e below (T.setTop (mkF m 140 #[.val (.int p0), .val (.int p1), .val (.int p2), .val (.int p3), .val (.int p4), .val (.int p5), .val (.ref b1), .val (.int (1 : Int32)), .val (.int (3 : Int32)), .val (.int (0 : Int32)), .val (.int (1 : Int32)), .unset] [(.ref b1)])) _
      have hz : (if (2 : Int32) = 0 then (1 : Int32) else 0) = (0 : Int32) := by decide
      obtain ⟨cq_, kq_, qa_, qb_, qc_⟩ := isOf hZ eT E_b1
      obtain ⟨_, _, ⟨T, L_, k_, n_⟩, -, X, ⟨Lc_, hQ, l_, y_, z_⟩, st⟩ := X.virtualBack hx (y := (⟨"com/example/mode_choice_loop/modechoiceloop/simulation/TimeHeap", "isEmpty", "()Z"⟩ : MethodName)) (z := (⟨"com/example/mode_choice_loop/modechoiceloop/simulation/TimeHeap", "isEmpty", "()Z"⟩ : MethodName)) hown (mvT hZ (hw _ (List.mem_of_getElem? (i := 19) rfl))) (mvT hZ (hw _ (List.mem_of_getElem? (i := 20) rfl))) (notFace_of_selects (args := #[]) (mvT hZ (hw _ (List.mem_of_getElem? (i := 22) rfl)))) (mvT hZ (hw _ (List.mem_of_getElem? (i := 22) rfl))) (mvT hZ (hw _ (List.mem_of_getElem? (i := 21) rfl))) (by decide) (backOf (W := 0) (rm4 l Z a0 hw [] b1 (2 : Int32) h64 n0 (Nat.le_trans Z0 K.1) TH) hZ (hw _ (List.mem_of_getElem? (i := 23) rfl)) (hw _ (List.mem_of_getElem? (i := 2) rfl)) (by decide) (by decide)) qa_ qc_ (g := (mkF m 140 #[.val (.int p0), .val (.int p1), .val (.int p2), .val (.int p3), .val (.int p4), .val (.int p5), .val (.ref b1), .val (.int (1 : Int32)), .val (.int (3 : Int32)), .val (.int (0 : Int32)), .val (.int (1 : Int32)), .unset] [(.ref b1)])) rfl (by rw [hml]; rfl) (Steps.refl _) (argsL := []) (rest := []) (lenOf pd_10 rfl) rfl (by show 2 * 0 + _ ≤ _; exact Nat.le_of_eq rfl) (hb hby at_140) (fun _ _ => ⟨rfl, eT, (by decide : 9 + 0 ≤ _), (by decide : 35 + 0 ≤ _)⟩)
      dsimp only [Pt.U, Pt.locs, Pt.cells, Pt.slots] at X l_ y_ z_ st hQ
      subst l_ y_ z_
      obtain ⟨e_v, Nq, eh⟩ := hQ
      rw [hz] at e_v
      subst e_v
      have N := Fr.app N Nq
      have eT := eh
      refine Go.tr st ?_
      show Go p.tables e below (T.setTop (mkF m 143 #[.val (.int p0), .val (.int p1), .val (.int p2), .val (.int p3), .val (.int p4), .val (.int p5), .val (.ref b1), .val (.int (1 : Int32)), .val (.int (3 : Int32)), .val (.int (0 : Int32)), .val (.int (1 : Int32)), .unset] [(.int (0 : Int32))])) _
      refine Go.by (fun tt_ kk_ => XS.istore X.here hx rfl (hb hby at_143) rfl (l' := #[.val (.int p0), .val (.int p1), .val (.int p2), .val (.int p3), .val (.int p4), .val (.int p5), .val (.ref b1), .val (.int (1 : Int32)), .val (.int (3 : Int32)), .val (.int (0 : Int32)), .val (.int (1 : Int32)), .val (.int (0 : Int32))]) rfl kk_) ?_
      show Go p.tables e below (T.setTop (mkF m 145 #[.val (.int p0), .val (.int p1), .val (.int p2), .val (.int p3), .val (.int p4), .val (.int p5), .val (.ref b1), .val (.int (1 : Int32)), .val (.int (3 : Int32)), .val (.int (0 : Int32)), .val (.int (1 : Int32)), .val (.int (0 : Int32))] [])) _
      refine Go.by (fun tt_ kk_ => XS.iload X.here hx rfl (hb hby at_145) rfl kk_) ?_
      show Go p.tables e below (T.setTop (mkF m 147 #[.val (.int p0), .val (.int p1), .val (.int p2), .val (.int p3), .val (.int p4), .val (.int p5), .val (.ref b1), .val (.int (1 : Int32)), .val (.int (3 : Int32)), .val (.int (0 : Int32)), .val (.int (1 : Int32)), .val (.int (0 : Int32))] [(.int (1 : Int32))])) _
      refine Go.by (fun tt_ kk_ => XS.ifNo X.here hx rfl (hb hby at_147) rfl ((if0 _ _).trans (feq (by decide : ¬ ((1 : Int32) = (0 : Int32)))).1) kk_) ?_
      show Go p.tables e below (T.setTop (mkF m 150 #[.val (.int p0), .val (.int p1), .val (.int p2), .val (.int p3), .val (.int p4), .val (.int p5), .val (.ref b1), .val (.int (1 : Int32)), .val (.int (3 : Int32)), .val (.int (0 : Int32)), .val (.int (1 : Int32)), .val (.int (0 : Int32))] [])) _
      refine Go.by (fun tt_ kk_ => XS.iload X.here hx rfl (hb hby at_150) rfl kk_) ?_
      show Go p.tables e below (T.setTop (mkF m 152 #[.val (.int p0), .val (.int p1), .val (.int p2), .val (.int p3), .val (.int p4), .val (.int p5), .val (.ref b1), .val (.int (1 : Int32)), .val (.int (3 : Int32)), .val (.int (0 : Int32)), .val (.int (1 : Int32)), .val (.int (0 : Int32))] [(.int (0 : Int32))])) _
      refine Go.by (fun tt_ kk_ => XS.iload X.here hx rfl (hb hby at_152) rfl kk_) ?_
      show Go p.tables e below (T.setTop (mkF m 154 #[.val (.int p0), .val (.int p1), .val (.int p2), .val (.int p3), .val (.int p4), .val (.int p5), .val (.ref b1), .val (.int (1 : Int32)), .val (.int (3 : Int32)), .val (.int (0 : Int32)), .val (.int (1 : Int32)), .val (.int (0 : Int32))] [(.int (3 : Int32)), (.int (0 : Int32))])) _
      refine Go.by (fun tt_ kk_ => XS.ifYes X.here hx rfl (pc0 := 154) (pc' := 161) rfl (hb hby at_154) rfl ((if0 _ _).trans (feq (by decide : ¬ ((3 : Int32) = (0 : Int32)))).2) (by decide) (by decide) kk_) ?_
      show Go p.tables e below (T.setTop (mkF m 161 #[.val (.int p0), .val (.int p1), .val (.int p2), .val (.int p3), .val (.int p4), .val (.int p5), .val (.ref b1), .val (.int (1 : Int32)), .val (.int (3 : Int32)), .val (.int (0 : Int32)), .val (.int (1 : Int32)), .val (.int (0 : Int32))] [(.int (0 : Int32))])) _
      refine Go.by (fun tt_ kk_ => XS.iconst X.here hx rfl (hb hby at_161) kk_) ?_
      show Go p.tables e below (T.setTop (mkF m 162 #[.val (.int p0), .val (.int p1), .val (.int p2), .val (.int p3), .val (.int p4), .val (.int p5), .val (.ref b1), .val (.int (1 : Int32)), .val (.int (3 : Int32)), .val (.int (0 : Int32)), .val (.int (1 : Int32)), .val (.int (0 : Int32))] [(.int (0 : Int32)), (.int (0 : Int32))])) _
      refine Go.by (fun tt_ kk_ => XS.icmpNo X.here hx rfl (hb hby at_162) rfl (teq (rfl : (0 : Int32) = (0 : Int32))).2 kk_) ?_
      show Go p.tables e below (T.setTop (mkF m 165 #[.val (.int p0), .val (.int p1), .val (.int p2), .val (.int p3), .val (.int p4), .val (.int p5), .val (.ref b1), .val (.int (1 : Int32)), .val (.int (3 : Int32)), .val (.int (0 : Int32)), .val (.int (1 : Int32)), .val (.int (0 : Int32))] [])) _
      refine Go.by (fun tt_ kk_ => XS.iload X.here hx rfl (hb hby at_165) rfl kk_) ?_
      show Go p.tables e below (T.setTop (mkF m 167 #[.val (.int p0), .val (.int p1), .val (.int p2), .val (.int p3), .val (.int p4), .val (.int p5), .val (.ref b1), .val (.int (1 : Int32)), .val (.int (3 : Int32)), .val (.int (0 : Int32)), .val (.int (1 : Int32)), .val (.int (0 : Int32))] [(.int (0 : Int32))])) _
      refine Go.by (fun tt_ kk_ => XS.iload X.here hx rfl (hb hby at_167) rfl kk_) ?_
      show Go p.tables e below (T.setTop (mkF m 169 #[.val (.int p0), .val (.int p1), .val (.int p2), .val (.int p3), .val (.int p4), .val (.int p5), .val (.ref b1), .val (.int (1 : Int32)), .val (.int (3 : Int32)), .val (.int (0 : Int32)), .val (.int (1 : Int32)), .val (.int (0 : Int32))] [(.int (3 : Int32)), (.int (0 : Int32))])) _
      refine Go.by (fun tt_ kk_ => XS.iload X.here hx rfl (hb hby at_169) rfl kk_) ?_
      show Go p.tables e below (T.setTop (mkF m 171 #[.val (.int p0), .val (.int p1), .val (.int p2), .val (.int p3), .val (.int p4), .val (.int p5), .val (.ref b1), .val (.int (1 : Int32)), .val (.int (3 : Int32)), .val (.int (0 : Int32)), .val (.int (1 : Int32)), .val (.int (0 : Int32))] [(.int (1 : Int32)), (.int (3 : Int32)), (.int (0 : Int32))])) _
      refine Go.by (fun tt_ kk_ => XS.icmpYes X.here hx rfl (pc0 := 171) (pc' := 178) rfl (hb hby at_171) rfl (feq (by decide : ¬ ((3 : Int32) = (1 : Int32)))).2 (by decide) (by decide) kk_) ?_
      show Go p.tables e below (T.setTop (mkF m 178 #[.val (.int p0), .val (.int p1), .val (.int p2), .val (.int p3), .val (.int p4), .val (.int p5), .val (.ref b1), .val (.int (1 : Int32)), .val (.int (3 : Int32)), .val (.int (0 : Int32)), .val (.int (1 : Int32)), .val (.int (0 : Int32))] [(.int (0 : Int32))])) _
      refine Go.by (fun tt_ kk_ => XS.iconst X.here hx rfl (hb hby at_178) kk_) ?_
      show Go p.tables e below (T.setTop (mkF m 179 #[.val (.int p0), .val (.int p1), .val (.int p2), .val (.int p3), .val (.int p4), .val (.int p5), .val (.ref b1), .val (.int (1 : Int32)), .val (.int (3 : Int32)), .val (.int (0 : Int32)), .val (.int (1 : Int32)), .val (.int (0 : Int32))] [(.int (0 : Int32)), (.int (0 : Int32))])) _
      refine Go.by (fun tt_ kk_ => XS.icmpNo X.here hx rfl (hb hby at_179) rfl (teq (rfl : (0 : Int32) = (0 : Int32))).2 kk_) ?_
      show Go p.tables e below (T.setTop (mkF m 182 #[.val (.int p0), .val (.int p1), .val (.int p2), .val (.int p3), .val (.int p4), .val (.int p5), .val (.ref b1), .val (.int (1 : Int32)), .val (.int (3 : Int32)), .val (.int (0 : Int32)), .val (.int (1 : Int32)), .val (.int (0 : Int32))] [])) _
      refine Go.by (fun tt_ kk_ => XS.iconst X.here hx rfl (hb hby at_182) kk_) ?_
      show Go p.tables e below (T.setTop (mkF m 183 #[.val (.int p0), .val (.int p1), .val (.int p2), .val (.int p3), .val (.int p4), .val (.int p5), .val (.ref b1), .val (.int (1 : Int32)), .val (.int (3 : Int32)), .val (.int (0 : Int32)), .val (.int (1 : Int32)), .val (.int (0 : Int32))] [(.int (1 : Int32))])) _
      refine Go.by (fun tt_ kk_ => XS.goto X.here hx rfl (pc0 := 183) (pc' := 187) rfl (hb hby at_183) (by decide) (by decide) kk_) ?_
      show Go p.tables e below (T.setTop (mkF m 187 #[.val (.int p0), .val (.int p1), .val (.int p2), .val (.int p3), .val (.int p4), .val (.int p5), .val (.ref b1), .val (.int (1 : Int32)), .val (.int (3 : Int32)), .val (.int (0 : Int32)), .val (.int (1 : Int32)), .val (.int (0 : Int32))] [(.int (1 : Int32))])) _
      exact Go.done X  (v := some (.int (1 : Int32))) (fun h => by rw [Bd.returns] at h; cases h) Bd.notSynchronized (fun fs hr => retN X hx (z := (1 : Int32)) (t := .boolean) Bd.returns (by simp) (hb hby at_187) hr) (by rw [eT]; exact ⟨rfl, N⟩) (by decide) (by decide)
    · rw [hcs]
      show Go p.tables e below (T.setTop (mkF m 95 #[.val (.int p0), .val (.int p1), .val (.int p2), .val (.int p3), .val (.int p4), .val (.int p5), .val (.ref b1), .val (.int (1 : Int32)), .val (.int (3 : Int32)), .val (.int (0 : Int32)), .unset, .unset] [(.int (2 : Int32))])) _
      refine Go.by (fun tt_ kk_ => XS.iload X.here hx rfl (hb hby at_95) rfl kk_) ?_
      show Go p.tables e below (T.setTop (mkF m 97 #[.val (.int p0), .val (.int p1), .val (.int p2), .val (.int p3), .val (.int p4), .val (.int p5), .val (.ref b1), .val (.int (1 : Int32)), .val (.int (3 : Int32)), .val (.int (0 : Int32)), .unset, .unset] [(.int (3 : Int32)), (.int (2 : Int32))])) _
      have hz : (if (3 : Int32) < (2 : Int32) then (3 : Int32) else (2 : Int32)) = (2 : Int32) := by decide
      obtain ⟨_, _, ⟨T, L_, k_, n_⟩, -, X, ⟨Lc_, hQ, l_, y_, z_⟩, st⟩ := Jvm.LawKit.callS X hx (y := (⟨"java/lang/Math", "min", "(II)I"⟩ : MethodName)) hown (mvT hZ (hw _ (List.mem_of_getElem? (i := 52) rfl))) (mvT hZ (hw _ (List.mem_of_getElem? (i := 36) rfl))) (mvT hZ (hw _ (List.mem_of_getElem? (i := 11) rfl))) (mvT hZ (hw _ (List.mem_of_getElem? (i := 37) rfl))) (by decide) (backOf (W := 0) (rm7 l Z a0 hw [] (2 : Int32) (3 : Int32) h58 n0 (Nat.le_trans Z0 K.1) ) hZ (hw _ (List.mem_of_getElem? (i := 37) rfl)) (hw _ (List.mem_of_getElem? (i := 11) rfl)) (by decide) (by decide)) (g := (mkF m 97 #[.val (.int p0), .val (.int p1), .val (.int p2), .val (.int p3), .val (.int p4), .val (.int p5), .val (.ref b1), .val (.int (1 : Int32)), .val (.int (3 : Int32)), .val (.int (0 : Int32)), .unset, .unset] [(.int (3 : Int32)), (.int (2 : Int32))])) rfl (by rw [hml]; rfl) (argsL := [(.int (2 : Int32)), (.int (3 : Int32))]) (rest := []) (lenOf pd_3 rfl) rfl (by show 2 * 0 + _ ≤ _; exact Nat.le_of_eq rfl) (hb hby at_97) (fun _ _ => ⟨rfl, eT, (by decide : 9 + 0 ≤ _), (by decide : 35 + 0 ≤ _)⟩)
      dsimp only [Pt.U, Pt.locs, Pt.cells, Pt.slots] at X l_ y_ z_ st hQ
      subst l_ y_ z_
      obtain ⟨e_v, Nq, eh⟩ := hQ
      rw [hz] at e_v
      subst e_v
      have N := Fr.app N Nq
      have eT := eh
      refine Go.by st ?_
      show Go p.tables e below (T.setTop (mkF m 100 #[.val (.int p0), .val (.int p1), .val (.int p2), .val (.int p3), .val (.int p4), .val (.int p5), .val (.ref b1), .val (.int (1 : Int32)), .val (.int (3 : Int32)), .val (.int (0 : Int32)), .unset, .unset] [(.int (2 : Int32))])) _
      refine Go.by (fun tt_ kk_ => XS.istore X.here hx rfl (hb hby at_100) rfl (l' := #[.val (.int p0), .val (.int p1), .val (.int p2), .val (.int p3), .val (.int p4), .val (.int p5), .val (.ref b1), .val (.int (1 : Int32)), .val (.int (3 : Int32)), .val (.int (0 : Int32)), .val (.int (2 : Int32)), .unset]) rfl kk_) ?_
      show Go p.tables e below (T.setTop (mkF m 102 #[.val (.int p0), .val (.int p1), .val (.int p2), .val (.int p3), .val (.int p4), .val (.int p5), .val (.ref b1), .val (.int (1 : Int32)), .val (.int (3 : Int32)), .val (.int (0 : Int32)), .val (.int (2 : Int32)), .unset] [])) _
      refine Go.by (fun tt_ kk_ => XS.iload X.here hx rfl (hb hby at_102) rfl kk_) ?_
      show Go p.tables e below (T.setTop (mkF m 104 #[.val (.int p0), .val (.int p1), .val (.int p2), .val (.int p3), .val (.int p4), .val (.int p5), .val (.ref b1), .val (.int (1 : Int32)), .val (.int (3 : Int32)), .val (.int (0 : Int32)), .val (.int (2 : Int32)), .unset] [(.int (2 : Int32))])) _
      refine Go.by (fun tt_ kk_ => XS.iconst X.here hx rfl (hb hby at_104) kk_) ?_
      show Go p.tables e below (T.setTop (mkF m 105 #[.val (.int p0), .val (.int p1), .val (.int p2), .val (.int p3), .val (.int p4), .val (.int p5), .val (.ref b1), .val (.int (1 : Int32)), .val (.int (3 : Int32)), .val (.int (0 : Int32)), .val (.int (2 : Int32)), .unset] [(.int (1 : Int32)), (.int (2 : Int32))])) _
      refine Go.by (fun tt_ kk_ => XS.icmpNo X.here hx rfl (hb hby at_105) rfl (flt (by decide : ¬ ((2 : Int32) < (1 : Int32)))).1 kk_) ?_
      show Go p.tables e below (T.setTop (mkF m 108 #[.val (.int p0), .val (.int p1), .val (.int p2), .val (.int p3), .val (.int p4), .val (.int p5), .val (.ref b1), .val (.int (1 : Int32)), .val (.int (3 : Int32)), .val (.int (0 : Int32)), .val (.int (2 : Int32)), .unset] [])) _
      refine Go.by (fun tt_ kk_ => XS.aload X.here hx rfl (hb hby at_108) rfl rfl kk_) ?_
      show Go p.tables e below (T.setTop (mkF m 110 #[.val (.int p0), .val (.int p1), .val (.int p2), .val (.int p3), .val (.int p4), .val (.int p5), .val (.ref b1), .val (.int (1 : Int32)), .val (.int (3 : Int32)), .val (.int (0 : Int32)), .val (.int (2 : Int32)), .unset] [(.ref b1)])) _
      obtain ⟨cq_, kq_, qa_, qb_, qc_⟩ := isOf hZ eT E_b1
      obtain ⟨_, _, ⟨T, L_, k_, n_⟩, -, X, ⟨Lc_, hQ, l_, y_, z_⟩, st⟩ := X.virtualBack hx (y := (⟨"com/example/mode_choice_loop/modechoiceloop/simulation/TimeHeap", "removeFirst", "()I"⟩ : MethodName)) (z := (⟨"com/example/mode_choice_loop/modechoiceloop/simulation/TimeHeap", "removeFirst", "()I"⟩ : MethodName)) hown (mvT hZ (hw _ (List.mem_of_getElem? (i := 53) rfl))) (mvT hZ (hw _ (List.mem_of_getElem? (i := 54) rfl))) (notFace_of_selects (args := #[]) (mvT hZ (hw _ (List.mem_of_getElem? (i := 56) rfl)))) (mvT hZ (hw _ (List.mem_of_getElem? (i := 56) rfl))) (mvT hZ (hw _ (List.mem_of_getElem? (i := 55) rfl))) (by decide) (backOf (W := 0) (rm11_3 l Z a0 hw [] b1 h58 n0 (Nat.le_trans Z0 K.1) TH) hZ (hw _ (List.mem_of_getElem? (i := 57) rfl)) (hw _ (List.mem_of_getElem? (i := 2) rfl)) (by decide) (by decide)) qa_ qc_ (g := (mkF m 110 #[.val (.int p0), .val (.int p1), .val (.int p2), .val (.int p3), .val (.int p4), .val (.int p5), .val (.ref b1), .val (.int (1 : Int32)), .val (.int (3 : Int32)), .val (.int (0 : Int32)), .val (.int (2 : Int32)), .unset] [(.ref b1)])) rfl (by rw [hml]; rfl) (Steps.refl _) (argsL := []) (rest := []) (lenOf pd_12 rfl) rfl (by show 2 * 0 + _ ≤ _; exact Nat.le_of_eq rfl) (hb hby at_110) (fun _ _ => ⟨rfl, eT, (by decide : 9 + 0 ≤ _), (by decide : 35 + 0 ≤ _)⟩)
      dsimp only [Pt.U, Pt.locs, Pt.cells, Pt.slots] at X l_ y_ z_ st hQ
      subst l_ y_ z_
      obtain ⟨h68, eT⟩ : ∃ z, T.heap = z := ⟨_, rfl⟩
      rw [eT] at hQ
      obtain ⟨r67, rfl, Nq, Kq, TH⟩ := hQ
      have N := Fr.app N Nq
      have K := And.intro (Nat.le_trans K.1 Kq.1) trivial
      have E_b1 := TH.1
      refine Go.tr st ?_
      show Go p.tables e below (T.setTop (mkF m 113 #[.val (.int p0), .val (.int p1), .val (.int p2), .val (.int p3), .val (.int p4), .val (.int p5), .val (.ref b1), .val (.int (1 : Int32)), .val (.int (3 : Int32)), .val (.int (0 : Int32)), .val (.int (2 : Int32)), .unset] [(.int r67)])) _
      refine Go.by (fun tt_ kk_ => XS.pop X.here hx rfl (hb hby at_113) rfl rfl kk_) ?_
      show Go p.tables e below (T.setTop (mkF m 114 #[.val (.int p0), .val (.int p1), .val (.int p2), .val (.int p3), .val (.int p4), .val (.int p5), .val (.ref b1), .val (.int (1 : Int32)), .val (.int (3 : Int32)), .val (.int (0 : Int32)), .val (.int (2 : Int32)), .unset] [])) _
      refine Go.by (fun tt_ kk_ => XS.iload X.here hx rfl (hb hby at_114) rfl kk_) ?_
      show Go p.tables e below (T.setTop (mkF m 116 #[.val (.int p0), .val (.int p1), .val (.int p2), .val (.int p3), .val (.int p4), .val (.int p5), .val (.ref b1), .val (.int (1 : Int32)), .val (.int (3 : Int32)), .val (.int (0 : Int32)), .val (.int (2 : Int32)), .unset] [(.int (2 : Int32))])) _
      refine Go.by (fun tt_ kk_ => XS.iconst X.here hx rfl (hb hby at_116) kk_) ?_
      show Go p.tables e below (T.setTop (mkF m 117 #[.val (.int p0), .val (.int p1), .val (.int p2), .val (.int p3), .val (.int p4), .val (.int p5), .val (.ref b1), .val (.int (1 : Int32)), .val (.int (3 : Int32)), .val (.int (0 : Int32)), .val (.int (2 : Int32)), .unset] [(.int (2 : Int32)), (.int (2 : Int32))])) _
      refine Go.by (fun tt_ kk_ => XS.icmpNo X.here hx rfl (hb hby at_117) rfl (flt (by decide : ¬ ((2 : Int32) < (2 : Int32)))).1 kk_) ?_
      show Go p.tables e below (T.setTop (mkF m 120 #[.val (.int p0), .val (.int p1), .val (.int p2), .val (.int p3), .val (.int p4), .val (.int p5), .val (.ref b1), .val (.int (1 : Int32)), .val (.int (3 : Int32)), .val (.int (0 : Int32)), .val (.int (2 : Int32)), .unset] [])) _
      refine Go.by (fun tt_ kk_ => XS.aload X.here hx rfl (hb hby at_120) rfl rfl kk_) ?_
      show Go p.tables e below (T.setTop (mkF m 122 #[.val (.int p0), .val (.int p1), .val (.int p2), .val (.int p3), .val (.int p4), .val (.int p5), .val (.ref b1), .val (.int (1 : Int32)), .val (.int (3 : Int32)), .val (.int (0 : Int32)), .val (.int (2 : Int32)), .unset] [(.ref b1)])) _
      obtain ⟨cq_, kq_, qa_, qb_, qc_⟩ := isOf hZ eT E_b1
      obtain ⟨_, _, ⟨T, L_, k_, n_⟩, -, X, ⟨Lc_, hQ, l_, y_, z_⟩, st⟩ := X.virtualBack hx (y := (⟨"com/example/mode_choice_loop/modechoiceloop/simulation/TimeHeap", "removeFirst", "()I"⟩ : MethodName)) (z := (⟨"com/example/mode_choice_loop/modechoiceloop/simulation/TimeHeap", "removeFirst", "()I"⟩ : MethodName)) hown (mvT hZ (hw _ (List.mem_of_getElem? (i := 53) rfl))) (mvT hZ (hw _ (List.mem_of_getElem? (i := 54) rfl))) (notFace_of_selects (args := #[]) (mvT hZ (hw _ (List.mem_of_getElem? (i := 56) rfl)))) (mvT hZ (hw _ (List.mem_of_getElem? (i := 56) rfl))) (mvT hZ (hw _ (List.mem_of_getElem? (i := 55) rfl))) (by decide) (backOf (W := 0) (rm11_2 l Z a0 hw [] b1 h68 n0 (Nat.le_trans Z0 K.1) TH) hZ (hw _ (List.mem_of_getElem? (i := 57) rfl)) (hw _ (List.mem_of_getElem? (i := 2) rfl)) (by decide) (by decide)) qa_ qc_ (g := (mkF m 122 #[.val (.int p0), .val (.int p1), .val (.int p2), .val (.int p3), .val (.int p4), .val (.int p5), .val (.ref b1), .val (.int (1 : Int32)), .val (.int (3 : Int32)), .val (.int (0 : Int32)), .val (.int (2 : Int32)), .unset] [(.ref b1)])) rfl (by rw [hml]; rfl) (Steps.refl _) (argsL := []) (rest := []) (lenOf pd_12 rfl) rfl (by show 2 * 0 + _ ≤ _; exact Nat.le_of_eq rfl) (hb hby at_122) (fun _ _ => ⟨rfl, eT, (by decide : 9 + 0 ≤ _), (by decide : 35 + 0 ≤ _)⟩)
      dsimp only [Pt.U, Pt.locs, Pt.cells, Pt.slots] at X l_ y_ z_ st hQ
      subst l_ y_ z_
      obtain ⟨h70, eT⟩ : ∃ z, T.heap = z := ⟨_, rfl⟩
      rw [eT] at hQ
      obtain ⟨r69, rfl, Nq, Kq, TH⟩ := hQ
      have N := Fr.app N Nq
      have K := And.intro (Nat.le_trans K.1 Kq.1) trivial
      have E_b1 := TH.1
      refine Go.tr st ?_
      show Go p.tables e below (T.setTop (mkF m 125 #[.val (.int p0), .val (.int p1), .val (.int p2), .val (.int p3), .val (.int p4), .val (.int p5), .val (.ref b1), .val (.int (1 : Int32)), .val (.int (3 : Int32)), .val (.int (0 : Int32)), .val (.int (2 : Int32)), .unset] [(.int r69)])) _
      refine Go.by (fun tt_ kk_ => XS.pop X.here hx rfl (hb hby at_125) rfl rfl kk_) ?_
      show Go p.tables e below (T.setTop (mkF m 126 #[.val (.int p0), .val (.int p1), .val (.int p2), .val (.int p3), .val (.int p4), .val (.int p5), .val (.ref b1), .val (.int (1 : Int32)), .val (.int (3 : Int32)), .val (.int (0 : Int32)), .val (.int (2 : Int32)), .unset] [])) _
      refine Go.by (fun tt_ kk_ => XS.iload X.here hx rfl (hb hby at_126) rfl kk_) ?_
      show Go p.tables e below (T.setTop (mkF m 128 #[.val (.int p0), .val (.int p1), .val (.int p2), .val (.int p3), .val (.int p4), .val (.int p5), .val (.ref b1), .val (.int (1 : Int32)), .val (.int (3 : Int32)), .val (.int (0 : Int32)), .val (.int (2 : Int32)), .unset] [(.int (2 : Int32))])) _
      refine Go.by (fun tt_ kk_ => XS.iconst X.here hx rfl (hb hby at_128) kk_) ?_
      show Go p.tables e below (T.setTop (mkF m 129 #[.val (.int p0), .val (.int p1), .val (.int p2), .val (.int p3), .val (.int p4), .val (.int p5), .val (.ref b1), .val (.int (1 : Int32)), .val (.int (3 : Int32)), .val (.int (0 : Int32)), .val (.int (2 : Int32)), .unset] [(.int (3 : Int32)), (.int (2 : Int32))])) _
      refine Go.by (fun tt_ kk_ => XS.icmpYes X.here hx rfl (pc0 := 129) (pc' := 138) rfl (hb hby at_129) rfl (tlt (by decide : (2 : Int32) < (3 : Int32))).1 (by decide) (by decide) kk_) ?_
      show Go p.tables e below (T.setTop (mkF m 138 #[.val (.int p0), .val (.int p1), .val (.int p2), .val (.int p3), .val (.int p4), .val (.int p5), .val (.ref b1), .val (.int (1 : Int32)), .val (.int (3 : Int32)), .val (.int (0 : Int32)), .val (.int (2 : Int32)), .unset] [])) _
      refine Go.by (fun tt_ kk_ => XS.aload X.here hx rfl (hb hby at_138) rfl rfl kk_) ?_
      show Go p.tables e below (T.setTop (mkF m 140 #[.val (.int p0), .val (.int p1), .val (.int p2), .val (.int p3), .val (.int p4), .val (.int p5), .val (.ref b1), .val (.int (1 : Int32)), .val (.int (3 : Int32)), .val (.int (0 : Int32)), .val (.int (2 : Int32)), .unset] [(.ref b1)])) _
      have hz : (if (1 : Int32) = 0 then (1 : Int32) else 0) = (0 : Int32) := by decide
      obtain ⟨cq_, kq_, qa_, qb_, qc_⟩ := isOf hZ eT E_b1
      obtain ⟨_, _, ⟨T, L_, k_, n_⟩, -, X, ⟨Lc_, hQ, l_, y_, z_⟩, st⟩ := X.virtualBack hx (y := (⟨"com/example/mode_choice_loop/modechoiceloop/simulation/TimeHeap", "isEmpty", "()Z"⟩ : MethodName)) (z := (⟨"com/example/mode_choice_loop/modechoiceloop/simulation/TimeHeap", "isEmpty", "()Z"⟩ : MethodName)) hown (mvT hZ (hw _ (List.mem_of_getElem? (i := 19) rfl))) (mvT hZ (hw _ (List.mem_of_getElem? (i := 20) rfl))) (notFace_of_selects (args := #[]) (mvT hZ (hw _ (List.mem_of_getElem? (i := 22) rfl)))) (mvT hZ (hw _ (List.mem_of_getElem? (i := 22) rfl))) (mvT hZ (hw _ (List.mem_of_getElem? (i := 21) rfl))) (by decide) (backOf (W := 0) (rm4 l Z a0 hw [] b1 (1 : Int32) h70 n0 (Nat.le_trans Z0 K.1) TH) hZ (hw _ (List.mem_of_getElem? (i := 23) rfl)) (hw _ (List.mem_of_getElem? (i := 2) rfl)) (by decide) (by decide)) qa_ qc_ (g := (mkF m 140 #[.val (.int p0), .val (.int p1), .val (.int p2), .val (.int p3), .val (.int p4), .val (.int p5), .val (.ref b1), .val (.int (1 : Int32)), .val (.int (3 : Int32)), .val (.int (0 : Int32)), .val (.int (2 : Int32)), .unset] [(.ref b1)])) rfl (by rw [hml]; rfl) (Steps.refl _) (argsL := []) (rest := []) (lenOf pd_10 rfl) rfl (by show 2 * 0 + _ ≤ _; exact Nat.le_of_eq rfl) (hb hby at_140) (fun _ _ => ⟨rfl, eT, (by decide : 9 + 0 ≤ _), (by decide : 35 + 0 ≤ _)⟩)
      dsimp only [Pt.U, Pt.locs, Pt.cells, Pt.slots] at X l_ y_ z_ st hQ
      subst l_ y_ z_
      obtain ⟨e_v, Nq, eh⟩ := hQ
      rw [hz] at e_v
      subst e_v
      have N := Fr.app N Nq
      have eT := eh
      refine Go.tr st ?_
      show Go p.tables e below (T.setTop (mkF m 143 #[.val (.int p0), .val (.int p1), .val (.int p2), .val (.int p3), .val (.int p4), .val (.int p5), .val (.ref b1), .val (.int (1 : Int32)), .val (.int (3 : Int32)), .val (.int (0 : Int32)), .val (.int (2 : Int32)), .unset] [(.int (0 : Int32))])) _
      refine Go.by (fun tt_ kk_ => XS.istore X.here hx rfl (hb hby at_143) rfl (l' := #[.val (.int p0), .val (.int p1), .val (.int p2), .val (.int p3), .val (.int p4), .val (.int p5), .val (.ref b1), .val (.int (1 : Int32)), .val (.int (3 : Int32)), .val (.int (0 : Int32)), .val (.int (2 : Int32)), .val (.int (0 : Int32))]) rfl kk_) ?_
      show Go p.tables e below (T.setTop (mkF m 145 #[.val (.int p0), .val (.int p1), .val (.int p2), .val (.int p3), .val (.int p4), .val (.int p5), .val (.ref b1), .val (.int (1 : Int32)), .val (.int (3 : Int32)), .val (.int (0 : Int32)), .val (.int (2 : Int32)), .val (.int (0 : Int32))] [])) _
      refine Go.by (fun tt_ kk_ => XS.iload X.here hx rfl (hb hby at_145) rfl kk_) ?_
      show Go p.tables e below (T.setTop (mkF m 147 #[.val (.int p0), .val (.int p1), .val (.int p2), .val (.int p3), .val (.int p4), .val (.int p5), .val (.ref b1), .val (.int (1 : Int32)), .val (.int (3 : Int32)), .val (.int (0 : Int32)), .val (.int (2 : Int32)), .val (.int (0 : Int32))] [(.int (1 : Int32))])) _
      refine Go.by (fun tt_ kk_ => XS.ifNo X.here hx rfl (hb hby at_147) rfl ((if0 _ _).trans (feq (by decide : ¬ ((1 : Int32) = (0 : Int32)))).1) kk_) ?_
      show Go p.tables e below (T.setTop (mkF m 150 #[.val (.int p0), .val (.int p1), .val (.int p2), .val (.int p3), .val (.int p4), .val (.int p5), .val (.ref b1), .val (.int (1 : Int32)), .val (.int (3 : Int32)), .val (.int (0 : Int32)), .val (.int (2 : Int32)), .val (.int (0 : Int32))] [])) _
      refine Go.by (fun tt_ kk_ => XS.iload X.here hx rfl (hb hby at_150) rfl kk_) ?_
      show Go p.tables e below (T.setTop (mkF m 152 #[.val (.int p0), .val (.int p1), .val (.int p2), .val (.int p3), .val (.int p4), .val (.int p5), .val (.ref b1), .val (.int (1 : Int32)), .val (.int (3 : Int32)), .val (.int (0 : Int32)), .val (.int (2 : Int32)), .val (.int (0 : Int32))] [(.int (0 : Int32))])) _
      refine Go.by (fun tt_ kk_ => XS.iload X.here hx rfl (hb hby at_152) rfl kk_) ?_
      show Go p.tables e below (T.setTop (mkF m 154 #[.val (.int p0), .val (.int p1), .val (.int p2), .val (.int p3), .val (.int p4), .val (.int p5), .val (.ref b1), .val (.int (1 : Int32)), .val (.int (3 : Int32)), .val (.int (0 : Int32)), .val (.int (2 : Int32)), .val (.int (0 : Int32))] [(.int (3 : Int32)), (.int (0 : Int32))])) _
      refine Go.by (fun tt_ kk_ => XS.ifYes X.here hx rfl (pc0 := 154) (pc' := 161) rfl (hb hby at_154) rfl ((if0 _ _).trans (feq (by decide : ¬ ((3 : Int32) = (0 : Int32)))).2) (by decide) (by decide) kk_) ?_
      show Go p.tables e below (T.setTop (mkF m 161 #[.val (.int p0), .val (.int p1), .val (.int p2), .val (.int p3), .val (.int p4), .val (.int p5), .val (.ref b1), .val (.int (1 : Int32)), .val (.int (3 : Int32)), .val (.int (0 : Int32)), .val (.int (2 : Int32)), .val (.int (0 : Int32))] [(.int (0 : Int32))])) _
      refine Go.by (fun tt_ kk_ => XS.iconst X.here hx rfl (hb hby at_161) kk_) ?_
      show Go p.tables e below (T.setTop (mkF m 162 #[.val (.int p0), .val (.int p1), .val (.int p2), .val (.int p3), .val (.int p4), .val (.int p5), .val (.ref b1), .val (.int (1 : Int32)), .val (.int (3 : Int32)), .val (.int (0 : Int32)), .val (.int (2 : Int32)), .val (.int (0 : Int32))] [(.int (0 : Int32)), (.int (0 : Int32))])) _
      refine Go.by (fun tt_ kk_ => XS.icmpNo X.here hx rfl (hb hby at_162) rfl (teq (rfl : (0 : Int32) = (0 : Int32))).2 kk_) ?_
      show Go p.tables e below (T.setTop (mkF m 165 #[.val (.int p0), .val (.int p1), .val (.int p2), .val (.int p3), .val (.int p4), .val (.int p5), .val (.ref b1), .val (.int (1 : Int32)), .val (.int (3 : Int32)), .val (.int (0 : Int32)), .val (.int (2 : Int32)), .val (.int (0 : Int32))] [])) _
      refine Go.by (fun tt_ kk_ => XS.iload X.here hx rfl (hb hby at_165) rfl kk_) ?_
      show Go p.tables e below (T.setTop (mkF m 167 #[.val (.int p0), .val (.int p1), .val (.int p2), .val (.int p3), .val (.int p4), .val (.int p5), .val (.ref b1), .val (.int (1 : Int32)), .val (.int (3 : Int32)), .val (.int (0 : Int32)), .val (.int (2 : Int32)), .val (.int (0 : Int32))] [(.int (0 : Int32))])) _
      refine Go.by (fun tt_ kk_ => XS.iload X.here hx rfl (hb hby at_167) rfl kk_) ?_
      show Go p.tables e below (T.setTop (mkF m 169 #[.val (.int p0), .val (.int p1), .val (.int p2), .val (.int p3), .val (.int p4), .val (.int p5), .val (.ref b1), .val (.int (1 : Int32)), .val (.int (3 : Int32)), .val (.int (0 : Int32)), .val (.int (2 : Int32)), .val (.int (0 : Int32))] [(.int (3 : Int32)), (.int (0 : Int32))])) _
      refine Go.by (fun tt_ kk_ => XS.iload X.here hx rfl (hb hby at_169) rfl kk_) ?_
      show Go p.tables e below (T.setTop (mkF m 171 #[.val (.int p0), .val (.int p1), .val (.int p2), .val (.int p3), .val (.int p4), .val (.int p5), .val (.ref b1), .val (.int (1 : Int32)), .val (.int (3 : Int32)), .val (.int (0 : Int32)), .val (.int (2 : Int32)), .val (.int (0 : Int32))] [(.int (2 : Int32)), (.int (3 : Int32)), (.int (0 : Int32))])) _
      refine Go.by (fun tt_ kk_ => XS.icmpYes X.here hx rfl (pc0 := 171) (pc' := 178) rfl (hb hby at_171) rfl (feq (by decide : ¬ ((3 : Int32) = (2 : Int32)))).2 (by decide) (by decide) kk_) ?_
      show Go p.tables e below (T.setTop (mkF m 178 #[.val (.int p0), .val (.int p1), .val (.int p2), .val (.int p3), .val (.int p4), .val (.int p5), .val (.ref b1), .val (.int (1 : Int32)), .val (.int (3 : Int32)), .val (.int (0 : Int32)), .val (.int (2 : Int32)), .val (.int (0 : Int32))] [(.int (0 : Int32))])) _
      refine Go.by (fun tt_ kk_ => XS.iconst X.here hx rfl (hb hby at_178) kk_) ?_
      show Go p.tables e below (T.setTop (mkF m 179 #[.val (.int p0), .val (.int p1), .val (.int p2), .val (.int p3), .val (.int p4), .val (.int p5), .val (.ref b1), .val (.int (1 : Int32)), .val (.int (3 : Int32)), .val (.int (0 : Int32)), .val (.int (2 : Int32)), .val (.int (0 : Int32))] [(.int (0 : Int32)), (.int (0 : Int32))])) _
      refine Go.by (fun tt_ kk_ => XS.icmpNo X.here hx rfl (hb hby at_179) rfl (teq (rfl : (0 : Int32) = (0 : Int32))).2 kk_) ?_
      show Go p.tables e below (T.setTop (mkF m 182 #[.val (.int p0), .val (.int p1), .val (.int p2), .val (.int p3), .val (.int p4), .val (.int p5), .val (.ref b1), .val (.int (1 : Int32)), .val (.int (3 : Int32)), .val (.int (0 : Int32)), .val (.int (2 : Int32)), .val (.int (0 : Int32))] [])) _
      refine Go.by (fun tt_ kk_ => XS.iconst X.here hx rfl (hb hby at_182) kk_) ?_
      show Go p.tables e below (T.setTop (mkF m 183 #[.val (.int p0), .val (.int p1), .val (.int p2), .val (.int p3), .val (.int p4), .val (.int p5), .val (.ref b1), .val (.int (1 : Int32)), .val (.int (3 : Int32)), .val (.int (0 : Int32)), .val (.int (2 : Int32)), .val (.int (0 : Int32))] [(.int (1 : Int32))])) _
      refine Go.by (fun tt_ kk_ => XS.goto X.here hx rfl (pc0 := 183) (pc' := 187) rfl (hb hby at_183) (by decide) (by decide) kk_) ?_
      show Go p.tables e below (T.setTop (mkF m 187 #[.val (.int p0), .val (.int p1), .val (.int p2), .val (.int p3), .val (.int p4), .val (.int p5), .val (.ref b1), .val (.int (1 : Int32)), .val (.int (3 : Int32)), .val (.int (0 : Int32)), .val (.int (2 : Int32)), .val (.int (0 : Int32))] [(.int (1 : Int32))])) _
      exact Go.done X  (v := some (.int (1 : Int32))) (fun h => by rw [Bd.returns] at h; cases h) Bd.notSynchronized (fun fs hr => retN X hx (z := (1 : Int32)) (t := .boolean) Bd.returns (by simp) (hb hby at_187) hr) (by rw [eT]; exact ⟨rfl, N⟩) (by decide) (by decide)
    · rw [hcs]
      show Go p.tables e below (T.setTop (mkF m 95 #[.val (.int p0), .val (.int p1), .val (.int p2), .val (.int p3), .val (.int p4), .val (.int p5), .val (.ref b1), .val (.int (1 : Int32)), .val (.int (3 : Int32)), .val (.int (0 : Int32)), .unset, .unset] [(.int (3 : Int32))])) _
      refine Go.by (fun tt_ kk_ => XS.iload X.here hx rfl (hb hby at_95) rfl kk_) ?_
      show Go p.tables e below (T.setTop (mkF m 97 #[.val (.int p0), .val (.int p1), .val (.int p2), .val (.int p3), .val (.int p4), .val (.int p5), .val (.ref b1), .val (.int (1 : Int32)), .val (.int (3 : Int32)), .val (.int (0 : Int32)), .unset, .unset] [(.int (3 : Int32)), (.int (3 : Int32))])) _
      have hz : (if (3 : Int32) < (3 : Int32) then (3 : Int32) else (3 : Int32)) = (3 : Int32) := by decide
      obtain ⟨_, _, ⟨T, L_, k_, n_⟩, -, X, ⟨Lc_, hQ, l_, y_, z_⟩, st⟩ := Jvm.LawKit.callS X hx (y := (⟨"java/lang/Math", "min", "(II)I"⟩ : MethodName)) hown (mvT hZ (hw _ (List.mem_of_getElem? (i := 52) rfl))) (mvT hZ (hw _ (List.mem_of_getElem? (i := 36) rfl))) (mvT hZ (hw _ (List.mem_of_getElem? (i := 11) rfl))) (mvT hZ (hw _ (List.mem_of_getElem? (i := 37) rfl))) (by decide) (backOf (W := 0) (rm7 l Z a0 hw [] (3 : Int32) (3 : Int32) h58 n0 (Nat.le_trans Z0 K.1) ) hZ (hw _ (List.mem_of_getElem? (i := 37) rfl)) (hw _ (List.mem_of_getElem? (i := 11) rfl)) (by decide) (by decide)) (g := (mkF m 97 #[.val (.int p0), .val (.int p1), .val (.int p2), .val (.int p3), .val (.int p4), .val (.int p5), .val (.ref b1), .val (.int (1 : Int32)), .val (.int (3 : Int32)), .val (.int (0 : Int32)), .unset, .unset] [(.int (3 : Int32)), (.int (3 : Int32))])) rfl (by rw [hml]; rfl) (argsL := [(.int (3 : Int32)), (.int (3 : Int32))]) (rest := []) (lenOf pd_3 rfl) rfl (by show 2 * 0 + _ ≤ _; exact Nat.le_of_eq rfl) (hb hby at_97) (fun _ _ => ⟨rfl, eT, (by decide : 9 + 0 ≤ _), (by decide : 35 + 0 ≤ _)⟩)
      dsimp only [Pt.U, Pt.locs, Pt.cells, Pt.slots] at X l_ y_ z_ st hQ
      subst l_ y_ z_
      obtain ⟨e_v, Nq, eh⟩ := hQ
      rw [hz] at e_v
      subst e_v
      have N := Fr.app N Nq
      have eT := eh
      refine Go.by st ?_
      show Go p.tables e below (T.setTop (mkF m 100 #[.val (.int p0), .val (.int p1), .val (.int p2), .val (.int p3), .val (.int p4), .val (.int p5), .val (.ref b1), .val (.int (1 : Int32)), .val (.int (3 : Int32)), .val (.int (0 : Int32)), .unset, .unset] [(.int (3 : Int32))])) _
      refine Go.by (fun tt_ kk_ => XS.istore X.here hx rfl (hb hby at_100) rfl (l' := #[.val (.int p0), .val (.int p1), .val (.int p2), .val (.int p3), .val (.int p4), .val (.int p5), .val (.ref b1), .val (.int (1 : Int32)), .val (.int (3 : Int32)), .val (.int (0 : Int32)), .val (.int (3 : Int32)), .unset]) rfl kk_) ?_
      show Go p.tables e below (T.setTop (mkF m 102 #[.val (.int p0), .val (.int p1), .val (.int p2), .val (.int p3), .val (.int p4), .val (.int p5), .val (.ref b1), .val (.int (1 : Int32)), .val (.int (3 : Int32)), .val (.int (0 : Int32)), .val (.int (3 : Int32)), .unset] [])) _
      refine Go.by (fun tt_ kk_ => XS.iload X.here hx rfl (hb hby at_102) rfl kk_) ?_
      show Go p.tables e below (T.setTop (mkF m 104 #[.val (.int p0), .val (.int p1), .val (.int p2), .val (.int p3), .val (.int p4), .val (.int p5), .val (.ref b1), .val (.int (1 : Int32)), .val (.int (3 : Int32)), .val (.int (0 : Int32)), .val (.int (3 : Int32)), .unset] [(.int (3 : Int32))])) _
      refine Go.by (fun tt_ kk_ => XS.iconst X.here hx rfl (hb hby at_104) kk_) ?_
      show Go p.tables e below (T.setTop (mkF m 105 #[.val (.int p0), .val (.int p1), .val (.int p2), .val (.int p3), .val (.int p4), .val (.int p5), .val (.ref b1), .val (.int (1 : Int32)), .val (.int (3 : Int32)), .val (.int (0 : Int32)), .val (.int (3 : Int32)), .unset] [(.int (1 : Int32)), (.int (3 : Int32))])) _
      refine Go.by (fun tt_ kk_ => XS.icmpNo X.here hx rfl (hb hby at_105) rfl (flt (by decide : ¬ ((3 : Int32) < (1 : Int32)))).1 kk_) ?_
      show Go p.tables e below (T.setTop (mkF m 108 #[.val (.int p0), .val (.int p1), .val (.int p2), .val (.int p3), .val (.int p4), .val (.int p5), .val (.ref b1), .val (.int (1 : Int32)), .val (.int (3 : Int32)), .val (.int (0 : Int32)), .val (.int (3 : Int32)), .unset] [])) _
      refine Go.by (fun tt_ kk_ => XS.aload X.here hx rfl (hb hby at_108) rfl rfl kk_) ?_
      show Go p.tables e below (T.setTop (mkF m 110 #[.val (.int p0), .val (.int p1), .val (.int p2), .val (.int p3), .val (.int p4), .val (.int p5), .val (.ref b1), .val (.int (1 : Int32)), .val (.int (3 : Int32)), .val (.int (0 : Int32)), .val (.int (3 : Int32)), .unset] [(.ref b1)])) _
      obtain ⟨cq_, kq_, qa_, qb_, qc_⟩ := isOf hZ eT E_b1
      obtain ⟨_, _, ⟨T, L_, k_, n_⟩, -, X, ⟨Lc_, hQ, l_, y_, z_⟩, st⟩ := X.virtualBack hx (y := (⟨"com/example/mode_choice_loop/modechoiceloop/simulation/TimeHeap", "removeFirst", "()I"⟩ : MethodName)) (z := (⟨"com/example/mode_choice_loop/modechoiceloop/simulation/TimeHeap", "removeFirst", "()I"⟩ : MethodName)) hown (mvT hZ (hw _ (List.mem_of_getElem? (i := 53) rfl))) (mvT hZ (hw _ (List.mem_of_getElem? (i := 54) rfl))) (notFace_of_selects (args := #[]) (mvT hZ (hw _ (List.mem_of_getElem? (i := 56) rfl)))) (mvT hZ (hw _ (List.mem_of_getElem? (i := 56) rfl))) (mvT hZ (hw _ (List.mem_of_getElem? (i := 55) rfl))) (by decide) (backOf (W := 0) (rm11_3 l Z a0 hw [] b1 h58 n0 (Nat.le_trans Z0 K.1) TH) hZ (hw _ (List.mem_of_getElem? (i := 57) rfl)) (hw _ (List.mem_of_getElem? (i := 2) rfl)) (by decide) (by decide)) qa_ qc_ (g := (mkF m 110 #[.val (.int p0), .val (.int p1), .val (.int p2), .val (.int p3), .val (.int p4), .val (.int p5), .val (.ref b1), .val (.int (1 : Int32)), .val (.int (3 : Int32)), .val (.int (0 : Int32)), .val (.int (3 : Int32)), .unset] [(.ref b1)])) rfl (by rw [hml]; rfl) (Steps.refl _) (argsL := []) (rest := []) (lenOf pd_12 rfl) rfl (by show 2 * 0 + _ ≤ _; exact Nat.le_of_eq rfl) (hb hby at_110) (fun _ _ => ⟨rfl, eT, (by decide : 9 + 0 ≤ _), (by decide : 35 + 0 ≤ _)⟩)
      dsimp only [Pt.U, Pt.locs, Pt.cells, Pt.slots] at X l_ y_ z_ st hQ
      subst l_ y_ z_
      obtain ⟨h74, eT⟩ : ∃ z, T.heap = z := ⟨_, rfl⟩
      rw [eT] at hQ
      obtain ⟨r73, rfl, Nq, Kq, TH⟩ := hQ
      have N := Fr.app N Nq
      have K := And.intro (Nat.le_trans K.1 Kq.1) trivial
      have E_b1 := TH.1
      refine Go.tr st ?_
      show Go p.tables e below (T.setTop (mkF m 113 #[.val (.int p0), .val (.int p1), .val (.int p2), .val (.int p3), .val (.int p4), .val (.int p5), .val (.ref b1), .val (.int (1 : Int32)), .val (.int (3 : Int32)), .val (.int (0 : Int32)), .val (.int (3 : Int32)), .unset] [(.int r73)])) _
      refine Go.by (fun tt_ kk_ => XS.pop X.here hx rfl (hb hby at_113) rfl rfl kk_) ?_
      show Go p.tables e below (T.setTop (mkF m 114 #[.val (.int p0), .val (.int p1), .val (.int p2), .val (.int p3), .val (.int p4), .val (.int p5), .val (.ref b1), .val (.int (1 : Int32)), .val (.int (3 : Int32)), .val (.int (0 : Int32)), .val (.int (3 : Int32)), .unset] [])) _
      refine Go.by (fun tt_ kk_ => XS.iload X.here hx rfl (hb hby at_114) rfl kk_) ?_
      show Go p.tables e below (T.setTop (mkF m 116 #[.val (.int p0), .val (.int p1), .val (.int p2), .val (.int p3), .val (.int p4), .val (.int p5), .val (.ref b1), .val (.int (1 : Int32)), .val (.int (3 : Int32)), .val (.int (0 : Int32)), .val (.int (3 : Int32)), .unset] [(.int (3 : Int32))])) _
      refine Go.by (fun tt_ kk_ => XS.iconst X.here hx rfl (hb hby at_116) kk_) ?_
      show Go p.tables e below (T.setTop (mkF m 117 #[.val (.int p0), .val (.int p1), .val (.int p2), .val (.int p3), .val (.int p4), .val (.int p5), .val (.ref b1), .val (.int (1 : Int32)), .val (.int (3 : Int32)), .val (.int (0 : Int32)), .val (.int (3 : Int32)), .unset] [(.int (2 : Int32)), (.int (3 : Int32))])) _
      refine Go.by (fun tt_ kk_ => XS.icmpNo X.here hx rfl (hb hby at_117) rfl (flt (by decide : ¬ ((3 : Int32) < (2 : Int32)))).1 kk_) ?_
      show Go p.tables e below (T.setTop (mkF m 120 #[.val (.int p0), .val (.int p1), .val (.int p2), .val (.int p3), .val (.int p4), .val (.int p5), .val (.ref b1), .val (.int (1 : Int32)), .val (.int (3 : Int32)), .val (.int (0 : Int32)), .val (.int (3 : Int32)), .unset] [])) _
      refine Go.by (fun tt_ kk_ => XS.aload X.here hx rfl (hb hby at_120) rfl rfl kk_) ?_
      show Go p.tables e below (T.setTop (mkF m 122 #[.val (.int p0), .val (.int p1), .val (.int p2), .val (.int p3), .val (.int p4), .val (.int p5), .val (.ref b1), .val (.int (1 : Int32)), .val (.int (3 : Int32)), .val (.int (0 : Int32)), .val (.int (3 : Int32)), .unset] [(.ref b1)])) _
      obtain ⟨cq_, kq_, qa_, qb_, qc_⟩ := isOf hZ eT E_b1
      obtain ⟨_, _, ⟨T, L_, k_, n_⟩, -, X, ⟨Lc_, hQ, l_, y_, z_⟩, st⟩ := X.virtualBack hx (y := (⟨"com/example/mode_choice_loop/modechoiceloop/simulation/TimeHeap", "removeFirst", "()I"⟩ : MethodName)) (z := (⟨"com/example/mode_choice_loop/modechoiceloop/simulation/TimeHeap", "removeFirst", "()I"⟩ : MethodName)) hown (mvT hZ (hw _ (List.mem_of_getElem? (i := 53) rfl))) (mvT hZ (hw _ (List.mem_of_getElem? (i := 54) rfl))) (notFace_of_selects (args := #[]) (mvT hZ (hw _ (List.mem_of_getElem? (i := 56) rfl)))) (mvT hZ (hw _ (List.mem_of_getElem? (i := 56) rfl))) (mvT hZ (hw _ (List.mem_of_getElem? (i := 55) rfl))) (by decide) (backOf (W := 0) (rm11_2 l Z a0 hw [] b1 h74 n0 (Nat.le_trans Z0 K.1) TH) hZ (hw _ (List.mem_of_getElem? (i := 57) rfl)) (hw _ (List.mem_of_getElem? (i := 2) rfl)) (by decide) (by decide)) qa_ qc_ (g := (mkF m 122 #[.val (.int p0), .val (.int p1), .val (.int p2), .val (.int p3), .val (.int p4), .val (.int p5), .val (.ref b1), .val (.int (1 : Int32)), .val (.int (3 : Int32)), .val (.int (0 : Int32)), .val (.int (3 : Int32)), .unset] [(.ref b1)])) rfl (by rw [hml]; rfl) (Steps.refl _) (argsL := []) (rest := []) (lenOf pd_12 rfl) rfl (by show 2 * 0 + _ ≤ _; exact Nat.le_of_eq rfl) (hb hby at_122) (fun _ _ => ⟨rfl, eT, (by decide : 9 + 0 ≤ _), (by decide : 35 + 0 ≤ _)⟩)
      dsimp only [Pt.U, Pt.locs, Pt.cells, Pt.slots] at X l_ y_ z_ st hQ
      subst l_ y_ z_
      obtain ⟨h76, eT⟩ : ∃ z, T.heap = z := ⟨_, rfl⟩
      rw [eT] at hQ
      obtain ⟨r75, rfl, Nq, Kq, TH⟩ := hQ
      have N := Fr.app N Nq
      have K := And.intro (Nat.le_trans K.1 Kq.1) trivial
      have E_b1 := TH.1
      refine Go.tr st ?_
      show Go p.tables e below (T.setTop (mkF m 125 #[.val (.int p0), .val (.int p1), .val (.int p2), .val (.int p3), .val (.int p4), .val (.int p5), .val (.ref b1), .val (.int (1 : Int32)), .val (.int (3 : Int32)), .val (.int (0 : Int32)), .val (.int (3 : Int32)), .unset] [(.int r75)])) _
      refine Go.by (fun tt_ kk_ => XS.pop X.here hx rfl (hb hby at_125) rfl rfl kk_) ?_
      show Go p.tables e below (T.setTop (mkF m 126 #[.val (.int p0), .val (.int p1), .val (.int p2), .val (.int p3), .val (.int p4), .val (.int p5), .val (.ref b1), .val (.int (1 : Int32)), .val (.int (3 : Int32)), .val (.int (0 : Int32)), .val (.int (3 : Int32)), .unset] [])) _
      refine Go.by (fun tt_ kk_ => XS.iload X.here hx rfl (hb hby at_126) rfl kk_) ?_
      show Go p.tables e below (T.setTop (mkF m 128 #[.val (.int p0), .val (.int p1), .val (.int p2), .val (.int p3), .val (.int p4), .val (.int p5), .val (.ref b1), .val (.int (1 : Int32)), .val (.int (3 : Int32)), .val (.int (0 : Int32)), .val (.int (3 : Int32)), .unset] [(.int (3 : Int32))])) _
      refine Go.by (fun tt_ kk_ => XS.iconst X.here hx rfl (hb hby at_128) kk_) ?_
      show Go p.tables e below (T.setTop (mkF m 129 #[.val (.int p0), .val (.int p1), .val (.int p2), .val (.int p3), .val (.int p4), .val (.int p5), .val (.ref b1), .val (.int (1 : Int32)), .val (.int (3 : Int32)), .val (.int (0 : Int32)), .val (.int (3 : Int32)), .unset] [(.int (3 : Int32)), (.int (3 : Int32))])) _
      refine Go.by (fun tt_ kk_ => XS.icmpNo X.here hx rfl (hb hby at_129) rfl (flt (by decide : ¬ ((3 : Int32) < (3 : Int32)))).1 kk_) ?_
      show Go p.tables e below (T.setTop (mkF m 132 #[.val (.int p0), .val (.int p1), .val (.int p2), .val (.int p3), .val (.int p4), .val (.int p5), .val (.ref b1), .val (.int (1 : Int32)), .val (.int (3 : Int32)), .val (.int (0 : Int32)), .val (.int (3 : Int32)), .unset] [])) _
      refine Go.by (fun tt_ kk_ => XS.aload X.here hx rfl (hb hby at_132) rfl rfl kk_) ?_
      show Go p.tables e below (T.setTop (mkF m 134 #[.val (.int p0), .val (.int p1), .val (.int p2), .val (.int p3), .val (.int p4), .val (.int p5), .val (.ref b1), .val (.int (1 : Int32)), .val (.int (3 : Int32)), .val (.int (0 : Int32)), .val (.int (3 : Int32)), .unset] [(.ref b1)])) _
      obtain ⟨cq_, kq_, qa_, qb_, qc_⟩ := isOf hZ eT E_b1
      obtain ⟨_, _, ⟨T, L_, k_, n_⟩, -, X, ⟨Lc_, hQ, l_, y_, z_⟩, st⟩ := X.virtualBack hx (y := (⟨"com/example/mode_choice_loop/modechoiceloop/simulation/TimeHeap", "removeFirst", "()I"⟩ : MethodName)) (z := (⟨"com/example/mode_choice_loop/modechoiceloop/simulation/TimeHeap", "removeFirst", "()I"⟩ : MethodName)) hown (mvT hZ (hw _ (List.mem_of_getElem? (i := 53) rfl))) (mvT hZ (hw _ (List.mem_of_getElem? (i := 54) rfl))) (notFace_of_selects (args := #[]) (mvT hZ (hw _ (List.mem_of_getElem? (i := 56) rfl)))) (mvT hZ (hw _ (List.mem_of_getElem? (i := 56) rfl))) (mvT hZ (hw _ (List.mem_of_getElem? (i := 55) rfl))) (by decide) (backOf (W := 0) (rm11_1 l Z a0 hw [] b1 h76 n0 (Nat.le_trans Z0 K.1) TH) hZ (hw _ (List.mem_of_getElem? (i := 57) rfl)) (hw _ (List.mem_of_getElem? (i := 2) rfl)) (by decide) (by decide)) qa_ qc_ (g := (mkF m 134 #[.val (.int p0), .val (.int p1), .val (.int p2), .val (.int p3), .val (.int p4), .val (.int p5), .val (.ref b1), .val (.int (1 : Int32)), .val (.int (3 : Int32)), .val (.int (0 : Int32)), .val (.int (3 : Int32)), .unset] [(.ref b1)])) rfl (by rw [hml]; rfl) (Steps.refl _) (argsL := []) (rest := []) (lenOf pd_12 rfl) rfl (by show 2 * 0 + _ ≤ _; exact Nat.le_of_eq rfl) (hb hby at_134) (fun _ _ => ⟨rfl, eT, (by decide : 9 + 0 ≤ _), (by decide : 35 + 0 ≤ _)⟩)
      dsimp only [Pt.U, Pt.locs, Pt.cells, Pt.slots] at X l_ y_ z_ st hQ
      subst l_ y_ z_
      obtain ⟨h78, eT⟩ : ∃ z, T.heap = z := ⟨_, rfl⟩
      rw [eT] at hQ
      obtain ⟨r77, rfl, Nq, Kq, TH⟩ := hQ
      have N := Fr.app N Nq
      have K := And.intro (Nat.le_trans K.1 Kq.1) trivial
      have E_b1 := TH.1
      refine Go.tr st ?_
      show Go p.tables e below (T.setTop (mkF m 137 #[.val (.int p0), .val (.int p1), .val (.int p2), .val (.int p3), .val (.int p4), .val (.int p5), .val (.ref b1), .val (.int (1 : Int32)), .val (.int (3 : Int32)), .val (.int (0 : Int32)), .val (.int (3 : Int32)), .unset] [(.int r77)])) _
      refine Go.by (fun tt_ kk_ => XS.pop X.here hx rfl (hb hby at_137) rfl rfl kk_) ?_
      show Go p.tables e below (T.setTop (mkF m 138 #[.val (.int p0), .val (.int p1), .val (.int p2), .val (.int p3), .val (.int p4), .val (.int p5), .val (.ref b1), .val (.int (1 : Int32)), .val (.int (3 : Int32)), .val (.int (0 : Int32)), .val (.int (3 : Int32)), .unset] [])) _
      refine Go.by (fun tt_ kk_ => XS.aload X.here hx rfl (hb hby at_138) rfl rfl kk_) ?_
      show Go p.tables e below (T.setTop (mkF m 140 #[.val (.int p0), .val (.int p1), .val (.int p2), .val (.int p3), .val (.int p4), .val (.int p5), .val (.ref b1), .val (.int (1 : Int32)), .val (.int (3 : Int32)), .val (.int (0 : Int32)), .val (.int (3 : Int32)), .unset] [(.ref b1)])) _
      have hz : (if (0 : Int32) = 0 then (1 : Int32) else 0) = (1 : Int32) := by decide
      obtain ⟨cq_, kq_, qa_, qb_, qc_⟩ := isOf hZ eT E_b1
      obtain ⟨_, _, ⟨T, L_, k_, n_⟩, -, X, ⟨Lc_, hQ, l_, y_, z_⟩, st⟩ := X.virtualBack hx (y := (⟨"com/example/mode_choice_loop/modechoiceloop/simulation/TimeHeap", "isEmpty", "()Z"⟩ : MethodName)) (z := (⟨"com/example/mode_choice_loop/modechoiceloop/simulation/TimeHeap", "isEmpty", "()Z"⟩ : MethodName)) hown (mvT hZ (hw _ (List.mem_of_getElem? (i := 19) rfl))) (mvT hZ (hw _ (List.mem_of_getElem? (i := 20) rfl))) (notFace_of_selects (args := #[]) (mvT hZ (hw _ (List.mem_of_getElem? (i := 22) rfl)))) (mvT hZ (hw _ (List.mem_of_getElem? (i := 22) rfl))) (mvT hZ (hw _ (List.mem_of_getElem? (i := 21) rfl))) (by decide) (backOf (W := 0) (rm4 l Z a0 hw [] b1 (0 : Int32) h78 n0 (Nat.le_trans Z0 K.1) TH) hZ (hw _ (List.mem_of_getElem? (i := 23) rfl)) (hw _ (List.mem_of_getElem? (i := 2) rfl)) (by decide) (by decide)) qa_ qc_ (g := (mkF m 140 #[.val (.int p0), .val (.int p1), .val (.int p2), .val (.int p3), .val (.int p4), .val (.int p5), .val (.ref b1), .val (.int (1 : Int32)), .val (.int (3 : Int32)), .val (.int (0 : Int32)), .val (.int (3 : Int32)), .unset] [(.ref b1)])) rfl (by rw [hml]; rfl) (Steps.refl _) (argsL := []) (rest := []) (lenOf pd_10 rfl) rfl (by show 2 * 0 + _ ≤ _; exact Nat.le_of_eq rfl) (hb hby at_140) (fun _ _ => ⟨rfl, eT, (by decide : 9 + 0 ≤ _), (by decide : 35 + 0 ≤ _)⟩)
      dsimp only [Pt.U, Pt.locs, Pt.cells, Pt.slots] at X l_ y_ z_ st hQ
      subst l_ y_ z_
      obtain ⟨e_v, Nq, eh⟩ := hQ
      rw [hz] at e_v
      subst e_v
      have N := Fr.app N Nq
      have eT := eh
      refine Go.tr st ?_
      show Go p.tables e below (T.setTop (mkF m 143 #[.val (.int p0), .val (.int p1), .val (.int p2), .val (.int p3), .val (.int p4), .val (.int p5), .val (.ref b1), .val (.int (1 : Int32)), .val (.int (3 : Int32)), .val (.int (0 : Int32)), .val (.int (3 : Int32)), .unset] [(.int (1 : Int32))])) _
      refine Go.by (fun tt_ kk_ => XS.istore X.here hx rfl (hb hby at_143) rfl (l' := #[.val (.int p0), .val (.int p1), .val (.int p2), .val (.int p3), .val (.int p4), .val (.int p5), .val (.ref b1), .val (.int (1 : Int32)), .val (.int (3 : Int32)), .val (.int (0 : Int32)), .val (.int (3 : Int32)), .val (.int (1 : Int32))]) rfl kk_) ?_
      show Go p.tables e below (T.setTop (mkF m 145 #[.val (.int p0), .val (.int p1), .val (.int p2), .val (.int p3), .val (.int p4), .val (.int p5), .val (.ref b1), .val (.int (1 : Int32)), .val (.int (3 : Int32)), .val (.int (0 : Int32)), .val (.int (3 : Int32)), .val (.int (1 : Int32))] [])) _
      refine Go.by (fun tt_ kk_ => XS.iload X.here hx rfl (hb hby at_145) rfl kk_) ?_
      show Go p.tables e below (T.setTop (mkF m 147 #[.val (.int p0), .val (.int p1), .val (.int p2), .val (.int p3), .val (.int p4), .val (.int p5), .val (.ref b1), .val (.int (1 : Int32)), .val (.int (3 : Int32)), .val (.int (0 : Int32)), .val (.int (3 : Int32)), .val (.int (1 : Int32))] [(.int (1 : Int32))])) _
      refine Go.by (fun tt_ kk_ => XS.ifNo X.here hx rfl (hb hby at_147) rfl ((if0 _ _).trans (feq (by decide : ¬ ((1 : Int32) = (0 : Int32)))).1) kk_) ?_
      show Go p.tables e below (T.setTop (mkF m 150 #[.val (.int p0), .val (.int p1), .val (.int p2), .val (.int p3), .val (.int p4), .val (.int p5), .val (.ref b1), .val (.int (1 : Int32)), .val (.int (3 : Int32)), .val (.int (0 : Int32)), .val (.int (3 : Int32)), .val (.int (1 : Int32))] [])) _
      refine Go.by (fun tt_ kk_ => XS.iload X.here hx rfl (hb hby at_150) rfl kk_) ?_
      show Go p.tables e below (T.setTop (mkF m 152 #[.val (.int p0), .val (.int p1), .val (.int p2), .val (.int p3), .val (.int p4), .val (.int p5), .val (.ref b1), .val (.int (1 : Int32)), .val (.int (3 : Int32)), .val (.int (0 : Int32)), .val (.int (3 : Int32)), .val (.int (1 : Int32))] [(.int (0 : Int32))])) _
      refine Go.by (fun tt_ kk_ => XS.iload X.here hx rfl (hb hby at_152) rfl kk_) ?_
      show Go p.tables e below (T.setTop (mkF m 154 #[.val (.int p0), .val (.int p1), .val (.int p2), .val (.int p3), .val (.int p4), .val (.int p5), .val (.ref b1), .val (.int (1 : Int32)), .val (.int (3 : Int32)), .val (.int (0 : Int32)), .val (.int (3 : Int32)), .val (.int (1 : Int32))] [(.int (3 : Int32)), (.int (0 : Int32))])) _
      refine Go.by (fun tt_ kk_ => XS.ifYes X.here hx rfl (pc0 := 154) (pc' := 161) rfl (hb hby at_154) rfl ((if0 _ _).trans (feq (by decide : ¬ ((3 : Int32) = (0 : Int32)))).2) (by decide) (by decide) kk_) ?_
      show Go p.tables e below (T.setTop (mkF m 161 #[.val (.int p0), .val (.int p1), .val (.int p2), .val (.int p3), .val (.int p4), .val (.int p5), .val (.ref b1), .val (.int (1 : Int32)), .val (.int (3 : Int32)), .val (.int (0 : Int32)), .val (.int (3 : Int32)), .val (.int (1 : Int32))] [(.int (0 : Int32))])) _
      refine Go.by (fun tt_ kk_ => XS.iconst X.here hx rfl (hb hby at_161) kk_) ?_
      show Go p.tables e below (T.setTop (mkF m 162 #[.val (.int p0), .val (.int p1), .val (.int p2), .val (.int p3), .val (.int p4), .val (.int p5), .val (.ref b1), .val (.int (1 : Int32)), .val (.int (3 : Int32)), .val (.int (0 : Int32)), .val (.int (3 : Int32)), .val (.int (1 : Int32))] [(.int (0 : Int32)), (.int (0 : Int32))])) _
      refine Go.by (fun tt_ kk_ => XS.icmpNo X.here hx rfl (hb hby at_162) rfl (teq (rfl : (0 : Int32) = (0 : Int32))).2 kk_) ?_
      show Go p.tables e below (T.setTop (mkF m 165 #[.val (.int p0), .val (.int p1), .val (.int p2), .val (.int p3), .val (.int p4), .val (.int p5), .val (.ref b1), .val (.int (1 : Int32)), .val (.int (3 : Int32)), .val (.int (0 : Int32)), .val (.int (3 : Int32)), .val (.int (1 : Int32))] [])) _
      refine Go.by (fun tt_ kk_ => XS.iload X.here hx rfl (hb hby at_165) rfl kk_) ?_
      show Go p.tables e below (T.setTop (mkF m 167 #[.val (.int p0), .val (.int p1), .val (.int p2), .val (.int p3), .val (.int p4), .val (.int p5), .val (.ref b1), .val (.int (1 : Int32)), .val (.int (3 : Int32)), .val (.int (0 : Int32)), .val (.int (3 : Int32)), .val (.int (1 : Int32))] [(.int (1 : Int32))])) _
      refine Go.by (fun tt_ kk_ => XS.iload X.here hx rfl (hb hby at_167) rfl kk_) ?_
      show Go p.tables e below (T.setTop (mkF m 169 #[.val (.int p0), .val (.int p1), .val (.int p2), .val (.int p3), .val (.int p4), .val (.int p5), .val (.ref b1), .val (.int (1 : Int32)), .val (.int (3 : Int32)), .val (.int (0 : Int32)), .val (.int (3 : Int32)), .val (.int (1 : Int32))] [(.int (3 : Int32)), (.int (1 : Int32))])) _
      refine Go.by (fun tt_ kk_ => XS.iload X.here hx rfl (hb hby at_169) rfl kk_) ?_
      show Go p.tables e below (T.setTop (mkF m 171 #[.val (.int p0), .val (.int p1), .val (.int p2), .val (.int p3), .val (.int p4), .val (.int p5), .val (.ref b1), .val (.int (1 : Int32)), .val (.int (3 : Int32)), .val (.int (0 : Int32)), .val (.int (3 : Int32)), .val (.int (1 : Int32))] [(.int (3 : Int32)), (.int (3 : Int32)), (.int (1 : Int32))])) _
      refine Go.by (fun tt_ kk_ => XS.icmpNo X.here hx rfl (hb hby at_171) rfl (teq (rfl : (3 : Int32) = (3 : Int32))).2 kk_) ?_
      show Go p.tables e below (T.setTop (mkF m 174 #[.val (.int p0), .val (.int p1), .val (.int p2), .val (.int p3), .val (.int p4), .val (.int p5), .val (.ref b1), .val (.int (1 : Int32)), .val (.int (3 : Int32)), .val (.int (0 : Int32)), .val (.int (3 : Int32)), .val (.int (1 : Int32))] [(.int (1 : Int32))])) _
      refine Go.by (fun tt_ kk_ => XS.iconst X.here hx rfl (hb hby at_174) kk_) ?_
      show Go p.tables e below (T.setTop (mkF m 175 #[.val (.int p0), .val (.int p1), .val (.int p2), .val (.int p3), .val (.int p4), .val (.int p5), .val (.ref b1), .val (.int (1 : Int32)), .val (.int (3 : Int32)), .val (.int (0 : Int32)), .val (.int (3 : Int32)), .val (.int (1 : Int32))] [(.int (1 : Int32)), (.int (1 : Int32))])) _
      refine Go.by (fun tt_ kk_ => XS.goto X.here hx rfl (pc0 := 175) (pc' := 179) rfl (hb hby at_175) (by decide) (by decide) kk_) ?_
      show Go p.tables e below (T.setTop (mkF m 179 #[.val (.int p0), .val (.int p1), .val (.int p2), .val (.int p3), .val (.int p4), .val (.int p5), .val (.ref b1), .val (.int (1 : Int32)), .val (.int (3 : Int32)), .val (.int (0 : Int32)), .val (.int (3 : Int32)), .val (.int (1 : Int32))] [(.int (1 : Int32)), (.int (1 : Int32))])) _
      refine Go.by (fun tt_ kk_ => XS.icmpNo X.here hx rfl (hb hby at_179) rfl (teq (rfl : (1 : Int32) = (1 : Int32))).2 kk_) ?_
      show Go p.tables e below (T.setTop (mkF m 182 #[.val (.int p0), .val (.int p1), .val (.int p2), .val (.int p3), .val (.int p4), .val (.int p5), .val (.ref b1), .val (.int (1 : Int32)), .val (.int (3 : Int32)), .val (.int (0 : Int32)), .val (.int (3 : Int32)), .val (.int (1 : Int32))] [])) _
      refine Go.by (fun tt_ kk_ => XS.iconst X.here hx rfl (hb hby at_182) kk_) ?_
      show Go p.tables e below (T.setTop (mkF m 183 #[.val (.int p0), .val (.int p1), .val (.int p2), .val (.int p3), .val (.int p4), .val (.int p5), .val (.ref b1), .val (.int (1 : Int32)), .val (.int (3 : Int32)), .val (.int (0 : Int32)), .val (.int (3 : Int32)), .val (.int (1 : Int32))] [(.int (1 : Int32))])) _
      refine Go.by (fun tt_ kk_ => XS.goto X.here hx rfl (pc0 := 183) (pc' := 187) rfl (hb hby at_183) (by decide) (by decide) kk_) ?_
      show Go p.tables e below (T.setTop (mkF m 187 #[.val (.int p0), .val (.int p1), .val (.int p2), .val (.int p3), .val (.int p4), .val (.int p5), .val (.ref b1), .val (.int (1 : Int32)), .val (.int (3 : Int32)), .val (.int (0 : Int32)), .val (.int (3 : Int32)), .val (.int (1 : Int32))] [(.int (1 : Int32))])) _
      exact Go.done X  (v := some (.int (1 : Int32))) (fun h => by rw [Bd.returns] at h; cases h) Bd.notSynchronized (fun fs hr => retN X hx (z := (1 : Int32)) (t := .boolean) Bd.returns (by simp) (hb hby at_187) hr) (by rw [eT]; exact ⟨rfl, N⟩) (by decide) (by decide)
set_option maxRecDepth 65536 in
set_option maxHeartbeats 40000000 in
theorem comes_1 {Post : Tables → Env → Array Value → State → Outcome → State → Prop} (hpost : ∀ tb e args s v u, (limb_1_1.after args s (.returned v) u = true ∧ limb_1_2.after args s (.returned v) u = true ∧ True) → FrameEnd s (.returned v) u (Jvm.fieldLocs frame_1_writes args s ++ Jvm.arrayLocs frame_1_arrays args s ++ Jvm.staticLocs frame_1_statics s) 24 128 → Post tb e args s (.returned v) u) :
    ArmFor flags0 classFile x code maxLocals ret World_1 tables_1 room_1 Calls_1 rest_1 Pre_1 Post := by
  intro l hfl _ _ p e ha hc hk s m args below hf hA hF happ hP
  obtain ⟨hcalls, hrest, hpre⟩ := hP
  obtain ⟨-, -, -, hnamed, -, -, -, hat⟩ := (Spec.applies_iff hf).mp happ
  obtain ⟨hg, hn⟩ := and_e (Cond.before_iff.mp (show (Jvm.Cond.and given_1 narrow_1).before args s = true from hpre))
  obtain ⟨hcount, hg⟩ := and_e hg
  obtain ⟨hv0, hg⟩ := and_e hg
  obtain ⟨hv1, hg⟩ := and_e hg
  obtain ⟨hv2, hg⟩ := and_e hg
  obtain ⟨hv3, hg⟩ := and_e hg
  obtain ⟨hv4, hg⟩ := and_e hg
  have hv5 := hg
  obtain ⟨w0, w1, w2, w3, w4, w5, rfl⟩ : ∃ w0 w1 w2 w3 w4 w5 : Value, args = #[w0, w1, w2, w3, w4, w5] := by
    have hs : args.size = 6 := by simpa [Cond.value, given_1] using hcount
    obtain ⟨L⟩ := args
    match L, hs with
    | [w0, w1, w2, w3, w4, w5], _ => exact ⟨w0, w1, w2, w3, w4, w5, rfl⟩
  have hw := fun d (hd : d ∈ tables_1) => atoms_spec (ws := Jvm.Cond.code x code maxLocals ret :: tables_1) hat d (List.mem_cons_of_mem _ hd)
  have hfit : Fit s := fun {y c} hc i hi => by
    obtain ⟨ha, rfl⟩ := Array.getElem?_eq_some_iff.mp hc
    have q := List.all_eq_true.mp ((Array.all_eq_true_iff_forall_mem.mp hF) _ (Array.getElem_mem ha)) i (List.mem_range.mpr hi)
    simpa [Array.getElem?_eq_getElem hi] using q
  obtain ⟨i0, ei0⟩ := is_v hv0
  obtain rfl : w0 = (.int i0) := Option.some.inj ei0
  obtain ⟨i1, ei1⟩ := is_v hv1
  obtain rfl : w1 = (.int i1) := Option.some.inj ei1
  obtain ⟨i2, ei2⟩ := is_v hv2
  obtain rfl : w2 = (.int i2) := Option.some.inj ei2
  obtain ⟨i3, ei3⟩ := is_v hv3
  obtain rfl : w3 = (.int i3) := Option.some.inj ei3
  obtain ⟨i4, ei4⟩ := is_v hv4
  obtain rfl : w4 = (.int i4) := Option.some.inj ei4
  obtain ⟨i5, ei5⟩ := is_v hv5
  obtain rfl : w5 = (.int i5) := Option.some.inj ei5
  obtain ⟨n, o, h1, h2, h3, _, L, rfl, ⟨rfl, N⟩, hq⟩ := rm0 l s _ hw tables_1 i0 i1 i2 i3 i4 i5  s.heap s.heap.size (Nat.le_refl _)  p e ha hc hk s m _ below hf ((Spec.applies_iff_loose hf).mp happ).1 ⟨rfl, State.Warmed39.refl s, rfl⟩ trivial
  refine ⟨n, _, h1, h2, h3, hpost _ _ _ _ _ _ ⟨Cond.after_iff.mpr rfl, Cond.after_iff.mpr (eq_i res_at (Term.int_eval (1)) rfl), trivial⟩ ⟨hq.1, hq.2.1, (hq.2.2.sift fun y hy => Or.inr (N y hy)).mono (by decide) (by decide)⟩⟩
theorem main_1_1 : Claimed_1_1 := comes_1 fun _ _ _ _ _ _ h hF => ⟨h.1, hF⟩
theorem main_1_2 : Claimed_1_2 := comes_1 fun _ _ _ _ _ _ h hF => ⟨h.2.1, hF⟩
end Jvm.Pilot.@@N@@
namespace Jvm.Pilot.@@N@@
open Jvm Jvm.ClassFile Sem Op Lib Jvm.Free Jvm.Stand Jvm.Pilot.@@N@@.Jvm.D
/-! MADE BY PROGRAM (witnessworld.py) out of the Statement's table words and the real class files: 19 classes; the members and pool entries that the words name. The judged class is class 1, her method 1. -/
namespace start1
open Jvm.ClassFile
def u (s : String) : CpInfo := .utf8 (stringToUtf16 s)
/-- a pool by its gaps: so many unusable entries, then the entry; so many at the end -/
def gap : Nat → List CpInfo → List CpInfo
  | 0, r => r
  | n + 1, r => .unusable :: gap n r
def poolList (es : List (Nat × CpInfo)) (last : Nat) : List CpInfo := es.foldr (fun e r => gap e.1 (e.2 :: r)) (gap last [])
def pool (es : List (Nat × CpInfo)) (last : Nat) : Array CpInfo := ⟨poolList es last⟩
def fileOf (pool : Array CpInfo) (this : Nat) (attrs : Array Attribute := #[]) (ms : Array MethodInfo := #[]) (fl : Nat := 33) (sup : Nat := 0) (ifs : Array Nat := #[]) (fds : Array FieldInfo := #[]) : ClassFile where
  minorVersion := 0
  majorVersion := 65
  constantPool := pool
  accessFlags := fl
  thisClass := this
  superClass := sup
  interfaces := ifs
  fields := fds
  methods := ms
  attributes := attrs
def plain (name : String) (sup : Option ClassId) : Class where
  name := name
  kind := .ordinary
  loader := none
  accessFlags := 33
  super := sup
  interfaces := #[]
  cf := none
  fields := #[]
  methods := #[]
  instanceTypes := #[]
  staticTypes := #[]
  resolved := #[]
  callSites := []
  init := .initialized
  statics := none
  mirror := none

def pool0 : Array CpInfo := pool [(5, u "<init>"), (0, u "()V"), (1, .class_ 10), (1, u "java/lang/Object")] 113

def k0c0 : Code := { maxStack := 0, maxLocals := 1, code := object_method_1_code, exceptionTable := #[], attributes := #[] }
def k0m0 : Method := { name := "<init>", desc := "()V", sig := { parameters := [], returnType := none }, accessFlags := 1, code := some k0c0 }
/-- java/lang/Object -/
def k0 : Class := { plain "java/lang/Object" none with
  accessFlags := 33
  interfaces := #[]
  cf := some (fileOf pool0 8 #[] #[{ accessFlags := 1, nameIndex := 5, descriptorIndex := 6, attributes := #[] }] 33 0 #[] #[])
  fields := #[]
  methods := #[k0m0]
  instanceTypes := #[]
  staticTypes := #[]
  resolved := Array.replicate 124 none
  statics := none }

def pool1 : Array CpInfo := pool [(2, .class_ 4), (1, u "java/lang/Object"), (0, u "<init>"), (0, u "()V"), (0, .class_ 8), (0, u "com/example/mode_choice_loop/modechoiceloop/simulation/TimeHeap"), (0, .methodref 7 10), (0, .nameAndType 5 11), (0, u "(I)V"), (0, .methodref 7 13), (0, .nameAndType 14 15), (0, u "isEmpty"), (0, u "()Z"), (0, .methodref 7 17), (0, .nameAndType 18 19), (0, u "add"), (0, u "(ID)Z"), (0, .methodref 21 22), (0, .class_ 23), (0, .nameAndType 24 25), (0, u "java/lang/Math"), (0, u "min"), (0, u "(II)I"), (0, .methodref 7 27), (0, .nameAndType 28 29), (0, u "removeFirst"), (0, u "()I"), (0, .class_ 31), (0, u "com/example/mode_choice_loop/modechoiceloop/simulation/TimeHeapIsEmptyPinLaw"), (2, u "law"), (0, u "(IIIIII)Z")] 3

def k1m0 : Method := { name := "<init>", desc := "()V", sig := { parameters := [], returnType := none }, accessFlags := 1, code := none }
def k1c1 : Code := { maxStack := 4, maxLocals := 12, code := code, exceptionTable := #[], attributes := #[] }
def k1m1 : Method := { name := "law", desc := "(IIIIII)Z", sig := { parameters := [.int, .int, .int, .int, .int, .int], returnType := some .boolean }, accessFlags := 9, code := some k1c1 }
/-- com/example/mode_choice_loop/modechoiceloop/simulation/TimeHeapIsEmptyPinLaw -/
def k1 : Class := { plain "com/example/mode_choice_loop/modechoiceloop/simulation/TimeHeapIsEmptyPinLaw" (some 0) with
  accessFlags := 49
  interfaces := #[]
  cf := some (fileOf pool1 30 #[] #[{ accessFlags := 1, nameIndex := 5, descriptorIndex := 6, attributes := #[] }, { accessFlags := 9, nameIndex := 34, descriptorIndex := 35, attributes := #[] }] 49 2 #[] #[])
  fields := #[]
  methods := #[k1m0, k1m1]
  instanceTypes := #[]
  staticTypes := #[]
  resolved := Array.replicate 39 none
  statics := none }

def pool2 : Array CpInfo := pool [(1, .methodref 2 3), (0, .class_ 4), (0, .nameAndType 5 6), (0, u "java/lang/Object"), (0, u "<init>"), (0, u "()V"), (0, .methodref 8 9), (0, .class_ 10), (0, .nameAndType 11 12), (0, u "java/lang/Math"), (0, u "max"), (0, u "(II)I"), (0, .fieldref 14 15), (0, .class_ 16), (0, .nameAndType 17 18), (0, u "com/example/mode_choice_loop/modechoiceloop/simulation/TimeHeap"), (0, u "times"), (0, u "[D"), (0, .fieldref 14 20), (0, .nameAndType 21 22), (0, u "numbers"), (0, u "[I"), (0, .fieldref 14 24), (0, .nameAndType 25 26), (0, u "size"), (0, u "I"), (0, .methodref 28 29), (0, .class_ 30), (0, .nameAndType 31 32), (0, u "java/util/Arrays"), (0, u "copyOf"), (0, u "([DI)[D"), (0, .methodref 28 34), (0, .nameAndType 31 35), (0, u "([II)[I"), (0, .methodref 14 37), (0, .nameAndType 38 39), (0, u "precedes"), (0, u "(DIDI)Z"), (0, .methodref 14 41), (0, .nameAndType 42 6), (0, u "requireNumber"), (0, .methodref 14 44), (0, .nameAndType 45 46), (0, u "firstChild"), (0, u "(I)I"), (0, .methodref 48 49), (0, .class_ 50), (0, .nameAndType 51 52), (0, u "java/lang/Double"), (0, u "compare"), (0, u "(DD)I"), (0, .methodref 8 54), (0, .nameAndType 55 12), (0, u "min"), (7, u "CHILDREN"), (2, u "(I)V"), (2, u "isEmpty"), (0, u "()Z"), (1, u "add"), (0, u "(ID)Z"), (3, u "()I"), (0, u "removeFirst")] 2

def k2c0 : Code := { maxStack := 3, maxLocals := 2, code := prog_86_method_1_code, exceptionTable := #[], attributes := #[] }
def k2m0 : Method := { name := "<init>", desc := "(I)V", sig := { parameters := [.int], returnType := none }, accessFlags := 0, code := some k2c0 }
def k2c1 : Code := { maxStack := 1, maxLocals := 1, code := prog_86_method_2_code, exceptionTable := #[], attributes := #[] }
def k2m1 : Method := { name := "isEmpty", desc := "()Z", sig := { parameters := [], returnType := some .boolean }, accessFlags := 0, code := some k2c1 }
def k2c2 : Code := { maxStack := 7, maxLocals := 6, code := prog_86_method_3_code, exceptionTable := #[], attributes := #[] }
def k2m2 : Method := { name := "add", desc := "(ID)Z", sig := { parameters := [.int, .double], returnType := some .boolean }, accessFlags := 0, code := some k2c2 }
def k2c3 : Code := { maxStack := 6, maxLocals := 7, code := prog_86_method_6_code, exceptionTable := #[], attributes := #[] }
def k2m3 : Method := { name := "removeFirst", desc := "()I", sig := { parameters := [], returnType := some .int }, accessFlags := 0, code := some k2c3 }
def k2c4 : Code := { maxStack := 4, maxLocals := 7, code := prog_86_method_7_code, exceptionTable := #[], attributes := #[] }
def k2m4 : Method := { name := "precedes", desc := "(DIDI)Z", sig := { parameters := [.double, .int, .double, .int], returnType := some .boolean }, accessFlags := 8, code := some k2c4 }
def k2c5 : Code := { maxStack := 7, maxLocals := 6, code := prog_86_method_8_code, exceptionTable := #[], attributes := #[] }
def k2m5 : Method := { name := "firstChild", desc := "(I)I", sig := { parameters := [.int], returnType := some .int }, accessFlags := 2, code := some k2c5 }
def k2c6 : Code := { maxStack := 3, maxLocals := 1, code := prog_86_method_9_code, exceptionTable := #[], attributes := #[] }
def k2m6 : Method := { name := "requireNumber", desc := "()V", sig := { parameters := [], returnType := none }, accessFlags := 2, code := some k2c6 }
/-- com/example/mode_choice_loop/modechoiceloop/simulation/TimeHeap -/
def k2 : Class := { plain "com/example/mode_choice_loop/modechoiceloop/simulation/TimeHeap" (some 0) with
  accessFlags := 48
  interfaces := #[]
  cf := some (fileOf pool2 14 #[] #[{ accessFlags := 0, nameIndex := 5, descriptorIndex := 66, attributes := #[] }, { accessFlags := 0, nameIndex := 69, descriptorIndex := 70, attributes := #[] }, { accessFlags := 0, nameIndex := 72, descriptorIndex := 73, attributes := #[] }, { accessFlags := 0, nameIndex := 78, descriptorIndex := 77, attributes := #[] }, { accessFlags := 8, nameIndex := 38, descriptorIndex := 39, attributes := #[] }, { accessFlags := 2, nameIndex := 45, descriptorIndex := 46, attributes := #[] }, { accessFlags := 2, nameIndex := 42, descriptorIndex := 6, attributes := #[] }] 48 2 #[] #[{ accessFlags := 26, nameIndex := 63, descriptorIndex := 26, attributes := #[] }, { accessFlags := 2, nameIndex := 17, descriptorIndex := 18, attributes := #[] }, { accessFlags := 2, nameIndex := 21, descriptorIndex := 22, attributes := #[] }, { accessFlags := 2, nameIndex := 25, descriptorIndex := 26, attributes := #[] }])
  fields := #[{ name := "CHILDREN", type := .int, accessFlags := 26, slot := 0, constantValue := 0 }, { name := "times", type := (.array .double), accessFlags := 2, slot := 0, constantValue := 0 }, { name := "numbers", type := (.array .int), accessFlags := 2, slot := 1, constantValue := 0 }, { name := "size", type := .int, accessFlags := 2, slot := 2, constantValue := 0 }]
  methods := #[k2m0, k2m1, k2m2, k2m3, k2m4, k2m5, k2m6]
  instanceTypes := #[(.array .double), (.array .int), .int]
  staticTypes := #[.int]
  resolved := Array.replicate 81 none
  statics := none }

def pool3 : Array CpInfo := pool [(1, .class_ 2), (0, u "java/lang/Math"), (1, .class_ 6), (1, u "java/lang/Object"), (0, u "<init>"), (0, u "()V"), (89, .class_ 100), (1, u "java/lang/Math$RandomNumberGeneratorHolder"), (71, u "negativeZeroFloatBits"), (0, u "J"), (2, u "negativeZeroDoubleBits"), (21, u "max"), (2, u "min"), (43, u "$assertionsDisabled"), (0, u "Z"), (88, u "(II)I"), (2, u "twoToTheDoubleScaleDown"), (0, u "D"), (4, u "twoToTheDoubleScaleUp"), (9, u "E"), (3, u "PI"), (2, u "TAU"), (2, u "DEGREES_TO_RADIANS"), (0, u "RADIANS_TO_DEGREES")] 94

def k3m0 : Method := { name := "<init>", desc := "()V", sig := { parameters := [], returnType := none }, accessFlags := 2, code := none }
def k3c1 : Code := { maxStack := 2, maxLocals := 2, code := jdk_29_method_65_code, exceptionTable := #[], attributes := #[] }
def k3m1 : Method := { name := "max", desc := "(II)I", sig := { parameters := [.int, .int], returnType := some .int }, accessFlags := 9, code := some k3c1 }
def k3c2 : Code := { maxStack := 2, maxLocals := 2, code := jdk_29_method_69_code, exceptionTable := #[], attributes := #[] }
def k3m2 : Method := { name := "min", desc := "(II)I", sig := { parameters := [.int, .int], returnType := some .int }, accessFlags := 9, code := some k3c2 }
/-- java/lang/Math -/
def k3 : Class := { plain "java/lang/Math" (some 0) with
  accessFlags := 49
  interfaces := #[]
  cf := some (fileOf pool3 1 #[.nestMembers #[98]] #[{ accessFlags := 2, nameIndex := 7, descriptorIndex := 8, attributes := #[] }, { accessFlags := 9, nameIndex := 198, descriptorIndex := 335, attributes := #[] }, { accessFlags := 9, nameIndex := 201, descriptorIndex := 335, attributes := #[] }] 49 4 #[] #[{ accessFlags := 25, nameIndex := 354, descriptorIndex := 339, attributes := #[] }, { accessFlags := 25, nameIndex := 358, descriptorIndex := 339, attributes := #[] }, { accessFlags := 25, nameIndex := 361, descriptorIndex := 339, attributes := #[] }, { accessFlags := 26, nameIndex := 364, descriptorIndex := 339, attributes := #[] }, { accessFlags := 26, nameIndex := 365, descriptorIndex := 339, attributes := #[] }, { accessFlags := 26, nameIndex := 172, descriptorIndex := 173, attributes := #[] }, { accessFlags := 26, nameIndex := 176, descriptorIndex := 173, attributes := #[] }, { accessFlags := 8, nameIndex := 344, descriptorIndex := 339, attributes := #[] }, { accessFlags := 8, nameIndex := 338, descriptorIndex := 339, attributes := #[] }, { accessFlags := 4120, nameIndex := 245, descriptorIndex := 246, attributes := #[] }])
  fields := #[{ name := "E", type := .double, accessFlags := 25, slot := 0, constantValue := 0 }, { name := "PI", type := .double, accessFlags := 25, slot := 1, constantValue := 0 }, { name := "TAU", type := .double, accessFlags := 25, slot := 2, constantValue := 0 }, { name := "DEGREES_TO_RADIANS", type := .double, accessFlags := 26, slot := 3, constantValue := 0 }, { name := "RADIANS_TO_DEGREES", type := .double, accessFlags := 26, slot := 4, constantValue := 0 }, { name := "negativeZeroFloatBits", type := .long, accessFlags := 26, slot := 5, constantValue := 0 }, { name := "negativeZeroDoubleBits", type := .long, accessFlags := 26, slot := 6, constantValue := 0 }, { name := "twoToTheDoubleScaleUp", type := .double, accessFlags := 8, slot := 7, constantValue := 0 }, { name := "twoToTheDoubleScaleDown", type := .double, accessFlags := 8, slot := 8, constantValue := 0 }, { name := "$assertionsDisabled", type := .boolean, accessFlags := 4120, slot := 9, constantValue := 0 }]
  methods := #[k3m0, k3m1, k3m2]
  instanceTypes := #[]
  staticTypes := #[.double, .double, .double, .double, .double, .long, .long, .double, .double, .boolean]
  resolved := Array.replicate 460 none
  statics := none }

def pool4 : Array CpInfo := pool [(2, .class_ 4), (1, u "java/lang/Object"), (0, u "<init>"), (0, u "()V"), (7, .class_ 16), (1, u "java/util/Arrays"), (57, .class_ 76), (1, u "java/util/Arrays$NaturalOrder"), (36, .class_ 115), (1, u "java/util/Arrays$LegacyMergeSort"), (1, u "Z"), (32, .methodref 151 152), (0, .class_ 153), (0, .nameAndType 154 155), (0, u "java/lang/System"), (0, u "arraycopy"), (0, u "(Ljava/lang/Object;ILjava/lang/Object;II)V"), (146, u "copyOf"), (1, .methodref 305 306), (0, .class_ 307), (0, .nameAndType 308 309), (0, u "java/lang/Math"), (0, u "min"), (0, u "(II)I"), (65, .class_ 376), (0, u "java/util/Arrays$ArrayList"), (68, u "$assertionsDisabled"), (269, u "MIN_ARRAY_SORT_GRAN"), (0, u "I"), (2, u "INSERTIONSORT_THRESHOLD"), (151, u "([II)[I"), (3, u "([DI)[D"), (99, .class_ 976), (0, u "java/util/Arrays$ArrayItr")] 52

def k4m0 : Method := { name := "<init>", desc := "()V", sig := { parameters := [], returnType := none }, accessFlags := 2, code := none }
def k4c1 : Code := { maxStack := 6, maxLocals := 3, code := jdk_65_method_123_code, exceptionTable := #[], attributes := #[] }
def k4m1 : Method := { name := "copyOf", desc := "([II)[I", sig := { parameters := [(.array .int), .int], returnType := some (.array .int) }, accessFlags := 9, code := some k4c1 }
def k4c2 : Code := { maxStack := 6, maxLocals := 3, code := jdk_65_method_127_code, exceptionTable := #[], attributes := #[] }
def k4m2 : Method := { name := "copyOf", desc := "([DI)[D", sig := { parameters := [(.array .double), .int], returnType := some (.array .double) }, accessFlags := 9, code := some k4c2 }
/-- java/util/Arrays -/
def k4 : Class := { plain "java/util/Arrays" (some 0) with
  accessFlags := 49
  interfaces := #[]
  cf := some (fileOf pool4 14 #[.nestMembers #[975, 375, 113, 74]] #[{ accessFlags := 2, nameIndex := 5, descriptorIndex := 6, attributes := #[] }, { accessFlags := 9, nameIndex := 302, descriptorIndex := 871, attributes := #[] }, { accessFlags := 9, nameIndex := 302, descriptorIndex := 875, attributes := #[] }] 49 2 #[] #[{ accessFlags := 26, nameIndex := 715, descriptorIndex := 716, attributes := #[] }, { accessFlags := 26, nameIndex := 719, descriptorIndex := 716, attributes := #[] }, { accessFlags := 4120, nameIndex := 445, descriptorIndex := 117, attributes := #[] }])
  fields := #[{ name := "MIN_ARRAY_SORT_GRAN", type := .int, accessFlags := 26, slot := 0, constantValue := 0 }, { name := "INSERTIONSORT_THRESHOLD", type := .int, accessFlags := 26, slot := 1, constantValue := 0 }, { name := "$assertionsDisabled", type := .boolean, accessFlags := 4120, slot := 2, constantValue := 0 }]
  methods := #[k4m0, k4m1, k4m2]
  instanceTypes := #[]
  staticTypes := #[.int, .int, .boolean]
  resolved := Array.replicate 1029 none
  statics := none }

def pool5 : Array CpInfo := pool [(2, .class_ 4), (1, u "java/lang/Object"), (0, u "<init>"), (0, u "()V"), (1, .class_ 10), (1, u "java/lang/System"), (0, u "allowSecurityManager"), (0, u "I"), (16, u "cons"), (0, u "Ljava/io/Console;"), (77, .class_ 110), (1, u "java/lang/System$CallersHolder"), (43, u "initialErrStream"), (0, u "Ljava/io/PrintStream;"), (19, u "security"), (0, u "Ljava/lang/SecurityManager;"), (31, .class_ 209), (0, u "java/lang/System$1"), (7, u "props"), (0, u "Ljava/util/Properties;"), (2, u "lineSeparator"), (0, u "Ljava/lang/String;"), (96, .class_ 321), (1, u "java/lang/System$LoggerFinder"), (5, .class_ 328), (0, u "java/lang/System$Logger"), (67, u "err"), (2, u "out"), (91, u "notSupportedJnuEncoding"), (15, u "in"), (17, u "initialIn"), (0, u "Ljava/io/InputStream;"), (35, u "bootLayer"), (0, u "Ljava/lang/ModuleLayer;"), (99, .class_ 664), (0, u "java/lang/System$2"), (9, u "NEVER"), (2, u "MAYBE"), (49, u "arraycopy"), (0, u "(Ljava/lang/Object;ILjava/lang/Object;II)V"), (72, .class_ 802), (0, u "java/lang/System$Logger$Level")] 31

def k5m0 : Method := { name := "<init>", desc := "()V", sig := { parameters := [], returnType := none }, accessFlags := 2, code := none }
def k5m1 : Method := { name := "arraycopy", desc := "(Ljava/lang/Object;ILjava/lang/Object;II)V", sig := { parameters := [(.object "java/lang/Object"), .int, (.object "java/lang/Object"), .int, .int], returnType := none }, accessFlags := 265, code := none }
/-- java/lang/System -/
def k5 : Class := { plain "java/lang/System" (some 0) with
  accessFlags := 49
  interfaces := #[]
  cf := some (fileOf pool5 8 #[.nestMembers #[319, 327, 801, 108, 663, 208]] #[{ accessFlags := 2, nameIndex := 5, descriptorIndex := 6, attributes := #[] }, { accessFlags := 265, nameIndex := 727, descriptorIndex := 728, attributes := #[] }] 49 2 #[] #[{ accessFlags := 25, nameIndex := 507, descriptorIndex := 526, attributes := #[] }, { accessFlags := 25, nameIndex := 399, descriptorIndex := 155, attributes := #[] }, { accessFlags := 25, nameIndex := 396, descriptorIndex := 155, attributes := #[] }, { accessFlags := 10, nameIndex := 525, descriptorIndex := 526, attributes := #[] }, { accessFlags := 26, nameIndex := 674, descriptorIndex := 12, attributes := #[] }, { accessFlags := 26, nameIndex := 677, descriptorIndex := 12, attributes := #[] }, { accessFlags := 10, nameIndex := 11, descriptorIndex := 12, attributes := #[] }, { accessFlags := 74, nameIndex := 175, descriptorIndex := 176, attributes := #[] }, { accessFlags := 10, nameIndex := 491, descriptorIndex := 222, attributes := #[] }, { accessFlags := 74, nameIndex := 29, descriptorIndex := 30, attributes := #[] }, { accessFlags := 74, nameIndex := 154, descriptorIndex := 155, attributes := #[] }, { accessFlags := 10, nameIndex := 217, descriptorIndex := 218, attributes := #[] }, { accessFlags := 10, nameIndex := 221, descriptorIndex := 222, attributes := #[] }, { accessFlags := 8, nameIndex := 562, descriptorIndex := 563, attributes := #[] }])
  fields := #[{ name := "in", type := (.object "java/io/InputStream"), accessFlags := 25, slot := 0, constantValue := 0 }, { name := "out", type := (.object "java/io/PrintStream"), accessFlags := 25, slot := 1, constantValue := 0 }, { name := "err", type := (.object "java/io/PrintStream"), accessFlags := 25, slot := 2, constantValue := 0 }, { name := "initialIn", type := (.object "java/io/InputStream"), accessFlags := 10, slot := 3, constantValue := 0 }, { name := "NEVER", type := .int, accessFlags := 26, slot := 4, constantValue := 0 }, { name := "MAYBE", type := .int, accessFlags := 26, slot := 5, constantValue := 0 }, { name := "allowSecurityManager", type := .int, accessFlags := 10, slot := 6, constantValue := 0 }, { name := "security", type := (.object "java/lang/SecurityManager"), accessFlags := 74, slot := 7, constantValue := 0 }, { name := "notSupportedJnuEncoding", type := (.object "java/lang/String"), accessFlags := 10, slot := 8, constantValue := 0 }, { name := "cons", type := (.object "java/io/Console"), accessFlags := 74, slot := 9, constantValue := 0 }, { name := "initialErrStream", type := (.object "java/io/PrintStream"), accessFlags := 74, slot := 10, constantValue := 0 }, { name := "props", type := (.object "java/util/Properties"), accessFlags := 10, slot := 11, constantValue := 0 }, { name := "lineSeparator", type := (.object "java/lang/String"), accessFlags := 10, slot := 12, constantValue := 0 }, { name := "bootLayer", type := (.object "java/lang/ModuleLayer"), accessFlags := 8, slot := 13, constantValue := 0 }]
  methods := #[k5m0, k5m1]
  instanceTypes := #[]
  staticTypes := #[(.object "java/io/InputStream"), (.object "java/io/PrintStream"), (.object "java/io/PrintStream"), (.object "java/io/InputStream"), .int, .int, .int, (.object "java/lang/SecurityManager"), (.object "java/lang/String"), (.object "java/io/Console"), (.object "java/io/PrintStream"), (.object "java/util/Properties"), (.object "java/lang/String"), (.object "java/lang/ModuleLayer")]
  resolved := Array.replicate 834 none
  statics := none }

def pool6 : Array CpInfo := pool [(1, .class_ 2), (0, u "java/io/Serializable"), (0, .class_ 4), (0, u "java/lang/Object")] 2

/-- java/io/Serializable -/
def k6 : Class := { plain "java/io/Serializable" (some 0) with
  accessFlags := 1537
  interfaces := #[]
  cf := some (fileOf pool6 1 #[] #[] 1537 3 #[] #[])
  fields := #[]
  methods := #[]
  instanceTypes := #[]
  staticTypes := #[]
  resolved := Array.replicate 7 none
  statics := none }

def pool7 : Array CpInfo := pool [(2, .class_ 4), (1, u "java/lang/Object"), (0, u "<init>"), (0, u "()V"), (1, .class_ 10), (1, u "java/lang/Number"), (2, .class_ 14), (0, u "java/io/Serializable"), (0, u "serialVersionUID"), (0, u "J")] 20

def k7m0 : Method := { name := "<init>", desc := "()V", sig := { parameters := [], returnType := none }, accessFlags := 1, code := none }
/-- java/lang/Number -/
def k7 : Class := { plain "java/lang/Number" (some 0) with
  accessFlags := 1057
  interfaces := #[6]
  cf := some (fileOf pool7 8 #[] #[{ accessFlags := 1, nameIndex := 5, descriptorIndex := 6, attributes := #[] }] 1057 2 #[13] #[{ accessFlags := 26, nameIndex := 15, descriptorIndex := 16, attributes := #[] }])
  fields := #[{ name := "serialVersionUID", type := .long, accessFlags := 26, slot := 0, constantValue := 0 }]
  methods := #[k7m0]
  instanceTypes := #[]
  staticTypes := #[.long]
  resolved := Array.replicate 37 none
  statics := none }

def pool8 : Array CpInfo := pool [(1, .class_ 2), (0, u "java/lang/Comparable"), (0, .class_ 4), (0, u "java/lang/Object")] 7

/-- java/lang/Comparable -/
def k8 : Class := { plain "java/lang/Comparable" (some 0) with
  accessFlags := 1537
  interfaces := #[]
  cf := some (fileOf pool8 1 #[] #[] 1537 3 #[] #[])
  fields := #[]
  methods := #[]
  instanceTypes := #[]
  staticTypes := #[]
  resolved := Array.replicate 12 none
  statics := none }

def pool9 : Array CpInfo := pool [(1, .class_ 2), (0, u "java/lang/constant/Constable"), (0, .class_ 4), (0, u "java/lang/Object")] 6

/-- java/lang/constant/Constable -/
def k9 : Class := { plain "java/lang/constant/Constable" (some 0) with
  accessFlags := 1537
  interfaces := #[]
  cf := some (fileOf pool9 1 #[] #[] 1537 3 #[] #[])
  fields := #[]
  methods := #[]
  instanceTypes := #[]
  staticTypes := #[]
  resolved := Array.replicate 11 none
  statics := none }

def pool10 : Array CpInfo := pool [(1, .class_ 2), (0, u "java/lang/constant/ConstantDesc"), (0, .class_ 4), (0, u "java/lang/Object")] 32

/-- java/lang/constant/ConstantDesc -/
def k10 : Class := { plain "java/lang/constant/ConstantDesc" (some 0) with
  accessFlags := 1537
  interfaces := #[]
  cf := some (fileOf pool10 1 #[] #[] 1537 3 #[] #[])
  fields := #[]
  methods := #[]
  instanceTypes := #[]
  staticTypes := #[]
  resolved := Array.replicate 37 none
  statics := none }

def pool11 : Array CpInfo := pool [(1, .class_ 2), (0, u "java/lang/Double"), (11, u "(D)Z"), (31, .methodref 1 47), (0, .nameAndType 48 49), (0, u "doubleToLongBits"), (0, u "(D)J"), (64, .class_ 116), (1, u "java/lang/Number"), (3, u "value"), (0, u "D"), (0, .methodref 1 123), (0, .nameAndType 124 14), (0, u "isNaN"), (9, .methodref 1 135), (0, .nameAndType 136 49), (0, u "doubleToRawLongBits"), (4, u "compare"), (0, u "(DD)I"), (30, u "TYPE"), (0, u "Ljava/lang/Class;"), (0, .class_ 176), (0, u "java/lang/Comparable"), (0, .class_ 178), (0, u "java/lang/constant/Constable"), (0, .class_ 180), (0, u "java/lang/constant/ConstantDesc"), (0, u "POSITIVE_INFINITY"), (3, u "NEGATIVE_INFINITY"), (2, u "NaN"), (2, u "MAX_VALUE"), (0, u "MIN_NORMAL"), (0, u "MIN_VALUE"), (2, u "SIZE"), (0, u "I"), (1, u "PRECISION"), (1, u "MAX_EXPONENT"), (1, u "MIN_EXPONENT"), (1, u "BYTES"), (3, u "serialVersionUID"), (0, u "J")] 79

def k11c0 : Code := { maxStack := 4, maxLocals := 2, code := jdk_117_method_6_code, exceptionTable := #[], attributes := #[] }
def k11m0 : Method := { name := "isNaN", desc := "(D)Z", sig := { parameters := [.double], returnType := some .boolean }, accessFlags := 9, code := some k11c0 }
def k11c1 : Code := { maxStack := 2, maxLocals := 2, code := jdk_117_method_23_code, exceptionTable := #[], attributes := #[] }
def k11m1 : Method := { name := "doubleToLongBits", desc := "(D)J", sig := { parameters := [.double], returnType := some .long }, accessFlags := 9, code := some k11c1 }
def k11m2 : Method := { name := "doubleToRawLongBits", desc := "(D)J", sig := { parameters := [.double], returnType := some .long }, accessFlags := 265, code := none }
def k11c3 : Code := { maxStack := 4, maxLocals := 8, code := jdk_117_method_27_code, exceptionTable := #[], attributes := #[] }
def k11m3 : Method := { name := "compare", desc := "(DD)I", sig := { parameters := [.double, .double], returnType := some .int }, accessFlags := 9, code := some k11c3 }
/-- java/lang/Double -/
def k11 : Class := { plain "java/lang/Double" (some 7) with
  accessFlags := 49
  interfaces := #[8, 9, 10]
  cf := some (fileOf pool11 1 #[] #[{ accessFlags := 9, nameIndex := 124, descriptorIndex := 14, attributes := #[] }, { accessFlags := 9, nameIndex := 48, descriptorIndex := 49, attributes := #[] }, { accessFlags := 265, nameIndex := 136, descriptorIndex := 49, attributes := #[] }, { accessFlags := 9, nameIndex := 141, descriptorIndex := 142, attributes := #[] }] 49 114 #[175, 177, 179] #[{ accessFlags := 25, nameIndex := 181, descriptorIndex := 121, attributes := #[] }, { accessFlags := 25, nameIndex := 185, descriptorIndex := 121, attributes := #[] }, { accessFlags := 25, nameIndex := 188, descriptorIndex := 121, attributes := #[] }, { accessFlags := 25, nameIndex := 191, descriptorIndex := 121, attributes := #[] }, { accessFlags := 25, nameIndex := 192, descriptorIndex := 121, attributes := #[] }, { accessFlags := 25, nameIndex := 193, descriptorIndex := 121, attributes := #[] }, { accessFlags := 25, nameIndex := 196, descriptorIndex := 197, attributes := #[] }, { accessFlags := 25, nameIndex := 199, descriptorIndex := 197, attributes := #[] }, { accessFlags := 25, nameIndex := 201, descriptorIndex := 197, attributes := #[] }, { accessFlags := 25, nameIndex := 203, descriptorIndex := 197, attributes := #[] }, { accessFlags := 25, nameIndex := 205, descriptorIndex := 197, attributes := #[] }, { accessFlags := 25, nameIndex := 173, descriptorIndex := 174, attributes := #[] }, { accessFlags := 18, nameIndex := 120, descriptorIndex := 121, attributes := #[] }, { accessFlags := 26, nameIndex := 209, descriptorIndex := 210, attributes := #[] }])
  fields := #[{ name := "POSITIVE_INFINITY", type := .double, accessFlags := 25, slot := 0, constantValue := 0 }, { name := "NEGATIVE_INFINITY", type := .double, accessFlags := 25, slot := 1, constantValue := 0 }, { name := "NaN", type := .double, accessFlags := 25, slot := 2, constantValue := 0 }, { name := "MAX_VALUE", type := .double, accessFlags := 25, slot := 3, constantValue := 0 }, { name := "MIN_NORMAL", type := .double, accessFlags := 25, slot := 4, constantValue := 0 }, { name := "MIN_VALUE", type := .double, accessFlags := 25, slot := 5, constantValue := 0 }, { name := "SIZE", type := .int, accessFlags := 25, slot := 6, constantValue := 0 }, { name := "PRECISION", type := .int, accessFlags := 25, slot := 7, constantValue := 0 }, { name := "MAX_EXPONENT", type := .int, accessFlags := 25, slot := 8, constantValue := 0 }, { name := "MIN_EXPONENT", type := .int, accessFlags := 25, slot := 9, constantValue := 0 }, { name := "BYTES", type := .int, accessFlags := 25, slot := 10, constantValue := 0 }, { name := "TYPE", type := (.object "java/lang/Class"), accessFlags := 25, slot := 11, constantValue := 0 }, { name := "value", type := .double, accessFlags := 18, slot := 0, constantValue := 0 }, { name := "serialVersionUID", type := .long, accessFlags := 26, slot := 12, constantValue := 0 }]
  methods := #[k11m0, k11m1, k11m2, k11m3]
  instanceTypes := #[.double]
  staticTypes := #[.double, .double, .double, .double, .double, .double, .int, .int, .int, .int, .int, (.object "java/lang/Class"), .long]
  resolved := Array.replicate 290 none
  statics := none }

def pool12 : Array CpInfo := pool [(1, u "java/lang/Cloneable"), (0, .class_ 1), (0, u "java/lang/Object"), (0, .class_ 3)] 3

/-- java/lang/Cloneable -/
def k12 : Class := { plain "java/lang/Cloneable" (some 0) with
  accessFlags := 1537
  interfaces := #[]
  cf := some (fileOf pool12 2 #[] #[] 1537 4 #[] #[])
  fields := #[]
  methods := #[]
  instanceTypes := #[]
  staticTypes := #[]
  resolved := Array.replicate 8 none
  statics := none }

/-- the primitive byte -/
def k13 : Class := { plain "byte" none with kind := .primitive 'B', accessFlags := 0x411 }
/-- [B -/
def k14 : Class := { plain "[B" (some 0) with kind := .array 13 .byte, interfaces := #[12, 6], accessFlags := 1041 }

/-- the primitive double -/
def k15 : Class := { plain "double" none with kind := .primitive 'D', accessFlags := 0x411 }
/-- [D -/
def k16 : Class := { plain "[D" (some 0) with kind := .array 15 .double, interfaces := #[12, 6], accessFlags := 1041 }

/-- the primitive int -/
def k17 : Class := { plain "int" none with kind := .primitive 'I', accessFlags := 0x411 }
/-- [I -/
def k18 : Class := { plain "[I" (some 0) with kind := .array 17 .int, interfaces := #[12, 6], accessFlags := 1041 }

def heap : Heap := #[]
def classes : Array Class := #[k0, k1, k2, k3, k4, k5, k6, k7, k8, k9, k10, k11, k12, k13, k14, k15, k16, k17, k18]
def interned : List (Array UInt16 × Addr) := []
def slotsUsed : Nat := 0
def theMethod : MethodId := ⟨1, 1⟩
def args0 : Array Value := #[.int 1, .int 2, .int 3, .int 4, .int 5, .int 6]
def aboutOver (below : List Frame) : State where
  vm := { classes := classes, interned := interned.toArray }
  heap := heap
  slotsUsed := slotsUsed
  threads := #[{ frames := .invoking theMethod args0 :: below }]
def below0 : List Frame := [.native { method := ⟨0, 0⟩, args := #[] }]
def about1 : State := aboutOver below0
def p0 : Program := .bare "" "" ""
def e0 : Env := launch0.env 0 0 0
theorem w_frames : about1.frames = Frame.invoking theMethod args0 :: below0 := rfl
set_option maxRecDepth 65536 in
theorem w_args : argsFit about1.vm theMethod args0 = true := by decide +kernel
set_option maxRecDepth 65536 in
theorem w_heap : heapFits about1 = true := by decide +kernel
set_option maxRecDepth 65536 in
theorem w_runnable : about1.curStatus? = some .runnable := by decide +kernel
set_option maxRecDepth 65536 in
theorem w_alone : about1.alone = true := by decide +kernel
set_option maxRecDepth 65536 in
theorem w_named : about1.methodNamed? x = some theMethod := by decide +kernel
set_option maxRecDepth 65536 in
theorem w_hears : about1.hears theMethod below0 = true := by decide +kernel
set_option maxRecDepth 65536 in
theorem w_ripe : about1.ripe theMethod args0 below0 = true := by decide +kernel
theorem w_running : about1.status = .running := rfl
set_option maxRecDepth 65536 in
theorem w_room : about1.hasRoom e0.platform room_1 = true :=
  launch0.hasRoom_least _ room_1 (by decide +kernel) (by decide +kernel) (by decide +kernel) (by decide +kernel) (by decide +kernel) (by decide +kernel)
theorem allAtoms_all (ts : List Jvm.Cond) (a : Array Jvm.Value) (st : Jvm.State) : (allAtoms ts).before a st = ts.all (fun c => c.before a st) := by
  induction ts with
  | nil => rfl
  | cons c t ih =>
    show (Jvm.Cond.and c (allAtoms t)).before a st = _
    rw [Jvm.Cond.before_and, ih, List.all_cons]
def words1 : List Jvm.Cond := Jvm.Cond.code x code maxLocals ret :: tables_1
/-- a 'code' word, met by the world's own term for the bytes: nothing is compared byte by byte -/
theorem code_word {y : MethodName} {bytes : ByteArray} {mx : Nat} {rt : Option FieldType} {a : Array Value} {s : State} {m : MethodId} {meth : Method} {c : Code} (h1 : s.methodNamed? y = some m) (h2 : s.vm.method? m = some meth) (h3 : meth.code = some c) (h4 : c.code = bytes)
    (h5 : (c.maxLocals == mx && c.exceptionTable.isEmpty && decide (c.maxStack ≤ mostOperands) && decide (meth.sig.returnType = rt) && !meth.locks && decide (parseMethodDescriptor y.desc = some meth.sig)) = true) : (Jvm.Cond.code y bytes mx rt).before a s = true := by
  simp only [Bool.and_eq_true, beq_iff_eq, Bool.not_eq_true', decide_eq_true_eq] at h5
  obtain ⟨⟨⟨⟨⟨g1, g2⟩, g3⟩, g4⟩, g5⟩, g6⟩ := h5
  simp [Cond.before, Cond.holds, Cond.value, h1, h2, h3, h4, g1, g2, g3, g4, g5, g6]
def isCode : Jvm.Cond → Bool
  | .code _ _ _ _ => true
  | _ => false
theorem all_split {L : List Jvm.Cond} {P : Jvm.Cond → Bool} (h1 : L.all (fun c => isCode c || P c) = true) (h2 : ∀ c ∈ L.filter isCode, P c = true) : L.all P = true := by
  refine List.all_eq_true.mpr fun c hc => ?_
  have h := List.all_eq_true.mp h1 c hc
  rcases Bool.eq_false_or_eq_true (isCode c) with hi | hi
  · exact h2 c (List.mem_filter.mpr ⟨hc, hi⟩)
  · simpa [hi] using h
set_option maxRecDepth 65536 in
theorem w_c0 : (Jvm.Cond.code x code maxLocals ret).before args0 about1 = true := code_word (m := ⟨1, 1⟩) (meth := k1m1) (c := k1c1) (by decide +kernel) rfl rfl rfl (by decide +kernel)
set_option maxRecDepth 65536 in
theorem w_c1 : (Jvm.Cond.code ({ cls := "com/example/mode_choice_loop/modechoiceloop/simulation/TimeHeap", name := "<init>", desc := "(I)V" } : Jvm.MethodName) prog_86_method_1_code (2 : Nat) (Option.none : Option Jvm.ClassFile.FieldType)).before args0 about1 = true := code_word (m := ⟨2, 0⟩) (meth := k2m0) (c := k2c0) (by decide +kernel) rfl rfl rfl (by decide +kernel)
set_option maxRecDepth 65536 in
theorem w_c2 : (Jvm.Cond.code ({ cls := "java/lang/Object", name := "<init>", desc := "()V" } : Jvm.MethodName) object_method_1_code (1 : Nat) (Option.none : Option Jvm.ClassFile.FieldType)).before args0 about1 = true := code_word (m := ⟨0, 0⟩) (meth := k0m0) (c := k0c0) (by decide +kernel) rfl rfl rfl (by decide +kernel)
set_option maxRecDepth 65536 in
theorem w_c3 : (Jvm.Cond.code ({ cls := "java/lang/Math", name := "max", desc := "(II)I" } : Jvm.MethodName) jdk_29_method_65_code (2 : Nat) (Option.some Jvm.ClassFile.FieldType.int)).before args0 about1 = true := code_word (m := ⟨3, 1⟩) (meth := k3m1) (c := k3c1) (by decide +kernel) rfl rfl rfl (by decide +kernel)
set_option maxRecDepth 65536 in
theorem w_c4 : (Jvm.Cond.code ({ cls := "com/example/mode_choice_loop/modechoiceloop/simulation/TimeHeap", name := "isEmpty", desc := "()Z" } : Jvm.MethodName) prog_86_method_2_code (1 : Nat) (Option.some Jvm.ClassFile.FieldType.boolean)).before args0 about1 = true := code_word (m := ⟨2, 1⟩) (meth := k2m1) (c := k2c1) (by decide +kernel) rfl rfl rfl (by decide +kernel)
set_option maxRecDepth 65536 in
theorem w_c5 : (Jvm.Cond.code ({ cls := "com/example/mode_choice_loop/modechoiceloop/simulation/TimeHeap", name := "add", desc := "(ID)Z" } : Jvm.MethodName) prog_86_method_3_code (6 : Nat) (Option.some Jvm.ClassFile.FieldType.boolean)).before args0 about1 = true := code_word (m := ⟨2, 2⟩) (meth := k2m2) (c := k2c2) (by decide +kernel) rfl rfl rfl (by decide +kernel)
set_option maxRecDepth 65536 in
theorem w_c6 : (Jvm.Cond.code ({ cls := "java/util/Arrays", name := "copyOf", desc := "([DI)[D" } : Jvm.MethodName) jdk_65_method_127_code (3 : Nat) (Option.some (Jvm.ClassFile.FieldType.array Jvm.ClassFile.FieldType.double))).before args0 about1 = true := code_word (m := ⟨4, 2⟩) (meth := k4m2) (c := k4c2) (by decide +kernel) rfl rfl rfl (by decide +kernel)
set_option maxRecDepth 65536 in
theorem w_c7 : (Jvm.Cond.code ({ cls := "java/lang/Math", name := "min", desc := "(II)I" } : Jvm.MethodName) jdk_29_method_69_code (2 : Nat) (Option.some Jvm.ClassFile.FieldType.int)).before args0 about1 = true := code_word (m := ⟨3, 2⟩) (meth := k3m2) (c := k3c2) (by decide +kernel) rfl rfl rfl (by decide +kernel)
set_option maxRecDepth 65536 in
theorem w_c8 : (Jvm.Cond.code ({ cls := "java/util/Arrays", name := "copyOf", desc := "([II)[I" } : Jvm.MethodName) jdk_65_method_123_code (3 : Nat) (Option.some (Jvm.ClassFile.FieldType.array Jvm.ClassFile.FieldType.int))).before args0 about1 = true := code_word (m := ⟨4, 1⟩) (meth := k4m1) (c := k4c1) (by decide +kernel) rfl rfl rfl (by decide +kernel)
set_option maxRecDepth 65536 in
theorem w_c9 : (Jvm.Cond.code ({ cls := "com/example/mode_choice_loop/modechoiceloop/simulation/TimeHeap", name := "precedes", desc := "(DIDI)Z" } : Jvm.MethodName) prog_86_method_7_code (7 : Nat) (Option.some Jvm.ClassFile.FieldType.boolean)).before args0 about1 = true := code_word (m := ⟨2, 4⟩) (meth := k2m4) (c := k2c4) (by decide +kernel) rfl rfl rfl (by decide +kernel)
set_option maxRecDepth 65536 in
theorem w_c10 : (Jvm.Cond.code ({ cls := "java/lang/Double", name := "compare", desc := "(DD)I" } : Jvm.MethodName) jdk_117_method_27_code (8 : Nat) (Option.some Jvm.ClassFile.FieldType.int)).before args0 about1 = true := code_word (m := ⟨11, 3⟩) (meth := k11m3) (c := k11c3) (by decide +kernel) rfl rfl rfl (by decide +kernel)
set_option maxRecDepth 65536 in
theorem w_c11 : (Jvm.Cond.code ({ cls := "com/example/mode_choice_loop/modechoiceloop/simulation/TimeHeap", name := "removeFirst", desc := "()I" } : Jvm.MethodName) prog_86_method_6_code (7 : Nat) (Option.some Jvm.ClassFile.FieldType.int)).before args0 about1 = true := code_word (m := ⟨2, 3⟩) (meth := k2m3) (c := k2c3) (by decide +kernel) rfl rfl rfl (by decide +kernel)
set_option maxRecDepth 65536 in
theorem w_c12 : (Jvm.Cond.code ({ cls := "com/example/mode_choice_loop/modechoiceloop/simulation/TimeHeap", name := "requireNumber", desc := "()V" } : Jvm.MethodName) prog_86_method_9_code (1 : Nat) (Option.none : Option Jvm.ClassFile.FieldType)).before args0 about1 = true := code_word (m := ⟨2, 6⟩) (meth := k2m6) (c := k2c6) (by decide +kernel) rfl rfl rfl (by decide +kernel)
set_option maxRecDepth 65536 in
theorem w_c13 : (Jvm.Cond.code ({ cls := "com/example/mode_choice_loop/modechoiceloop/simulation/TimeHeap", name := "firstChild", desc := "(I)I" } : Jvm.MethodName) prog_86_method_8_code (6 : Nat) (Option.some Jvm.ClassFile.FieldType.int)).before args0 about1 = true := code_word (m := ⟨2, 5⟩) (meth := k2m5) (c := k2c5) (by decide +kernel) rfl rfl rfl (by decide +kernel)
set_option maxRecDepth 65536 in
theorem w_c14 : (Jvm.Cond.code ({ cls := "java/lang/Double", name := "doubleToLongBits", desc := "(D)J" } : Jvm.MethodName) jdk_117_method_23_code (2 : Nat) (Option.some Jvm.ClassFile.FieldType.long)).before args0 about1 = true := code_word (m := ⟨11, 1⟩) (meth := k11m1) (c := k11c1) (by decide +kernel) rfl rfl rfl (by decide +kernel)
set_option maxRecDepth 65536 in
theorem w_c15 : (Jvm.Cond.code ({ cls := "java/lang/Double", name := "isNaN", desc := "(D)Z" } : Jvm.MethodName) jdk_117_method_6_code (2 : Nat) (Option.some Jvm.ClassFile.FieldType.boolean)).before args0 about1 = true := code_word (m := ⟨11, 0⟩) (meth := k11m0) (c := k11c0) (by decide +kernel) rfl rfl rfl (by decide +kernel)
def codes1 : List Jvm.Cond := [Jvm.Cond.code x code maxLocals ret, Jvm.Cond.code ({ cls := "com/example/mode_choice_loop/modechoiceloop/simulation/TimeHeap", name := "<init>", desc := "(I)V" } : Jvm.MethodName) prog_86_method_1_code (2 : Nat) (Option.none : Option Jvm.ClassFile.FieldType), Jvm.Cond.code ({ cls := "java/lang/Object", name := "<init>", desc := "()V" } : Jvm.MethodName) object_method_1_code (1 : Nat) (Option.none : Option Jvm.ClassFile.FieldType), Jvm.Cond.code ({ cls := "java/lang/Math", name := "max", desc := "(II)I" } : Jvm.MethodName) jdk_29_method_65_code (2 : Nat) (Option.some Jvm.ClassFile.FieldType.int), Jvm.Cond.code ({ cls := "com/example/mode_choice_loop/modechoiceloop/simulation/TimeHeap", name := "isEmpty", desc := "()Z" } : Jvm.MethodName) prog_86_method_2_code (1 : Nat) (Option.some Jvm.ClassFile.FieldType.boolean), Jvm.Cond.code ({ cls := "com/example/mode_choice_loop/modechoiceloop/simulation/TimeHeap", name := "add", desc := "(ID)Z" } : Jvm.MethodName) prog_86_method_3_code (6 : Nat) (Option.some Jvm.ClassFile.FieldType.boolean), Jvm.Cond.code ({ cls := "java/util/Arrays", name := "copyOf", desc := "([DI)[D" } : Jvm.MethodName) jdk_65_method_127_code (3 : Nat) (Option.some (Jvm.ClassFile.FieldType.array Jvm.ClassFile.FieldType.double)), Jvm.Cond.code ({ cls := "java/lang/Math", name := "min", desc := "(II)I" } : Jvm.MethodName) jdk_29_method_69_code (2 : Nat) (Option.some Jvm.ClassFile.FieldType.int), Jvm.Cond.code ({ cls := "java/util/Arrays", name := "copyOf", desc := "([II)[I" } : Jvm.MethodName) jdk_65_method_123_code (3 : Nat) (Option.some (Jvm.ClassFile.FieldType.array Jvm.ClassFile.FieldType.int)), Jvm.Cond.code ({ cls := "com/example/mode_choice_loop/modechoiceloop/simulation/TimeHeap", name := "precedes", desc := "(DIDI)Z" } : Jvm.MethodName) prog_86_method_7_code (7 : Nat) (Option.some Jvm.ClassFile.FieldType.boolean), Jvm.Cond.code ({ cls := "java/lang/Double", name := "compare", desc := "(DD)I" } : Jvm.MethodName) jdk_117_method_27_code (8 : Nat) (Option.some Jvm.ClassFile.FieldType.int), Jvm.Cond.code ({ cls := "com/example/mode_choice_loop/modechoiceloop/simulation/TimeHeap", name := "removeFirst", desc := "()I" } : Jvm.MethodName) prog_86_method_6_code (7 : Nat) (Option.some Jvm.ClassFile.FieldType.int), Jvm.Cond.code ({ cls := "com/example/mode_choice_loop/modechoiceloop/simulation/TimeHeap", name := "requireNumber", desc := "()V" } : Jvm.MethodName) prog_86_method_9_code (1 : Nat) (Option.none : Option Jvm.ClassFile.FieldType), Jvm.Cond.code ({ cls := "com/example/mode_choice_loop/modechoiceloop/simulation/TimeHeap", name := "firstChild", desc := "(I)I" } : Jvm.MethodName) prog_86_method_8_code (6 : Nat) (Option.some Jvm.ClassFile.FieldType.int), Jvm.Cond.code ({ cls := "java/lang/Double", name := "doubleToLongBits", desc := "(D)J" } : Jvm.MethodName) jdk_117_method_23_code (2 : Nat) (Option.some Jvm.ClassFile.FieldType.long), Jvm.Cond.code ({ cls := "java/lang/Double", name := "isNaN", desc := "(D)Z" } : Jvm.MethodName) jdk_117_method_6_code (2 : Nat) (Option.some Jvm.ClassFile.FieldType.boolean)]
set_option maxRecDepth 65536 in
theorem codes_eq : words1.filter isCode = codes1 := rfl
theorem w_codes : ∀ c ∈ words1.filter isCode, c.before args0 about1 = true := by
  rw [codes_eq]
  intro c hc
  simp only [codes1, List.mem_cons, List.not_mem_nil, or_false] at hc
  rcases hc with rfl | rfl | rfl | rfl | rfl | rfl | rfl | rfl | rfl | rfl | rfl | rfl | rfl | rfl | rfl | rfl
  · exact w_c0
  · exact w_c1
  · exact w_c2
  · exact w_c3
  · exact w_c4
  · exact w_c5
  · exact w_c6
  · exact w_c7
  · exact w_c8
  · exact w_c9
  · exact w_c10
  · exact w_c11
  · exact w_c12
  · exact w_c13
  · exact w_c14
  · exact w_c15
set_option maxRecDepth 65536 in
theorem w_t1 : (words1.take 24).all (fun c => isCode c || c.before args0 about1) = true := by decide +kernel
set_option maxRecDepth 65536 in
theorem w_t2 : ((words1.drop 24).take 24).all (fun c => isCode c || c.before args0 about1) = true := by decide +kernel
set_option maxRecDepth 65536 in
theorem w_t3 : (((words1.drop 24).drop 24).take 24).all (fun c => isCode c || c.before args0 about1) = true := by decide +kernel
set_option maxRecDepth 65536 in
theorem w_t4 : (((words1.drop 24).drop 24).drop 24).all (fun c => isCode c || c.before args0 about1) = true := by decide +kernel
theorem w_tables : (allAtoms (Jvm.Cond.code x code maxLocals ret :: tables_1)).before args0 about1 = true := by
  rw [allAtoms_all]
  show words1.all (fun c => c.before args0 about1) = true
  refine all_split ?_ w_codes
  rw [← List.take_append_drop 24 words1, List.all_append, w_t1, ← List.take_append_drop 24 (words1.drop 24), List.all_append, w_t2, ← List.take_append_drop 24 ((words1.drop 24).drop 24), List.all_append, w_t3, w_t4]
  rfl
set_option maxRecDepth 65536 in
theorem w_case : (Jvm.Cond.and given_1 narrow_1).before args0 about1 = true := by decide +kernel
theorem w_applies : (headSpec (Jvm.Cond.code x code maxLocals ret :: tables_1) room_1).applies x e0.platform about1 = true :=
  (Spec.applies_iff w_frames).mpr ⟨w_running, w_runnable, w_alone, w_named, w_hears, w_ripe, w_room, w_tables⟩
theorem atStart : AtStart classFile x code maxLocals ret World_1 tables_1 room_1 Calls_1 rest_1 Pre_1 launch0 p0 e0 about1 theMethod args0 below0 :=
  ⟨lists_1, trivial, launch0.admits_env _ _ _, launch0.least_env, fairChoices_fair.cas, fairChoices_fair.clock, w_frames, w_args, w_heap, w_applies, trivial, trivial, w_case⟩
end start1
theorem witness_1 : WitnessClaimed_1 := ⟨start1.p0, start1.e0, start1.about1, start1.theMethod, start1.args0, start1.below0, start1.atStart⟩
end Jvm.Pilot.@@N@@
