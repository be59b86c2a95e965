import JvmDerived
import JvmDerived.Pilot.@@N@@Statement
import JvmDerived.Pilot.@@N@@Code
set_option linter.unusedVariables false
set_option linter.unusedSimpArgs false
@@BLOCK:NumsL.lean.txt@@
namespace Jvm.OwnGo
open Jvm Sem ClassFile Op Lib Jvm.Stand Jvm.Free Jvm.LawKit Jvm.RoadKit
/-- from A the run comes to a state of which K is said -/
def Go (tb : Tables) (e : Env) (below : List Frame) (A : State) (K : State → Prop) : Prop := ∃ u, Steps tb e below A u ∧ K u
theorem Go.by {tb : Tables} {e : Env} {below : List Frame} {A B : State} {K : State → Prop} (h : ∀ t, Steps tb e below B t → Steps tb e below A t) (g : Go tb e below B K) : Go tb e below A K := by
  obtain ⟨u, s, k⟩ := g
  exact ⟨u, h u s, k⟩
theorem Go.tr {tb : Tables} {e : Env} {below : List Frame} {A B : State} {K : State → Prop} (h : Steps tb e below A B) (g : Go tb e below B K) : Go tb e below A K := by
  obtain ⟨u, s, k⟩ := g
  exact ⟨u, h.trans s, k⟩
theorem Go.out {tb : Tables} {e : Env} {below : List Frame} {A : State} {P : State → Outcome → Prop} (g : Go tb e below A (fun u => ∃ o, P u o)) : ∃ u o, Steps tb e below A u ∧ P u o := by
  obtain ⟨u, s, o, k⟩ := g
  exact ⟨u, o, s, k⟩
theorem Go.done {p : Program} {l : Launch} {e : Env} {R : Room} {s : State} {m : MethodId} {args : Array Value} {below : List Frame} {meth : Method} {c : Code} {T : State} {locs : List Loc} {cells slots C D : Nat}
    (X : Stand p l e R s m args below meth c T locs cells slots) {v : Option Value} (hv : meth.sig.returnType = none → v = none) (hlocks : meth.locks = false) {A : State}
    (hst : ∀ fs, (∀ (f : JFrame) (acts : List Action), f.method = m → f.locked = none → f.entered = [] → (doReturn e (T.setTop f) acts v).1 = T.setFrames fs) → Steps p.tables e below A (T.setFrames fs))
    {Q : Option Value → Heap → List Loc → Prop} (hq : Q v T.heap locs) (hc : cells ≤ C) (hs : slots ≤ D) :
    Go p.tables e below A (fun u => ∃ o, u.status = .running ∧ Ended u below o ∧ ∃ v L, o = .returned v ∧ Q v u.heap L ∧ FrameEnd s o u L C D) := by
  obtain ⟨fs, hr, hrun, hended, hW, hsame⟩ := X.leave hv hlocks
  exact ⟨_, hst fs hr, _, hrun, hended, _, _, rfl, hq, ⟨_, rfl⟩, hW, hsame.mono hc hs⟩
theorem Go.doneW {p : Program} {l : Launch} {e : Env} {R : Room} {s : State} {m : MethodId} {args : Array Value} {below : List Frame} {meth : Method} {c : Code} {T : State} {locs : List Loc} {cells slots C D : Nat} {vm1 : Vm}
    (X : Stand p l e R (s.setVm vm1) m args below meth c T locs cells slots) {n : Nat} (hS : s.Since vm1 n) (hn : n ≤ T.heap.size) {v : Option Value} (hv : meth.sig.returnType = none → v = none) (hlocks : meth.locks = false) {A : State}
    (hst : ∀ fs, (∀ (f : JFrame) (acts : List Action), f.method = m → f.locked = none → f.entered = [] → (doReturn e (T.setTop f) acts v).1 = T.setFrames fs) → Steps p.tables e below A (T.setFrames fs))
    {Q : Option Value → Heap → List Loc → Prop} (hq : Q v T.heap locs) (hc : cells ≤ C) (hs : slots ≤ D) :
    Go p.tables e below A (fun u => ∃ o, u.status = .running ∧ Ended u below o ∧ ∃ v L, o = .returned v ∧ Q v u.heap L ∧ ReturnedEndW s o u L C D) := by
  obtain ⟨fs, hr, hrun, hended, h1, h2, h3, h4⟩ := X.leaveW hS hn hv hlocks
  exact ⟨_, hst fs hr, _, hrun, hended, _, _, rfl, hq, h1, h2, h3, h4.mono hc hs⟩
end Jvm.OwnGo
namespace Jvm.OwnFp
open Jvm.FP Jvm.FP.Core Jvm.Free.Fl
/-- the double a is i * 2^e -/
def Dy (i e : Int) (a : UInt64) : Prop := ∃ s c q, val64 a = .fin s c q ∧ Whole i (.fin s c (q - e))
theorem own_const {i e : Int} {a : UInt64} (s : Bool) (c : Nat) (q : Int) (h1 : val64 a = .fin s c q) (h2 : signed s (c * 2 ^ (q - e).toNat) = i * ((2 ^ (-(q - e)).toNat : Nat) : Int)) : Dy i e a := ⟨s, c, q, h1, h2⟩
theorem Dy.noNaN {i e : Int} {a : UInt64} (h : Dy i e a) : NoNaN64 a := by
  obtain ⟨s, c, q, h1, -⟩ := h
  exact val64_no.mpr (by rw [h1]; exact fun q => nomatch q)
theorem Dy.fin {i e : Int} {a : UInt64} (h : Dy i e a) : Fin64 a := by
  obtain ⟨s, c, q, h1, -⟩ := h
  exact fin64_core.mpr ⟨s, c, q, h1⟩
theorem own_fit (s : Bool) {n : Nat} (hn : n ≤ 9007199254740992) {e : Int} (h1 : -1074 ≤ e) (h2 : e ≤ 900) :
    ∃ c q, Core.fits b64 (.fin s c q) ∧ n * 2 ^ (e - q).toNat = c * 1 * 2 ^ (q - e).toNat := by
  have e1 : b64.qmin = -1074 := qmin_b64
  have e2 : b64.qmax = 971 := by decide
  have e3 : b64.tails = 2 ^ 52 := tails_b64
  have e4 : b64.p = 53 := rfl
  have k53 : (9007199254740992 : Nat) = 2 ^ 53 := by decide
  by_cases h0 : n = 0
  · subst h0
    exact ⟨0, b64.qmin, zero_fits good_b64 s, by simp⟩
  by_cases hp : n = 9007199254740992
  · refine ⟨2 ^ 52, e + 1, ⟨by rw [e4]; decide, by rw [e1]; omega, by rw [e2]; omega, Or.inr (by rw [e3]; exact Nat.le_refl _)⟩, ?_⟩
    rw [show (e - (e + 1)).toNat = 0 by omega, show (e + 1 - e).toNat = 1 by omega, hp]
  · have l1 : 2 ^ n.log2 ≤ n := Nat.log2_self_le h0
    have l2 : n < 2 ^ (n.log2 + 1) := Nat.lt_log2_self
    have l3 : n.log2 < 53 := (Nat.pow_lt_pow_iff_right (by decide : 1 < 2)).mp (Nat.lt_of_le_of_lt l1 (by omega))
    generalize n.log2 = L at l1 l2 l3
    by_cases hq : -1074 ≤ e - (52 - (L : Int))
    · refine ⟨n * 2 ^ (52 - L), e - (52 - (L : Int)), ⟨?_, by rw [e1]; omega, by rw [e2]; omega, Or.inr ?_⟩, ?_⟩
      · rw [e4]
        calc n * 2 ^ (52 - L) < 2 ^ (L + 1) * 2 ^ (52 - L) := Nat.mul_lt_mul_of_pos_right l2 (Nat.two_pow_pos _)
          _ = 2 ^ 53 := by rw [← Nat.pow_add]; congr 1; omega
      · rw [e3]
        calc 2 ^ 52 = 2 ^ L * 2 ^ (52 - L) := by rw [← Nat.pow_add]; congr 1; omega
          _ ≤ n * 2 ^ (52 - L) := Nat.mul_le_mul_right _ l1
      · rw [show (e - (e - (52 - (L : Int)))).toNat = 52 - L by omega, show (e - (52 - (L : Int)) - e).toNat = 0 by omega]
        simp
    · refine ⟨n * 2 ^ (e + 1074).toNat, -1074, ⟨?_, by rw [e1]; omega, by rw [e2]; omega, Or.inl e1.symm⟩, ?_⟩
      · rw [e4]
        calc n * 2 ^ (e + 1074).toNat < 2 ^ (L + 1) * 2 ^ (e + 1074).toNat := Nat.mul_lt_mul_of_pos_right l2 (Nat.two_pow_pos _)
          _ = 2 ^ (L + 1 + (e + 1074).toNat) := by rw [← Nat.pow_add]
          _ ≤ 2 ^ 53 := Nat.pow_le_pow_right (by decide) (by omega)
      · rw [show (e - -1074).toNat = (e + 1074).toNat by omega, show (-1074 - e).toNat = 0 by omega]
        simp
theorem own_sg {i : Int} {s : Bool} {c : Nat} {q : Int} (h : Whole i (.fin s c q)) : signed s i.natAbs = i := by
  by_cases hi : i = 0
  · rw [hi]; exact signed_zero s
  · rw [whole_sign h hi]
    unfold signed
    by_cases z : i < 0
    · simp only [z, decide_true, if_true]; omega
    · simp only [z, decide_false]; simp; omega
theorem own_whole {i e : Int} {s : Bool} {c : Nat} {q : Int} (hs : signed s i.natAbs = i) (h : i.natAbs * 2 ^ (e - q).toNat = c * 1 * 2 ^ (q - e).toNat) : Whole i (.fin s c (q - e)) := by
  show signed s (c * 2 ^ (q - e).toNat) = i * ((2 ^ (-(q - e)).toNat : Nat) : Int)
  rw [Nat.mul_one] at h
  rw [← h, signed_mul, hs, show -(q - e) = e - q by omega]
/-- a ratio that is i * 2^e -/
theorem own_ratio {i e : Int} {s : Bool} (hs : signed s i.natAbs = i) (hi : i.natAbs ≤ 9007199254740992) (h1 : -1074 ≤ e) (h2 : e ≤ 900) :
    ∃ c q, roundRatio b64 s i.natAbs 1 e = .fin s c q ∧ Whole i (.fin s c (q - e)) := by
  obtain ⟨c, q, hf, h⟩ := own_fit s hi h1 h2
  exact ⟨c, q, roundRatio_exact good_b64 Nat.one_pos hf h, own_whole hs h⟩
theorem own_round {i e : Int} {s : Bool} {c : Nat} {q : Int} (h : Whole i (.fin s c (q - e))) (hi : i.natAbs ≤ 9007199254740992) (h1 : -1074 ≤ e) (h2 : e ≤ 900) :
    ∃ s' c' q', Core.round b64 (.fin s c q) = .fin s' c' q' ∧ Whole i (.fin s' c' (q' - e)) := by
  obtain ⟨c', q', r1, r2⟩ := own_ratio (own_sg h) hi h1 h2
  refine ⟨s, c', q', ?_, r2⟩
  have w := whole_natAbs h
  show roundRatio b64 s c 1 q = _
  rw [← r1]
  refine roundRatio_congr Nat.one_pos Nat.one_pos ?_
  rw [Nat.mul_one, Nat.mul_one, w, show -(q - e) = e - q by omega]
theorem Dy.add {i j e : Int} {a b : UInt64} (ha : Dy i e a) (hb : Dy j e b) (hi : (i + j).natAbs ≤ 9007199254740992) (h1 : -1074 ≤ e) (h2 : e ≤ 900) : Dy (i + j) e (FP.dadd a b) := by
  obtain ⟨s, c, q, a1, a2⟩ := ha
  obtain ⟨t, d, r, b1, b2⟩ := hb
  have w := whole_sum a2 b2
  have hm : min (q - e) (r - e) = min q r - e := by omega
  have hV : sumUnits s c (q - e) t d (r - e) (min q r - e) = sumUnits s c q t d r (min q r) := by
    unfold sumUnits inUnits
    rw [show q - e - (min q r - e) = q - min q r by omega, show r - e - (min q r - e) = r - min q r by omega]
  simp only [exactSum] at w
  rw [hm, hV] at w
  obtain ⟨s', c', q', r1, r2⟩ := own_round w hi h1 h2
  exact ⟨s', c', q', by rw [val64_dadd, a1, b1]; exact r1, r2⟩
theorem Dy.sub {i j e : Int} {a b : UInt64} (ha : Dy i e a) (hb : Dy j e b) (hi : (i - j).natAbs ≤ 9007199254740992) (h1 : -1074 ≤ e) (h2 : e ≤ 900) : Dy (i - j) e (FP.dsub a b) := by
  obtain ⟨s, c, q, a1, a2⟩ := ha
  obtain ⟨t, d, r, b1, b2⟩ := hb
  have w := whole_sum a2 (whole_negate b2)
  have hm : min (q - e) (r - e) = min q r - e := by omega
  have hV : sumUnits s c (q - e) (!t) d (r - e) (min q r - e) = sumUnits s c q (!t) d r (min q r) := by
    unfold sumUnits inUnits
    rw [show q - e - (min q r - e) = q - min q r by omega, show r - e - (min q r - e) = r - min q r by omega]
  simp only [negate, exactSum] at w
  rw [hm, hV] at w
  obtain ⟨s', c', q', r1, r2⟩ := own_round w hi h1 h2
  exact ⟨s', c', q', by rw [val64_dsub, a1, b1]; exact r1, r2⟩
theorem Dy.mul {i j e g : Int} {a b : UInt64} (ha : Dy i e a) (hb : Dy j g b) (hi : (i * j).natAbs ≤ 9007199254740992) (h1 : -1074 ≤ e + g) (h2 : e + g ≤ 900) : Dy (i * j) (e + g) (FP.dmul a b) := by
  obtain ⟨s, c, q, a1, a2⟩ := ha
  obtain ⟨t, d, r, b1, b2⟩ := hb
  have w := whole_product a2 b2
  simp only [exactProduct] at w
  rw [show q - e + (r - g) = q + r - (e + g) by omega] at w
  obtain ⟨s', c', q', r1, r2⟩ := own_round w hi h1 h2
  exact ⟨s', c', q', by rw [val64_dmul, a1, b1]; exact r1, r2⟩
/-- an exact quotient -/
theorem Dy.div {k j e g : Int} {a b : UInt64} (ha : Dy (k * j) e a) (hb : Dy j g b) (hj : j ≠ 0) (hi : k.natAbs ≤ 9007199254740992) (h1 : -1074 ≤ e - g) (h2 : e - g ≤ 900) : Dy k (e - g) (FP.ddiv a b) := by
  obtain ⟨s, c, q, a1, a2⟩ := ha
  obtain ⟨t, d, r, b1, b2⟩ := hb
  have wa := whole_natAbs a2
  have wb := whole_natAbs b2
  have hd : d ≠ 0 := fun z => hj ((whole_zero b2).mp z)
  have hs : signed (s != t) k.natAbs = k := by
    by_cases hk : k = 0
    · rw [hk]; exact signed_zero _
    · have s1 := whole_sign a2 (Int.mul_ne_zero hk hj)
      have s2 := whole_sign b2 hj
      rw [s1, s2]
      unfold signed
      rcases Int.lt_or_gt_of_ne hk with z | z <;> rcases Int.lt_or_gt_of_ne hj with y | y
      · have := Int.mul_pos_of_neg_of_neg z y
        simp [show ¬ k * j < 0 by omega, y]; omega
      · have := Int.mul_neg_of_neg_of_pos z y
        simp [this, show ¬ j < 0 by omega]; omega
      · have := Int.mul_neg_of_pos_of_neg z y
        simp [this, y]; omega
      · have := Int.mul_pos z y
        simp [show ¬ k * j < 0 by omega, show ¬ j < 0 by omega]; omega
  obtain ⟨c', q', r1, r2⟩ := own_ratio hs hi h1 h2
  refine ⟨_, c', q', ?_, r2⟩
  rw [val64_ddiv, a1, b1]
  show (if d = 0 then _ else roundRatio b64 (s != t) c d (q - r)) = _
  rw [if_neg hd, ← r1]
  refine roundRatio_congr (Nat.pos_of_ne_zero hd) Nat.one_pos ?_
  rw [Nat.mul_one]
  rw [Int.natAbs_mul] at wa
  -- c * 2^(q-e)+ = |k| |j| 2^(q-e)- , d * 2^(r-g)+ = |j| 2^(r-g)-
  have hj' : 0 < j.natAbs := by omega
  apply Nat.eq_of_mul_eq_mul_right (Nat.mul_pos hj' (Nat.mul_pos (Nat.two_pow_pos (q - e).toNat) (Nat.two_pow_pos (-(r - g)).toNat)))
  calc c * 2 ^ (q - r - (e - g)).toNat * (j.natAbs * (2 ^ (q - e).toNat * 2 ^ (-(r - g)).toNat))
      = (c * 2 ^ (q - e).toNat) * (j.natAbs * 2 ^ (-(r - g)).toNat) * 2 ^ (q - r - (e - g)).toNat := by ac_rfl
    _ = (k.natAbs * j.natAbs * 2 ^ (-(q - e)).toNat) * (d * 2 ^ (r - g).toNat) * 2 ^ (q - r - (e - g)).toNat := by rw [wa, wb]
    _ = k.natAbs * d * j.natAbs * 2 ^ ((-(q - e)).toNat + (r - g).toNat + (q - r - (e - g)).toNat) := by rw [Nat.pow_add, Nat.pow_add]; ac_rfl
    _ = k.natAbs * d * j.natAbs * 2 ^ ((e - g - (q - r)).toNat + (q - e).toNat + (-(r - g)).toNat) := by congr 2; omega
    _ = k.natAbs * d * 2 ^ (e - g - (q - r)).toNat * (j.natAbs * (2 ^ (q - e).toNat * 2 ^ (-(r - g)).toNat)) := by rw [Nat.pow_add, Nat.pow_add]; ac_rfl
theorem Dy.scale {i e : Int} {a : UInt64} (h : Dy i e a) (k : Nat) : Dy (i * 2 ^ k) (e - k) a := by
  obtain ⟨s, c, q, a1, a2⟩ := h
  refine ⟨s, c, q, a1, ?_⟩
  have w : signed s (c * 2 ^ (q - e).toNat) = i * ((2 ^ (-(q - e)).toNat : Nat) : Int) := a2
  show signed s (c * 2 ^ (q - (e - k)).toNat) = i * 2 ^ k * ((2 ^ (-(q - (e - k))).toNat : Nat) : Int)
  have p2 : ((2 ^ ((-(q - e)).toNat) : Nat) : Int) ≠ 0 := by
    have := Nat.two_pow_pos ((-(q - e)).toNat); omega
  refine Int.eq_of_mul_eq_mul_right p2 ?_
  have hx : (q - (e - k)).toNat + (-(q - e)).toNat = (q - e).toNat + (k + (-(q - (e - k))).toNat) := by omega
  calc signed s (c * 2 ^ (q - (e - k)).toNat) * ((2 ^ ((-(q - e)).toNat) : Nat) : Int)
      = signed s (c * 2 ^ ((q - (e - k)).toNat + (-(q - e)).toNat)) := by rw [← signed_mul, Nat.pow_add, Nat.mul_assoc]
    _ = signed s (c * 2 ^ (q - e).toNat * 2 ^ (k + (-(q - (e - k))).toNat)) := by rw [hx, Nat.pow_add, Nat.mul_assoc]
    _ = i * ((2 ^ (-(q - e)).toNat : Nat) : Int) * ((2 ^ (k + (-(q - (e - k))).toNat) : Nat) : Int) := by rw [signed_mul, w]
    _ = i * 2 ^ k * ((2 ^ (-(q - (e - k))).toNat : Nat) : Int) * ((2 ^ ((-(q - e)).toNat) : Nat) : Int) := by
        rw [Nat.pow_add, Int.natCast_mul, Int.natCast_pow 2 k]
        show i * _ * ((2 : Int) ^ k * _) = _
        ac_rfl
theorem Dy.unscale {i e : Int} {a : UInt64} (k : Nat) (h : Dy (i * 2 ^ k) e a) : Dy i (e + k) a := by
  obtain ⟨s, c, q, a1, a2⟩ := h
  refine ⟨s, c, q, a1, ?_⟩
  have w : signed s (c * 2 ^ (q - e).toNat) = i * 2 ^ k * ((2 ^ (-(q - e)).toNat : Nat) : Int) := a2
  show signed s (c * 2 ^ (q - (e + k)).toNat) = i * ((2 ^ (-(q - (e + k))).toNat : Nat) : Int)
  have p2 : ((2 ^ (k + (-(q - e)).toNat) : Nat) : Int) ≠ 0 := by
    have := Nat.two_pow_pos (k + (-(q - e)).toNat); omega
  refine Int.eq_of_mul_eq_mul_right p2 ?_
  have hx : (q - (e + k)).toNat + (k + (-(q - e)).toNat) = (q - e).toNat + (-(q - (e + k))).toNat := by omega
  calc signed s (c * 2 ^ (q - (e + k)).toNat) * ((2 ^ (k + (-(q - e)).toNat) : Nat) : Int)
      = signed s (c * 2 ^ ((q - (e + k)).toNat + (k + (-(q - e)).toNat))) := by rw [← signed_mul, Nat.pow_add 2 (q - (e + k)).toNat, Nat.mul_assoc]
    _ = signed s (c * 2 ^ (q - e).toNat * 2 ^ ((-(q - (e + k))).toNat)) := by rw [hx, Nat.pow_add, Nat.mul_assoc]
    _ = i * 2 ^ k * ((2 ^ (-(q - e)).toNat : Nat) : Int) * ((2 ^ ((-(q - (e + k))).toNat) : Nat) : Int) := by rw [signed_mul, w]
    _ = i * ((2 ^ (-(q - (e + k))).toNat : Nat) : Int) * ((2 ^ (k + (-(q - e)).toNat) : Nat) : Int) := by
        rw [Nat.pow_add, Int.natCast_mul, Int.natCast_pow 2 k]
        show i * (2 : Int) ^ k * _ * _ = _ * ((2 : Int) ^ k * _)
        ac_rfl
theorem Dy.cmp {i j e : Int} {a b : UInt64} (ha : Dy i e a) (hb : Dy j e b) : FP.dcmp a b = some (compare i j) := by
  obtain ⟨s, c, q, a1, a2⟩ := ha
  obtain ⟨t, d, r, b1, b2⟩ := hb
  have w := order_whole a2 b2
  have hm : min (q - e) (r - e) = min q r - e := by omega
  simp only [order] at w
  rw [hm] at w
  unfold inUnits at w
  rw [show q - e - (min q r - e) = q - min q r by omega, show r - e - (min q r - e) = r - min q r by omega] at w
  show order (val64 a) (val64 b) = _
  rw [a1, b1]
  exact w
theorem Dy.of_int {i : Int} {a : UInt64} (h : DInt i a) : Dy i 0 a := by
  unfold DInt at h
  cases hv : val64 a with
  | nan => rw [hv] at h; exact h.elim
  | inf => rw [hv] at h; exact h.elim
  | fin s c q => rw [hv] at h; exact ⟨s, c, q, hv, by rw [Int.sub_zero]; exact h⟩
theorem Dy.i2d (x : Int32) : Dy x.toInt 0 (FP.i2d x) := Dy.of_int (i2d_int x)
theorem Dy.l2d {x : Int64} (h : x.toInt.natAbs ≤ 9007199254740992) : Dy x.toInt 0 (FP.l2d x) := Dy.of_int (l2d_int (Nat.le_trans h (by decide)))
/-- the int that a comparison pushes -/
def own_ci (i j : Int) : Int32 := if i < j then -1 else if i = j then 0 else 1
theorem Dy.cmpV {i j e : Int} {a b : UInt64} (ha : Dy i e a) (hb : Dy j e b) (o : Jvm.ClassFile.CmpOp) : Jvm.Op.cmpValue (FP.dcmp a b) o = own_ci i j := by
  rw [ha.cmp hb, compare_ite]
  unfold own_ci
  by_cases h1 : i < j
  · simp only [if_pos h1]; cases o <;> rfl
  · by_cases h2 : i = j
    · simp only [if_neg h1, if_pos h2]; cases o <;> rfl
    · simp only [if_neg h1, if_neg h2]; cases o <;> rfl
theorem own_ci_lt {i j : Int} : own_ci i j < 0 ↔ i < j := by
  unfold own_ci
  by_cases h1 : i < j
  · simp [h1]
  · by_cases h2 : i = j <;> simp [h1, h2]
theorem own_ci_gt {i j : Int} : 0 < own_ci i j ↔ j < i := by
  unfold own_ci
  by_cases h1 : i < j
  · simp [h1]; omega
  · by_cases h2 : i = j
    · simp [h2]
    · simp [h1, h2]; omega
theorem own_ci_eq {i j : Int} : own_ci i j = 0 ↔ i = j := by
  unfold own_ci
  by_cases h1 : i < j
  · simp [h1]; omega
  · by_cases h2 : i = j <;> simp [h1, h2]
theorem Dy.cast {i j e f : Int} {a : UInt64} (h : Dy i e a) (hi : i = j) (he : e = f) : Dy j f a := by subst hi he; exact h
theorem own_zero (e : Int) : Dy 0 e (0 : UInt64) := ⟨false, 0, -1074, by decide +kernel, by
  show signed false (0 * _) = 0 * _
  rw [Nat.zero_mul, Int.zero_mul]; rfl⟩
end Jvm.OwnFp
namespace Jvm.OwnNum
theorem own_mulb {a b A B : Int} (a1 : -A ≤ a) (a2 : a ≤ A) (b1 : -B ≤ b) (b2 : b ≤ B) : -(A * B) ≤ a * b ∧ a * b ≤ A * B := by
  have hm : (a * b).natAbs ≤ A.toNat * B.toNat := by rw [Int.natAbs_mul]; exact Nat.mul_le_mul (by omega) (by omega)
  have hm2 : ((A.toNat * B.toNat : Nat) : Int) = A * B := by rw [Int.natCast_mul, Int.toNat_of_nonneg (by omega), Int.toNat_of_nonneg (by omega)]
  omega
theorem own_i2l (x : Int32) : x.toInt64.toInt = x.toInt := by simp
/-- a remainder by a positive literal -/
theorem own_rem {x k : Int32} {K : Int} (hk : k.toInt = K) (h : 0 < K) : -K < (x % k).toInt ∧ (x % k).toInt < K := by
  rw [Int32.toInt_mod, hk]
  have h1 := Int.tmod_lt_of_pos x.toInt h
  have h2 := Int.lt_tmod_of_pos x.toInt h
  omega
theorem own_and {x k : Int32} {K : Nat} (hk : k.toInt = K) (h0 : K < 2 ^ 31) : 0 ≤ (x &&& k).toInt ∧ (x &&& k).toInt ≤ K := by
  have e : k.toBitVec.toNat = K := by
    have := k.toBitVec.isLt
    have q : k.toInt = k.toBitVec.toInt := rfl
    rw [q, BitVec.toInt_eq_toNat_cond] at hk
    split at hk <;> omega
  have b : (x &&& k).toBitVec.toNat ≤ K := by
    show (x.toBitVec &&& k.toBitVec).toNat ≤ K
    rw [BitVec.toNat_and, e]; exact Nat.and_le_right
  have q : (x &&& k).toInt = (x &&& k).toBitVec.toInt := rfl
  rw [q, BitVec.toInt_eq_toNat_cond]
  split <;> omega
theorem own_add32 {a b : Int32} (h1 : -2147483648 ≤ a.toInt + b.toInt) (h2 : a.toInt + b.toInt < 2147483648) : (a + b).toInt = a.toInt + b.toInt := by
  rw [Int32.toInt_add]; exact Int.bmod_eq_of_le (by omega) (by omega)
theorem own_sub32 {a b : Int32} (h1 : -2147483648 ≤ a.toInt - b.toInt) (h2 : a.toInt - b.toInt < 2147483648) : (a - b).toInt = a.toInt - b.toInt := by
  rw [Int32.toInt_sub]; exact Int.bmod_eq_of_le (by omega) (by omega)
theorem own_mul32 {a b : Int32} (h1 : -2147483648 ≤ a.toInt * b.toInt) (h2 : a.toInt * b.toInt < 2147483648) : (a * b).toInt = a.toInt * b.toInt := by
  rw [Int32.toInt_mul]; exact Int.bmod_eq_of_le (by omega) (by omega)
theorem own_min (a b : Int32) : (if b < a then b else a).toInt = min a.toInt b.toInt := by
  split
  · rename_i h; rw [Int32.lt_iff_toInt_lt] at h; omega
  · rename_i h; rw [Int32.lt_iff_toInt_lt] at h; omega
theorem own_max (a b : Int32) : (if a < b then b else a).toInt = max a.toInt b.toInt := by
  split
  · rename_i h; rw [Int32.lt_iff_toInt_lt] at h; omega
  · rename_i h; rw [Int32.lt_iff_toInt_lt] at h; omega
theorem own_shl {e : Int32} (h0 : 0 ≤ e.toInt) (h1 : e.toInt < 11) : ∃ k : Nat, k ≤ 10 ∧ ((1 : Int32) <<< (e &&& 31)).toInt = 2 ^ k := by
  have hk : e.toInt = 0 ∨ e.toInt = 1 ∨ e.toInt = 2 ∨ e.toInt = 3 ∨ e.toInt = 4 ∨ e.toInt = 5 ∨ e.toInt = 6 ∨ e.toInt = 7 ∨ e.toInt = 8 ∨ e.toInt = 9 ∨ e.toInt = 10 := by omega
  rcases hk with h | h | h | h | h | h | h | h | h | h | h
  · exact ⟨0, by decide, by rw [Int32.toInt_inj.mp (h.trans (by decide : (0 : Int) = (0 : Int32).toInt))]; decide⟩
  · exact ⟨1, by decide, by rw [Int32.toInt_inj.mp (h.trans (by decide : (1 : Int) = (1 : Int32).toInt))]; decide⟩
  · exact ⟨2, by decide, by rw [Int32.toInt_inj.mp (h.trans (by decide : (2 : Int) = (2 : Int32).toInt))]; decide⟩
  · exact ⟨3, by decide, by rw [Int32.toInt_inj.mp (h.trans (by decide : (3 : Int) = (3 : Int32).toInt))]; decide⟩
  · exact ⟨4, by decide, by rw [Int32.toInt_inj.mp (h.trans (by decide : (4 : Int) = (4 : Int32).toInt))]; decide⟩
  · exact ⟨5, by decide, by rw [Int32.toInt_inj.mp (h.trans (by decide : (5 : Int) = (5 : Int32).toInt))]; decide⟩
  · exact ⟨6, by decide, by rw [Int32.toInt_inj.mp (h.trans (by decide : (6 : Int) = (6 : Int32).toInt))]; decide⟩
  · exact ⟨7, by decide, by rw [Int32.toInt_inj.mp (h.trans (by decide : (7 : Int) = (7 : Int32).toInt))]; decide⟩
  · exact ⟨8, by decide, by rw [Int32.toInt_inj.mp (h.trans (by decide : (8 : Int) = (8 : Int32).toInt))]; decide⟩
  · exact ⟨9, by decide, by rw [Int32.toInt_inj.mp (h.trans (by decide : (9 : Int) = (9 : Int32).toInt))]; decide⟩
  · exact ⟨10, by decide, by rw [Int32.toInt_inj.mp (h.trans (by decide : (10 : Int) = (10 : Int32).toInt))]; decide⟩
theorem own_and3 (x : Int32) : (x &&& (3 : Int32)) = (0 : Int32) ∨ (x &&& (3 : Int32)) = (1 : Int32) ∨ (x &&& (3 : Int32)) = (2 : Int32) ∨ (x &&& (3 : Int32)) = (3 : Int32) := by
  have h := own_and (x := x) (k := 3) (K := 3) (by decide) (by decide)
  have q : (x &&& (3 : Int32)).toInt = 0 ∨ (x &&& (3 : Int32)).toInt = 1 ∨ (x &&& (3 : Int32)).toInt = 2 ∨ (x &&& (3 : Int32)).toInt = 3 := by omega
  rcases q with q | q | q | q
  · exact Or.inl (Int32.toInt_inj.mp (q.trans (by decide : (0 : Int) = (0 : Int32).toInt)))
  · exact Or.inr (Or.inl (Int32.toInt_inj.mp (q.trans (by decide : (1 : Int) = (1 : Int32).toInt))))
  · exact Or.inr (Or.inr (Or.inl (Int32.toInt_inj.mp (q.trans (by decide : (2 : Int) = (2 : Int32).toInt)))))
  · exact Or.inr (Or.inr (Or.inr (Int32.toInt_inj.mp (q.trans (by decide : (3 : Int) = (3 : Int32).toInt)))))
theorem own_pow10 {e : Nat} (h : e ≤ 10) : (2 : Int) ^ e ≤ 1024 ∧ 1 ≤ (2 : Int) ^ e := by
  have : ∀ e, e ≤ 10 → (2 : Int) ^ e ≤ 1024 ∧ 1 ≤ (2 : Int) ^ e := by decide
  exact this e h
end Jvm.OwnNum
namespace Jvm.Pilot.@@N@@
open Jvm Jvm.ClassFile Sem Op Lib Jvm.Free Jvm.Stand Jvm.LawKit Jvm.RoadKit Bundle Jvm.OwnGo Jvm.OwnFp Jvm.Pilot.@@N@@.Jvm.D
open Jvm.OwnNum Jvm.FP Jvm.Free.Fl
theorem own_two : Dy 1 1 (4611686018427387904 : UInt64) := own_const false (2 ^ 52) (-51) (by decide +kernel) (by decide +kernel)
theorem d1_0 : decode prog_52_method_1_code 0 = .ok (.aload_n 0, 1) := by decide +kernel
theorem d1_1 : decode prog_52_method_1_code 1 = .ok (.invokespecial 1, 3) := by decide +kernel
theorem d1_4 : decode prog_52_method_1_code 4 = .ok (.return_, 1) := by decide +kernel
theorem pn_0 : plainName "com/example/bogong/bogong/stats/Tally" = true := by first | (simp [plainName, overriddenIn]; done) | decide +kernel
theorem ef_1 (m : MethodId) (x0 : Addr) : entryFrame m #[(.ref x0)] 1 = mkF m 0 #[.val (.ref x0)] [] := by first | (simp [entryFrame, mkF, argsToLocals, Value.category]; done) | rfl
def Q1 (Z : State) (a1 : Addr)  (h0 : Heap) (n0 : Nat) (v : Option Value) (h : Heap) (L : List Loc) : Prop := v = none ∧ Fr n0 L ∧ h = h0
set_option maxRecDepth 65536 in
set_option maxHeartbeats 40000000 in
theorem rm1 (l : Launch) (Z : State) (a0 : Array Value) (hw : ∀ d ∈ tables_1, d.before a0 Z = true) (ws : List Jvm.Cond) (a1 : Addr)  (h0 : Heap) (n0 : Nat) (Z0 : n0 ≤ h0.size)  :
    MetFree l (⟨"com/example/bogong/bogong/stats/Tally", "<init>", "()V"⟩ : MethodName) (head1 (Jvm.Cond.code (⟨"com/example/bogong/bogong/stats/Tally", "<init>", "()V"⟩ : MethodName) prog_52_method_1_code 1 none :: ws) ({ frames := 1, cells := 0, slots := 0, locals := 12 } : Room)) (fun a U => a = #[(.ref a1)] ∧ Z.Warmed39 U.vm ∧ U.heap = h0) (fun _ _ _ _ _ => True) (fun _ U o U' => ∃ v L, o = .returned v ∧ Q1 Z a1 h0 n0 v U'.heap L ∧ FrameEnd U o U' L ({ frames := 1, cells := 0, slots := 0, locals := 12 } : Room).cells ({ frames := 1, cells := 0, slots := 0, locals := 12 } : Room).slots) := by
  refine MetFree.of_bodySF (plainFor_of_name pn_0) hisR ?_
  intro p e s m args below meth c s₁ Bd hml0 hP hK
  obtain ⟨rfl, hZ, hh⟩ := hP
  have hx := Bd.exec
  have hby := Bd.bytes
  have hml : c.maxLocals = 1 := hml0
  have hown : s.vm.findClass "com/example/bogong/bogong/stats/Tally" = some m.cls := findClass_of_methodNamed Bd.named
  have hnm := (name_of_methodNamed Bd.named Bd.method).1
  have X : Stand p l e ({ frames := 1, cells := 0, slots := 0, locals := 12 } : Room) s m #[(.ref a1)] below meth c s₁ [] 0 0 := Stand.of_body Bd
  have eT : s₁.heap = h0 := by rw [← hh, Bd.state]; rfl
  have N := Fr.nil n0
  have K := Keep.refl h0 []
  refine Go.out ?_
  obtain ⟨T, eTT⟩ : ∃ z, z = s₁ := ⟨_, rfl⟩
  rw [← eTT] at X eT ⊢
  refine Go.by (fun tt_ kk_ => castTop (ef_1 m a1) kk_) ?_
  show Go p.tables e below (T.setTop (mkF m 0 #[.val (.ref a1)] [])) _
  refine Go.by (fun tt_ kk_ => XS.aloadN X.here hx rfl (hb hby d1_0) rfl rfl kk_) ?_
  show Go p.tables e below (T.setTop (mkF m 1 #[.val (.ref a1)] [(.ref a1)])) _
  obtain ⟨T, X, eT, st⟩ := initO X hx hZ hown (hw _ (List.mem_of_getElem? (i := 9) rfl)) (hw _ (List.mem_of_getElem? (i := 10) rfl)) (hw _ (List.mem_of_getElem? (i := 11) rfl)) eT (g := (mkF m 1 #[.val (.ref a1)] [(.ref a1)])) rfl (by rw [hml]; rfl) rfl (hb hby d1_1) (by decide) (W := 0) (by show 2 * 0 + _ ≤ _; exact Nat.le_of_eq rfl) (by decide)
  refine Go.by st ?_
  show Go p.tables e below (T.setTop (mkF m 4 #[.val (.ref a1)] [])) _
  exact Go.done X  (v := none) (fun _ => rfl) Bd.notSynchronized (fun fs hr => X.returnOut hx Bd.returns (hb hby d1_4) hr) (by rw [eT]; exact ⟨rfl, N, rfl⟩) (by decide) (by decide)
theorem d3_0 : decode prog_52_method_2_code 0 = .ok (.aload_n 0, 1) := by decide +kernel
theorem d3_1 : decode prog_52_method_2_code 1 = .ok (.dup, 1) := by decide +kernel
theorem d3_2 : decode prog_52_method_2_code 2 = .ok (.getfield 7, 3) := by decide +kernel
theorem d3_5 : decode prog_52_method_2_code 5 = .ok (.lconst 1, 1) := by decide +kernel
theorem d3_6 : decode prog_52_method_2_code 6 = .ok (.ladd, 1) := by decide +kernel
theorem d3_7 : decode prog_52_method_2_code 7 = .ok (.putfield 7, 3) := by decide +kernel
theorem d3_10 : decode prog_52_method_2_code 10 = .ok (.aload_n 0, 1) := by decide +kernel
theorem d3_11 : decode prog_52_method_2_code 11 = .ok (.dup, 1) := by decide +kernel
theorem d3_12 : decode prog_52_method_2_code 12 = .ok (.getfield 13, 3) := by decide +kernel
theorem d3_15 : decode prog_52_method_2_code 15 = .ok (.dload_n 1, 1) := by decide +kernel
theorem d3_16 : decode prog_52_method_2_code 16 = .ok (.dadd, 1) := by decide +kernel
theorem d3_17 : decode prog_52_method_2_code 17 = .ok (.putfield 13, 3) := by decide +kernel
theorem d3_20 : decode prog_52_method_2_code 20 = .ok (.dload_n 1, 1) := by decide +kernel
theorem d3_21 : decode prog_52_method_2_code 21 = .ok (.aload_n 0, 1) := by decide +kernel
theorem d3_22 : decode prog_52_method_2_code 22 = .ok (.getfield 17, 3) := by decide +kernel
theorem d3_25 : decode prog_52_method_2_code 25 = .ok (.dsub, 1) := by decide +kernel
theorem d3_26 : decode prog_52_method_2_code 26 = .ok (.dstore_n 3, 1) := by decide +kernel
theorem d3_27 : decode prog_52_method_2_code 27 = .ok (.aload_n 0, 1) := by decide +kernel
theorem d3_28 : decode prog_52_method_2_code 28 = .ok (.dup, 1) := by decide +kernel
theorem d3_29 : decode prog_52_method_2_code 29 = .ok (.getfield 17, 3) := by decide +kernel
theorem d3_32 : decode prog_52_method_2_code 32 = .ok (.dload_n 3, 1) := by decide +kernel
theorem d3_33 : decode prog_52_method_2_code 33 = .ok (.aload_n 0, 1) := by decide +kernel
theorem d3_34 : decode prog_52_method_2_code 34 = .ok (.getfield 7, 3) := by decide +kernel
theorem d3_37 : decode prog_52_method_2_code 37 = .ok (.l2d, 1) := by decide +kernel
theorem d3_38 : decode prog_52_method_2_code 38 = .ok (.ddiv, 1) := by decide +kernel
theorem d3_39 : decode prog_52_method_2_code 39 = .ok (.dadd, 1) := by decide +kernel
theorem d3_40 : decode prog_52_method_2_code 40 = .ok (.putfield 17, 3) := by decide +kernel
theorem d3_43 : decode prog_52_method_2_code 43 = .ok (.aload_n 0, 1) := by decide +kernel
theorem d3_44 : decode prog_52_method_2_code 44 = .ok (.dup, 1) := by decide +kernel
theorem d3_45 : decode prog_52_method_2_code 45 = .ok (.getfield 20, 3) := by decide +kernel
theorem d3_48 : decode prog_52_method_2_code 48 = .ok (.dload_n 3, 1) := by decide +kernel
theorem d3_49 : decode prog_52_method_2_code 49 = .ok (.dload_n 1, 1) := by decide +kernel
theorem d3_50 : decode prog_52_method_2_code 50 = .ok (.aload_n 0, 1) := by decide +kernel
theorem d3_51 : decode prog_52_method_2_code 51 = .ok (.getfield 17, 3) := by decide +kernel
theorem d3_54 : decode prog_52_method_2_code 54 = .ok (.dsub, 1) := by decide +kernel
theorem d3_55 : decode prog_52_method_2_code 55 = .ok (.dmul, 1) := by decide +kernel
theorem d3_56 : decode prog_52_method_2_code 56 = .ok (.dadd, 1) := by decide +kernel
theorem d3_57 : decode prog_52_method_2_code 57 = .ok (.putfield 20, 3) := by decide +kernel
theorem d3_60 : decode prog_52_method_2_code 60 = .ok (.return_, 1) := by decide +kernel
theorem ef_3 (m : MethodId) (x0 : Addr) (x1 : UInt64) : entryFrame m #[(.ref x0), (.double x1)] 5 = mkF m 0 #[.val (.ref x0), .val (.double x1), .second, .unset, .unset] [] := by first | (simp [entryFrame, mkF, argsToLocals, Value.category]; done) | rfl
def Q3 (Z : State) (a1 : Addr) (x1 : UInt64) (cn : Int64) (s0 : UInt64) (m0 : UInt64) (q0 : UInt64) (s1 : UInt64) (dv : UInt64) (qt : UInt64) (m1 : UInt64) (xm : UInt64) (pr : UInt64) (q1 : UInt64) (h0 : Heap) (n0 : Nat) (v : Option Value) (h : Heap) (L : List Loc) : Prop := v = none ∧ Fr n0 L ∧ Keep h0 h [a1] ∧ Exa Z h a1 "com/example/bogong/bogong/stats/Tally" ∧ Fld Z h a1 "com/example/bogong/bogong/stats/Tally" "count" "J" (.long (cn + (1 : Int64))) ∧ Fld Z h a1 "com/example/bogong/bogong/stats/Tally" "sum" "D" (.double s1) ∧ Fld Z h a1 "com/example/bogong/bogong/stats/Tally" "mean" "D" (.double m1) ∧ Fld Z h a1 "com/example/bogong/bogong/stats/Tally" "squaredDeviations" "D" (.double q1)
set_option maxRecDepth 65536 in
set_option maxHeartbeats 40000000 in
theorem rm3 (l : Launch) (Z : State) (a0 : Array Value) (hw : ∀ d ∈ tables_1, d.before a0 Z = true) (ws : List Jvm.Cond) (a1 : Addr) (x1 : UInt64) (cn : Int64) (s0 : UInt64) (m0 : UInt64) (q0 : UInt64) (s1 : UInt64) (dv : UInt64) (qt : UInt64) (m1 : UInt64) (xm : UInt64) (pr : UInt64) (q1 : UInt64) (h0 : Heap) (n0 : Nat) (Z0 : n0 ≤ h0.size) (E_a1 : Exa Z h0 a1 "com/example/bogong/bogong/stats/Tally") (g_a1 : n0 ≤ a1) (F_count_a1 : Fld Z h0 a1 "com/example/bogong/bogong/stats/Tally" "count" "J" (.long cn)) (F_sum_a1 : Fld Z h0 a1 "com/example/bogong/bogong/stats/Tally" "sum" "D" (.double s0)) (F_mean_a1 : Fld Z h0 a1 "com/example/bogong/bogong/stats/Tally" "mean" "D" (.double m0)) (F_squaredDeviations_a1 : Fld Z h0 a1 "com/example/bogong/bogong/stats/Tally" "squaredDeviations" "D" (.double q0)) (e_s1 : s1 = FP.dadd s0 x1) (n_s1 : NoNaN64 s1) (e_dv : dv = FP.dsub x1 m0) (n_dv : NoNaN64 dv) (e_qt : qt = FP.ddiv dv (FP.l2d (cn + (1 : Int64)))) (n_qt : NoNaN64 qt) (e_m1 : m1 = FP.dadd m0 qt) (n_m1 : NoNaN64 m1) (e_xm : xm = FP.dsub x1 m1) (n_xm : NoNaN64 xm) (e_pr : pr = FP.dmul dv xm) (n_pr : NoNaN64 pr) (e_q1 : q1 = FP.dadd q0 pr) (n_q1 : NoNaN64 q1) :
    MetFree l (⟨"com/example/bogong/bogong/stats/Tally", "add", "(D)V"⟩ : MethodName) (head1 (Jvm.Cond.code (⟨"com/example/bogong/bogong/stats/Tally", "add", "(D)V"⟩ : MethodName) prog_52_method_2_code 5 none :: ws) ({ frames := 0, cells := 0, slots := 0, locals := 0 } : Room)) (fun a U => a = #[(.ref a1), (.double x1)] ∧ Z.Warmed39 U.vm ∧ U.heap = h0) (fun _ _ _ _ _ => True) (fun _ U o U' => ∃ v L, o = .returned v ∧ Q3 Z a1 x1 cn s0 m0 q0 s1 dv qt m1 xm pr q1 h0 n0 v U'.heap L ∧ FrameEnd U o U' L ({ frames := 0, cells := 0, slots := 0, locals := 0 } : Room).cells ({ frames := 0, cells := 0, slots := 0, locals := 0 } : Room).slots) := by
  refine MetFree.of_bodySF (plainFor_of_name pn_0) hisR ?_
  intro p e s m args below meth c s₁ Bd hml0 hP hK
  obtain ⟨rfl, hZ, hh⟩ := hP
  have hx := Bd.exec
  have hby := Bd.bytes
  have hml : c.maxLocals = 5 := hml0
  have hown : s.vm.findClass "com/example/bogong/bogong/stats/Tally" = some m.cls := findClass_of_methodNamed Bd.named
  have hnm := (name_of_methodNamed Bd.named Bd.method).1
  have X : Stand p l e ({ frames := 0, cells := 0, slots := 0, locals := 0 } : Room) s m #[(.ref a1), (.double x1)] below meth c s₁ [] 0 0 := Stand.of_body Bd
  have eT : s₁.heap = h0 := by rw [← hh, Bd.state]; rfl
  have N := Fr.nil n0
  have K := Keep.refl h0 [a1]
  refine Go.out ?_
  obtain ⟨T, eTT⟩ : ∃ z, z = s₁ := ⟨_, rfl⟩
  rw [← eTT] at X eT ⊢
  refine Go.by (fun tt_ kk_ => castTop (ef_3 m a1 x1) kk_) ?_
  show Go p.tables e below (T.setTop (mkF m 0 #[.val (.ref a1), .val (.double x1), .second, .unset, .unset] [])) _
  refine Go.by (fun tt_ kk_ => XS.aloadN X.here hx rfl (hb hby d3_0) rfl rfl kk_) ?_
  show Go p.tables e below (T.setTop (mkF m 1 #[.val (.ref a1), .val (.double x1), .second, .unset, .unset] [(.ref a1)])) _
  refine Go.by (fun tt_ kk_ => XS.dup X.here hx rfl (hb hby d3_1) rfl rfl kk_) ?_
  show Go p.tables e below (T.setTop (mkF m 2 #[.val (.ref a1), .val (.double x1), .second, .unset, .unset] [(.ref a1), (.ref a1)])) _
  obtain ⟨T, X, eT, st⟩ := getF X hx hZ hown (host := "") (Or.inl (hw _ (List.mem_of_getElem? (i := 17) rfl))) Via.refl eT F_count_a1 (g := (mkF m 2 #[.val (.ref a1), .val (.double x1), .second, .unset, .unset] [(.ref a1), (.ref a1)])) rfl rfl (hb hby d3_2)
  refine Go.by st ?_
  show Go p.tables e below (T.setTop (mkF m 5 #[.val (.ref a1), .val (.double x1), .second, .unset, .unset] [(.long cn), (.ref a1)])) _
  refine Go.by (fun tt_ kk_ => XS.lconst X.here hx rfl (hb hby d3_5) kk_) ?_
  show Go p.tables e below (T.setTop (mkF m 6 #[.val (.ref a1), .val (.double x1), .second, .unset, .unset] [(.long (1 : Int64)), (.long cn), (.ref a1)])) _
  refine Go.by (fun tt_ kk_ => XS.ladd X.here hx rfl (hb hby d3_6) rfl kk_) ?_
  show Go p.tables e below (T.setTop (mkF m 7 #[.val (.ref a1), .val (.double x1), .second, .unset, .unset] [(.long (cn + (1 : Int64))), (.ref a1)])) _
  obtain ⟨T, h1, X, eT, Wh1, st⟩ := putF X hx hZ hown (host := "") (Or.inl (hw _ (List.mem_of_getElem? (i := 17) rfl))) Via.refl eT F_count_a1 E_a1 (Or.inl (hw _ (List.mem_of_getElem? (i := 18) rfl))) (hw _ (List.mem_of_getElem? (i := 4) rfl)) (ty := .long) (by decide) rfl rfl (g := (mkF m 7 #[.val (.ref a1), .val (.double x1), .second, .unset, .unset] [(.long (cn + (1 : Int64))), (.ref a1)])) rfl rfl (hb hby d3_7)
  have F_count_a1 := Fld.same Wh1 F_count_a1
  have E_a1 := Exa.wr Wh1 E_a1
  have F_sum_a1 := Fld.other Wh1 F_sum_a1 (Or.inr (slot_ne (Or.inl (hw _ (List.mem_of_getElem? (i := 20) rfl))) (Or.inl (hw _ (List.mem_of_getElem? (i := 18) rfl))) (by decide) (t := .double) (t' := .long) (by decide) (by decide)))
  have F_mean_a1 := Fld.other Wh1 F_mean_a1 (Or.inr (slot_ne (Or.inl (hw _ (List.mem_of_getElem? (i := 22) rfl))) (Or.inl (hw _ (List.mem_of_getElem? (i := 18) rfl))) (by decide) (t := .double) (t' := .long) (by decide) (by decide)))
  have F_squaredDeviations_a1 := Fld.other Wh1 F_squaredDeviations_a1 (Or.inr (slot_ne (Or.inl (hw _ (List.mem_of_getElem? (i := 24) rfl))) (Or.inl (hw _ (List.mem_of_getElem? (i := 18) rfl))) (by decide) (t := .double) (t' := .long) (by decide) (by decide)))
  have N := Fr.snoc X N g_a1
  have K := K.wr Wh1 (Or.inl (List.mem_of_getElem? (i := 0) rfl))
  refine Go.by st ?_
  show Go p.tables e below (T.setTop (mkF m 10 #[.val (.ref a1), .val (.double x1), .second, .unset, .unset] [])) _
  refine Go.by (fun tt_ kk_ => XS.aloadN X.here hx rfl (hb hby d3_10) rfl rfl kk_) ?_
  show Go p.tables e below (T.setTop (mkF m 11 #[.val (.ref a1), .val (.double x1), .second, .unset, .unset] [(.ref a1)])) _
  refine Go.by (fun tt_ kk_ => XS.dup X.here hx rfl (hb hby d3_11) rfl rfl kk_) ?_
  show Go p.tables e below (T.setTop (mkF m 12 #[.val (.ref a1), .val (.double x1), .second, .unset, .unset] [(.ref a1), (.ref a1)])) _
  obtain ⟨T, X, eT, st⟩ := getF X hx hZ hown (host := "") (Or.inl (hw _ (List.mem_of_getElem? (i := 19) rfl))) Via.refl eT F_sum_a1 (g := (mkF m 12 #[.val (.ref a1), .val (.double x1), .second, .unset, .unset] [(.ref a1), (.ref a1)])) rfl rfl (hb hby d3_12)
  refine Go.by st ?_
  show Go p.tables e below (T.setTop (mkF m 15 #[.val (.ref a1), .val (.double x1), .second, .unset, .unset] [(.double s0), (.ref a1)])) _
  refine Go.by (fun tt_ kk_ => XS.dloadN X.here hx rfl (hb hby d3_15) rfl kk_) ?_
  show Go p.tables e below (T.setTop (mkF m 16 #[.val (.ref a1), .val (.double x1), .second, .unset, .unset] [(.double x1), (.double s0), (.ref a1)])) _
  refine Go.by (fun tt_ kk_ => XS.daddS X.here hx rfl (hb hby d3_16) rfl (e_s1 ▸ n_s1) e_s1.symm kk_) ?_
  show Go p.tables e below (T.setTop (mkF m 17 #[.val (.ref a1), .val (.double x1), .second, .unset, .unset] [(.double s1), (.ref a1)])) _
  obtain ⟨T, h2, X, eT, Wh2, st⟩ := putF X hx hZ hown (host := "") (Or.inl (hw _ (List.mem_of_getElem? (i := 19) rfl))) Via.refl eT F_sum_a1 E_a1 (Or.inl (hw _ (List.mem_of_getElem? (i := 20) rfl))) (hw _ (List.mem_of_getElem? (i := 4) rfl)) (ty := .double) (by decide) rfl rfl (g := (mkF m 17 #[.val (.ref a1), .val (.double x1), .second, .unset, .unset] [(.double s1), (.ref a1)])) rfl rfl (hb hby d3_17)
  have F_sum_a1 := Fld.same Wh2 F_sum_a1
  have E_a1 := Exa.wr Wh2 E_a1
  have F_count_a1 := Fld.other Wh2 F_count_a1 (Or.inr (slot_ne (Or.inl (hw _ (List.mem_of_getElem? (i := 18) rfl))) (Or.inl (hw _ (List.mem_of_getElem? (i := 20) rfl))) (by decide) (t := .long) (t' := .double) (by decide) (by decide)))
  have F_mean_a1 := Fld.other Wh2 F_mean_a1 (Or.inr (slot_ne (Or.inl (hw _ (List.mem_of_getElem? (i := 22) rfl))) (Or.inl (hw _ (List.mem_of_getElem? (i := 20) rfl))) (by decide) (t := .double) (t' := .double) (by decide) (by decide)))
  have F_squaredDeviations_a1 := Fld.other Wh2 F_squaredDeviations_a1 (Or.inr (slot_ne (Or.inl (hw _ (List.mem_of_getElem? (i := 24) rfl))) (Or.inl (hw _ (List.mem_of_getElem? (i := 20) rfl))) (by decide) (t := .double) (t' := .double) (by decide) (by decide)))
  have N := Fr.snoc X N g_a1
  have K := K.wr Wh2 (Or.inl (List.mem_of_getElem? (i := 0) rfl))
  refine Go.by st ?_
  show Go p.tables e below (T.setTop (mkF m 20 #[.val (.ref a1), .val (.double x1), .second, .unset, .unset] [])) _
  refine Go.by (fun tt_ kk_ => XS.dloadN X.here hx rfl (hb hby d3_20) rfl kk_) ?_
  show Go p.tables e below (T.setTop (mkF m 21 #[.val (.ref a1), .val (.double x1), .second, .unset, .unset] [(.double x1)])) _
  refine Go.by (fun tt_ kk_ => XS.aloadN X.here hx rfl (hb hby d3_21) rfl rfl kk_) ?_
  show Go p.tables e below (T.setTop (mkF m 22 #[.val (.ref a1), .val (.double x1), .second, .unset, .unset] [(.ref a1), (.double x1)])) _
  obtain ⟨T, X, eT, st⟩ := getF X hx hZ hown (host := "") (Or.inl (hw _ (List.mem_of_getElem? (i := 21) rfl))) Via.refl eT F_mean_a1 (g := (mkF m 22 #[.val (.ref a1), .val (.double x1), .second, .unset, .unset] [(.ref a1), (.double x1)])) rfl rfl (hb hby d3_22)
  refine Go.by st ?_
  show Go p.tables e below (T.setTop (mkF m 25 #[.val (.ref a1), .val (.double x1), .second, .unset, .unset] [(.double m0), (.double x1)])) _
  refine Go.by (fun tt_ kk_ => XS.dsubS X.here hx rfl (hb hby d3_25) rfl (e_dv ▸ n_dv) e_dv.symm kk_) ?_
  show Go p.tables e below (T.setTop (mkF m 26 #[.val (.ref a1), .val (.double x1), .second, .unset, .unset] [(.double dv)])) _
  refine Go.by (fun tt_ kk_ => XS.dstoreN X.here hx rfl (hb hby d3_26) rfl (l' := #[.val (.ref a1), .val (.double x1), .second, .val (.double dv), .second]) rfl kk_) ?_
  show Go p.tables e below (T.setTop (mkF m 27 #[.val (.ref a1), .val (.double x1), .second, .val (.double dv), .second] [])) _
  refine Go.by (fun tt_ kk_ => XS.aloadN X.here hx rfl (hb hby d3_27) rfl rfl kk_) ?_
  show Go p.tables e below (T.setTop (mkF m 28 #[.val (.ref a1), .val (.double x1), .second, .val (.double dv), .second] [(.ref a1)])) _
  refine Go.by (fun tt_ kk_ => XS.dup X.here hx rfl (hb hby d3_28) rfl rfl kk_) ?_
  show Go p.tables e below (T.setTop (mkF m 29 #[.val (.ref a1), .val (.double x1), .second, .val (.double dv), .second] [(.ref a1), (.ref a1)])) _
  obtain ⟨T, X, eT, st⟩ := getF X hx hZ hown (host := "") (Or.inl (hw _ (List.mem_of_getElem? (i := 21) rfl))) Via.refl eT F_mean_a1 (g := (mkF m 29 #[.val (.ref a1), .val (.double x1), .second, .val (.double dv), .second] [(.ref a1), (.ref a1)])) rfl rfl (hb hby d3_29)
  refine Go.by st ?_
  show Go p.tables e below (T.setTop (mkF m 32 #[.val (.ref a1), .val (.double x1), .second, .val (.double dv), .second] [(.double m0), (.ref a1)])) _
  refine Go.by (fun tt_ kk_ => XS.dloadN X.here hx rfl (hb hby d3_32) rfl kk_) ?_
  show Go p.tables e below (T.setTop (mkF m 33 #[.val (.ref a1), .val (.double x1), .second, .val (.double dv), .second] [(.double dv), (.double m0), (.ref a1)])) _
  refine Go.by (fun tt_ kk_ => XS.aloadN X.here hx rfl (hb hby d3_33) rfl rfl kk_) ?_
  show Go p.tables e below (T.setTop (mkF m 34 #[.val (.ref a1), .val (.double x1), .second, .val (.double dv), .second] [(.ref a1), (.double dv), (.double m0), (.ref a1)])) _
  obtain ⟨T, X, eT, st⟩ := getF X hx hZ hown (host := "") (Or.inl (hw _ (List.mem_of_getElem? (i := 17) rfl))) Via.refl eT F_count_a1 (g := (mkF m 34 #[.val (.ref a1), .val (.double x1), .second, .val (.double dv), .second] [(.ref a1), (.double dv), (.double m0), (.ref a1)])) rfl rfl (hb hby d3_34)
  refine Go.by st ?_
  show Go p.tables e below (T.setTop (mkF m 37 #[.val (.ref a1), .val (.double x1), .second, .val (.double dv), .second] [(.long (cn + (1 : Int64))), (.double dv), (.double m0), (.ref a1)])) _
  refine Go.by (fun tt_ kk_ => XS.l2dS X.here hx rfl (hb hby d3_37) rfl rfl kk_) ?_
  show Go p.tables e below (T.setTop (mkF m 38 #[.val (.ref a1), .val (.double x1), .second, .val (.double dv), .second] [(.double (FP.l2d (cn + (1 : Int64)))), (.double dv), (.double m0), (.ref a1)])) _
  refine Go.by (fun tt_ kk_ => XS.ddivS X.here hx rfl (hb hby d3_38) rfl (e_qt ▸ n_qt) e_qt.symm kk_) ?_
  show Go p.tables e below (T.setTop (mkF m 39 #[.val (.ref a1), .val (.double x1), .second, .val (.double dv), .second] [(.double qt), (.double m0), (.ref a1)])) _
  refine Go.by (fun tt_ kk_ => XS.daddS X.here hx rfl (hb hby d3_39) rfl (e_m1 ▸ n_m1) e_m1.symm kk_) ?_
  show Go p.tables e below (T.setTop (mkF m 40 #[.val (.ref a1), .val (.double x1), .second, .val (.double dv), .second] [(.double m1), (.ref a1)])) _
  obtain ⟨T, h3, X, eT, Wh3, st⟩ := putF X hx hZ hown (host := "") (Or.inl (hw _ (List.mem_of_getElem? (i := 21) rfl))) Via.refl eT F_mean_a1 E_a1 (Or.inl (hw _ (List.mem_of_getElem? (i := 22) rfl))) (hw _ (List.mem_of_getElem? (i := 4) rfl)) (ty := .double) (by decide) rfl rfl (g := (mkF m 40 #[.val (.ref a1), .val (.double x1), .second, .val (.double dv), .second] [(.double m1), (.ref a1)])) rfl rfl (hb hby d3_40)
  have F_mean_a1 := Fld.same Wh3 F_mean_a1
  have E_a1 := Exa.wr Wh3 E_a1
  have F_count_a1 := Fld.other Wh3 F_count_a1 (Or.inr (slot_ne (Or.inl (hw _ (List.mem_of_getElem? (i := 18) rfl))) (Or.inl (hw _ (List.mem_of_getElem? (i := 22) rfl))) (by decide) (t := .long) (t' := .double) (by decide) (by decide)))
  have F_sum_a1 := Fld.other Wh3 F_sum_a1 (Or.inr (slot_ne (Or.inl (hw _ (List.mem_of_getElem? (i := 20) rfl))) (Or.inl (hw _ (List.mem_of_getElem? (i := 22) rfl))) (by decide) (t := .double) (t' := .double) (by decide) (by decide)))
  have F_squaredDeviations_a1 := Fld.other Wh3 F_squaredDeviations_a1 (Or.inr (slot_ne (Or.inl (hw _ (List.mem_of_getElem? (i := 24) rfl))) (Or.inl (hw _ (List.mem_of_getElem? (i := 22) rfl))) (by decide) (t := .double) (t' := .double) (by decide) (by decide)))
  have N := Fr.snoc X N g_a1
  have K := K.wr Wh3 (Or.inl (List.mem_of_getElem? (i := 0) rfl))
  refine Go.by st ?_
  show Go p.tables e below (T.setTop (mkF m 43 #[.val (.ref a1), .val (.double x1), .second, .val (.double dv), .second] [])) _
  refine Go.by (fun tt_ kk_ => XS.aloadN X.here hx rfl (hb hby d3_43) rfl rfl kk_) ?_
  show Go p.tables e below (T.setTop (mkF m 44 #[.val (.ref a1), .val (.double x1), .second, .val (.double dv), .second] [(.ref a1)])) _
  refine Go.by (fun tt_ kk_ => XS.dup X.here hx rfl (hb hby d3_44) rfl rfl kk_) ?_
  show Go p.tables e below (T.setTop (mkF m 45 #[.val (.ref a1), .val (.double x1), .second, .val (.double dv), .second] [(.ref a1), (.ref a1)])) _
  obtain ⟨T, X, eT, st⟩ := getF X hx hZ hown (host := "") (Or.inl (hw _ (List.mem_of_getElem? (i := 23) rfl))) Via.refl eT F_squaredDeviations_a1 (g := (mkF m 45 #[.val (.ref a1), .val (.double x1), .second, .val (.double dv), .second] [(.ref a1), (.ref a1)])) rfl rfl (hb hby d3_45)
  refine Go.by st ?_
  show Go p.tables e below (T.setTop (mkF m 48 #[.val (.ref a1), .val (.double x1), .second, .val (.double dv), .second] [(.double q0), (.ref a1)])) _
  refine Go.by (fun tt_ kk_ => XS.dloadN X.here hx rfl (hb hby d3_48) rfl kk_) ?_
  show Go p.tables e below (T.setTop (mkF m 49 #[.val (.ref a1), .val (.double x1), .second, .val (.double dv), .second] [(.double dv), (.double q0), (.ref a1)])) _
  refine Go.by (fun tt_ kk_ => XS.dloadN X.here hx rfl (hb hby d3_49) rfl kk_) ?_
  show Go p.tables e below (T.setTop (mkF m 50 #[.val (.ref a1), .val (.double x1), .second, .val (.double dv), .second] [(.double x1), (.double dv), (.double q0), (.ref a1)])) _
  refine Go.by (fun tt_ kk_ => XS.aloadN X.here hx rfl (hb hby d3_50) rfl rfl kk_) ?_
  show Go p.tables e below (T.setTop (mkF m 51 #[.val (.ref a1), .val (.double x1), .second, .val (.double dv), .second] [(.ref a1), (.double x1), (.double dv), (.double q0), (.ref a1)])) _
  obtain ⟨T, X, eT, st⟩ := getF X hx hZ hown (host := "") (Or.inl (hw _ (List.mem_of_getElem? (i := 21) rfl))) Via.refl eT F_mean_a1 (g := (mkF m 51 #[.val (.ref a1), .val (.double x1), .second, .val (.double dv), .second] [(.ref a1), (.double x1), (.double dv), (.double q0), (.ref a1)])) rfl rfl (hb hby d3_51)
  refine Go.by st ?_
  show Go p.tables e below (T.setTop (mkF m 54 #[.val (.ref a1), .val (.double x1), .second, .val (.double dv), .second] [(.double m1), (.double x1), (.double dv), (.double q0), (.ref a1)])) _
  refine Go.by (fun tt_ kk_ => XS.dsubS X.here hx rfl (hb hby d3_54) rfl (e_xm ▸ n_xm) e_xm.symm kk_) ?_
  show Go p.tables e below (T.setTop (mkF m 55 #[.val (.ref a1), .val (.double x1), .second, .val (.double dv), .second] [(.double xm), (.double dv), (.double q0), (.ref a1)])) _
  refine Go.by (fun tt_ kk_ => XS.dmulS X.here hx rfl (hb hby d3_55) rfl (e_pr ▸ n_pr) e_pr.symm kk_) ?_
  show Go p.tables e below (T.setTop (mkF m 56 #[.val (.ref a1), .val (.double x1), .second, .val (.double dv), .second] [(.double pr), (.double q0), (.ref a1)])) _
  refine Go.by (fun tt_ kk_ => XS.daddS X.here hx rfl (hb hby d3_56) rfl (e_q1 ▸ n_q1) e_q1.symm kk_) ?_
  show Go p.tables e below (T.setTop (mkF m 57 #[.val (.ref a1), .val (.double x1), .second, .val (.double dv), .second] [(.double q1), (.ref a1)])) _
  obtain ⟨T, h4, X, eT, Wh4, st⟩ := putF X hx hZ hown (host := "") (Or.inl (hw _ (List.mem_of_getElem? (i := 23) rfl))) Via.refl eT F_squaredDeviations_a1 E_a1 (Or.inl (hw _ (List.mem_of_getElem? (i := 24) rfl))) (hw _ (List.mem_of_getElem? (i := 4) rfl)) (ty := .double) (by decide) rfl rfl (g := (mkF m 57 #[.val (.ref a1), .val (.double x1), .second, .val (.double dv), .second] [(.double q1), (.ref a1)])) rfl rfl (hb hby d3_57)
  have F_squaredDeviations_a1 := Fld.same Wh4 F_squaredDeviations_a1
  have E_a1 := Exa.wr Wh4 E_a1
  have F_count_a1 := Fld.other Wh4 F_count_a1 (Or.inr (slot_ne (Or.inl (hw _ (List.mem_of_getElem? (i := 18) rfl))) (Or.inl (hw _ (List.mem_of_getElem? (i := 24) rfl))) (by decide) (t := .long) (t' := .double) (by decide) (by decide)))
  have F_sum_a1 := Fld.other Wh4 F_sum_a1 (Or.inr (slot_ne (Or.inl (hw _ (List.mem_of_getElem? (i := 20) rfl))) (Or.inl (hw _ (List.mem_of_getElem? (i := 24) rfl))) (by decide) (t := .double) (t' := .double) (by decide) (by decide)))
  have F_mean_a1 := Fld.other Wh4 F_mean_a1 (Or.inr (slot_ne (Or.inl (hw _ (List.mem_of_getElem? (i := 22) rfl))) (Or.inl (hw _ (List.mem_of_getElem? (i := 24) rfl))) (by decide) (t := .double) (t' := .double) (by decide) (by decide)))
  have N := Fr.snoc X N g_a1
  have K := K.wr Wh4 (Or.inl (List.mem_of_getElem? (i := 0) rfl))
  refine Go.by st ?_
  show Go p.tables e below (T.setTop (mkF m 60 #[.val (.ref a1), .val (.double x1), .second, .val (.double dv), .second] [])) _
  exact Go.done X  (v := none) (fun _ => rfl) Bd.notSynchronized (fun fs hr => X.returnOut hx Bd.returns (hb hby d3_60) hr) (by rw [eT]; exact ⟨rfl, N, K, E_a1, F_count_a1, F_sum_a1, F_mean_a1, F_squaredDeviations_a1⟩) (by decide) (by decide)
theorem d6_0 : decode jdk_30_method_1_code 0 = .ok (.aload_n 0, 1) := by decide +kernel
theorem d6_1 : decode jdk_30_method_1_code 1 = .ok (.invokespecial 1, 3) := by decide +kernel
theorem d6_4 : decode jdk_30_method_1_code 4 = .ok (.return_, 1) := by decide +kernel
theorem pn_1 : plainName "java/lang/Record" = true := by first | (simp [plainName, overriddenIn]; done) | decide +kernel
theorem ef_6 (m : MethodId) (x0 : Addr) : entryFrame m #[(.ref x0)] 1 = mkF m 0 #[.val (.ref x0)] [] := by first | (simp [entryFrame, mkF, argsToLocals, Value.category]; done) | rfl
def Q6 (Z : State) (a1 : Addr)  (h0 : Heap) (n0 : Nat) (v : Option Value) (h : Heap) (L : List Loc) : Prop := v = none ∧ Fr n0 L ∧ h = h0
set_option maxRecDepth 65536 in
set_option maxHeartbeats 40000000 in
theorem rm6 (l : Launch) (Z : State) (a0 : Array Value) (hw : ∀ d ∈ tables_1, d.before a0 Z = true) (ws : List Jvm.Cond) (a1 : Addr)  (h0 : Heap) (n0 : Nat) (Z0 : n0 ≤ h0.size)  :
    MetFree l (⟨"java/lang/Record", "<init>", "()V"⟩ : MethodName) (head1 (Jvm.Cond.code (⟨"java/lang/Record", "<init>", "()V"⟩ : MethodName) jdk_30_method_1_code 1 none :: ws) ({ frames := 1, cells := 0, slots := 0, locals := 12 } : Room)) (fun a U => a = #[(.ref a1)] ∧ Z.Warmed39 U.vm ∧ U.heap = h0) (fun _ _ _ _ _ => True) (fun _ U o U' => ∃ v L, o = .returned v ∧ Q6 Z a1 h0 n0 v U'.heap L ∧ FrameEnd U o U' L ({ frames := 1, cells := 0, slots := 0, locals := 12 } : Room).cells ({ frames := 1, cells := 0, slots := 0, locals := 12 } : Room).slots) := by
  refine MetFree.of_bodySF (plainFor_of_name pn_1) hisR ?_
  intro p e s m args below meth c s₁ Bd hml0 hP hK
  obtain ⟨rfl, hZ, hh⟩ := hP
  have hx := Bd.exec
  have hby := Bd.bytes
  have hml : c.maxLocals = 1 := hml0
  have hown : s.vm.findClass "java/lang/Record" = some m.cls := findClass_of_methodNamed Bd.named
  have hnm := (name_of_methodNamed Bd.named Bd.method).1
  have X : Stand p l e ({ frames := 1, cells := 0, slots := 0, locals := 12 } : Room) s m #[(.ref a1)] below meth c s₁ [] 0 0 := Stand.of_body Bd
  have eT : s₁.heap = h0 := by rw [← hh, Bd.state]; rfl
  have N := Fr.nil n0
  have K := Keep.refl h0 []
  refine Go.out ?_
  obtain ⟨T, eTT⟩ : ∃ z, z = s₁ := ⟨_, rfl⟩
  rw [← eTT] at X eT ⊢
  refine Go.by (fun tt_ kk_ => castTop (ef_6 m a1) kk_) ?_
  show Go p.tables e below (T.setTop (mkF m 0 #[.val (.ref a1)] [])) _
  refine Go.by (fun tt_ kk_ => XS.aloadN X.here hx rfl (hb hby d6_0) rfl rfl kk_) ?_
  show Go p.tables e below (T.setTop (mkF m 1 #[.val (.ref a1)] [(.ref a1)])) _
  obtain ⟨T, X, eT, st⟩ := initO X hx hZ hown (hw _ (List.mem_of_getElem? (i := 41) rfl)) (hw _ (List.mem_of_getElem? (i := 10) rfl)) (hw _ (List.mem_of_getElem? (i := 11) rfl)) eT (g := (mkF m 1 #[.val (.ref a1)] [(.ref a1)])) rfl (by rw [hml]; rfl) rfl (hb hby d6_1) (by decide) (W := 0) (by show 2 * 0 + _ ≤ _; exact Nat.le_of_eq rfl) (by decide)
  refine Go.by st ?_
  show Go p.tables e below (T.setTop (mkF m 4 #[.val (.ref a1)] [])) _
  exact Go.done X  (v := none) (fun _ => rfl) Bd.notSynchronized (fun fs hr => X.returnOut hx Bd.returns (hb hby d6_4) hr) (by rw [eT]; exact ⟨rfl, N, rfl⟩) (by decide) (by decide)
theorem d5_0 : decode prog_49_method_1_code 0 = .ok (.aload_n 0, 1) := by decide +kernel
theorem d5_1 : decode prog_49_method_1_code 1 = .ok (.invokespecial 1, 3) := by decide +kernel
theorem d5_4 : decode prog_49_method_1_code 4 = .ok (.aload_n 0, 1) := by decide +kernel
theorem d5_5 : decode prog_49_method_1_code 5 = .ok (.lload_n 1, 1) := by decide +kernel
theorem d5_6 : decode prog_49_method_1_code 6 = .ok (.putfield 7, 3) := by decide +kernel
theorem d5_9 : decode prog_49_method_1_code 9 = .ok (.aload_n 0, 1) := by decide +kernel
theorem d5_10 : decode prog_49_method_1_code 10 = .ok (.dload_n 3, 1) := by decide +kernel
theorem d5_11 : decode prog_49_method_1_code 11 = .ok (.putfield 13, 3) := by decide +kernel
theorem d5_14 : decode prog_49_method_1_code 14 = .ok (.aload_n 0, 1) := by decide +kernel
theorem d5_15 : decode prog_49_method_1_code 15 = .ok (.dload 5, 2) := by decide +kernel
theorem d5_17 : decode prog_49_method_1_code 17 = .ok (.putfield 17, 3) := by decide +kernel
theorem d5_20 : decode prog_49_method_1_code 20 = .ok (.return_, 1) := by decide +kernel
theorem pn_2 : plainName "com/example/bogong/bogong/stats/Sample" = true := by first | (simp [plainName, overriddenIn]; done) | decide +kernel
theorem pd_0 : parseMethodDescriptor "()V" = some ⟨[], none⟩ := by decide +kernel
theorem ef_5 (m : MethodId) (x0 : Addr) (x1 : Int64) (x2 : UInt64) (x3 : UInt64) : entryFrame m #[(.ref x0), (.long x1), (.double x2), (.double x3)] 7 = mkF m 0 #[.val (.ref x0), .val (.long x1), .second, .val (.double x2), .second, .val (.double x3), .second] [] := by first | (simp [entryFrame, mkF, argsToLocals, Value.category]; done) | rfl
def Q5 (Z : State) (a1 : Addr) (q1 : Int64) (x2 : UInt64) (x3 : UInt64)  (h0 : Heap) (n0 : Nat) (v : Option Value) (h : Heap) (L : List Loc) : Prop := v = none ∧ Fr n0 L ∧ Keep h0 h [a1] ∧ Exa Z h a1 "com/example/bogong/bogong/stats/Sample" ∧ Fld Z h a1 "com/example/bogong/bogong/stats/Sample" "count" "J" (.long q1) ∧ Fld Z h a1 "com/example/bogong/bogong/stats/Sample" "sum" "D" (.double x2) ∧ Fld Z h a1 "com/example/bogong/bogong/stats/Sample" "squaredDeviations" "D" (.double x3)
set_option maxRecDepth 65536 in
set_option maxHeartbeats 40000000 in
theorem rm5 (l : Launch) (Z : State) (a0 : Array Value) (hw : ∀ d ∈ tables_1, d.before a0 Z = true) (ws : List Jvm.Cond) (a1 : Addr) (q1 : Int64) (x2 : UInt64) (x3 : UInt64)  (h0 : Heap) (n0 : Nat) (Z0 : n0 ≤ h0.size) (E_a1 : Exa Z h0 a1 "com/example/bogong/bogong/stats/Sample") (g_a1 : n0 ≤ a1) (F_count_a1 : Fld Z h0 a1 "com/example/bogong/bogong/stats/Sample" "count" "J" (.long (0 : Int64))) (F_sum_a1 : Fld Z h0 a1 "com/example/bogong/bogong/stats/Sample" "sum" "D" (.double (0 : UInt64))) (F_squaredDeviations_a1 : Fld Z h0 a1 "com/example/bogong/bogong/stats/Sample" "squaredDeviations" "D" (.double (0 : UInt64))) :
    MetFree l (⟨"com/example/bogong/bogong/stats/Sample", "<init>", "(JDD)V"⟩ : MethodName) (head1 (Jvm.Cond.code (⟨"com/example/bogong/bogong/stats/Sample", "<init>", "(JDD)V"⟩ : MethodName) prog_49_method_1_code 7 none :: ws) ({ frames := 2, cells := 0, slots := 0, locals := 24 } : Room)) (fun a U => a = #[(.ref a1), (.long q1), (.double x2), (.double x3)] ∧ Z.Warmed39 U.vm ∧ U.heap = h0) (fun _ _ _ _ _ => True) (fun _ U o U' => ∃ v L, o = .returned v ∧ Q5 Z a1 q1 x2 x3 h0 n0 v U'.heap L ∧ FrameEnd U o U' L ({ frames := 2, cells := 0, slots := 0, locals := 24 } : Room).cells ({ frames := 2, cells := 0, slots := 0, locals := 24 } : Room).slots) := by
  refine MetFree.of_bodySF (plainFor_of_name pn_2) hisR ?_
  intro p e s m args below meth c s₁ Bd hml0 hP hK
  obtain ⟨rfl, hZ, hh⟩ := hP
  have hx := Bd.exec
  have hby := Bd.bytes
  have hml : c.maxLocals = 7 := hml0
  have hown : s.vm.findClass "com/example/bogong/bogong/stats/Sample" = some m.cls := findClass_of_methodNamed Bd.named
  have hnm := (name_of_methodNamed Bd.named Bd.method).1
  have X : Stand p l e ({ frames := 2, cells := 0, slots := 0, locals := 24 } : Room) s m #[(.ref a1), (.long q1), (.double x2), (.double x3)] below meth c s₁ [] 0 0 := Stand.of_body Bd
  have eT : s₁.heap = h0 := by rw [← hh, Bd.state]; rfl
  have N := Fr.nil n0
  have K := Keep.refl h0 [a1]
  refine Go.out ?_
  obtain ⟨T, eTT⟩ : ∃ z, z = s₁ := ⟨_, rfl⟩
  rw [← eTT] at X eT ⊢
  refine Go.by (fun tt_ kk_ => castTop (ef_5 m a1 q1 x2 x3) kk_) ?_
  show Go p.tables e below (T.setTop (mkF m 0 #[.val (.ref a1), .val (.long q1), .second, .val (.double x2), .second, .val (.double x3), .second] [])) _
  refine Go.by (fun tt_ kk_ => XS.aloadN X.here hx rfl (hb hby d5_0) rfl rfl kk_) ?_
  show Go p.tables e below (T.setTop (mkF m 1 #[.val (.ref a1), .val (.long q1), .second, .val (.double x2), .second, .val (.double x3), .second] [(.ref a1)])) _
  obtain ⟨_, _, ⟨T, L_, k_, n_⟩, -, X, ⟨Lc_, hQ, l_, y_, z_⟩, st⟩ := X.specialBack hx (y := (⟨"java/lang/Record", "<init>", "()V"⟩ : MethodName)) rfl hown (mvT hZ (hw _ (List.mem_of_getElem? (i := 36) rfl))) (mvT hZ (hw _ (List.mem_of_getElem? (i := 37) rfl))) (mvT hZ (hw _ (List.mem_of_getElem? (i := 40) rfl))) (by decide) (backOf (W := 0) (rm6 l Z a0 hw [] a1 h0 n0 (Nat.le_trans Z0 K.1) ) hZ (hw _ (List.mem_of_getElem? (i := 40) rfl)) (hw _ (List.mem_of_getElem? (i := 39) rfl)) (by decide) (by decide)) (g := (mkF m 1 #[.val (.ref a1), .val (.long q1), .second, .val (.double x2), .second, .val (.double x3), .second] [(.ref a1)])) rfl (by rw [hml]; rfl) (Steps.refl _) (a := a1) (argsL := []) (rest := []) (lenOf pd_0 rfl) rfl (by show 2 * 0 + _ ≤ _; exact Nat.le_of_eq rfl) (hb hby d5_1) (fun _ _ => ⟨rfl, eT, (by decide : 0 + 0 ≤ _), (by decide : 0 + 0 ≤ _)⟩)
  dsimp only [Pt.U, Pt.locs, Pt.cells, Pt.slots] at X l_ y_ z_ st hQ
  subst l_ y_ z_
  obtain ⟨rfl, Nq, eh⟩ := hQ
  have N := Fr.app N Nq
  have eT := eh
  refine Go.tr st ?_
  show Go p.tables e below (T.setTop (mkF m 4 #[.val (.ref a1), .val (.long q1), .second, .val (.double x2), .second, .val (.double x3), .second] [])) _
  refine Go.by (fun tt_ kk_ => XS.aloadN X.here hx rfl (hb hby d5_4) rfl rfl kk_) ?_
  show Go p.tables e below (T.setTop (mkF m 5 #[.val (.ref a1), .val (.long q1), .second, .val (.double x2), .second, .val (.double x3), .second] [(.ref a1)])) _
  refine Go.by (fun tt_ kk_ => XS.lloadN X.here hx rfl (hb hby d5_5) rfl kk_) ?_
  show Go p.tables e below (T.setTop (mkF m 6 #[.val (.ref a1), .val (.long q1), .second, .val (.double x2), .second, .val (.double x3), .second] [(.long q1), (.ref a1)])) _
  obtain ⟨T, h2, X, eT, Wh2, st⟩ := putF X hx hZ hown (host := "") (Or.inl (hw _ (List.mem_of_getElem? (i := 42) rfl))) Via.refl eT F_count_a1 E_a1 (Or.inr ⟨(hw _ (List.mem_of_getElem? (i := 43) rfl)), rfl, hnm⟩) (hw _ (List.mem_of_getElem? (i := 31) rfl)) (ty := .long) (by decide) rfl rfl (g := (mkF m 6 #[.val (.ref a1), .val (.long q1), .second, .val (.double x2), .second, .val (.double x3), .second] [(.long q1), (.ref a1)])) rfl rfl (hb hby d5_6)
  have F_count_a1 := Fld.same Wh2 F_count_a1
  have E_a1 := Exa.wr Wh2 E_a1
  have F_sum_a1 := Fld.other Wh2 F_sum_a1 (Or.inr (slot_ne (Or.inr (hw _ (List.mem_of_getElem? (i := 45) rfl))) (Or.inr (hw _ (List.mem_of_getElem? (i := 43) rfl))) (by decide) (t := .double) (t' := .long) (by decide) (by decide)))
  have F_squaredDeviations_a1 := Fld.other Wh2 F_squaredDeviations_a1 (Or.inr (slot_ne (Or.inr (hw _ (List.mem_of_getElem? (i := 47) rfl))) (Or.inr (hw _ (List.mem_of_getElem? (i := 43) rfl))) (by decide) (t := .double) (t' := .long) (by decide) (by decide)))
  have N := Fr.snoc X N g_a1
  have K := K.wr Wh2 (Or.inl (List.mem_of_getElem? (i := 0) rfl))
  refine Go.by st ?_
  show Go p.tables e below (T.setTop (mkF m 9 #[.val (.ref a1), .val (.long q1), .second, .val (.double x2), .second, .val (.double x3), .second] [])) _
  refine Go.by (fun tt_ kk_ => XS.aloadN X.here hx rfl (hb hby d5_9) rfl rfl kk_) ?_
  show Go p.tables e below (T.setTop (mkF m 10 #[.val (.ref a1), .val (.long q1), .second, .val (.double x2), .second, .val (.double x3), .second] [(.ref a1)])) _
  refine Go.by (fun tt_ kk_ => XS.dloadN X.here hx rfl (hb hby d5_10) rfl kk_) ?_
  show Go p.tables e below (T.setTop (mkF m 11 #[.val (.ref a1), .val (.long q1), .second, .val (.double x2), .second, .val (.double x3), .second] [(.double x2), (.ref a1)])) _
  obtain ⟨T, h3, X, eT, Wh3, st⟩ := putF X hx hZ hown (host := "") (Or.inl (hw _ (List.mem_of_getElem? (i := 44) rfl))) Via.refl eT F_sum_a1 E_a1 (Or.inr ⟨(hw _ (List.mem_of_getElem? (i := 45) rfl)), rfl, hnm⟩) (hw _ (List.mem_of_getElem? (i := 31) rfl)) (ty := .double) (by decide) rfl rfl (g := (mkF m 11 #[.val (.ref a1), .val (.long q1), .second, .val (.double x2), .second, .val (.double x3), .second] [(.double x2), (.ref a1)])) rfl rfl (hb hby d5_11)
  have F_sum_a1 := Fld.same Wh3 F_sum_a1
  have E_a1 := Exa.wr Wh3 E_a1
  have F_count_a1 := Fld.other Wh3 F_count_a1 (Or.inr (slot_ne (Or.inr (hw _ (List.mem_of_getElem? (i := 43) rfl))) (Or.inr (hw _ (List.mem_of_getElem? (i := 45) rfl))) (by decide) (t := .long) (t' := .double) (by decide) (by decide)))
  have F_squaredDeviations_a1 := Fld.other Wh3 F_squaredDeviations_a1 (Or.inr (slot_ne (Or.inr (hw _ (List.mem_of_getElem? (i := 47) rfl))) (Or.inr (hw _ (List.mem_of_getElem? (i := 45) rfl))) (by decide) (t := .double) (t' := .double) (by decide) (by decide)))
  have N := Fr.snoc X N g_a1
  have K := K.wr Wh3 (Or.inl (List.mem_of_getElem? (i := 0) rfl))
  refine Go.by st ?_
  show Go p.tables e below (T.setTop (mkF m 14 #[.val (.ref a1), .val (.long q1), .second, .val (.double x2), .second, .val (.double x3), .second] [])) _
  refine Go.by (fun tt_ kk_ => XS.aloadN X.here hx rfl (hb hby d5_14) rfl rfl kk_) ?_
  show Go p.tables e below (T.setTop (mkF m 15 #[.val (.ref a1), .val (.long q1), .second, .val (.double x2), .second, .val (.double x3), .second] [(.ref a1)])) _
  refine Go.by (fun tt_ kk_ => XS.dload X.here hx rfl (hb hby d5_15) rfl kk_) ?_
  show Go p.tables e below (T.setTop (mkF m 17 #[.val (.ref a1), .val (.long q1), .second, .val (.double x2), .second, .val (.double x3), .second] [(.double x3), (.ref a1)])) _
  obtain ⟨T, h4, X, eT, Wh4, st⟩ := putF X hx hZ hown (host := "") (Or.inl (hw _ (List.mem_of_getElem? (i := 46) rfl))) Via.refl eT F_squaredDeviations_a1 E_a1 (Or.inr ⟨(hw _ (List.mem_of_getElem? (i := 47) rfl)), rfl, hnm⟩) (hw _ (List.mem_of_getElem? (i := 31) rfl)) (ty := .double) (by decide) rfl rfl (g := (mkF m 17 #[.val (.ref a1), .val (.long q1), .second, .val (.double x2), .second, .val (.double x3), .second] [(.double x3), (.ref a1)])) rfl rfl (hb hby d5_17)
  have F_squaredDeviations_a1 := Fld.same Wh4 F_squaredDeviations_a1
  have E_a1 := Exa.wr Wh4 E_a1
  have F_count_a1 := Fld.other Wh4 F_count_a1 (Or.inr (slot_ne (Or.inr (hw _ (List.mem_of_getElem? (i := 43) rfl))) (Or.inr (hw _ (List.mem_of_getElem? (i := 47) rfl))) (by decide) (t := .long) (t' := .double) (by decide) (by decide)))
  have F_sum_a1 := Fld.other Wh4 F_sum_a1 (Or.inr (slot_ne (Or.inr (hw _ (List.mem_of_getElem? (i := 45) rfl))) (Or.inr (hw _ (List.mem_of_getElem? (i := 47) rfl))) (by decide) (t := .double) (t' := .double) (by decide) (by decide)))
  have N := Fr.snoc X N g_a1
  have K := K.wr Wh4 (Or.inl (List.mem_of_getElem? (i := 0) rfl))
  refine Go.by st ?_
  show Go p.tables e below (T.setTop (mkF m 20 #[.val (.ref a1), .val (.long q1), .second, .val (.double x2), .second, .val (.double x3), .second] [])) _
  exact Go.done X  (v := none) (fun _ => rfl) Bd.notSynchronized (fun fs hr => X.returnOut hx Bd.returns (hb hby d5_20) hr) (by rw [eT]; exact ⟨rfl, N, K, E_a1, F_count_a1, F_sum_a1, F_squaredDeviations_a1⟩) (by decide) (by decide)
theorem d4_0 : decode prog_52_method_3_code 0 = .ok (.new 23, 3) := by decide +kernel
theorem d4_3 : decode prog_52_method_3_code 3 = .ok (.dup, 1) := by decide +kernel
theorem d4_4 : decode prog_52_method_3_code 4 = .ok (.aload_n 0, 1) := by decide +kernel
theorem d4_5 : decode prog_52_method_3_code 5 = .ok (.getfield 7, 3) := by decide +kernel
theorem d4_8 : decode prog_52_method_3_code 8 = .ok (.aload_n 0, 1) := by decide +kernel
theorem d4_9 : decode prog_52_method_3_code 9 = .ok (.getfield 13, 3) := by decide +kernel
theorem d4_12 : decode prog_52_method_3_code 12 = .ok (.aload_n 0, 1) := by decide +kernel
theorem d4_13 : decode prog_52_method_3_code 13 = .ok (.getfield 20, 3) := by decide +kernel
theorem d4_16 : decode prog_52_method_3_code 16 = .ok (.invokespecial 25, 3) := by decide +kernel
theorem d4_19 : decode prog_52_method_3_code 19 = .ok (.areturn, 1) := by decide +kernel
theorem pd_1 : parseMethodDescriptor "(JDD)V" = some ⟨[.long, .double, .double], none⟩ := by decide +kernel
theorem ef_4 (m : MethodId) (x0 : Addr) : entryFrame m #[(.ref x0)] 1 = mkF m 0 #[.val (.ref x0)] [] := by first | (simp [entryFrame, mkF, argsToLocals, Value.category]; done) | rfl
def Q4 (Z : State) (a1 : Addr) (cn : Int64) (s1 : UInt64) (q1 : UInt64) (h0 : Heap) (n0 : Nat) (v : Option Value) (h : Heap) (L : List Loc) : Prop := ∃ b : Addr, n0 ≤ b ∧ h0.size ≤ b ∧ v = some (.ref b) ∧ Fr n0 L ∧ Keep h0 h [] ∧ Exa Z h b "com/example/bogong/bogong/stats/Sample" ∧ Fld Z h b "com/example/bogong/bogong/stats/Sample" "count" "J" (.long cn) ∧ Fld Z h b "com/example/bogong/bogong/stats/Sample" "sum" "D" (.double s1) ∧ Fld Z h b "com/example/bogong/bogong/stats/Sample" "squaredDeviations" "D" (.double q1)
set_option maxRecDepth 65536 in
set_option maxHeartbeats 40000000 in
theorem rm4 (l : Launch) (Z : State) (a0 : Array Value) (hw : ∀ d ∈ tables_1, d.before a0 Z = true) (ws : List Jvm.Cond) (a1 : Addr) (cn : Int64) (s1 : UInt64) (q1 : UInt64) (h0 : Heap) (n0 : Nat) (Z0 : n0 ≤ h0.size) (F_count_a1 : Fld Z h0 a1 "com/example/bogong/bogong/stats/Tally" "count" "J" (.long cn)) (F_sum_a1 : Fld Z h0 a1 "com/example/bogong/bogong/stats/Tally" "sum" "D" (.double s1)) (F_squaredDeviations_a1 : Fld Z h0 a1 "com/example/bogong/bogong/stats/Tally" "squaredDeviations" "D" (.double q1)) :
    MetFree l (⟨"com/example/bogong/bogong/stats/Tally", "sample", "()Lcom/example/bogong/bogong/stats/Sample;"⟩ : MethodName) (head1 (Jvm.Cond.code (⟨"com/example/bogong/bogong/stats/Tally", "sample", "()Lcom/example/bogong/bogong/stats/Sample;"⟩ : MethodName) prog_52_method_3_code 1 (some (.object "com/example/bogong/bogong/stats/Sample")) :: ws) ({ frames := 3, cells := 1, slots := 3, locals := 48 } : Room)) (fun a U => a = #[(.ref a1)] ∧ Z.Warmed39 U.vm ∧ U.heap = h0) (fun _ _ _ _ _ => True) (fun _ U o U' => ∃ v L, o = .returned v ∧ Q4 Z a1 cn s1 q1 h0 n0 v U'.heap L ∧ FrameEnd U o U' L ({ frames := 3, cells := 1, slots := 3, locals := 48 } : Room).cells ({ frames := 3, cells := 1, slots := 3, locals := 48 } : Room).slots) := by
  refine MetFree.of_bodySF (plainFor_of_name pn_0) hisR ?_
  intro p e s m args below meth c s₁ Bd hml0 hP hK
  obtain ⟨rfl, hZ, hh⟩ := hP
  have hx := Bd.exec
  have hby := Bd.bytes
  have hml : c.maxLocals = 1 := hml0
  have hown : s.vm.findClass "com/example/bogong/bogong/stats/Tally" = some m.cls := findClass_of_methodNamed Bd.named
  have hnm := (name_of_methodNamed Bd.named Bd.method).1
  have X : Stand p l e ({ frames := 3, cells := 1, slots := 3, locals := 48 } : Room) s m #[(.ref a1)] below meth c s₁ [] 0 0 := Stand.of_body Bd
  have eT : s₁.heap = h0 := by rw [← hh, Bd.state]; rfl
  have N := Fr.nil n0
  have K := Keep.refl h0 []
  refine Go.out ?_
  obtain ⟨T, eTT⟩ : ∃ z, z = s₁ := ⟨_, rfl⟩
  rw [← eTT] at X eT ⊢
  refine Go.by (fun tt_ kk_ => castTop (ef_4 m a1) kk_) ?_
  show Go p.tables e below (T.setTop (mkF m 0 #[.val (.ref a1)] [])) _
  obtain ⟨T, h1, X, eT, E_, A_, D_, -, st⟩ := newO X hx hZ hown (hw _ (List.mem_of_getElem? (i := 30) rfl)) (hw _ (List.mem_of_getElem? (i := 31) rfl)) (hw _ (List.mem_of_getElem? (i := 32) rfl)) eT (g := (mkF m 0 #[.val (.ref a1)] [])) rfl (hb hby d4_0) (by decide) (by decide)
  obtain ⟨b1, g_b1'⟩ : ∃ z, z = h0.size := ⟨_, rfl⟩
  rw [← g_b1'] at A_ D_ st
  have ne_a1_b1 : a1 ≠ b1 := Nat.ne_of_lt (Nat.lt_of_lt_of_le F_count_a1.lt (Nat.le_of_eq g_b1'.symm))
  have ne_b1_a1 : b1 ≠ a1 := Ne.symm ne_a1_b1
  have g_b1 : n0 ≤ b1 := Nat.le_trans Z0 (Nat.le_trans K.1 (Nat.le_of_eq g_b1'.symm))
  have sz_b1 : h0.size ≤ b1 := Nat.le_trans K.1 (Nat.le_of_eq g_b1'.symm)
  have K := K.ext E_
  have F_count_a1 := Fld.ext E_ F_count_a1
  have F_sum_a1 := Fld.ext E_ F_sum_a1
  have F_squaredDeviations_a1 := Fld.ext E_ F_squaredDeviations_a1
  have E_b1 := A_
  have F_count_b1 : Fld Z h1 b1 "com/example/bogong/bogong/stats/Sample" "count" "J" (.long (0 : Int64)) := D_ (Or.inr (hw _ (List.mem_of_getElem? (i := 43) rfl))) (ty := .long) (by decide)
  have F_sum_b1 : Fld Z h1 b1 "com/example/bogong/bogong/stats/Sample" "sum" "D" (.double (0 : UInt64)) := D_ (Or.inr (hw _ (List.mem_of_getElem? (i := 45) rfl))) (ty := .double) (by decide)
  have F_squaredDeviations_b1 : Fld Z h1 b1 "com/example/bogong/bogong/stats/Sample" "squaredDeviations" "D" (.double (0 : UInt64)) := D_ (Or.inr (hw _ (List.mem_of_getElem? (i := 47) rfl))) (ty := .double) (by decide)
  refine Go.by st ?_
  show Go p.tables e below (T.setTop (mkF m 3 #[.val (.ref a1)] [(.ref b1)])) _
  refine Go.by (fun tt_ kk_ => XS.dup X.here hx rfl (hb hby d4_3) rfl rfl kk_) ?_
  show Go p.tables e below (T.setTop (mkF m 4 #[.val (.ref a1)] [(.ref b1), (.ref b1)])) _
  refine Go.by (fun tt_ kk_ => XS.aloadN X.here hx rfl (hb hby d4_4) rfl rfl kk_) ?_
  show Go p.tables e below (T.setTop (mkF m 5 #[.val (.ref a1)] [(.ref a1), (.ref b1), (.ref b1)])) _
  obtain ⟨T, X, eT, st⟩ := getF X hx hZ hown (host := "") (Or.inl (hw _ (List.mem_of_getElem? (i := 17) rfl))) Via.refl eT F_count_a1 (g := (mkF m 5 #[.val (.ref a1)] [(.ref a1), (.ref b1), (.ref b1)])) rfl rfl (hb hby d4_5)
  refine Go.by st ?_
  show Go p.tables e below (T.setTop (mkF m 8 #[.val (.ref a1)] [(.long cn), (.ref b1), (.ref b1)])) _
  refine Go.by (fun tt_ kk_ => XS.aloadN X.here hx rfl (hb hby d4_8) rfl rfl kk_) ?_
  show Go p.tables e below (T.setTop (mkF m 9 #[.val (.ref a1)] [(.ref a1), (.long cn), (.ref b1), (.ref b1)])) _
  obtain ⟨T, X, eT, st⟩ := getF X hx hZ hown (host := "") (Or.inl (hw _ (List.mem_of_getElem? (i := 19) rfl))) Via.refl eT F_sum_a1 (g := (mkF m 9 #[.val (.ref a1)] [(.ref a1), (.long cn), (.ref b1), (.ref b1)])) rfl rfl (hb hby d4_9)
  refine Go.by st ?_
  show Go p.tables e below (T.setTop (mkF m 12 #[.val (.ref a1)] [(.double s1), (.long cn), (.ref b1), (.ref b1)])) _
  refine Go.by (fun tt_ kk_ => XS.aloadN X.here hx rfl (hb hby d4_12) rfl rfl kk_) ?_
  show Go p.tables e below (T.setTop (mkF m 13 #[.val (.ref a1)] [(.ref a1), (.double s1), (.long cn), (.ref b1), (.ref b1)])) _
  obtain ⟨T, X, eT, st⟩ := getF X hx hZ hown (host := "") (Or.inl (hw _ (List.mem_of_getElem? (i := 23) rfl))) Via.refl eT F_squaredDeviations_a1 (g := (mkF m 13 #[.val (.ref a1)] [(.ref a1), (.double s1), (.long cn), (.ref b1), (.ref b1)])) rfl rfl (hb hby d4_13)
  refine Go.by st ?_
  show Go p.tables e below (T.setTop (mkF m 16 #[.val (.ref a1)] [(.double q1), (.double s1), (.long cn), (.ref b1), (.ref b1)])) _
  obtain ⟨_, _, ⟨T, L_, k_, n_⟩, -, X, ⟨Lc_, hQ, l_, y_, z_⟩, st⟩ := X.specialBack hx (y := (⟨"com/example/bogong/bogong/stats/Sample", "<init>", "(JDD)V"⟩ : MethodName)) rfl hown (mvT hZ (hw _ (List.mem_of_getElem? (i := 33) rfl))) (mvT hZ (hw _ (List.mem_of_getElem? (i := 34) rfl))) (mvT hZ (hw _ (List.mem_of_getElem? (i := 35) rfl))) (by decide) (backOf (W := 1) (rm5 l Z a0 hw [] b1 cn s1 q1 h1 n0 (Nat.le_trans Z0 K.1) E_b1 g_b1 F_count_b1 F_sum_b1 F_squaredDeviations_b1) hZ (hw _ (List.mem_of_getElem? (i := 35) rfl)) (hw _ (List.mem_of_getElem? (i := 32) rfl)) (by decide) (by decide)) (g := (mkF m 16 #[.val (.ref a1)] [(.double q1), (.double s1), (.long cn), (.ref b1), (.ref b1)])) rfl (by rw [hml]; rfl) (Steps.refl _) (a := b1) (argsL := [(.long cn), (.double s1), (.double q1)]) (rest := [(.ref b1)]) (lenOf pd_1 rfl) rfl (by show 2 * 0 + _ ≤ _; exact Nat.le_of_eq rfl) (hb hby d4_16) (fun _ _ => ⟨rfl, eT, (by decide : 1 + 0 ≤ _), (by decide : 3 + 0 ≤ _)⟩)
  dsimp only [Pt.U, Pt.locs, Pt.cells, Pt.slots] at X l_ y_ z_ st hQ
  subst l_ y_ z_
  obtain ⟨h2, eT⟩ : ∃ z, T.heap = z := ⟨_, rfl⟩
  rw [eT] at hQ
  obtain ⟨rfl, Nq, Kq, Eq_, Fq_count, Fq_sum, Fq_squaredDeviations⟩ := hQ
  have N := Fr.app N Nq
  have F_count_a1 := Fld.keep F_count_a1 Kq (ninS ne_a1_b1 nin0)
  have F_sum_a1 := Fld.keep F_sum_a1 Kq (ninS ne_a1_b1 nin0)
  have F_squaredDeviations_a1 := Fld.keep F_squaredDeviations_a1 Kq (ninS ne_a1_b1 nin0)
  have E_b1 := Eq_
  have F_count_b1 := Fq_count
  have F_sum_b1 := Fq_sum
  have F_squaredDeviations_b1 := Fq_squaredDeviations
  have K := K.trans Kq (allS (Or.inr sz_b1) all0)
  refine Go.tr st ?_
  show Go p.tables e below (T.setTop (mkF m 19 #[.val (.ref a1)] [(.ref b1)])) _
  exact Go.done X  (v := some (.ref b1)) (fun h => by rw [Bd.returns] at h; cases h) Bd.notSynchronized (fun fs hr => retOut X hx Bd.returns rfl (by simp [Value.isRef, FieldType.isReference]) (hb hby d4_19) hr) (by rw [eT]; exact ⟨b1, g_b1, sz_b1, rfl, N, K, E_b1, F_count_b1, F_sum_b1, F_squaredDeviations_b1⟩) (by decide) (by decide)
theorem d7_0 : decode prog_49_method_10_code 0 = .ok (.aload_n 0, 1) := by decide +kernel
theorem d7_1 : decode prog_49_method_10_code 1 = .ok (.getfield 7, 3) := by decide +kernel
theorem d7_4 : decode prog_49_method_10_code 4 = .ok (.lreturn, 1) := by decide +kernel
theorem ef_7 (m : MethodId) (x0 : Addr) : entryFrame m #[(.ref x0)] 1 = mkF m 0 #[.val (.ref x0)] [] := by first | (simp [entryFrame, mkF, argsToLocals, Value.category]; done) | rfl
def Q7 (Z : State) (a1 : Addr) (x : Int64) (h0 : Heap) (n0 : Nat) (v : Option Value) (h : Heap) (L : List Loc) : Prop := v = some (.long x) ∧ Fr n0 L ∧ h = h0
set_option maxRecDepth 65536 in
set_option maxHeartbeats 40000000 in
theorem rm7 (l : Launch) (Z : State) (a0 : Array Value) (hw : ∀ d ∈ tables_1, d.before a0 Z = true) (ws : List Jvm.Cond) (a1 : Addr) (x : Int64) (h0 : Heap) (n0 : Nat) (Z0 : n0 ≤ h0.size) (F_a1 : Fld Z h0 a1 "com/example/bogong/bogong/stats/Sample" "count" "J" (.long x)) :
    MetFree l (⟨"com/example/bogong/bogong/stats/Sample", "count", "()J"⟩ : MethodName) (head1 (Jvm.Cond.code (⟨"com/example/bogong/bogong/stats/Sample", "count", "()J"⟩ : MethodName) prog_49_method_10_code 1 (some .long) :: ws) ({ frames := 0, cells := 0, slots := 0, locals := 0 } : Room)) (fun a U => a = #[(.ref a1)] ∧ Z.Warmed39 U.vm ∧ U.heap = h0) (fun _ _ _ _ _ => True) (fun _ U o U' => ∃ v L, o = .returned v ∧ Q7 Z a1 x h0 n0 v U'.heap L ∧ FrameEnd U o U' L ({ frames := 0, cells := 0, slots := 0, locals := 0 } : Room).cells ({ frames := 0, cells := 0, slots := 0, locals := 0 } : Room).slots) := by
  refine MetFree.of_bodySF (plainFor_of_name pn_2) hisR ?_
  intro p e s m args below meth c s₁ Bd hml0 hP hK
  obtain ⟨rfl, hZ, hh⟩ := hP
  have hx := Bd.exec
  have hby := Bd.bytes
  have hml : c.maxLocals = 1 := hml0
  have hown : s.vm.findClass "com/example/bogong/bogong/stats/Sample" = some m.cls := findClass_of_methodNamed Bd.named
  have hnm := (name_of_methodNamed Bd.named Bd.method).1
  have X : Stand p l e ({ frames := 0, cells := 0, slots := 0, locals := 0 } : Room) s m #[(.ref a1)] below meth c s₁ [] 0 0 := Stand.of_body Bd
  have eT : s₁.heap = h0 := by rw [← hh, Bd.state]; rfl
  have N := Fr.nil n0
  have K := Keep.refl h0 []
  refine Go.out ?_
  obtain ⟨T, eTT⟩ : ∃ z, z = s₁ := ⟨_, rfl⟩
  rw [← eTT] at X eT ⊢
  refine Go.by (fun tt_ kk_ => castTop (ef_7 m a1) kk_) ?_
  show Go p.tables e below (T.setTop (mkF m 0 #[.val (.ref a1)] [])) _
  refine Go.by (fun tt_ kk_ => XS.aloadN X.here hx rfl (hb hby d7_0) rfl rfl kk_) ?_
  show Go p.tables e below (T.setTop (mkF m 1 #[.val (.ref a1)] [(.ref a1)])) _
  obtain ⟨T, X, eT, st⟩ := getF X hx hZ hown (host := "") (Or.inl (hw _ (List.mem_of_getElem? (i := 42) rfl))) Via.refl eT F_a1 (g := (mkF m 1 #[.val (.ref a1)] [(.ref a1)])) rfl rfl (hb hby d7_1)
  refine Go.by st ?_
  show Go p.tables e below (T.setTop (mkF m 4 #[.val (.ref a1)] [(.long x)])) _
  exact Go.done X  (v := some (.long x)) (fun h => by rw [Bd.returns] at h; cases h) Bd.notSynchronized (fun fs hr => retOut X hx Bd.returns rfl (by simp [Value.isRef, FieldType.isReference]) (hb hby d7_4) hr) (by rw [eT]; exact ⟨rfl, N, rfl⟩) (by decide) (by decide)
theorem d8_0 : decode prog_49_method_11_code 0 = .ok (.aload_n 0, 1) := by decide +kernel
theorem d8_1 : decode prog_49_method_11_code 1 = .ok (.getfield 13, 3) := by decide +kernel
theorem d8_4 : decode prog_49_method_11_code 4 = .ok (.dreturn, 1) := by decide +kernel
theorem ef_8 (m : MethodId) (x0 : Addr) : entryFrame m #[(.ref x0)] 1 = mkF m 0 #[.val (.ref x0)] [] := by first | (simp [entryFrame, mkF, argsToLocals, Value.category]; done) | rfl
def Q8 (Z : State) (a1 : Addr) (x : UInt64) (h0 : Heap) (n0 : Nat) (v : Option Value) (h : Heap) (L : List Loc) : Prop := v = some (.double x) ∧ Fr n0 L ∧ h = h0
set_option maxRecDepth 65536 in
set_option maxHeartbeats 40000000 in
theorem rm8 (l : Launch) (Z : State) (a0 : Array Value) (hw : ∀ d ∈ tables_1, d.before a0 Z = true) (ws : List Jvm.Cond) (a1 : Addr) (x : UInt64) (h0 : Heap) (n0 : Nat) (Z0 : n0 ≤ h0.size) (F_a1 : Fld Z h0 a1 "com/example/bogong/bogong/stats/Sample" "sum" "D" (.double x)) :
    MetFree l (⟨"com/example/bogong/bogong/stats/Sample", "sum", "()D"⟩ : MethodName) (head1 (Jvm.Cond.code (⟨"com/example/bogong/bogong/stats/Sample", "sum", "()D"⟩ : MethodName) prog_49_method_11_code 1 (some .double) :: ws) ({ frames := 0, cells := 0, slots := 0, locals := 0 } : Room)) (fun a U => a = #[(.ref a1)] ∧ Z.Warmed39 U.vm ∧ U.heap = h0) (fun _ _ _ _ _ => True) (fun _ U o U' => ∃ v L, o = .returned v ∧ Q8 Z a1 x h0 n0 v U'.heap L ∧ FrameEnd U o U' L ({ frames := 0, cells := 0, slots := 0, locals := 0 } : Room).cells ({ frames := 0, cells := 0, slots := 0, locals := 0 } : Room).slots) := by
  refine MetFree.of_bodySF (plainFor_of_name pn_2) hisR ?_
  intro p e s m args below meth c s₁ Bd hml0 hP hK
  obtain ⟨rfl, hZ, hh⟩ := hP
  have hx := Bd.exec
  have hby := Bd.bytes
  have hml : c.maxLocals = 1 := hml0
  have hown : s.vm.findClass "com/example/bogong/bogong/stats/Sample" = some m.cls := findClass_of_methodNamed Bd.named
  have hnm := (name_of_methodNamed Bd.named Bd.method).1
  have X : Stand p l e ({ frames := 0, cells := 0, slots := 0, locals := 0 } : Room) s m #[(.ref a1)] below meth c s₁ [] 0 0 := Stand.of_body Bd
  have eT : s₁.heap = h0 := by rw [← hh, Bd.state]; rfl
  have N := Fr.nil n0
  have K := Keep.refl h0 []
  refine Go.out ?_
  obtain ⟨T, eTT⟩ : ∃ z, z = s₁ := ⟨_, rfl⟩
  rw [← eTT] at X eT ⊢
  refine Go.by (fun tt_ kk_ => castTop (ef_8 m a1) kk_) ?_
  show Go p.tables e below (T.setTop (mkF m 0 #[.val (.ref a1)] [])) _
  refine Go.by (fun tt_ kk_ => XS.aloadN X.here hx rfl (hb hby d8_0) rfl rfl kk_) ?_
  show Go p.tables e below (T.setTop (mkF m 1 #[.val (.ref a1)] [(.ref a1)])) _
  obtain ⟨T, X, eT, st⟩ := getF X hx hZ hown (host := "") (Or.inl (hw _ (List.mem_of_getElem? (i := 44) rfl))) Via.refl eT F_a1 (g := (mkF m 1 #[.val (.ref a1)] [(.ref a1)])) rfl rfl (hb hby d8_1)
  refine Go.by st ?_
  show Go p.tables e below (T.setTop (mkF m 4 #[.val (.ref a1)] [(.double x)])) _
  exact Go.done X  (v := some (.double x)) (fun h => by rw [Bd.returns] at h; cases h) Bd.notSynchronized (fun fs hr => retOut X hx Bd.returns rfl (by simp [Value.isRef, FieldType.isReference]) (hb hby d8_4) hr) (by rw [eT]; exact ⟨rfl, N, rfl⟩) (by decide) (by decide)
theorem d9_0 : decode prog_49_method_12_code 0 = .ok (.aload_n 0, 1) := by decide +kernel
theorem d9_1 : decode prog_49_method_12_code 1 = .ok (.getfield 17, 3) := by decide +kernel
theorem d9_4 : decode prog_49_method_12_code 4 = .ok (.dreturn, 1) := by decide +kernel
theorem ef_9 (m : MethodId) (x0 : Addr) : entryFrame m #[(.ref x0)] 1 = mkF m 0 #[.val (.ref x0)] [] := by first | (simp [entryFrame, mkF, argsToLocals, Value.category]; done) | rfl
def Q9 (Z : State) (a1 : Addr) (x : UInt64) (h0 : Heap) (n0 : Nat) (v : Option Value) (h : Heap) (L : List Loc) : Prop := v = some (.double x) ∧ Fr n0 L ∧ h = h0
set_option maxRecDepth 65536 in
set_option maxHeartbeats 40000000 in
theorem rm9 (l : Launch) (Z : State) (a0 : Array Value) (hw : ∀ d ∈ tables_1, d.before a0 Z = true) (ws : List Jvm.Cond) (a1 : Addr) (x : UInt64) (h0 : Heap) (n0 : Nat) (Z0 : n0 ≤ h0.size) (F_a1 : Fld Z h0 a1 "com/example/bogong/bogong/stats/Sample" "squaredDeviations" "D" (.double x)) :
    MetFree l (⟨"com/example/bogong/bogong/stats/Sample", "squaredDeviations", "()D"⟩ : MethodName) (head1 (Jvm.Cond.code (⟨"com/example/bogong/bogong/stats/Sample", "squaredDeviations", "()D"⟩ : MethodName) prog_49_method_12_code 1 (some .double) :: ws) ({ frames := 0, cells := 0, slots := 0, locals := 0 } : Room)) (fun a U => a = #[(.ref a1)] ∧ Z.Warmed39 U.vm ∧ U.heap = h0) (fun _ _ _ _ _ => True) (fun _ U o U' => ∃ v L, o = .returned v ∧ Q9 Z a1 x h0 n0 v U'.heap L ∧ FrameEnd U o U' L ({ frames := 0, cells := 0, slots := 0, locals := 0 } : Room).cells ({ frames := 0, cells := 0, slots := 0, locals := 0 } : Room).slots) := by
  refine MetFree.of_bodySF (plainFor_of_name pn_2) hisR ?_
  intro p e s m args below meth c s₁ Bd hml0 hP hK
  obtain ⟨rfl, hZ, hh⟩ := hP
  have hx := Bd.exec
  have hby := Bd.bytes
  have hml : c.maxLocals = 1 := hml0
  have hown : s.vm.findClass "com/example/bogong/bogong/stats/Sample" = some m.cls := findClass_of_methodNamed Bd.named
  have hnm := (name_of_methodNamed Bd.named Bd.method).1
  have X : Stand p l e ({ frames := 0, cells := 0, slots := 0, locals := 0 } : Room) s m #[(.ref a1)] below meth c s₁ [] 0 0 := Stand.of_body Bd
  have eT : s₁.heap = h0 := by rw [← hh, Bd.state]; rfl
  have N := Fr.nil n0
  have K := Keep.refl h0 []
  refine Go.out ?_
  obtain ⟨T, eTT⟩ : ∃ z, z = s₁ := ⟨_, rfl⟩
  rw [← eTT] at X eT ⊢
  refine Go.by (fun tt_ kk_ => castTop (ef_9 m a1) kk_) ?_
  show Go p.tables e below (T.setTop (mkF m 0 #[.val (.ref a1)] [])) _
  refine Go.by (fun tt_ kk_ => XS.aloadN X.here hx rfl (hb hby d9_0) rfl rfl kk_) ?_
  show Go p.tables e below (T.setTop (mkF m 1 #[.val (.ref a1)] [(.ref a1)])) _
  obtain ⟨T, X, eT, st⟩ := getF X hx hZ hown (host := "") (Or.inl (hw _ (List.mem_of_getElem? (i := 46) rfl))) Via.refl eT F_a1 (g := (mkF m 1 #[.val (.ref a1)] [(.ref a1)])) rfl rfl (hb hby d9_1)
  refine Go.by st ?_
  show Go p.tables e below (T.setTop (mkF m 4 #[.val (.ref a1)] [(.double x)])) _
  exact Go.done X  (v := some (.double x)) (fun h => by rw [Bd.returns] at h; cases h) Bd.notSynchronized (fun fs hr => retOut X hx Bd.returns rfl (by simp [Value.isRef, FieldType.isReference]) (hb hby d9_4) hr) (by rw [eT]; exact ⟨rfl, N, rfl⟩) (by decide) (by decide)
theorem pn_3 : plainName "com/example/bogong/bogong/stats/TallyAddPinLaw" = true := by first | (simp [plainName, overriddenIn]; done) | decide +kernel
theorem pd_2 : parseMethodDescriptor "()Lcom/example/bogong/bogong/stats/Sample;" = some ⟨[], some (.object "com/example/bogong/bogong/stats/Sample")⟩ := by decide +kernel
theorem pd_3 : parseMethodDescriptor "()J" = some ⟨[], some .long⟩ := by decide +kernel
theorem pd_4 : parseMethodDescriptor "()D" = some ⟨[], some .double⟩ := by decide +kernel
theorem pd_5 : parseMethodDescriptor "(D)V" = some ⟨[.double], none⟩ := by decide +kernel
theorem ef_0 (m : MethodId) (x0 : Int32) (x1 : Int32) (x2 : Int32) (x3 : Int32) : entryFrame m #[(.int x0), (.int x1), (.int x2), (.int x3)] maxLocals = mkF m 0 #[.val (.int x0), .val (.int x1), .val (.int x2), .val (.int x3), .unset, .unset, .unset, .unset, .unset, .unset, .unset, .unset, .unset, .unset, .unset, .unset, .unset, .unset, .unset, .unset, .unset, .unset, .unset] [] := by first | (simp [entryFrame, mkF, argsToLocals, Value.category, maxLocals]; done) | rfl
def Q0 (Z : State) (p0 : Int32) (p1 : Int32) (p2 : Int32) (p3 : Int32)  (h0 : Heap) (n0 : Nat) (v : Option Value) (h : Heap) (L : List Loc) : Prop := v = some (.int 1) ∧ Fr n0 L
set_option maxRecDepth 65536 in
set_option maxHeartbeats 40000000 in
theorem rm0 (l : Launch) (Z : State) (a0 : Array Value) (hw : ∀ d ∈ tables_1, d.before a0 Z = true) (ws : List Jvm.Cond) (p0 : Int32) (p1 : Int32) (p2 : Int32) (p3 : Int32)  (h0 : Heap) (n0 : Nat) (Z0 : n0 ≤ h0.size)  :
    MetFree l x (head1 (Jvm.Cond.code x code maxLocals ret :: ws) room_1) (fun a U => a = #[(.int p0), (.int p1), (.int p2), (.int p3)] ∧ Z.Warmed39 U.vm ∧ U.heap = h0) (fun _ _ _ _ _ => True) (fun _ U o U' => ∃ v L, o = .returned v ∧ Q0 Z p0 p1 p2 p3 h0 n0 v U'.heap L ∧ FrameEnd U o U' L 16 128) := by
  refine MetFree.of_bodySF (plainFor_of_name pn_3) hisR ?_
  intro p e s m args below meth c s₁ Bd hml0 hP hK
  obtain ⟨rfl, hZ, hh⟩ := hP
  have hx := Bd.exec
  have hby := Bd.bytes
  have hml : c.maxLocals = 23 := hml0
  have hown : s.vm.findClass "com/example/bogong/bogong/stats/TallyAddPinLaw" = some m.cls := findClass_of_methodNamed Bd.named
  have hnm := (name_of_methodNamed Bd.named Bd.method).1
  have X : Stand p l e room_1 s m #[(.int p0), (.int p1), (.int p2), (.int p3)] below meth c s₁ [] 0 0 := Stand.of_body Bd
  have eT : s₁.heap = h0 := by rw [← hh, Bd.state]; rfl
  have N := Fr.nil n0
  have K := Keep.refl h0 []
  refine Go.out ?_
  obtain ⟨T, eTT⟩ : ∃ z, z = s₁ := ⟨_, rfl⟩
  rw [← eTT] at X eT ⊢
  refine Go.by (fun tt_ kk_ => castTop (ef_0 m p0 p1 p2 p3) kk_) ?_
  show Go p.tables e below (T.setTop (mkF m 0 #[.val (.int p0), .val (.int p1), .val (.int p2), .val (.int p3), .unset, .unset, .unset, .unset, .unset, .unset, .unset, .unset, .unset, .unset, .unset, .unset, .unset, .unset, .unset, .unset, .unset, .unset, .unset] [])) _
  refine Go.by (fun tt_ kk_ => XS.iloadN X.here hx rfl (hb hby at_0) rfl kk_) ?_
  show Go p.tables e below (T.setTop (mkF m 1 #[.val (.int p0), .val (.int p1), .val (.int p2), .val (.int p3), .unset, .unset, .unset, .unset, .unset, .unset, .unset, .unset, .unset, .unset, .unset, .unset, .unset, .unset, .unset, .unset, .unset, .unset, .unset] [(.int p0)])) _
  refine Go.by (fun tt_ kk_ => XS.i2l X.here hx rfl (hb hby at_1) rfl kk_) ?_
  show Go p.tables e below (T.setTop (mkF m 2 #[.val (.int p0), .val (.int p1), .val (.int p2), .val (.int p3), .unset, .unset, .unset, .unset, .unset, .unset, .unset, .unset, .unset, .unset, .unset, .unset, .unset, .unset, .unset, .unset, .unset, .unset, .unset] [(.long (p0.toInt64))])) _
  obtain ⟨a, e_a⟩ : ∃ z, z = (p0.toInt64) := ⟨_, rfl⟩
  rw [← e_a]
  show Go p.tables e below (T.setTop (mkF m 2 #[.val (.int p0), .val (.int p1), .val (.int p2), .val (.int p3), .unset, .unset, .unset, .unset, .unset, .unset, .unset, .unset, .unset, .unset, .unset, .unset, .unset, .unset, .unset, .unset, .unset, .unset, .unset] [(.long a)])) _
  have b_a : -2147483648 ≤ a.toInt ∧ a.toInt ≤ 2147483647 := by rw [e_a, own_i2l]; have := Int32.toInt_lt p0; have := Int32.le_toInt p0; omega
  refine Go.by (fun tt_ kk_ => XS.lstore X.here hx rfl (hb hby at_2) rfl (l' := #[.val (.int p0), .val (.int p1), .val (.int p2), .val (.int p3), .val (.long a), .second, .unset, .unset, .unset, .unset, .unset, .unset, .unset, .unset, .unset, .unset, .unset, .unset, .unset, .unset, .unset, .unset, .unset]) rfl kk_) ?_
  show Go p.tables e below (T.setTop (mkF m 4 #[.val (.int p0), .val (.int p1), .val (.int p2), .val (.int p3), .val (.long a), .second, .unset, .unset, .unset, .unset, .unset, .unset, .unset, .unset, .unset, .unset, .unset, .unset, .unset, .unset, .unset, .unset, .unset] [])) _
  refine Go.by (fun tt_ kk_ => XS.iloadN X.here hx rfl (hb hby at_4) rfl kk_) ?_
  show Go p.tables e below (T.setTop (mkF m 5 #[.val (.int p0), .val (.int p1), .val (.int p2), .val (.int p3), .val (.long a), .second, .unset, .unset, .unset, .unset, .unset, .unset, .unset, .unset, .unset, .unset, .unset, .unset, .unset, .unset, .unset, .unset, .unset] [(.int p1)])) _
  refine Go.by (fun tt_ kk_ => XS.bipush X.here hx rfl (hb hby at_5) kk_) ?_
  show Go p.tables e below (T.setTop (mkF m 7 #[.val (.int p0), .val (.int p1), .val (.int p2), .val (.int p3), .val (.long a), .second, .unset, .unset, .unset, .unset, .unset, .unset, .unset, .unset, .unset, .unset, .unset, .unset, .unset, .unset, .unset, .unset, .unset] [(.int (8 : Int32)), (.int p1)])) _
  refine Go.by (fun tt_ kk_ => XS.ishr X.here hx rfl (hb hby at_7) rfl kk_) ?_
  show Go p.tables e below (T.setTop (mkF m 8 #[.val (.int p0), .val (.int p1), .val (.int p2), .val (.int p3), .val (.long a), .second, .unset, .unset, .unset, .unset, .unset, .unset, .unset, .unset, .unset, .unset, .unset, .unset, .unset, .unset, .unset, .unset, .unset] [(.int (p1 >>> ((8 : Int32) &&& 31)))])) _
  refine Go.by (fun tt_ kk_ => XS.i2l X.here hx rfl (hb hby at_8) rfl kk_) ?_
  show Go p.tables e below (T.setTop (mkF m 9 #[.val (.int p0), .val (.int p1), .val (.int p2), .val (.int p3), .val (.long a), .second, .unset, .unset, .unset, .unset, .unset, .unset, .unset, .unset, .unset, .unset, .unset, .unset, .unset, .unset, .unset, .unset, .unset] [(.long ((p1 >>> ((8 : Int32) &&& 31)).toInt64))])) _
  obtain ⟨e', e_e'⟩ : ∃ z, z = ((p1 >>> ((8 : Int32) &&& 31)).toInt64) := ⟨_, rfl⟩
  rw [← e_e']
  show Go p.tables e below (T.setTop (mkF m 9 #[.val (.int p0), .val (.int p1), .val (.int p2), .val (.int p3), .val (.long a), .second, .unset, .unset, .unset, .unset, .unset, .unset, .unset, .unset, .unset, .unset, .unset, .unset, .unset, .unset, .unset, .unset, .unset] [(.long e')])) _
  have b_e' : -8388608 ≤ e'.toInt ∧ e'.toInt ≤ 8388607 := by
    rw [e_e', own_i2l, Jvm.Kit.i32_shr (k := 8) _ _ (by decide)]
    have := Int32.toInt_lt p1; have := Int32.le_toInt p1; omega
  refine Go.by (fun tt_ kk_ => XS.lstore X.here hx rfl (hb hby at_9) rfl (l' := #[.val (.int p0), .val (.int p1), .val (.int p2), .val (.int p3), .val (.long a), .second, .val (.long e'), .second, .unset, .unset, .unset, .unset, .unset, .unset, .unset, .unset, .unset, .unset, .unset, .unset, .unset, .unset, .unset]) rfl kk_) ?_
  show Go p.tables e below (T.setTop (mkF m 11 #[.val (.int p0), .val (.int p1), .val (.int p2), .val (.int p3), .val (.long a), .second, .val (.long e'), .second, .unset, .unset, .unset, .unset, .unset, .unset, .unset, .unset, .unset, .unset, .unset, .unset, .unset, .unset, .unset] [])) _
  refine Go.by (fun tt_ kk_ => XS.iloadN X.here hx rfl (hb hby at_11) rfl kk_) ?_
  show Go p.tables e below (T.setTop (mkF m 12 #[.val (.int p0), .val (.int p1), .val (.int p2), .val (.int p3), .val (.long a), .second, .val (.long e'), .second, .unset, .unset, .unset, .unset, .unset, .unset, .unset, .unset, .unset, .unset, .unset, .unset, .unset, .unset, .unset] [(.int p2)])) _
  refine Go.by (fun tt_ kk_ => XS.bipush X.here hx rfl (hb hby at_12) kk_) ?_
  show Go p.tables e below (T.setTop (mkF m 14 #[.val (.int p0), .val (.int p1), .val (.int p2), .val (.int p3), .val (.long a), .second, .val (.long e'), .second, .unset, .unset, .unset, .unset, .unset, .unset, .unset, .unset, .unset, .unset, .unset, .unset, .unset, .unset, .unset] [(.int (8 : Int32)), (.int p2)])) _
  refine Go.by (fun tt_ kk_ => XS.ishr X.here hx rfl (hb hby at_14) rfl kk_) ?_
  show Go p.tables e below (T.setTop (mkF m 15 #[.val (.int p0), .val (.int p1), .val (.int p2), .val (.int p3), .val (.long a), .second, .val (.long e'), .second, .unset, .unset, .unset, .unset, .unset, .unset, .unset, .unset, .unset, .unset, .unset, .unset, .unset, .unset, .unset] [(.int (p2 >>> ((8 : Int32) &&& 31)))])) _
  refine Go.by (fun tt_ kk_ => XS.i2l X.here hx rfl (hb hby at_15) rfl kk_) ?_
  show Go p.tables e below (T.setTop (mkF m 16 #[.val (.int p0), .val (.int p1), .val (.int p2), .val (.int p3), .val (.long a), .second, .val (.long e'), .second, .unset, .unset, .unset, .unset, .unset, .unset, .unset, .unset, .unset, .unset, .unset, .unset, .unset, .unset, .unset] [(.long ((p2 >>> ((8 : Int32) &&& 31)).toInt64))])) _
  obtain ⟨k, e_k⟩ : ∃ z, z = ((p2 >>> ((8 : Int32) &&& 31)).toInt64) := ⟨_, rfl⟩
  rw [← e_k]
  show Go p.tables e below (T.setTop (mkF m 16 #[.val (.int p0), .val (.int p1), .val (.int p2), .val (.int p3), .val (.long a), .second, .val (.long e'), .second, .unset, .unset, .unset, .unset, .unset, .unset, .unset, .unset, .unset, .unset, .unset, .unset, .unset, .unset, .unset] [(.long k)])) _
  have b_k : -8388608 ≤ k.toInt ∧ k.toInt ≤ 8388607 := by
    rw [e_k, own_i2l, Jvm.Kit.i32_shr (k := 8) _ _ (by decide)]
    have := Int32.toInt_lt p2; have := Int32.le_toInt p2; omega
  refine Go.by (fun tt_ kk_ => XS.lstore X.here hx rfl (hb hby at_16) rfl (l' := #[.val (.int p0), .val (.int p1), .val (.int p2), .val (.int p3), .val (.long a), .second, .val (.long e'), .second, .val (.long k), .second, .unset, .unset, .unset, .unset, .unset, .unset, .unset, .unset, .unset, .unset, .unset, .unset, .unset]) rfl kk_) ?_
  show Go p.tables e below (T.setTop (mkF m 18 #[.val (.int p0), .val (.int p1), .val (.int p2), .val (.int p3), .val (.long a), .second, .val (.long e'), .second, .val (.long k), .second, .unset, .unset, .unset, .unset, .unset, .unset, .unset, .unset, .unset, .unset, .unset, .unset, .unset] [])) _
  refine Go.by (fun tt_ kk_ => XS.iloadN X.here hx rfl (hb hby at_18) rfl kk_) ?_
  show Go p.tables e below (T.setTop (mkF m 19 #[.val (.int p0), .val (.int p1), .val (.int p2), .val (.int p3), .val (.long a), .second, .val (.long e'), .second, .val (.long k), .second, .unset, .unset, .unset, .unset, .unset, .unset, .unset, .unset, .unset, .unset, .unset, .unset, .unset] [(.int p3)])) _
  refine Go.by (fun tt_ kk_ => XS.iconst X.here hx rfl (hb hby at_19) kk_) ?_
  show Go p.tables e below (T.setTop (mkF m 20 #[.val (.int p0), .val (.int p1), .val (.int p2), .val (.int p3), .val (.long a), .second, .val (.long e'), .second, .val (.long k), .second, .unset, .unset, .unset, .unset, .unset, .unset, .unset, .unset, .unset, .unset, .unset, .unset, .unset] [(.int (3 : Int32)), (.int p3)])) _
  refine Go.by (fun tt_ kk_ => XS.iand X.here hx rfl (hb hby at_20) rfl kk_) ?_
  show Go p.tables e below (T.setTop (mkF m 21 #[.val (.int p0), .val (.int p1), .val (.int p2), .val (.int p3), .val (.long a), .second, .val (.long e'), .second, .val (.long k), .second, .unset, .unset, .unset, .unset, .unset, .unset, .unset, .unset, .unset, .unset, .unset, .unset, .unset] [(.int (p3 &&& (3 : Int32)))])) _
  have m_ee := own_mulb (A := 8388608) (B := 8388608) b_e'.1 (show e'.toInt ≤ 8388608 by omega) b_e'.1 (show e'.toInt ≤ 8388608 by omega)
  have m_kk := own_mulb (A := 8388608) (B := 8388608) b_k.1 (show k.toInt ≤ 8388608 by omega) b_k.1 (show k.toInt ≤ 8388608 by omega)
  have kk : 6 * k.toInt * (4 * k.toInt) = 24 * (k.toInt * k.toInt) := by rw [show (24 : Int) = 6 * 4 from rfl]; ac_rfl
  have hcs := own_and3 p3
  rcases hcs with hcs | hcs | hcs | hcs
  · rw [hcs]
    show Go p.tables e below (T.setTop (mkF m 21 #[.val (.int p0), .val (.int p1), .val (.int p2), .val (.int p3), .val (.long a), .second, .val (.long e'), .second, .val (.long k), .second, .unset, .unset, .unset, .unset, .unset, .unset, .unset, .unset, .unset, .unset, .unset, .unset, .unset] [(.int (0 : Int32))])) _
    refine Go.by (fun tt_ kk_ => XS.istore X.here hx rfl (hb hby at_21) rfl (l' := #[.val (.int p0), .val (.int p1), .val (.int p2), .val (.int p3), .val (.long a), .second, .val (.long e'), .second, .val (.long k), .second, .val (.int (0 : Int32)), .unset, .unset, .unset, .unset, .unset, .unset, .unset, .unset, .unset, .unset, .unset, .unset]) rfl kk_) ?_
    show Go p.tables e below (T.setTop (mkF m 23 #[.val (.int p0), .val (.int p1), .val (.int p2), .val (.int p3), .val (.long a), .second, .val (.long e'), .second, .val (.long k), .second, .val (.int (0 : Int32)), .unset, .unset, .unset, .unset, .unset, .unset, .unset, .unset, .unset, .unset, .unset, .unset] [])) _
    refine Go.by (fun tt_ kk_ => XS.lload X.here hx rfl (hb hby at_23) rfl kk_) ?_
    show Go p.tables e below (T.setTop (mkF m 25 #[.val (.int p0), .val (.int p1), .val (.int p2), .val (.int p3), .val (.long a), .second, .val (.long e'), .second, .val (.long k), .second, .val (.int (0 : Int32)), .unset, .unset, .unset, .unset, .unset, .unset, .unset, .unset, .unset, .unset, .unset, .unset] [(.long a)])) _
    refine Go.by (fun tt_ kk_ => XS.l2dS X.here hx rfl (hb hby at_25) rfl rfl kk_) ?_
    show Go p.tables e below (T.setTop (mkF m 26 #[.val (.int p0), .val (.int p1), .val (.int p2), .val (.int p3), .val (.long a), .second, .val (.long e'), .second, .val (.long k), .second, .val (.int (0 : Int32)), .unset, .unset, .unset, .unset, .unset, .unset, .unset, .unset, .unset, .unset, .unset, .unset] [(.double (FP.l2d a))])) _
    refine Go.by (fun tt_ kk_ => XS.dstore X.here hx rfl (hb hby at_26) rfl (l' := #[.val (.int p0), .val (.int p1), .val (.int p2), .val (.int p3), .val (.long a), .second, .val (.long e'), .second, .val (.long k), .second, .val (.int (0 : Int32)), .val (.double (FP.l2d a)), .second, .unset, .unset, .unset, .unset, .unset, .unset, .unset, .unset, .unset, .unset]) rfl kk_) ?_
    show Go p.tables e below (T.setTop (mkF m 28 #[.val (.int p0), .val (.int p1), .val (.int p2), .val (.int p3), .val (.long a), .second, .val (.long e'), .second, .val (.long k), .second, .val (.int (0 : Int32)), .val (.double (FP.l2d a)), .second, .unset, .unset, .unset, .unset, .unset, .unset, .unset, .unset, .unset, .unset] [])) _
    refine Go.by (fun tt_ kk_ => XS.lload X.here hx rfl (hb hby at_28) rfl kk_) ?_
    show Go p.tables e below (T.setTop (mkF m 30 #[.val (.int p0), .val (.int p1), .val (.int p2), .val (.int p3), .val (.long a), .second, .val (.long e'), .second, .val (.long k), .second, .val (.int (0 : Int32)), .val (.double (FP.l2d a)), .second, .unset, .unset, .unset, .unset, .unset, .unset, .unset, .unset, .unset, .unset] [(.long a)])) _
    refine Go.by (fun tt_ kk_ => XS.lload X.here hx rfl (hb hby at_30) rfl kk_) ?_
    show Go p.tables e below (T.setTop (mkF m 32 #[.val (.int p0), .val (.int p1), .val (.int p2), .val (.int p3), .val (.long a), .second, .val (.long e'), .second, .val (.long k), .second, .val (.int (0 : Int32)), .val (.double (FP.l2d a)), .second, .unset, .unset, .unset, .unset, .unset, .unset, .unset, .unset, .unset, .unset] [(.long e'), (.long a)])) _
    refine Go.by (fun tt_ kk_ => XS.ladd X.here hx rfl (hb hby at_32) rfl kk_) ?_
    show Go p.tables e below (T.setTop (mkF m 33 #[.val (.int p0), .val (.int p1), .val (.int p2), .val (.int p3), .val (.long a), .second, .val (.long e'), .second, .val (.long k), .second, .val (.int (0 : Int32)), .val (.double (FP.l2d a)), .second, .unset, .unset, .unset, .unset, .unset, .unset, .unset, .unset, .unset, .unset] [(.long (a + e'))])) _
    obtain ⟨ae, e_ae⟩ : ∃ z, z = (a + e') := ⟨_, rfl⟩
    rw [← e_ae]
    show Go p.tables e below (T.setTop (mkF m 33 #[.val (.int p0), .val (.int p1), .val (.int p2), .val (.int p3), .val (.long a), .second, .val (.long e'), .second, .val (.long k), .second, .val (.int (0 : Int32)), .val (.double (FP.l2d a)), .second, .unset, .unset, .unset, .unset, .unset, .unset, .unset, .unset, .unset, .unset] [(.long ae)])) _
    have b_ae : ae.toInt = a.toInt + e'.toInt := by rw [e_ae]; exact FP.Core.int64_add (by omega) (by omega)
    refine Go.by (fun tt_ kk_ => XS.l2dS X.here hx rfl (hb hby at_33) rfl rfl kk_) ?_
    show Go p.tables e below (T.setTop (mkF m 34 #[.val (.int p0), .val (.int p1), .val (.int p2), .val (.int p3), .val (.long a), .second, .val (.long e'), .second, .val (.long k), .second, .val (.int (0 : Int32)), .val (.double (FP.l2d a)), .second, .unset, .unset, .unset, .unset, .unset, .unset, .unset, .unset, .unset, .unset] [(.double (FP.l2d ae))])) _
    refine Go.by (fun tt_ kk_ => XS.dstore X.here hx rfl (hb hby at_34) rfl (l' := #[.val (.int p0), .val (.int p1), .val (.int p2), .val (.int p3), .val (.long a), .second, .val (.long e'), .second, .val (.long k), .second, .val (.int (0 : Int32)), .val (.double (FP.l2d a)), .second, .val (.double (FP.l2d ae)), .second, .unset, .unset, .unset, .unset, .unset, .unset, .unset, .unset]) rfl kk_) ?_
    show Go p.tables e below (T.setTop (mkF m 36 #[.val (.int p0), .val (.int p1), .val (.int p2), .val (.int p3), .val (.long a), .second, .val (.long e'), .second, .val (.long k), .second, .val (.int (0 : Int32)), .val (.double (FP.l2d a)), .second, .val (.double (FP.l2d ae)), .second, .unset, .unset, .unset, .unset, .unset, .unset, .unset, .unset] [])) _
    refine Go.by (X.ldc2Long hx hown (mvT hZ (hw _ (List.mem_of_getElem? (i := 0) rfl))) (g := (mkF m 36 #[.val (.int p0), .val (.int p1), .val (.int p2), .val (.int p3), .val (.long a), .second, .val (.long e'), .second, .val (.long k), .second, .val (.int (0 : Int32)), .val (.double (FP.l2d a)), .second, .val (.double (FP.l2d ae)), .second, .unset, .unset, .unset, .unset, .unset, .unset, .unset, .unset] [])) rfl (hb hby at_36)) ?_
    show Go p.tables e below (T.setTop (mkF m 39 #[.val (.int p0), .val (.int p1), .val (.int p2), .val (.int p3), .val (.long a), .second, .val (.long e'), .second, .val (.long k), .second, .val (.int (0 : Int32)), .val (.double (FP.l2d a)), .second, .val (.double (FP.l2d ae)), .second, .unset, .unset, .unset, .unset, .unset, .unset, .unset, .unset] [(.long (2 : Int64))])) _
    refine Go.by (fun tt_ kk_ => XS.lload X.here hx rfl (hb hby at_39) rfl kk_) ?_
    show Go p.tables e below (T.setTop (mkF m 41 #[.val (.int p0), .val (.int p1), .val (.int p2), .val (.int p3), .val (.long a), .second, .val (.long e'), .second, .val (.long k), .second, .val (.int (0 : Int32)), .val (.double (FP.l2d a)), .second, .val (.double (FP.l2d ae)), .second, .unset, .unset, .unset, .unset, .unset, .unset, .unset, .unset] [(.long a), (.long (2 : Int64))])) _
    refine Go.by (fun tt_ kk_ => XS.lmul X.here hx rfl (hb hby at_41) rfl kk_) ?_
    show Go p.tables e below (T.setTop (mkF m 42 #[.val (.int p0), .val (.int p1), .val (.int p2), .val (.int p3), .val (.long a), .second, .val (.long e'), .second, .val (.long k), .second, .val (.int (0 : Int32)), .val (.double (FP.l2d a)), .second, .val (.double (FP.l2d ae)), .second, .unset, .unset, .unset, .unset, .unset, .unset, .unset, .unset] [(.long ((2 : Int64) * a))])) _
    refine Go.by (fun tt_ kk_ => XS.lload X.here hx rfl (hb hby at_42) rfl kk_) ?_
    show Go p.tables e below (T.setTop (mkF m 44 #[.val (.int p0), .val (.int p1), .val (.int p2), .val (.int p3), .val (.long a), .second, .val (.long e'), .second, .val (.long k), .second, .val (.int (0 : Int32)), .val (.double (FP.l2d a)), .second, .val (.double (FP.l2d ae)), .second, .unset, .unset, .unset, .unset, .unset, .unset, .unset, .unset] [(.long e'), (.long ((2 : Int64) * a))])) _
    refine Go.by (fun tt_ kk_ => XS.ladd X.here hx rfl (hb hby at_44) rfl kk_) ?_
    show Go p.tables e below (T.setTop (mkF m 45 #[.val (.int p0), .val (.int p1), .val (.int p2), .val (.int p3), .val (.long a), .second, .val (.long e'), .second, .val (.long k), .second, .val (.int (0 : Int32)), .val (.double (FP.l2d a)), .second, .val (.double (FP.l2d ae)), .second, .unset, .unset, .unset, .unset, .unset, .unset, .unset, .unset] [(.long (((2 : Int64) * a) + e'))])) _
    refine Go.by (X.ldc2Long hx hown (mvT hZ (hw _ (List.mem_of_getElem? (i := 1) rfl))) (g := (mkF m 45 #[.val (.int p0), .val (.int p1), .val (.int p2), .val (.int p3), .val (.long a), .second, .val (.long e'), .second, .val (.long k), .second, .val (.int (0 : Int32)), .val (.double (FP.l2d a)), .second, .val (.double (FP.l2d ae)), .second, .unset, .unset, .unset, .unset, .unset, .unset, .unset, .unset] [(.long (((2 : Int64) * a) + e'))])) rfl (hb hby at_45)) ?_
    show Go p.tables e below (T.setTop (mkF m 48 #[.val (.int p0), .val (.int p1), .val (.int p2), .val (.int p3), .val (.long a), .second, .val (.long e'), .second, .val (.long k), .second, .val (.int (0 : Int32)), .val (.double (FP.l2d a)), .second, .val (.double (FP.l2d ae)), .second, .unset, .unset, .unset, .unset, .unset, .unset, .unset, .unset] [(.long (6 : Int64)), (.long (((2 : Int64) * a) + e'))])) _
    refine Go.by (fun tt_ kk_ => XS.lload X.here hx rfl (hb hby at_48) rfl kk_) ?_
    show Go p.tables e below (T.setTop (mkF m 50 #[.val (.int p0), .val (.int p1), .val (.int p2), .val (.int p3), .val (.long a), .second, .val (.long e'), .second, .val (.long k), .second, .val (.int (0 : Int32)), .val (.double (FP.l2d a)), .second, .val (.double (FP.l2d ae)), .second, .unset, .unset, .unset, .unset, .unset, .unset, .unset, .unset] [(.long k), (.long (6 : Int64)), (.long (((2 : Int64) * a) + e'))])) _
    refine Go.by (fun tt_ kk_ => XS.lmul X.here hx rfl (hb hby at_50) rfl kk_) ?_
    show Go p.tables e below (T.setTop (mkF m 51 #[.val (.int p0), .val (.int p1), .val (.int p2), .val (.int p3), .val (.long a), .second, .val (.long e'), .second, .val (.long k), .second, .val (.int (0 : Int32)), .val (.double (FP.l2d a)), .second, .val (.double (FP.l2d ae)), .second, .unset, .unset, .unset, .unset, .unset, .unset, .unset, .unset] [(.long ((6 : Int64) * k)), (.long (((2 : Int64) * a) + e'))])) _
    refine Go.by (fun tt_ kk_ => XS.ladd X.here hx rfl (hb hby at_51) rfl kk_) ?_
    show Go p.tables e below (T.setTop (mkF m 52 #[.val (.int p0), .val (.int p1), .val (.int p2), .val (.int p3), .val (.long a), .second, .val (.long e'), .second, .val (.long k), .second, .val (.int (0 : Int32)), .val (.double (FP.l2d a)), .second, .val (.double (FP.l2d ae)), .second, .unset, .unset, .unset, .unset, .unset, .unset, .unset, .unset] [(.long ((((2 : Int64) * a) + e') + ((6 : Int64) * k)))])) _
    obtain ⟨vl, e_vl⟩ : ∃ z, z = ((((2 : Int64) * a) + e') + ((6 : Int64) * k)) := ⟨_, rfl⟩
    rw [← e_vl]
    show Go p.tables e below (T.setTop (mkF m 52 #[.val (.int p0), .val (.int p1), .val (.int p2), .val (.int p3), .val (.long a), .second, .val (.long e'), .second, .val (.long k), .second, .val (.int (0 : Int32)), .val (.double (FP.l2d a)), .second, .val (.double (FP.l2d ae)), .second, .unset, .unset, .unset, .unset, .unset, .unset, .unset, .unset] [(.long vl)])) _
    have l1 : ((2 : Int64) * a).toInt = 2 * a.toInt := FP.Core.int64_mul (by rw [show (2 : Int64).toInt = 2 by decide]; omega) (by rw [show (2 : Int64).toInt = 2 by decide]; omega)
    have l2 : ((2 : Int64) * a + e').toInt = 2 * a.toInt + e'.toInt := by rw [FP.Core.int64_add (by rw [l1]; omega) (by rw [l1]; omega), l1]
    have l3 : ((6 : Int64) * k).toInt = 6 * k.toInt := FP.Core.int64_mul (by rw [show (6 : Int64).toInt = 6 by decide]; omega) (by rw [show (6 : Int64).toInt = 6 by decide]; omega)
    have b_vl : vl.toInt = 2 * a.toInt + e'.toInt + 6 * k.toInt := by rw [e_vl, FP.Core.int64_add (by rw [l2, l3]; omega) (by rw [l2, l3]; omega), l2, l3]
    refine Go.by (fun tt_ kk_ => XS.l2dS X.here hx rfl (hb hby at_52) rfl rfl kk_) ?_
    show Go p.tables e below (T.setTop (mkF m 53 #[.val (.int p0), .val (.int p1), .val (.int p2), .val (.int p3), .val (.long a), .second, .val (.long e'), .second, .val (.long k), .second, .val (.int (0 : Int32)), .val (.double (FP.l2d a)), .second, .val (.double (FP.l2d ae)), .second, .unset, .unset, .unset, .unset, .unset, .unset, .unset, .unset] [(.double (FP.l2d vl))])) _
    refine Go.by (X.ldc2DoubleC hx hown (mvT hZ (hw _ (List.mem_of_getElem? (i := 2) rfl))) (g := (mkF m 53 #[.val (.int p0), .val (.int p1), .val (.int p2), .val (.int p3), .val (.long a), .second, .val (.long e'), .second, .val (.long k), .second, .val (.int (0 : Int32)), .val (.double (FP.l2d a)), .second, .val (.double (FP.l2d ae)), .second, .unset, .unset, .unset, .unset, .unset, .unset, .unset, .unset] [(.double (FP.l2d vl))])) rfl (hb hby at_53)) ?_
    show Go p.tables e below (T.setTop (mkF m 56 #[.val (.int p0), .val (.int p1), .val (.int p2), .val (.int p3), .val (.long a), .second, .val (.long e'), .second, .val (.long k), .second, .val (.int (0 : Int32)), .val (.double (FP.l2d a)), .second, .val (.double (FP.l2d ae)), .second, .unset, .unset, .unset, .unset, .unset, .unset, .unset, .unset] [(.double (4611686018427387904 : UInt64)), (.double (FP.l2d vl))])) _
    obtain ⟨vc, e_vc⟩ : ∃ z, z = FP.ddiv (FP.l2d vl) (4611686018427387904 : UInt64) := ⟨_, rfl⟩
    have d_vc : Dy (2 * a.toInt + e'.toInt + 6 * k.toInt) (-1) vc := by rw [e_vc]; exact Dy.div (k := 2 * a.toInt + e'.toInt + 6 * k.toInt) (j := 1) (e := 0) (g := 1) (by rw [Int.mul_one]; exact (Dy.l2d (by omega)).cast b_vl rfl) own_two (by decide) (by omega) (by decide) (by decide)
    refine Go.by (fun tt_ kk_ => XS.ddivS X.here hx rfl (hb hby at_56) rfl (e_vc ▸ d_vc.noNaN) e_vc.symm kk_) ?_
    show Go p.tables e below (T.setTop (mkF m 57 #[.val (.int p0), .val (.int p1), .val (.int p2), .val (.int p3), .val (.long a), .second, .val (.long e'), .second, .val (.long k), .second, .val (.int (0 : Int32)), .val (.double (FP.l2d a)), .second, .val (.double (FP.l2d ae)), .second, .unset, .unset, .unset, .unset, .unset, .unset, .unset, .unset] [(.double vc)])) _
    refine Go.by (fun tt_ kk_ => XS.dstore X.here hx rfl (hb hby at_57) rfl (l' := #[.val (.int p0), .val (.int p1), .val (.int p2), .val (.int p3), .val (.long a), .second, .val (.long e'), .second, .val (.long k), .second, .val (.int (0 : Int32)), .val (.double (FP.l2d a)), .second, .val (.double (FP.l2d ae)), .second, .val (.double vc), .second, .unset, .unset, .unset, .unset, .unset, .unset]) rfl kk_) ?_
    show Go p.tables e below (T.setTop (mkF m 59 #[.val (.int p0), .val (.int p1), .val (.int p2), .val (.int p3), .val (.long a), .second, .val (.long e'), .second, .val (.long k), .second, .val (.int (0 : Int32)), .val (.double (FP.l2d a)), .second, .val (.double (FP.l2d ae)), .second, .val (.double vc), .second, .unset, .unset, .unset, .unset, .unset, .unset] [])) _
    obtain ⟨T, h1, X, eT, E_, A_, D_, -, st⟩ := newO X hx hZ hown (hw _ (List.mem_of_getElem? (i := 3) rfl)) (hw _ (List.mem_of_getElem? (i := 4) rfl)) (hw _ (List.mem_of_getElem? (i := 5) rfl)) eT (g := (mkF m 59 #[.val (.int p0), .val (.int p1), .val (.int p2), .val (.int p3), .val (.long a), .second, .val (.long e'), .second, .val (.long k), .second, .val (.int (0 : Int32)), .val (.double (FP.l2d a)), .second, .val (.double (FP.l2d ae)), .second, .val (.double vc), .second, .unset, .unset, .unset, .unset, .unset, .unset] [])) rfl (hb hby at_59) (by decide) (by decide)
    obtain ⟨b1, g_b1'⟩ : ∃ z, z = h0.size := ⟨_, rfl⟩
    rw [← g_b1'] at A_ D_ st
    have g_b1 : n0 ≤ b1 := Nat.le_trans Z0 (Nat.le_trans K.1 (Nat.le_of_eq g_b1'.symm))
    have sz_b1 : h0.size ≤ b1 := Nat.le_trans K.1 (Nat.le_of_eq g_b1'.symm)
    have K := K.ext E_
    have E_b1 := A_
    have F_count_b1 : Fld Z h1 b1 "com/example/bogong/bogong/stats/Tally" "count" "J" (.long (0 : Int64)) := D_ (Or.inl (hw _ (List.mem_of_getElem? (i := 18) rfl))) (ty := .long) (by decide)
    have F_sum_b1 : Fld Z h1 b1 "com/example/bogong/bogong/stats/Tally" "sum" "D" (.double (0 : UInt64)) := D_ (Or.inl (hw _ (List.mem_of_getElem? (i := 20) rfl))) (ty := .double) (by decide)
    have F_mean_b1 : Fld Z h1 b1 "com/example/bogong/bogong/stats/Tally" "mean" "D" (.double (0 : UInt64)) := D_ (Or.inl (hw _ (List.mem_of_getElem? (i := 22) rfl))) (ty := .double) (by decide)
    have F_squaredDeviations_b1 : Fld Z h1 b1 "com/example/bogong/bogong/stats/Tally" "squaredDeviations" "D" (.double (0 : UInt64)) := D_ (Or.inl (hw _ (List.mem_of_getElem? (i := 24) rfl))) (ty := .double) (by decide)
    refine Go.by st ?_
    show Go p.tables e below (T.setTop (mkF m 62 #[.val (.int p0), .val (.int p1), .val (.int p2), .val (.int p3), .val (.long a), .second, .val (.long e'), .second, .val (.long k), .second, .val (.int (0 : Int32)), .val (.double (FP.l2d a)), .second, .val (.double (FP.l2d ae)), .second, .val (.double vc), .second, .unset, .unset, .unset, .unset, .unset, .unset] [(.ref b1)])) _
    refine Go.by (fun tt_ kk_ => XS.dup X.here hx rfl (hb hby at_62) rfl rfl kk_) ?_
    show Go p.tables e below (T.setTop (mkF m 63 #[.val (.int p0), .val (.int p1), .val (.int p2), .val (.int p3), .val (.long a), .second, .val (.long e'), .second, .val (.long k), .second, .val (.int (0 : Int32)), .val (.double (FP.l2d a)), .second, .val (.double (FP.l2d ae)), .second, .val (.double vc), .second, .unset, .unset, .unset, .unset, .unset, .unset] [(.ref b1), (.ref b1)])) _
    obtain ⟨_, _, ⟨T, L_, k_, n_⟩, -, X, ⟨Lc_, hQ, l_, y_, z_⟩, st⟩ := X.specialBack hx (y := (⟨"com/example/bogong/bogong/stats/Tally", "<init>", "()V"⟩ : MethodName)) rfl hown (mvT hZ (hw _ (List.mem_of_getElem? (i := 6) rfl))) (mvT hZ (hw _ (List.mem_of_getElem? (i := 7) rfl))) (mvT hZ (hw _ (List.mem_of_getElem? (i := 8) rfl))) (by decide) (backOf (W := 1) (rm1 l Z a0 hw [] b1 h1 n0 (Nat.le_trans Z0 K.1) ) hZ (hw _ (List.mem_of_getElem? (i := 8) rfl)) (hw _ (List.mem_of_getElem? (i := 5) rfl)) (by decide) (by decide)) (g := (mkF m 63 #[.val (.int p0), .val (.int p1), .val (.int p2), .val (.int p3), .val (.long a), .second, .val (.long e'), .second, .val (.long k), .second, .val (.int (0 : Int32)), .val (.double (FP.l2d a)), .second, .val (.double (FP.l2d ae)), .second, .val (.double vc), .second, .unset, .unset, .unset, .unset, .unset, .unset] [(.ref b1), (.ref b1)])) rfl (by rw [hml]; rfl) (Steps.refl _) (a := b1) (argsL := []) (rest := [(.ref b1)]) (lenOf pd_0 rfl) rfl (by show 2 * 0 + _ ≤ _; exact Nat.le_of_eq rfl) (hb hby at_63) (fun _ _ => ⟨rfl, eT, (by decide : 1 + 0 ≤ _), (by decide : 4 + 0 ≤ _)⟩)
    dsimp only [Pt.U, Pt.locs, Pt.cells, Pt.slots] at X l_ y_ z_ st hQ
    subst l_ y_ z_
    obtain ⟨rfl, Nq, eh⟩ := hQ
    have N := Fr.app N Nq
    have eT := eh
    refine Go.tr st ?_
    show Go p.tables e below (T.setTop (mkF m 66 #[.val (.int p0), .val (.int p1), .val (.int p2), .val (.int p3), .val (.long a), .second, .val (.long e'), .second, .val (.long k), .second, .val (.int (0 : Int32)), .val (.double (FP.l2d a)), .second, .val (.double (FP.l2d ae)), .second, .val (.double vc), .second, .unset, .unset, .unset, .unset, .unset, .unset] [(.ref b1)])) _
    refine Go.by (fun tt_ kk_ => XS.astore X.here hx rfl (hb hby at_66) rfl rfl (l' := #[.val (.int p0), .val (.int p1), .val (.int p2), .val (.int p3), .val (.long a), .second, .val (.long e'), .second, .val (.long k), .second, .val (.int (0 : Int32)), .val (.double (FP.l2d a)), .second, .val (.double (FP.l2d ae)), .second, .val (.double vc), .second, .val (.ref b1), .unset, .unset, .unset, .unset, .unset]) rfl kk_) ?_
    show Go p.tables e below (T.setTop (mkF m 68 #[.val (.int p0), .val (.int p1), .val (.int p2), .val (.int p3), .val (.long a), .second, .val (.long e'), .second, .val (.long k), .second, .val (.int (0 : Int32)), .val (.double (FP.l2d a)), .second, .val (.double (FP.l2d ae)), .second, .val (.double vc), .second, .val (.ref b1), .unset, .unset, .unset, .unset, .unset] [])) _
    refine Go.by (fun tt_ kk_ => XS.iload X.here hx rfl (hb hby at_68) rfl kk_) ?_
    show Go p.tables e below (T.setTop (mkF m 70 #[.val (.int p0), .val (.int p1), .val (.int p2), .val (.int p3), .val (.long a), .second, .val (.long e'), .second, .val (.long k), .second, .val (.int (0 : Int32)), .val (.double (FP.l2d a)), .second, .val (.double (FP.l2d ae)), .second, .val (.double vc), .second, .val (.ref b1), .unset, .unset, .unset, .unset, .unset] [(.int (0 : Int32))])) _
    refine Go.by (fun tt_ kk_ => XS.iconst X.here hx rfl (hb hby at_70) kk_) ?_
    show Go p.tables e below (T.setTop (mkF m 71 #[.val (.int p0), .val (.int p1), .val (.int p2), .val (.int p3), .val (.long a), .second, .val (.long e'), .second, .val (.long k), .second, .val (.int (0 : Int32)), .val (.double (FP.l2d a)), .second, .val (.double (FP.l2d ae)), .second, .val (.double vc), .second, .val (.ref b1), .unset, .unset, .unset, .unset, .unset] [(.int (1 : Int32)), (.int (0 : Int32))])) _
    refine Go.by (fun tt_ kk_ => XS.icmpYes X.here hx rfl (pc0 := 71) (pc' := 81) rfl (hb hby at_71) rfl (tlt (by decide : (0 : Int32) < (1 : Int32))).1 (by decide) (by decide) kk_) ?_
    show Go p.tables e below (T.setTop (mkF m 81 #[.val (.int p0), .val (.int p1), .val (.int p2), .val (.int p3), .val (.long a), .second, .val (.long e'), .second, .val (.long k), .second, .val (.int (0 : Int32)), .val (.double (FP.l2d a)), .second, .val (.double (FP.l2d ae)), .second, .val (.double vc), .second, .val (.ref b1), .unset, .unset, .unset, .unset, .unset] [])) _
    refine Go.by (fun tt_ kk_ => XS.iload X.here hx rfl (hb hby at_81) rfl kk_) ?_
    show Go p.tables e below (T.setTop (mkF m 83 #[.val (.int p0), .val (.int p1), .val (.int p2), .val (.int p3), .val (.long a), .second, .val (.long e'), .second, .val (.long k), .second, .val (.int (0 : Int32)), .val (.double (FP.l2d a)), .second, .val (.double (FP.l2d ae)), .second, .val (.double vc), .second, .val (.ref b1), .unset, .unset, .unset, .unset, .unset] [(.int (0 : Int32))])) _
    refine Go.by (fun tt_ kk_ => XS.iconst X.here hx rfl (hb hby at_83) kk_) ?_
    show Go p.tables e below (T.setTop (mkF m 84 #[.val (.int p0), .val (.int p1), .val (.int p2), .val (.int p3), .val (.long a), .second, .val (.long e'), .second, .val (.long k), .second, .val (.int (0 : Int32)), .val (.double (FP.l2d a)), .second, .val (.double (FP.l2d ae)), .second, .val (.double vc), .second, .val (.ref b1), .unset, .unset, .unset, .unset, .unset] [(.int (2 : Int32)), (.int (0 : Int32))])) _
    refine Go.by (fun tt_ kk_ => XS.icmpYes X.here hx rfl (pc0 := 84) (pc' := 94) rfl (hb hby at_84) rfl (tlt (by decide : (0 : Int32) < (2 : Int32))).1 (by decide) (by decide) kk_) ?_
    show Go p.tables e below (T.setTop (mkF m 94 #[.val (.int p0), .val (.int p1), .val (.int p2), .val (.int p3), .val (.long a), .second, .val (.long e'), .second, .val (.long k), .second, .val (.int (0 : Int32)), .val (.double (FP.l2d a)), .second, .val (.double (FP.l2d ae)), .second, .val (.double vc), .second, .val (.ref b1), .unset, .unset, .unset, .unset, .unset] [])) _
    refine Go.by (fun tt_ kk_ => XS.iload X.here hx rfl (hb hby at_94) rfl kk_) ?_
    show Go p.tables e below (T.setTop (mkF m 96 #[.val (.int p0), .val (.int p1), .val (.int p2), .val (.int p3), .val (.long a), .second, .val (.long e'), .second, .val (.long k), .second, .val (.int (0 : Int32)), .val (.double (FP.l2d a)), .second, .val (.double (FP.l2d ae)), .second, .val (.double vc), .second, .val (.ref b1), .unset, .unset, .unset, .unset, .unset] [(.int (0 : Int32))])) _
    refine Go.by (fun tt_ kk_ => XS.iconst X.here hx rfl (hb hby at_96) kk_) ?_
    show Go p.tables e below (T.setTop (mkF m 97 #[.val (.int p0), .val (.int p1), .val (.int p2), .val (.int p3), .val (.long a), .second, .val (.long e'), .second, .val (.long k), .second, .val (.int (0 : Int32)), .val (.double (FP.l2d a)), .second, .val (.double (FP.l2d ae)), .second, .val (.double vc), .second, .val (.ref b1), .unset, .unset, .unset, .unset, .unset] [(.int (3 : Int32)), (.int (0 : Int32))])) _
    refine Go.by (fun tt_ kk_ => XS.icmpYes X.here hx rfl (pc0 := 97) (pc' := 107) rfl (hb hby at_97) rfl (tlt (by decide : (0 : Int32) < (3 : Int32))).1 (by decide) (by decide) kk_) ?_
    show Go p.tables e below (T.setTop (mkF m 107 #[.val (.int p0), .val (.int p1), .val (.int p2), .val (.int p3), .val (.long a), .second, .val (.long e'), .second, .val (.long k), .second, .val (.int (0 : Int32)), .val (.double (FP.l2d a)), .second, .val (.double (FP.l2d ae)), .second, .val (.double vc), .second, .val (.ref b1), .unset, .unset, .unset, .unset, .unset] [])) _
    refine Go.by (fun tt_ kk_ => XS.aload X.here hx rfl (hb hby at_107) rfl rfl kk_) ?_
    show Go p.tables e below (T.setTop (mkF m 109 #[.val (.int p0), .val (.int p1), .val (.int p2), .val (.int p3), .val (.long a), .second, .val (.long e'), .second, .val (.long k), .second, .val (.int (0 : Int32)), .val (.double (FP.l2d a)), .second, .val (.double (FP.l2d ae)), .second, .val (.double vc), .second, .val (.ref b1), .unset, .unset, .unset, .unset, .unset] [(.ref b1)])) _
    obtain ⟨cq_, kq_, qa_, qb_, qc_⟩ := isOf hZ eT E_b1
    obtain ⟨_, _, ⟨T, L_, k_, n_⟩, -, X, ⟨Lc_, hQ, l_, y_, z_⟩, st⟩ := X.virtualBack hx (y := (⟨"com/example/bogong/bogong/stats/Tally", "sample", "()Lcom/example/bogong/bogong/stats/Sample;"⟩ : MethodName)) (z := (⟨"com/example/bogong/bogong/stats/Tally", "sample", "()Lcom/example/bogong/bogong/stats/Sample;"⟩ : MethodName)) hown (mvT hZ (hw _ (List.mem_of_getElem? (i := 25) rfl))) (mvT hZ (hw _ (List.mem_of_getElem? (i := 26) rfl))) (notFace_of_selects (args := #[]) (mvT hZ (hw _ (List.mem_of_getElem? (i := 28) rfl)))) (mvT hZ (hw _ (List.mem_of_getElem? (i := 28) rfl))) (mvT hZ (hw _ (List.mem_of_getElem? (i := 27) rfl))) (by decide) (backOf (W := 0) (rm4 l Z a0 hw [] b1 (0 : Int64) (0 : UInt64) (0 : UInt64) h1 n0 (Nat.le_trans Z0 K.1) F_count_b1 F_sum_b1 F_squaredDeviations_b1) hZ (hw _ (List.mem_of_getElem? (i := 29) rfl)) (hw _ (List.mem_of_getElem? (i := 5) rfl)) (by decide) (by decide)) qa_ qc_ (g := (mkF m 109 #[.val (.int p0), .val (.int p1), .val (.int p2), .val (.int p3), .val (.long a), .second, .val (.long e'), .second, .val (.long k), .second, .val (.int (0 : Int32)), .val (.double (FP.l2d a)), .second, .val (.double (FP.l2d ae)), .second, .val (.double vc), .second, .val (.ref b1), .unset, .unset, .unset, .unset, .unset] [(.ref b1)])) rfl (by rw [hml]; rfl) (Steps.refl _) (argsL := []) (rest := []) (lenOf pd_2 rfl) rfl (by show 2 * 0 + _ ≤ _; exact Nat.le_of_eq rfl) (hb hby at_109) (fun _ _ => ⟨rfl, eT, (by decide : 1 + 1 ≤ _), (by decide : 4 + 3 ≤ _)⟩)
    dsimp only [Pt.U, Pt.locs, Pt.cells, Pt.slots] at X l_ y_ z_ st hQ
    subst l_ y_ z_
    obtain ⟨h4, eT⟩ : ∃ z, T.heap = z := ⟨_, rfl⟩
    rw [eT] at hQ
    obtain ⟨b3, g_b3, sq_b3, rfl, Nq, Kq, E_b3, F_count_b3, F_sum_b3, F_squaredDeviations_b3⟩ := hQ
    have N := Fr.app N Nq
    have E_b1 := Exa.keep E_b1 Kq
    have F_count_b1 := Fld.keep F_count_b1 Kq nin0
    have F_sum_b1 := Fld.keep F_sum_b1 Kq nin0
    have F_mean_b1 := Fld.keep F_mean_b1 Kq nin0
    have F_squaredDeviations_b1 := Fld.keep F_squaredDeviations_b1 Kq nin0
    have K := K.trans Kq all0
    refine Go.tr st ?_
    show Go p.tables e below (T.setTop (mkF m 112 #[.val (.int p0), .val (.int p1), .val (.int p2), .val (.int p3), .val (.long a), .second, .val (.long e'), .second, .val (.long k), .second, .val (.int (0 : Int32)), .val (.double (FP.l2d a)), .second, .val (.double (FP.l2d ae)), .second, .val (.double vc), .second, .val (.ref b1), .unset, .unset, .unset, .unset, .unset] [(.ref b3)])) _
    refine Go.by (fun tt_ kk_ => XS.astore X.here hx rfl (hb hby at_112) rfl rfl (l' := #[.val (.int p0), .val (.int p1), .val (.int p2), .val (.int p3), .val (.long a), .second, .val (.long e'), .second, .val (.long k), .second, .val (.int (0 : Int32)), .val (.double (FP.l2d a)), .second, .val (.double (FP.l2d ae)), .second, .val (.double vc), .second, .val (.ref b1), .val (.ref b3), .unset, .unset, .unset, .unset]) rfl kk_) ?_
    show Go p.tables e below (T.setTop (mkF m 114 #[.val (.int p0), .val (.int p1), .val (.int p2), .val (.int p3), .val (.long a), .second, .val (.long e'), .second, .val (.long k), .second, .val (.int (0 : Int32)), .val (.double (FP.l2d a)), .second, .val (.double (FP.l2d ae)), .second, .val (.double vc), .second, .val (.ref b1), .val (.ref b3), .unset, .unset, .unset, .unset] [])) _
    refine Go.by (fun tt_ kk_ => XS.iload X.here hx rfl (hb hby at_114) rfl kk_) ?_
    show Go p.tables e below (T.setTop (mkF m 116 #[.val (.int p0), .val (.int p1), .val (.int p2), .val (.int p3), .val (.long a), .second, .val (.long e'), .second, .val (.long k), .second, .val (.int (0 : Int32)), .val (.double (FP.l2d a)), .second, .val (.double (FP.l2d ae)), .second, .val (.double vc), .second, .val (.ref b1), .val (.ref b3), .unset, .unset, .unset, .unset] [(.int (0 : Int32))])) _
    refine Go.by (fun tt_ kk_ => XS.ifNo X.here hx rfl (hb hby at_116) rfl ((if0 _ _).trans (teq (rfl : (0 : Int32) = (0 : Int32))).2) kk_) ?_
    show Go p.tables e below (T.setTop (mkF m 119 #[.val (.int p0), .val (.int p1), .val (.int p2), .val (.int p3), .val (.long a), .second, .val (.long e'), .second, .val (.long k), .second, .val (.int (0 : Int32)), .val (.double (FP.l2d a)), .second, .val (.double (FP.l2d ae)), .second, .val (.double vc), .second, .val (.ref b1), .val (.ref b3), .unset, .unset, .unset, .unset] [])) _
    refine Go.by (fun tt_ kk_ => XS.dconst0 X.here hx rfl (hb hby at_119) (v := (0 : UInt64)) rfl kk_) ?_
    show Go p.tables e below (T.setTop (mkF m 120 #[.val (.int p0), .val (.int p1), .val (.int p2), .val (.int p3), .val (.long a), .second, .val (.long e'), .second, .val (.long k), .second, .val (.int (0 : Int32)), .val (.double (FP.l2d a)), .second, .val (.double (FP.l2d ae)), .second, .val (.double vc), .second, .val (.ref b1), .val (.ref b3), .unset, .unset, .unset, .unset] [(.double (0 : UInt64))])) _
    refine Go.by (fun tt_ kk_ => XS.dstore X.here hx rfl (hb hby at_120) rfl (l' := #[.val (.int p0), .val (.int p1), .val (.int p2), .val (.int p3), .val (.long a), .second, .val (.long e'), .second, .val (.long k), .second, .val (.int (0 : Int32)), .val (.double (FP.l2d a)), .second, .val (.double (FP.l2d ae)), .second, .val (.double vc), .second, .val (.ref b1), .val (.ref b3), .val (.double (0 : UInt64)), .second, .unset, .unset]) rfl kk_) ?_
    show Go p.tables e below (T.setTop (mkF m 122 #[.val (.int p0), .val (.int p1), .val (.int p2), .val (.int p3), .val (.long a), .second, .val (.long e'), .second, .val (.long k), .second, .val (.int (0 : Int32)), .val (.double (FP.l2d a)), .second, .val (.double (FP.l2d ae)), .second, .val (.double vc), .second, .val (.ref b1), .val (.ref b3), .val (.double (0 : UInt64)), .second, .unset, .unset] [])) _
    refine Go.by (fun tt_ kk_ => XS.dconst0 X.here hx rfl (hb hby at_122) (v := (0 : UInt64)) rfl kk_) ?_
    show Go p.tables e below (T.setTop (mkF m 123 #[.val (.int p0), .val (.int p1), .val (.int p2), .val (.int p3), .val (.long a), .second, .val (.long e'), .second, .val (.long k), .second, .val (.int (0 : Int32)), .val (.double (FP.l2d a)), .second, .val (.double (FP.l2d ae)), .second, .val (.double vc), .second, .val (.ref b1), .val (.ref b3), .val (.double (0 : UInt64)), .second, .unset, .unset] [(.double (0 : UInt64))])) _
    refine Go.by (fun tt_ kk_ => XS.dstore X.here hx rfl (hb hby at_123) rfl (l' := #[.val (.int p0), .val (.int p1), .val (.int p2), .val (.int p3), .val (.long a), .second, .val (.long e'), .second, .val (.long k), .second, .val (.int (0 : Int32)), .val (.double (FP.l2d a)), .second, .val (.double (FP.l2d ae)), .second, .val (.double vc), .second, .val (.ref b1), .val (.ref b3), .val (.double (0 : UInt64)), .second, .val (.double (0 : UInt64)), .second]) rfl kk_) ?_
    show Go p.tables e below (T.setTop (mkF m 125 #[.val (.int p0), .val (.int p1), .val (.int p2), .val (.int p3), .val (.long a), .second, .val (.long e'), .second, .val (.long k), .second, .val (.int (0 : Int32)), .val (.double (FP.l2d a)), .second, .val (.double (FP.l2d ae)), .second, .val (.double vc), .second, .val (.ref b1), .val (.ref b3), .val (.double (0 : UInt64)), .second, .val (.double (0 : UInt64)), .second] [])) _
    refine Go.by (fun tt_ kk_ => XS.goto X.here hx rfl (pc0 := 125) (pc' := 227) rfl (hb hby at_125) (by decide) (by decide) kk_) ?_
    show Go p.tables e below (T.setTop (mkF m 227 #[.val (.int p0), .val (.int p1), .val (.int p2), .val (.int p3), .val (.long a), .second, .val (.long e'), .second, .val (.long k), .second, .val (.int (0 : Int32)), .val (.double (FP.l2d a)), .second, .val (.double (FP.l2d ae)), .second, .val (.double vc), .second, .val (.ref b1), .val (.ref b3), .val (.double (0 : UInt64)), .second, .val (.double (0 : UInt64)), .second] [])) _
    refine Go.by (fun tt_ kk_ => XS.aload X.here hx rfl (hb hby at_227) rfl rfl kk_) ?_
    show Go p.tables e below (T.setTop (mkF m 229 #[.val (.int p0), .val (.int p1), .val (.int p2), .val (.int p3), .val (.long a), .second, .val (.long e'), .second, .val (.long k), .second, .val (.int (0 : Int32)), .val (.double (FP.l2d a)), .second, .val (.double (FP.l2d ae)), .second, .val (.double vc), .second, .val (.ref b1), .val (.ref b3), .val (.double (0 : UInt64)), .second, .val (.double (0 : UInt64)), .second] [(.ref b3)])) _
    obtain ⟨cq_, kq_, qa_, qb_, qc_⟩ := isOf hZ eT E_b3
    obtain ⟨_, _, ⟨T, L_, k_, n_⟩, -, X, ⟨Lc_, hQ, l_, y_, z_⟩, st⟩ := X.virtualBack hx (y := (⟨"com/example/bogong/bogong/stats/Sample", "count", "()J"⟩ : MethodName)) (z := (⟨"com/example/bogong/bogong/stats/Sample", "count", "()J"⟩ : MethodName)) hown (mvT hZ (hw _ (List.mem_of_getElem? (i := 48) rfl))) (mvT hZ (hw _ (List.mem_of_getElem? (i := 49) rfl))) (notFace_of_selects (args := #[]) (mvT hZ (hw _ (List.mem_of_getElem? (i := 51) rfl)))) (mvT hZ (hw _ (List.mem_of_getElem? (i := 51) rfl))) (mvT hZ (hw _ (List.mem_of_getElem? (i := 50) rfl))) (by decide) (backOf (W := 0) (rm7 l Z a0 hw [] b3 (0 : Int64) h4 n0 (Nat.le_trans Z0 K.1) F_count_b3) hZ (hw _ (List.mem_of_getElem? (i := 52) rfl)) (hw _ (List.mem_of_getElem? (i := 32) rfl)) (by decide) (by decide)) qa_ qc_ (g := (mkF m 229 #[.val (.int p0), .val (.int p1), .val (.int p2), .val (.int p3), .val (.long a), .second, .val (.long e'), .second, .val (.long k), .second, .val (.int (0 : Int32)), .val (.double (FP.l2d a)), .second, .val (.double (FP.l2d ae)), .second, .val (.double vc), .second, .val (.ref b1), .val (.ref b3), .val (.double (0 : UInt64)), .second, .val (.double (0 : UInt64)), .second] [(.ref b3)])) rfl (by rw [hml]; rfl) (Steps.refl _) (argsL := []) (rest := []) (lenOf pd_3 rfl) rfl (by show 2 * 0 + _ ≤ _; exact Nat.le_of_eq rfl) (hb hby at_229) (fun _ _ => ⟨rfl, eT, (by decide : 2 + 0 ≤ _), (by decide : 7 + 0 ≤ _)⟩)
    dsimp only [Pt.U, Pt.locs, Pt.cells, Pt.slots] at X l_ y_ z_ st hQ
    subst l_ y_ z_
    obtain ⟨rfl, Nq, eh⟩ := hQ
    have N := Fr.app N Nq
    have eT := eh
    refine Go.tr st ?_
    show Go p.tables e below (T.setTop (mkF m 232 #[.val (.int p0), .val (.int p1), .val (.int p2), .val (.int p3), .val (.long a), .second, .val (.long e'), .second, .val (.long k), .second, .val (.int (0 : Int32)), .val (.double (FP.l2d a)), .second, .val (.double (FP.l2d ae)), .second, .val (.double vc), .second, .val (.ref b1), .val (.ref b3), .val (.double (0 : UInt64)), .second, .val (.double (0 : UInt64)), .second] [(.long (0 : Int64))])) _
    refine Go.by (fun tt_ kk_ => XS.iload X.here hx rfl (hb hby at_232) rfl kk_) ?_
    show Go p.tables e below (T.setTop (mkF m 234 #[.val (.int p0), .val (.int p1), .val (.int p2), .val (.int p3), .val (.long a), .second, .val (.long e'), .second, .val (.long k), .second, .val (.int (0 : Int32)), .val (.double (FP.l2d a)), .second, .val (.double (FP.l2d ae)), .second, .val (.double vc), .second, .val (.ref b1), .val (.ref b3), .val (.double (0 : UInt64)), .second, .val (.double (0 : UInt64)), .second] [(.int (0 : Int32)), (.long (0 : Int64))])) _
    refine Go.by (fun tt_ kk_ => XS.i2l X.here hx rfl (hb hby at_234) rfl kk_) ?_
    show Go p.tables e below (T.setTop (mkF m 235 #[.val (.int p0), .val (.int p1), .val (.int p2), .val (.int p3), .val (.long a), .second, .val (.long e'), .second, .val (.long k), .second, .val (.int (0 : Int32)), .val (.double (FP.l2d a)), .second, .val (.double (FP.l2d ae)), .second, .val (.double vc), .second, .val (.ref b1), .val (.ref b3), .val (.double (0 : UInt64)), .second, .val (.double (0 : UInt64)), .second] [(.long ((0 : Int32).toInt64)), (.long (0 : Int64))])) _
    refine Go.by (fun tt_ kk_ => XS.lcmp X.here hx rfl (hb hby at_235) rfl kk_) ?_
    show Go p.tables e below (T.setTop (mkF m 236 #[.val (.int p0), .val (.int p1), .val (.int p2), .val (.int p3), .val (.long a), .second, .val (.long e'), .second, .val (.long k), .second, .val (.int (0 : Int32)), .val (.double (FP.l2d a)), .second, .val (.double (FP.l2d ae)), .second, .val (.double vc), .second, .val (.ref b1), .val (.ref b3), .val (.double (0 : UInt64)), .second, .val (.double (0 : UInt64)), .second] [(.int (lcmpW (0 : Int64) ((0 : Int32).toInt64)))])) _
    refine Go.by (fun tt_ kk_ => XS.ifNo X.here hx rfl (hb hby at_236) rfl ((if0 _ _).trans (teq (by decide : (lcmpW (0 : Int64) ((0 : Int32).toInt64)) = (0 : Int32))).2) kk_) ?_
    show Go p.tables e below (T.setTop (mkF m 239 #[.val (.int p0), .val (.int p1), .val (.int p2), .val (.int p3), .val (.long a), .second, .val (.long e'), .second, .val (.long k), .second, .val (.int (0 : Int32)), .val (.double (FP.l2d a)), .second, .val (.double (FP.l2d ae)), .second, .val (.double vc), .second, .val (.ref b1), .val (.ref b3), .val (.double (0 : UInt64)), .second, .val (.double (0 : UInt64)), .second] [])) _
    refine Go.by (fun tt_ kk_ => XS.aload X.here hx rfl (hb hby at_239) rfl rfl kk_) ?_
    show Go p.tables e below (T.setTop (mkF m 241 #[.val (.int p0), .val (.int p1), .val (.int p2), .val (.int p3), .val (.long a), .second, .val (.long e'), .second, .val (.long k), .second, .val (.int (0 : Int32)), .val (.double (FP.l2d a)), .second, .val (.double (FP.l2d ae)), .second, .val (.double vc), .second, .val (.ref b1), .val (.ref b3), .val (.double (0 : UInt64)), .second, .val (.double (0 : UInt64)), .second] [(.ref b3)])) _
    obtain ⟨cq_, kq_, qa_, qb_, qc_⟩ := isOf hZ eT E_b3
    obtain ⟨_, _, ⟨T, L_, k_, n_⟩, -, X, ⟨Lc_, hQ, l_, y_, z_⟩, st⟩ := X.virtualBack hx (y := (⟨"com/example/bogong/bogong/stats/Sample", "sum", "()D"⟩ : MethodName)) (z := (⟨"com/example/bogong/bogong/stats/Sample", "sum", "()D"⟩ : MethodName)) hown (mvT hZ (hw _ (List.mem_of_getElem? (i := 53) rfl))) (mvT hZ (hw _ (List.mem_of_getElem? (i := 54) rfl))) (notFace_of_selects (args := #[]) (mvT hZ (hw _ (List.mem_of_getElem? (i := 56) rfl)))) (mvT hZ (hw _ (List.mem_of_getElem? (i := 56) rfl))) (mvT hZ (hw _ (List.mem_of_getElem? (i := 55) rfl))) (by decide) (backOf (W := 0) (rm8 l Z a0 hw [] b3 (0 : UInt64) h4 n0 (Nat.le_trans Z0 K.1) F_sum_b3) hZ (hw _ (List.mem_of_getElem? (i := 57) rfl)) (hw _ (List.mem_of_getElem? (i := 32) rfl)) (by decide) (by decide)) qa_ qc_ (g := (mkF m 241 #[.val (.int p0), .val (.int p1), .val (.int p2), .val (.int p3), .val (.long a), .second, .val (.long e'), .second, .val (.long k), .second, .val (.int (0 : Int32)), .val (.double (FP.l2d a)), .second, .val (.double (FP.l2d ae)), .second, .val (.double vc), .second, .val (.ref b1), .val (.ref b3), .val (.double (0 : UInt64)), .second, .val (.double (0 : UInt64)), .second] [(.ref b3)])) rfl (by rw [hml]; rfl) (Steps.refl _) (argsL := []) (rest := []) (lenOf pd_4 rfl) rfl (by show 2 * 0 + _ ≤ _; exact Nat.le_of_eq rfl) (hb hby at_241) (fun _ _ => ⟨rfl, eT, (by decide : 2 + 0 ≤ _), (by decide : 7 + 0 ≤ _)⟩)
    dsimp only [Pt.U, Pt.locs, Pt.cells, Pt.slots] at X l_ y_ z_ st hQ
    subst l_ y_ z_
    obtain ⟨rfl, Nq, eh⟩ := hQ
    have N := Fr.app N Nq
    have eT := eh
    refine Go.tr st ?_
    show Go p.tables e below (T.setTop (mkF m 244 #[.val (.int p0), .val (.int p1), .val (.int p2), .val (.int p3), .val (.long a), .second, .val (.long e'), .second, .val (.long k), .second, .val (.int (0 : Int32)), .val (.double (FP.l2d a)), .second, .val (.double (FP.l2d ae)), .second, .val (.double vc), .second, .val (.ref b1), .val (.ref b3), .val (.double (0 : UInt64)), .second, .val (.double (0 : UInt64)), .second] [(.double (0 : UInt64))])) _
    refine Go.by (fun tt_ kk_ => XS.dload X.here hx rfl (hb hby at_244) rfl kk_) ?_
    show Go p.tables e below (T.setTop (mkF m 246 #[.val (.int p0), .val (.int p1), .val (.int p2), .val (.int p3), .val (.long a), .second, .val (.long e'), .second, .val (.long k), .second, .val (.int (0 : Int32)), .val (.double (FP.l2d a)), .second, .val (.double (FP.l2d ae)), .second, .val (.double vc), .second, .val (.ref b1), .val (.ref b3), .val (.double (0 : UInt64)), .second, .val (.double (0 : UInt64)), .second] [(.double (0 : UInt64)), (.double (0 : UInt64))])) _
    refine Go.by (fun tt_ kk_ => XS.dcmpS X.here hx rfl (hb hby at_246) rfl (((own_zero 0).cmpV (own_zero 0) .l).trans (own_ci_eq.mpr rfl)) kk_) ?_
    show Go p.tables e below (T.setTop (mkF m 247 #[.val (.int p0), .val (.int p1), .val (.int p2), .val (.int p3), .val (.long a), .second, .val (.long e'), .second, .val (.long k), .second, .val (.int (0 : Int32)), .val (.double (FP.l2d a)), .second, .val (.double (FP.l2d ae)), .second, .val (.double vc), .second, .val (.ref b1), .val (.ref b3), .val (.double (0 : UInt64)), .second, .val (.double (0 : UInt64)), .second] [(.int (0 : Int32))])) _
    refine Go.by (fun tt_ kk_ => XS.ifNo X.here hx rfl (hb hby at_247) rfl ((if0 _ _).trans (teq (rfl : (0 : Int32) = (0 : Int32))).2) kk_) ?_
    show Go p.tables e below (T.setTop (mkF m 250 #[.val (.int p0), .val (.int p1), .val (.int p2), .val (.int p3), .val (.long a), .second, .val (.long e'), .second, .val (.long k), .second, .val (.int (0 : Int32)), .val (.double (FP.l2d a)), .second, .val (.double (FP.l2d ae)), .second, .val (.double vc), .second, .val (.ref b1), .val (.ref b3), .val (.double (0 : UInt64)), .second, .val (.double (0 : UInt64)), .second] [])) _
    refine Go.by (fun tt_ kk_ => XS.aload X.here hx rfl (hb hby at_250) rfl rfl kk_) ?_
    show Go p.tables e below (T.setTop (mkF m 252 #[.val (.int p0), .val (.int p1), .val (.int p2), .val (.int p3), .val (.long a), .second, .val (.long e'), .second, .val (.long k), .second, .val (.int (0 : Int32)), .val (.double (FP.l2d a)), .second, .val (.double (FP.l2d ae)), .second, .val (.double vc), .second, .val (.ref b1), .val (.ref b3), .val (.double (0 : UInt64)), .second, .val (.double (0 : UInt64)), .second] [(.ref b3)])) _
    obtain ⟨cq_, kq_, qa_, qb_, qc_⟩ := isOf hZ eT E_b3
    obtain ⟨_, _, ⟨T, L_, k_, n_⟩, -, X, ⟨Lc_, hQ, l_, y_, z_⟩, st⟩ := X.virtualBack hx (y := (⟨"com/example/bogong/bogong/stats/Sample", "squaredDeviations", "()D"⟩ : MethodName)) (z := (⟨"com/example/bogong/bogong/stats/Sample", "squaredDeviations", "()D"⟩ : MethodName)) hown (mvT hZ (hw _ (List.mem_of_getElem? (i := 58) rfl))) (mvT hZ (hw _ (List.mem_of_getElem? (i := 59) rfl))) (notFace_of_selects (args := #[]) (mvT hZ (hw _ (List.mem_of_getElem? (i := 61) rfl)))) (mvT hZ (hw _ (List.mem_of_getElem? (i := 61) rfl))) (mvT hZ (hw _ (List.mem_of_getElem? (i := 60) rfl))) (by decide) (backOf (W := 0) (rm9 l Z a0 hw [] b3 (0 : UInt64) h4 n0 (Nat.le_trans Z0 K.1) F_squaredDeviations_b3) hZ (hw _ (List.mem_of_getElem? (i := 62) rfl)) (hw _ (List.mem_of_getElem? (i := 32) rfl)) (by decide) (by decide)) qa_ qc_ (g := (mkF m 252 #[.val (.int p0), .val (.int p1), .val (.int p2), .val (.int p3), .val (.long a), .second, .val (.long e'), .second, .val (.long k), .second, .val (.int (0 : Int32)), .val (.double (FP.l2d a)), .second, .val (.double (FP.l2d ae)), .second, .val (.double vc), .second, .val (.ref b1), .val (.ref b3), .val (.double (0 : UInt64)), .second, .val (.double (0 : UInt64)), .second] [(.ref b3)])) rfl (by rw [hml]; rfl) (Steps.refl _) (argsL := []) (rest := []) (lenOf pd_4 rfl) rfl (by show 2 * 0 + _ ≤ _; exact Nat.le_of_eq rfl) (hb hby at_252) (fun _ _ => ⟨rfl, eT, (by decide : 2 + 0 ≤ _), (by decide : 7 + 0 ≤ _)⟩)
    dsimp only [Pt.U, Pt.locs, Pt.cells, Pt.slots] at X l_ y_ z_ st hQ
    subst l_ y_ z_
    obtain ⟨rfl, Nq, eh⟩ := hQ
    have N := Fr.app N Nq
    have eT := eh
    refine Go.tr st ?_
    show Go p.tables e below (T.setTop (mkF m 255 #[.val (.int p0), .val (.int p1), .val (.int p2), .val (.int p3), .val (.long a), .second, .val (.long e'), .second, .val (.long k), .second, .val (.int (0 : Int32)), .val (.double (FP.l2d a)), .second, .val (.double (FP.l2d ae)), .second, .val (.double vc), .second, .val (.ref b1), .val (.ref b3), .val (.double (0 : UInt64)), .second, .val (.double (0 : UInt64)), .second] [(.double (0 : UInt64))])) _
    refine Go.by (fun tt_ kk_ => XS.dload X.here hx rfl (hb hby at_255) rfl kk_) ?_
    show Go p.tables e below (T.setTop (mkF m 257 #[.val (.int p0), .val (.int p1), .val (.int p2), .val (.int p3), .val (.long a), .second, .val (.long e'), .second, .val (.long k), .second, .val (.int (0 : Int32)), .val (.double (FP.l2d a)), .second, .val (.double (FP.l2d ae)), .second, .val (.double vc), .second, .val (.ref b1), .val (.ref b3), .val (.double (0 : UInt64)), .second, .val (.double (0 : UInt64)), .second] [(.double (0 : UInt64)), (.double (0 : UInt64))])) _
    refine Go.by (fun tt_ kk_ => XS.dcmpS X.here hx rfl (hb hby at_257) rfl (((own_zero 0).cmpV (own_zero 0) .l).trans (own_ci_eq.mpr (by omega))) kk_) ?_
    show Go p.tables e below (T.setTop (mkF m 258 #[.val (.int p0), .val (.int p1), .val (.int p2), .val (.int p3), .val (.long a), .second, .val (.long e'), .second, .val (.long k), .second, .val (.int (0 : Int32)), .val (.double (FP.l2d a)), .second, .val (.double (FP.l2d ae)), .second, .val (.double vc), .second, .val (.ref b1), .val (.ref b3), .val (.double (0 : UInt64)), .second, .val (.double (0 : UInt64)), .second] [(.int (0 : Int32))])) _
    refine Go.by (fun tt_ kk_ => XS.ifNo X.here hx rfl (hb hby at_258) rfl ((if0 _ _).trans (teq (rfl : (0 : Int32) = (0 : Int32))).2) kk_) ?_
    show Go p.tables e below (T.setTop (mkF m 261 #[.val (.int p0), .val (.int p1), .val (.int p2), .val (.int p3), .val (.long a), .second, .val (.long e'), .second, .val (.long k), .second, .val (.int (0 : Int32)), .val (.double (FP.l2d a)), .second, .val (.double (FP.l2d ae)), .second, .val (.double vc), .second, .val (.ref b1), .val (.ref b3), .val (.double (0 : UInt64)), .second, .val (.double (0 : UInt64)), .second] [])) _
    refine Go.by (fun tt_ kk_ => XS.iconst X.here hx rfl (hb hby at_261) kk_) ?_
    show Go p.tables e below (T.setTop (mkF m 262 #[.val (.int p0), .val (.int p1), .val (.int p2), .val (.int p3), .val (.long a), .second, .val (.long e'), .second, .val (.long k), .second, .val (.int (0 : Int32)), .val (.double (FP.l2d a)), .second, .val (.double (FP.l2d ae)), .second, .val (.double vc), .second, .val (.ref b1), .val (.ref b3), .val (.double (0 : UInt64)), .second, .val (.double (0 : UInt64)), .second] [(.int (1 : Int32))])) _
    refine Go.by (fun tt_ kk_ => XS.goto X.here hx rfl (pc0 := 262) (pc' := 266) rfl (hb hby at_262) (by decide) (by decide) kk_) ?_
    show Go p.tables e below (T.setTop (mkF m 266 #[.val (.int p0), .val (.int p1), .val (.int p2), .val (.int p3), .val (.long a), .second, .val (.long e'), .second, .val (.long k), .second, .val (.int (0 : Int32)), .val (.double (FP.l2d a)), .second, .val (.double (FP.l2d ae)), .second, .val (.double vc), .second, .val (.ref b1), .val (.ref b3), .val (.double (0 : UInt64)), .second, .val (.double (0 : UInt64)), .second] [(.int (1 : Int32))])) _
    exact Go.done X  (v := some (.int (1 : Int32))) (fun h => by rw [Bd.returns] at h; cases h) Bd.notSynchronized (fun fs hr => retN X hx (z := (1 : Int32)) (t := .boolean) Bd.returns (by simp) (hb hby at_266) hr) (by rw [eT]; exact ⟨rfl, N⟩) (by decide) (by decide)
  · rw [hcs]
    show Go p.tables e below (T.setTop (mkF m 21 #[.val (.int p0), .val (.int p1), .val (.int p2), .val (.int p3), .val (.long a), .second, .val (.long e'), .second, .val (.long k), .second, .unset, .unset, .unset, .unset, .unset, .unset, .unset, .unset, .unset, .unset, .unset, .unset, .unset] [(.int (1 : Int32))])) _
    refine Go.by (fun tt_ kk_ => XS.istore X.here hx rfl (hb hby at_21) rfl (l' := #[.val (.int p0), .val (.int p1), .val (.int p2), .val (.int p3), .val (.long a), .second, .val (.long e'), .second, .val (.long k), .second, .val (.int (1 : Int32)), .unset, .unset, .unset, .unset, .unset, .unset, .unset, .unset, .unset, .unset, .unset, .unset]) rfl kk_) ?_
    show Go p.tables e below (T.setTop (mkF m 23 #[.val (.int p0), .val (.int p1), .val (.int p2), .val (.int p3), .val (.long a), .second, .val (.long e'), .second, .val (.long k), .second, .val (.int (1 : Int32)), .unset, .unset, .unset, .unset, .unset, .unset, .unset, .unset, .unset, .unset, .unset, .unset] [])) _
    refine Go.by (fun tt_ kk_ => XS.lload X.here hx rfl (hb hby at_23) rfl kk_) ?_
    show Go p.tables e below (T.setTop (mkF m 25 #[.val (.int p0), .val (.int p1), .val (.int p2), .val (.int p3), .val (.long a), .second, .val (.long e'), .second, .val (.long k), .second, .val (.int (1 : Int32)), .unset, .unset, .unset, .unset, .unset, .unset, .unset, .unset, .unset, .unset, .unset, .unset] [(.long a)])) _
    refine Go.by (fun tt_ kk_ => XS.l2dS X.here hx rfl (hb hby at_25) rfl rfl kk_) ?_
    show Go p.tables e below (T.setTop (mkF m 26 #[.val (.int p0), .val (.int p1), .val (.int p2), .val (.int p3), .val (.long a), .second, .val (.long e'), .second, .val (.long k), .second, .val (.int (1 : Int32)), .unset, .unset, .unset, .unset, .unset, .unset, .unset, .unset, .unset, .unset, .unset, .unset] [(.double (FP.l2d a))])) _
    refine Go.by (fun tt_ kk_ => XS.dstore X.here hx rfl (hb hby at_26) rfl (l' := #[.val (.int p0), .val (.int p1), .val (.int p2), .val (.int p3), .val (.long a), .second, .val (.long e'), .second, .val (.long k), .second, .val (.int (1 : Int32)), .val (.double (FP.l2d a)), .second, .unset, .unset, .unset, .unset, .unset, .unset, .unset, .unset, .unset, .unset]) rfl kk_) ?_
    show Go p.tables e below (T.setTop (mkF m 28 #[.val (.int p0), .val (.int p1), .val (.int p2), .val (.int p3), .val (.long a), .second, .val (.long e'), .second, .val (.long k), .second, .val (.int (1 : Int32)), .val (.double (FP.l2d a)), .second, .unset, .unset, .unset, .unset, .unset, .unset, .unset, .unset, .unset, .unset] [])) _
    refine Go.by (fun tt_ kk_ => XS.lload X.here hx rfl (hb hby at_28) rfl kk_) ?_
    show Go p.tables e below (T.setTop (mkF m 30 #[.val (.int p0), .val (.int p1), .val (.int p2), .val (.int p3), .val (.long a), .second, .val (.long e'), .second, .val (.long k), .second, .val (.int (1 : Int32)), .val (.double (FP.l2d a)), .second, .unset, .unset, .unset, .unset, .unset, .unset, .unset, .unset, .unset, .unset] [(.long a)])) _
    refine Go.by (fun tt_ kk_ => XS.lload X.here hx rfl (hb hby at_30) rfl kk_) ?_
    show Go p.tables e below (T.setTop (mkF m 32 #[.val (.int p0), .val (.int p1), .val (.int p2), .val (.int p3), .val (.long a), .second, .val (.long e'), .second, .val (.long k), .second, .val (.int (1 : Int32)), .val (.double (FP.l2d a)), .second, .unset, .unset, .unset, .unset, .unset, .unset, .unset, .unset, .unset, .unset] [(.long e'), (.long a)])) _
    refine Go.by (fun tt_ kk_ => XS.ladd X.here hx rfl (hb hby at_32) rfl kk_) ?_
    show Go p.tables e below (T.setTop (mkF m 33 #[.val (.int p0), .val (.int p1), .val (.int p2), .val (.int p3), .val (.long a), .second, .val (.long e'), .second, .val (.long k), .second, .val (.int (1 : Int32)), .val (.double (FP.l2d a)), .second, .unset, .unset, .unset, .unset, .unset, .unset, .unset, .unset, .unset, .unset] [(.long (a + e'))])) _
    obtain ⟨ae, e_ae⟩ : ∃ z, z = (a + e') := ⟨_, rfl⟩
    rw [← e_ae]
    show Go p.tables e below (T.setTop (mkF m 33 #[.val (.int p0), .val (.int p1), .val (.int p2), .val (.int p3), .val (.long a), .second, .val (.long e'), .second, .val (.long k), .second, .val (.int (1 : Int32)), .val (.double (FP.l2d a)), .second, .unset, .unset, .unset, .unset, .unset, .unset, .unset, .unset, .unset, .unset] [(.long ae)])) _
    have b_ae : ae.toInt = a.toInt + e'.toInt := by rw [e_ae]; exact FP.Core.int64_add (by omega) (by omega)
    refine Go.by (fun tt_ kk_ => XS.l2dS X.here hx rfl (hb hby at_33) rfl rfl kk_) ?_
    show Go p.tables e below (T.setTop (mkF m 34 #[.val (.int p0), .val (.int p1), .val (.int p2), .val (.int p3), .val (.long a), .second, .val (.long e'), .second, .val (.long k), .second, .val (.int (1 : Int32)), .val (.double (FP.l2d a)), .second, .unset, .unset, .unset, .unset, .unset, .unset, .unset, .unset, .unset, .unset] [(.double (FP.l2d ae))])) _
    refine Go.by (fun tt_ kk_ => XS.dstore X.here hx rfl (hb hby at_34) rfl (l' := #[.val (.int p0), .val (.int p1), .val (.int p2), .val (.int p3), .val (.long a), .second, .val (.long e'), .second, .val (.long k), .second, .val (.int (1 : Int32)), .val (.double (FP.l2d a)), .second, .val (.double (FP.l2d ae)), .second, .unset, .unset, .unset, .unset, .unset, .unset, .unset, .unset]) rfl kk_) ?_
    show Go p.tables e below (T.setTop (mkF m 36 #[.val (.int p0), .val (.int p1), .val (.int p2), .val (.int p3), .val (.long a), .second, .val (.long e'), .second, .val (.long k), .second, .val (.int (1 : Int32)), .val (.double (FP.l2d a)), .second, .val (.double (FP.l2d ae)), .second, .unset, .unset, .unset, .unset, .unset, .unset, .unset, .unset] [])) _
    refine Go.by (X.ldc2Long hx hown (mvT hZ (hw _ (List.mem_of_getElem? (i := 0) rfl))) (g := (mkF m 36 #[.val (.int p0), .val (.int p1), .val (.int p2), .val (.int p3), .val (.long a), .second, .val (.long e'), .second, .val (.long k), .second, .val (.int (1 : Int32)), .val (.double (FP.l2d a)), .second, .val (.double (FP.l2d ae)), .second, .unset, .unset, .unset, .unset, .unset, .unset, .unset, .unset] [])) rfl (hb hby at_36)) ?_
    show Go p.tables e below (T.setTop (mkF m 39 #[.val (.int p0), .val (.int p1), .val (.int p2), .val (.int p3), .val (.long a), .second, .val (.long e'), .second, .val (.long k), .second, .val (.int (1 : Int32)), .val (.double (FP.l2d a)), .second, .val (.double (FP.l2d ae)), .second, .unset, .unset, .unset, .unset, .unset, .unset, .unset, .unset] [(.long (2 : Int64))])) _
    refine Go.by (fun tt_ kk_ => XS.lload X.here hx rfl (hb hby at_39) rfl kk_) ?_
    show Go p.tables e below (T.setTop (mkF m 41 #[.val (.int p0), .val (.int p1), .val (.int p2), .val (.int p3), .val (.long a), .second, .val (.long e'), .second, .val (.long k), .second, .val (.int (1 : Int32)), .val (.double (FP.l2d a)), .second, .val (.double (FP.l2d ae)), .second, .unset, .unset, .unset, .unset, .unset, .unset, .unset, .unset] [(.long a), (.long (2 : Int64))])) _
    refine Go.by (fun tt_ kk_ => XS.lmul X.here hx rfl (hb hby at_41) rfl kk_) ?_
    show Go p.tables e below (T.setTop (mkF m 42 #[.val (.int p0), .val (.int p1), .val (.int p2), .val (.int p3), .val (.long a), .second, .val (.long e'), .second, .val (.long k), .second, .val (.int (1 : Int32)), .val (.double (FP.l2d a)), .second, .val (.double (FP.l2d ae)), .second, .unset, .unset, .unset, .unset, .unset, .unset, .unset, .unset] [(.long ((2 : Int64) * a))])) _
    refine Go.by (fun tt_ kk_ => XS.lload X.here hx rfl (hb hby at_42) rfl kk_) ?_
    show Go p.tables e below (T.setTop (mkF m 44 #[.val (.int p0), .val (.int p1), .val (.int p2), .val (.int p3), .val (.long a), .second, .val (.long e'), .second, .val (.long k), .second, .val (.int (1 : Int32)), .val (.double (FP.l2d a)), .second, .val (.double (FP.l2d ae)), .second, .unset, .unset, .unset, .unset, .unset, .unset, .unset, .unset] [(.long e'), (.long ((2 : Int64) * a))])) _
    refine Go.by (fun tt_ kk_ => XS.ladd X.here hx rfl (hb hby at_44) rfl kk_) ?_
    show Go p.tables e below (T.setTop (mkF m 45 #[.val (.int p0), .val (.int p1), .val (.int p2), .val (.int p3), .val (.long a), .second, .val (.long e'), .second, .val (.long k), .second, .val (.int (1 : Int32)), .val (.double (FP.l2d a)), .second, .val (.double (FP.l2d ae)), .second, .unset, .unset, .unset, .unset, .unset, .unset, .unset, .unset] [(.long (((2 : Int64) * a) + e'))])) _
    refine Go.by (X.ldc2Long hx hown (mvT hZ (hw _ (List.mem_of_getElem? (i := 1) rfl))) (g := (mkF m 45 #[.val (.int p0), .val (.int p1), .val (.int p2), .val (.int p3), .val (.long a), .second, .val (.long e'), .second, .val (.long k), .second, .val (.int (1 : Int32)), .val (.double (FP.l2d a)), .second, .val (.double (FP.l2d ae)), .second, .unset, .unset, .unset, .unset, .unset, .unset, .unset, .unset] [(.long (((2 : Int64) * a) + e'))])) rfl (hb hby at_45)) ?_
    show Go p.tables e below (T.setTop (mkF m 48 #[.val (.int p0), .val (.int p1), .val (.int p2), .val (.int p3), .val (.long a), .second, .val (.long e'), .second, .val (.long k), .second, .val (.int (1 : Int32)), .val (.double (FP.l2d a)), .second, .val (.double (FP.l2d ae)), .second, .unset, .unset, .unset, .unset, .unset, .unset, .unset, .unset] [(.long (6 : Int64)), (.long (((2 : Int64) * a) + e'))])) _
    refine Go.by (fun tt_ kk_ => XS.lload X.here hx rfl (hb hby at_48) rfl kk_) ?_
    show Go p.tables e below (T.setTop (mkF m 50 #[.val (.int p0), .val (.int p1), .val (.int p2), .val (.int p3), .val (.long a), .second, .val (.long e'), .second, .val (.long k), .second, .val (.int (1 : Int32)), .val (.double (FP.l2d a)), .second, .val (.double (FP.l2d ae)), .second, .unset, .unset, .unset, .unset, .unset, .unset, .unset, .unset] [(.long k), (.long (6 : Int64)), (.long (((2 : Int64) * a) + e'))])) _
    refine Go.by (fun tt_ kk_ => XS.lmul X.here hx rfl (hb hby at_50) rfl kk_) ?_
    show Go p.tables e below (T.setTop (mkF m 51 #[.val (.int p0), .val (.int p1), .val (.int p2), .val (.int p3), .val (.long a), .second, .val (.long e'), .second, .val (.long k), .second, .val (.int (1 : Int32)), .val (.double (FP.l2d a)), .second, .val (.double (FP.l2d ae)), .second, .unset, .unset, .unset, .unset, .unset, .unset, .unset, .unset] [(.long ((6 : Int64) * k)), (.long (((2 : Int64) * a) + e'))])) _
    refine Go.by (fun tt_ kk_ => XS.ladd X.here hx rfl (hb hby at_51) rfl kk_) ?_
    show Go p.tables e below (T.setTop (mkF m 52 #[.val (.int p0), .val (.int p1), .val (.int p2), .val (.int p3), .val (.long a), .second, .val (.long e'), .second, .val (.long k), .second, .val (.int (1 : Int32)), .val (.double (FP.l2d a)), .second, .val (.double (FP.l2d ae)), .second, .unset, .unset, .unset, .unset, .unset, .unset, .unset, .unset] [(.long ((((2 : Int64) * a) + e') + ((6 : Int64) * k)))])) _
    obtain ⟨vl, e_vl⟩ : ∃ z, z = ((((2 : Int64) * a) + e') + ((6 : Int64) * k)) := ⟨_, rfl⟩
    rw [← e_vl]
    show Go p.tables e below (T.setTop (mkF m 52 #[.val (.int p0), .val (.int p1), .val (.int p2), .val (.int p3), .val (.long a), .second, .val (.long e'), .second, .val (.long k), .second, .val (.int (1 : Int32)), .val (.double (FP.l2d a)), .second, .val (.double (FP.l2d ae)), .second, .unset, .unset, .unset, .unset, .unset, .unset, .unset, .unset] [(.long vl)])) _
    have l1 : ((2 : Int64) * a).toInt = 2 * a.toInt := FP.Core.int64_mul (by rw [show (2 : Int64).toInt = 2 by decide]; omega) (by rw [show (2 : Int64).toInt = 2 by decide]; omega)
    have l2 : ((2 : Int64) * a + e').toInt = 2 * a.toInt + e'.toInt := by rw [FP.Core.int64_add (by rw [l1]; omega) (by rw [l1]; omega), l1]
    have l3 : ((6 : Int64) * k).toInt = 6 * k.toInt := FP.Core.int64_mul (by rw [show (6 : Int64).toInt = 6 by decide]; omega) (by rw [show (6 : Int64).toInt = 6 by decide]; omega)
    have b_vl : vl.toInt = 2 * a.toInt + e'.toInt + 6 * k.toInt := by rw [e_vl, FP.Core.int64_add (by rw [l2, l3]; omega) (by rw [l2, l3]; omega), l2, l3]
    refine Go.by (fun tt_ kk_ => XS.l2dS X.here hx rfl (hb hby at_52) rfl rfl kk_) ?_
    show Go p.tables e below (T.setTop (mkF m 53 #[.val (.int p0), .val (.int p1), .val (.int p2), .val (.int p3), .val (.long a), .second, .val (.long e'), .second, .val (.long k), .second, .val (.int (1 : Int32)), .val (.double (FP.l2d a)), .second, .val (.double (FP.l2d ae)), .second, .unset, .unset, .unset, .unset, .unset, .unset, .unset, .unset] [(.double (FP.l2d vl))])) _
    refine Go.by (X.ldc2DoubleC hx hown (mvT hZ (hw _ (List.mem_of_getElem? (i := 2) rfl))) (g := (mkF m 53 #[.val (.int p0), .val (.int p1), .val (.int p2), .val (.int p3), .val (.long a), .second, .val (.long e'), .second, .val (.long k), .second, .val (.int (1 : Int32)), .val (.double (FP.l2d a)), .second, .val (.double (FP.l2d ae)), .second, .unset, .unset, .unset, .unset, .unset, .unset, .unset, .unset] [(.double (FP.l2d vl))])) rfl (hb hby at_53)) ?_
    show Go p.tables e below (T.setTop (mkF m 56 #[.val (.int p0), .val (.int p1), .val (.int p2), .val (.int p3), .val (.long a), .second, .val (.long e'), .second, .val (.long k), .second, .val (.int (1 : Int32)), .val (.double (FP.l2d a)), .second, .val (.double (FP.l2d ae)), .second, .unset, .unset, .unset, .unset, .unset, .unset, .unset, .unset] [(.double (4611686018427387904 : UInt64)), (.double (FP.l2d vl))])) _
    obtain ⟨vc, e_vc⟩ : ∃ z, z = FP.ddiv (FP.l2d vl) (4611686018427387904 : UInt64) := ⟨_, rfl⟩
    have d_vc : Dy (2 * a.toInt + e'.toInt + 6 * k.toInt) (-1) vc := by rw [e_vc]; exact Dy.div (k := 2 * a.toInt + e'.toInt + 6 * k.toInt) (j := 1) (e := 0) (g := 1) (by rw [Int.mul_one]; exact (Dy.l2d (by omega)).cast b_vl rfl) own_two (by decide) (by omega) (by decide) (by decide)
    refine Go.by (fun tt_ kk_ => XS.ddivS X.here hx rfl (hb hby at_56) rfl (e_vc ▸ d_vc.noNaN) e_vc.symm kk_) ?_
    show Go p.tables e below (T.setTop (mkF m 57 #[.val (.int p0), .val (.int p1), .val (.int p2), .val (.int p3), .val (.long a), .second, .val (.long e'), .second, .val (.long k), .second, .val (.int (1 : Int32)), .val (.double (FP.l2d a)), .second, .val (.double (FP.l2d ae)), .second, .unset, .unset, .unset, .unset, .unset, .unset, .unset, .unset] [(.double vc)])) _
    refine Go.by (fun tt_ kk_ => XS.dstore X.here hx rfl (hb hby at_57) rfl (l' := #[.val (.int p0), .val (.int p1), .val (.int p2), .val (.int p3), .val (.long a), .second, .val (.long e'), .second, .val (.long k), .second, .val (.int (1 : Int32)), .val (.double (FP.l2d a)), .second, .val (.double (FP.l2d ae)), .second, .val (.double vc), .second, .unset, .unset, .unset, .unset, .unset, .unset]) rfl kk_) ?_
    show Go p.tables e below (T.setTop (mkF m 59 #[.val (.int p0), .val (.int p1), .val (.int p2), .val (.int p3), .val (.long a), .second, .val (.long e'), .second, .val (.long k), .second, .val (.int (1 : Int32)), .val (.double (FP.l2d a)), .second, .val (.double (FP.l2d ae)), .second, .val (.double vc), .second, .unset, .unset, .unset, .unset, .unset, .unset] [])) _
    obtain ⟨T, h8, X, eT, E_, A_, D_, -, st⟩ := newO X hx hZ hown (hw _ (List.mem_of_getElem? (i := 3) rfl)) (hw _ (List.mem_of_getElem? (i := 4) rfl)) (hw _ (List.mem_of_getElem? (i := 5) rfl)) eT (g := (mkF m 59 #[.val (.int p0), .val (.int p1), .val (.int p2), .val (.int p3), .val (.long a), .second, .val (.long e'), .second, .val (.long k), .second, .val (.int (1 : Int32)), .val (.double (FP.l2d a)), .second, .val (.double (FP.l2d ae)), .second, .val (.double vc), .second, .unset, .unset, .unset, .unset, .unset, .unset] [])) rfl (hb hby at_59) (by decide) (by decide)
    obtain ⟨b8, g_b8'⟩ : ∃ z, z = h0.size := ⟨_, rfl⟩
    rw [← g_b8'] at A_ D_ st
    have g_b8 : n0 ≤ b8 := Nat.le_trans Z0 (Nat.le_trans K.1 (Nat.le_of_eq g_b8'.symm))
    have sz_b8 : h0.size ≤ b8 := Nat.le_trans K.1 (Nat.le_of_eq g_b8'.symm)
    have K := K.ext E_
    have E_b8 := A_
    have F_count_b8 : Fld Z h8 b8 "com/example/bogong/bogong/stats/Tally" "count" "J" (.long (0 : Int64)) := D_ (Or.inl (hw _ (List.mem_of_getElem? (i := 18) rfl))) (ty := .long) (by decide)
    have F_sum_b8 : Fld Z h8 b8 "com/example/bogong/bogong/stats/Tally" "sum" "D" (.double (0 : UInt64)) := D_ (Or.inl (hw _ (List.mem_of_getElem? (i := 20) rfl))) (ty := .double) (by decide)
    have F_mean_b8 : Fld Z h8 b8 "com/example/bogong/bogong/stats/Tally" "mean" "D" (.double (0 : UInt64)) := D_ (Or.inl (hw _ (List.mem_of_getElem? (i := 22) rfl))) (ty := .double) (by decide)
    have F_squaredDeviations_b8 : Fld Z h8 b8 "com/example/bogong/bogong/stats/Tally" "squaredDeviations" "D" (.double (0 : UInt64)) := D_ (Or.inl (hw _ (List.mem_of_getElem? (i := 24) rfl))) (ty := .double) (by decide)
    refine Go.by st ?_
    show Go p.tables e below (T.setTop (mkF m 62 #[.val (.int p0), .val (.int p1), .val (.int p2), .val (.int p3), .val (.long a), .second, .val (.long e'), .second, .val (.long k), .second, .val (.int (1 : Int32)), .val (.double (FP.l2d a)), .second, .val (.double (FP.l2d ae)), .second, .val (.double vc), .second, .unset, .unset, .unset, .unset, .unset, .unset] [(.ref b8)])) _
    refine Go.by (fun tt_ kk_ => XS.dup X.here hx rfl (hb hby at_62) rfl rfl kk_) ?_
    show Go p.tables e below (T.setTop (mkF m 63 #[.val (.int p0), .val (.int p1), .val (.int p2), .val (.int p3), .val (.long a), .second, .val (.long e'), .second, .val (.long k), .second, .val (.int (1 : Int32)), .val (.double (FP.l2d a)), .second, .val (.double (FP.l2d ae)), .second, .val (.double vc), .second, .unset, .unset, .unset, .unset, .unset, .unset] [(.ref b8), (.ref b8)])) _
    obtain ⟨_, _, ⟨T, L_, k_, n_⟩, -, X, ⟨Lc_, hQ, l_, y_, z_⟩, st⟩ := X.specialBack hx (y := (⟨"com/example/bogong/bogong/stats/Tally", "<init>", "()V"⟩ : MethodName)) rfl hown (mvT hZ (hw _ (List.mem_of_getElem? (i := 6) rfl))) (mvT hZ (hw _ (List.mem_of_getElem? (i := 7) rfl))) (mvT hZ (hw _ (List.mem_of_getElem? (i := 8) rfl))) (by decide) (backOf (W := 1) (rm1 l Z a0 hw [] b8 h8 n0 (Nat.le_trans Z0 K.1) ) hZ (hw _ (List.mem_of_getElem? (i := 8) rfl)) (hw _ (List.mem_of_getElem? (i := 5) rfl)) (by decide) (by decide)) (g := (mkF m 63 #[.val (.int p0), .val (.int p1), .val (.int p2), .val (.int p3), .val (.long a), .second, .val (.long e'), .second, .val (.long k), .second, .val (.int (1 : Int32)), .val (.double (FP.l2d a)), .second, .val (.double (FP.l2d ae)), .second, .val (.double vc), .second, .unset, .unset, .unset, .unset, .unset, .unset] [(.ref b8), (.ref b8)])) rfl (by rw [hml]; rfl) (Steps.refl _) (a := b8) (argsL := []) (rest := [(.ref b8)]) (lenOf pd_0 rfl) rfl (by show 2 * 0 + _ ≤ _; exact Nat.le_of_eq rfl) (hb hby at_63) (fun _ _ => ⟨rfl, eT, (by decide : 1 + 0 ≤ _), (by decide : 4 + 0 ≤ _)⟩)
    dsimp only [Pt.U, Pt.locs, Pt.cells, Pt.slots] at X l_ y_ z_ st hQ
    subst l_ y_ z_
    obtain ⟨rfl, Nq, eh⟩ := hQ
    have N := Fr.app N Nq
    have eT := eh
    refine Go.tr st ?_
    show Go p.tables e below (T.setTop (mkF m 66 #[.val (.int p0), .val (.int p1), .val (.int p2), .val (.int p3), .val (.long a), .second, .val (.long e'), .second, .val (.long k), .second, .val (.int (1 : Int32)), .val (.double (FP.l2d a)), .second, .val (.double (FP.l2d ae)), .second, .val (.double vc), .second, .unset, .unset, .unset, .unset, .unset, .unset] [(.ref b8)])) _
    refine Go.by (fun tt_ kk_ => XS.astore X.here hx rfl (hb hby at_66) rfl rfl (l' := #[.val (.int p0), .val (.int p1), .val (.int p2), .val (.int p3), .val (.long a), .second, .val (.long e'), .second, .val (.long k), .second, .val (.int (1 : Int32)), .val (.double (FP.l2d a)), .second, .val (.double (FP.l2d ae)), .second, .val (.double vc), .second, .val (.ref b8), .unset, .unset, .unset, .unset, .unset]) rfl kk_) ?_
    show Go p.tables e below (T.setTop (mkF m 68 #[.val (.int p0), .val (.int p1), .val (.int p2), .val (.int p3), .val (.long a), .second, .val (.long e'), .second, .val (.long k), .second, .val (.int (1 : Int32)), .val (.double (FP.l2d a)), .second, .val (.double (FP.l2d ae)), .second, .val (.double vc), .second, .val (.ref b8), .unset, .unset, .unset, .unset, .unset] [])) _
    refine Go.by (fun tt_ kk_ => XS.iload X.here hx rfl (hb hby at_68) rfl kk_) ?_
    show Go p.tables e below (T.setTop (mkF m 70 #[.val (.int p0), .val (.int p1), .val (.int p2), .val (.int p3), .val (.long a), .second, .val (.long e'), .second, .val (.long k), .second, .val (.int (1 : Int32)), .val (.double (FP.l2d a)), .second, .val (.double (FP.l2d ae)), .second, .val (.double vc), .second, .val (.ref b8), .unset, .unset, .unset, .unset, .unset] [(.int (1 : Int32))])) _
    refine Go.by (fun tt_ kk_ => XS.iconst X.here hx rfl (hb hby at_70) kk_) ?_
    show Go p.tables e below (T.setTop (mkF m 71 #[.val (.int p0), .val (.int p1), .val (.int p2), .val (.int p3), .val (.long a), .second, .val (.long e'), .second, .val (.long k), .second, .val (.int (1 : Int32)), .val (.double (FP.l2d a)), .second, .val (.double (FP.l2d ae)), .second, .val (.double vc), .second, .val (.ref b8), .unset, .unset, .unset, .unset, .unset] [(.int (1 : Int32)), (.int (1 : Int32))])) _
    refine Go.by (fun tt_ kk_ => XS.icmpNo X.here hx rfl (hb hby at_71) rfl (flt (by decide : ¬ ((1 : Int32) < (1 : Int32)))).1 kk_) ?_
    show Go p.tables e below (T.setTop (mkF m 74 #[.val (.int p0), .val (.int p1), .val (.int p2), .val (.int p3), .val (.long a), .second, .val (.long e'), .second, .val (.long k), .second, .val (.int (1 : Int32)), .val (.double (FP.l2d a)), .second, .val (.double (FP.l2d ae)), .second, .val (.double vc), .second, .val (.ref b8), .unset, .unset, .unset, .unset, .unset] [])) _
    refine Go.by (fun tt_ kk_ => XS.aload X.here hx rfl (hb hby at_74) rfl rfl kk_) ?_
    show Go p.tables e below (T.setTop (mkF m 76 #[.val (.int p0), .val (.int p1), .val (.int p2), .val (.int p3), .val (.long a), .second, .val (.long e'), .second, .val (.long k), .second, .val (.int (1 : Int32)), .val (.double (FP.l2d a)), .second, .val (.double (FP.l2d ae)), .second, .val (.double vc), .second, .val (.ref b8), .unset, .unset, .unset, .unset, .unset] [(.ref b8)])) _
    refine Go.by (fun tt_ kk_ => XS.dload X.here hx rfl (hb hby at_76) rfl kk_) ?_
    show Go p.tables e below (T.setTop (mkF m 78 #[.val (.int p0), .val (.int p1), .val (.int p2), .val (.int p3), .val (.long a), .second, .val (.long e'), .second, .val (.long k), .second, .val (.int (1 : Int32)), .val (.double (FP.l2d a)), .second, .val (.double (FP.l2d ae)), .second, .val (.double vc), .second, .val (.ref b8), .unset, .unset, .unset, .unset, .unset] [(.double (FP.l2d a)), (.ref b8)])) _
    have d_x1 : Dy a.toInt 0 (FP.l2d a) := Dy.l2d (by omega)
    have dc1 : Dy 1 0 (FP.l2d ((0 : Int64) + (1 : Int64))) := Dy.l2d (x := (0 : Int64) + (1 : Int64)) (by decide)
    obtain ⟨s1_1, e_s1_1⟩ : ∃ z, z = FP.dadd (0 : UInt64) (FP.l2d a) := ⟨_, rfl⟩
    have d_s1_1 : Dy a.toInt 0 s1_1 := by rw [e_s1_1]; exact ((own_zero 0).add d_x1 (by omega) (by decide) (by decide)).cast (by omega) rfl
    obtain ⟨dv_1, e_dv_1⟩ : ∃ z, z = FP.dsub (FP.l2d a) (0 : UInt64) := ⟨_, rfl⟩
    have d_dv_1 : Dy a.toInt 0 dv_1 := by rw [e_dv_1]; exact (d_x1.sub (own_zero 0) (by omega) (by decide) (by decide)).cast (by omega) rfl
    obtain ⟨qt_1, e_qt_1⟩ : ∃ z, z = FP.ddiv dv_1 (FP.l2d ((0 : Int64) + (1 : Int64))) := ⟨_, rfl⟩
    have d_qt_1 : Dy a.toInt 0 qt_1 := by rw [e_qt_1]; exact Dy.div (k := a.toInt) (j := 1) (e := 0) (g := 0) (by rw [Int.mul_one]; exact d_dv_1) dc1 (by decide) (by omega) (by decide) (by decide)
    obtain ⟨m1_1, e_m1_1⟩ : ∃ z, z = FP.dadd (0 : UInt64) qt_1 := ⟨_, rfl⟩
    have d_m1_1 : Dy a.toInt 0 m1_1 := by rw [e_m1_1]; exact ((own_zero 0).add d_qt_1 (by omega) (by decide) (by decide)).cast (by omega) rfl
    obtain ⟨xm_1, e_xm_1⟩ : ∃ z, z = FP.dsub (FP.l2d a) m1_1 := ⟨_, rfl⟩
    have d_xm_1 : Dy 0 0 xm_1 := by rw [e_xm_1]; exact (d_x1.sub d_m1_1 (by omega) (by decide) (by decide)).cast (by omega) rfl
    obtain ⟨pr_1, e_pr_1⟩ : ∃ z, z = FP.dmul dv_1 xm_1 := ⟨_, rfl⟩
    have d_pr_1 : Dy 0 0 pr_1 := by rw [e_pr_1]; exact (d_dv_1.mul d_xm_1 (by rw [Int.mul_zero]; decide) (by decide) (by decide)).cast (Int.mul_zero _) rfl
    obtain ⟨q1_1, e_q1_1⟩ : ∃ z, z = FP.dadd (0 : UInt64) pr_1 := ⟨_, rfl⟩
    have d_q1_1 : Dy 0 0 q1_1 := by rw [e_q1_1]; exact ((own_zero 0).add d_pr_1 (by decide) (by decide) (by decide)).cast rfl rfl
    obtain ⟨cq_, kq_, qa_, qb_, qc_⟩ := isOf hZ eT E_b8
    obtain ⟨_, _, ⟨T, L_, k_, n_⟩, -, X, ⟨Lc_, hQ, l_, y_, z_⟩, st⟩ := X.virtualBack hx (y := (⟨"com/example/bogong/bogong/stats/Tally", "add", "(D)V"⟩ : MethodName)) (z := (⟨"com/example/bogong/bogong/stats/Tally", "add", "(D)V"⟩ : MethodName)) hown (mvT hZ (hw _ (List.mem_of_getElem? (i := 12) rfl))) (mvT hZ (hw _ (List.mem_of_getElem? (i := 13) rfl))) (notFace_of_selects (args := #[]) (mvT hZ (hw _ (List.mem_of_getElem? (i := 15) rfl)))) (mvT hZ (hw _ (List.mem_of_getElem? (i := 15) rfl))) (mvT hZ (hw _ (List.mem_of_getElem? (i := 14) rfl))) (by decide) (backOf (W := 0) (rm3 l Z a0 hw [] b8 (FP.l2d a) (0 : Int64) (0 : UInt64) (0 : UInt64) (0 : UInt64) s1_1 dv_1 qt_1 m1_1 xm_1 pr_1 q1_1 h8 n0 (Nat.le_trans Z0 K.1) E_b8 g_b8 F_count_b8 F_sum_b8 F_mean_b8 F_squaredDeviations_b8 e_s1_1 d_s1_1.noNaN e_dv_1 d_dv_1.noNaN e_qt_1 d_qt_1.noNaN e_m1_1 d_m1_1.noNaN e_xm_1 d_xm_1.noNaN e_pr_1 d_pr_1.noNaN e_q1_1 d_q1_1.noNaN) hZ (hw _ (List.mem_of_getElem? (i := 16) rfl)) (hw _ (List.mem_of_getElem? (i := 5) rfl)) (by decide) (by decide)) qa_ qc_ (g := (mkF m 78 #[.val (.int p0), .val (.int p1), .val (.int p2), .val (.int p3), .val (.long a), .second, .val (.long e'), .second, .val (.long k), .second, .val (.int (1 : Int32)), .val (.double (FP.l2d a)), .second, .val (.double (FP.l2d ae)), .second, .val (.double vc), .second, .val (.ref b8), .unset, .unset, .unset, .unset, .unset] [(.double (FP.l2d a)), (.ref b8)])) rfl (by rw [hml]; rfl) (Steps.refl _) (argsL := [(.double (FP.l2d a))]) (rest := []) (lenOf pd_5 rfl) rfl (by show 2 * 0 + _ ≤ _; exact Nat.le_of_eq rfl) (hb hby at_78) (fun _ _ => ⟨rfl, eT, (by decide : 1 + 0 ≤ _), (by decide : 4 + 0 ≤ _)⟩)
    dsimp only [Pt.U, Pt.locs, Pt.cells, Pt.slots] at X l_ y_ z_ st hQ
    subst l_ y_ z_
    obtain ⟨h10, eT⟩ : ∃ z, T.heap = z := ⟨_, rfl⟩
    rw [eT] at hQ
    obtain ⟨rfl, Nq, Kq, Eq_, Fq_count, Fq_sum, Fq_mean, Fq_squaredDeviations⟩ := hQ
    have N := Fr.app N Nq
    have E_b8 := Eq_
    have F_count_b8 := Fq_count
    have F_sum_b8 := Fq_sum
    have F_mean_b8 := Fq_mean
    have F_squaredDeviations_b8 := Fq_squaredDeviations
    have K := K.trans Kq (allS (Or.inr sz_b8) all0)
    refine Go.tr st ?_
    show Go p.tables e below (T.setTop (mkF m 81 #[.val (.int p0), .val (.int p1), .val (.int p2), .val (.int p3), .val (.long a), .second, .val (.long e'), .second, .val (.long k), .second, .val (.int (1 : Int32)), .val (.double (FP.l2d a)), .second, .val (.double (FP.l2d ae)), .second, .val (.double vc), .second, .val (.ref b8), .unset, .unset, .unset, .unset, .unset] [])) _
    refine Go.by (fun tt_ kk_ => XS.iload X.here hx rfl (hb hby at_81) rfl kk_) ?_
    show Go p.tables e below (T.setTop (mkF m 83 #[.val (.int p0), .val (.int p1), .val (.int p2), .val (.int p3), .val (.long a), .second, .val (.long e'), .second, .val (.long k), .second, .val (.int (1 : Int32)), .val (.double (FP.l2d a)), .second, .val (.double (FP.l2d ae)), .second, .val (.double vc), .second, .val (.ref b8), .unset, .unset, .unset, .unset, .unset] [(.int (1 : Int32))])) _
    refine Go.by (fun tt_ kk_ => XS.iconst X.here hx rfl (hb hby at_83) kk_) ?_
    show Go p.tables e below (T.setTop (mkF m 84 #[.val (.int p0), .val (.int p1), .val (.int p2), .val (.int p3), .val (.long a), .second, .val (.long e'), .second, .val (.long k), .second, .val (.int (1 : Int32)), .val (.double (FP.l2d a)), .second, .val (.double (FP.l2d ae)), .second, .val (.double vc), .second, .val (.ref b8), .unset, .unset, .unset, .unset, .unset] [(.int (2 : Int32)), (.int (1 : Int32))])) _
    refine Go.by (fun tt_ kk_ => XS.icmpYes X.here hx rfl (pc0 := 84) (pc' := 94) rfl (hb hby at_84) rfl (tlt (by decide : (1 : Int32) < (2 : Int32))).1 (by decide) (by decide) kk_) ?_
    show Go p.tables e below (T.setTop (mkF m 94 #[.val (.int p0), .val (.int p1), .val (.int p2), .val (.int p3), .val (.long a), .second, .val (.long e'), .second, .val (.long k), .second, .val (.int (1 : Int32)), .val (.double (FP.l2d a)), .second, .val (.double (FP.l2d ae)), .second, .val (.double vc), .second, .val (.ref b8), .unset, .unset, .unset, .unset, .unset] [])) _
    refine Go.by (fun tt_ kk_ => XS.iload X.here hx rfl (hb hby at_94) rfl kk_) ?_
    show Go p.tables e below (T.setTop (mkF m 96 #[.val (.int p0), .val (.int p1), .val (.int p2), .val (.int p3), .val (.long a), .second, .val (.long e'), .second, .val (.long k), .second, .val (.int (1 : Int32)), .val (.double (FP.l2d a)), .second, .val (.double (FP.l2d ae)), .second, .val (.double vc), .second, .val (.ref b8), .unset, .unset, .unset, .unset, .unset] [(.int (1 : Int32))])) _
    refine Go.by (fun tt_ kk_ => XS.iconst X.here hx rfl (hb hby at_96) kk_) ?_
    show Go p.tables e below (T.setTop (mkF m 97 #[.val (.int p0), .val (.int p1), .val (.int p2), .val (.int p3), .val (.long a), .second, .val (.long e'), .second, .val (.long k), .second, .val (.int (1 : Int32)), .val (.double (FP.l2d a)), .second, .val (.double (FP.l2d ae)), .second, .val (.double vc), .second, .val (.ref b8), .unset, .unset, .unset, .unset, .unset] [(.int (3 : Int32)), (.int (1 : Int32))])) _
    refine Go.by (fun tt_ kk_ => XS.icmpYes X.here hx rfl (pc0 := 97) (pc' := 107) rfl (hb hby at_97) rfl (tlt (by decide : (1 : Int32) < (3 : Int32))).1 (by decide) (by decide) kk_) ?_
    show Go p.tables e below (T.setTop (mkF m 107 #[.val (.int p0), .val (.int p1), .val (.int p2), .val (.int p3), .val (.long a), .second, .val (.long e'), .second, .val (.long k), .second, .val (.int (1 : Int32)), .val (.double (FP.l2d a)), .second, .val (.double (FP.l2d ae)), .second, .val (.double vc), .second, .val (.ref b8), .unset, .unset, .unset, .unset, .unset] [])) _
    refine Go.by (fun tt_ kk_ => XS.aload X.here hx rfl (hb hby at_107) rfl rfl kk_) ?_
    show Go p.tables e below (T.setTop (mkF m 109 #[.val (.int p0), .val (.int p1), .val (.int p2), .val (.int p3), .val (.long a), .second, .val (.long e'), .second, .val (.long k), .second, .val (.int (1 : Int32)), .val (.double (FP.l2d a)), .second, .val (.double (FP.l2d ae)), .second, .val (.double vc), .second, .val (.ref b8), .unset, .unset, .unset, .unset, .unset] [(.ref b8)])) _
    obtain ⟨cq_, kq_, qa_, qb_, qc_⟩ := isOf hZ eT E_b8
    obtain ⟨_, _, ⟨T, L_, k_, n_⟩, -, X, ⟨Lc_, hQ, l_, y_, z_⟩, st⟩ := X.virtualBack hx (y := (⟨"com/example/bogong/bogong/stats/Tally", "sample", "()Lcom/example/bogong/bogong/stats/Sample;"⟩ : MethodName)) (z := (⟨"com/example/bogong/bogong/stats/Tally", "sample", "()Lcom/example/bogong/bogong/stats/Sample;"⟩ : MethodName)) hown (mvT hZ (hw _ (List.mem_of_getElem? (i := 25) rfl))) (mvT hZ (hw _ (List.mem_of_getElem? (i := 26) rfl))) (notFace_of_selects (args := #[]) (mvT hZ (hw _ (List.mem_of_getElem? (i := 28) rfl)))) (mvT hZ (hw _ (List.mem_of_getElem? (i := 28) rfl))) (mvT hZ (hw _ (List.mem_of_getElem? (i := 27) rfl))) (by decide) (backOf (W := 0) (rm4 l Z a0 hw [] b8 ((0 : Int64) + (1 : Int64)) s1_1 q1_1 h10 n0 (Nat.le_trans Z0 K.1) F_count_b8 F_sum_b8 F_squaredDeviations_b8) hZ (hw _ (List.mem_of_getElem? (i := 29) rfl)) (hw _ (List.mem_of_getElem? (i := 5) rfl)) (by decide) (by decide)) qa_ qc_ (g := (mkF m 109 #[.val (.int p0), .val (.int p1), .val (.int p2), .val (.int p3), .val (.long a), .second, .val (.long e'), .second, .val (.long k), .second, .val (.int (1 : Int32)), .val (.double (FP.l2d a)), .second, .val (.double (FP.l2d ae)), .second, .val (.double vc), .second, .val (.ref b8), .unset, .unset, .unset, .unset, .unset] [(.ref b8)])) rfl (by rw [hml]; rfl) (Steps.refl _) (argsL := []) (rest := []) (lenOf pd_2 rfl) rfl (by show 2 * 0 + _ ≤ _; exact Nat.le_of_eq rfl) (hb hby at_109) (fun _ _ => ⟨rfl, eT, (by decide : 1 + 1 ≤ _), (by decide : 4 + 3 ≤ _)⟩)
    dsimp only [Pt.U, Pt.locs, Pt.cells, Pt.slots] at X l_ y_ z_ st hQ
    subst l_ y_ z_
    obtain ⟨h12, eT⟩ : ∃ z, T.heap = z := ⟨_, rfl⟩
    rw [eT] at hQ
    obtain ⟨b11, g_b11, sq_b11, rfl, Nq, Kq, E_b11, F_count_b11, F_sum_b11, F_squaredDeviations_b11⟩ := hQ
    have N := Fr.app N Nq
    have E_b8 := Exa.keep E_b8 Kq
    have F_count_b8 := Fld.keep F_count_b8 Kq nin0
    have F_sum_b8 := Fld.keep F_sum_b8 Kq nin0
    have F_mean_b8 := Fld.keep F_mean_b8 Kq nin0
    have F_squaredDeviations_b8 := Fld.keep F_squaredDeviations_b8 Kq nin0
    have K := K.trans Kq all0
    refine Go.tr st ?_
    show Go p.tables e below (T.setTop (mkF m 112 #[.val (.int p0), .val (.int p1), .val (.int p2), .val (.int p3), .val (.long a), .second, .val (.long e'), .second, .val (.long k), .second, .val (.int (1 : Int32)), .val (.double (FP.l2d a)), .second, .val (.double (FP.l2d ae)), .second, .val (.double vc), .second, .val (.ref b8), .unset, .unset, .unset, .unset, .unset] [(.ref b11)])) _
    refine Go.by (fun tt_ kk_ => XS.astore X.here hx rfl (hb hby at_112) rfl rfl (l' := #[.val (.int p0), .val (.int p1), .val (.int p2), .val (.int p3), .val (.long a), .second, .val (.long e'), .second, .val (.long k), .second, .val (.int (1 : Int32)), .val (.double (FP.l2d a)), .second, .val (.double (FP.l2d ae)), .second, .val (.double vc), .second, .val (.ref b8), .val (.ref b11), .unset, .unset, .unset, .unset]) rfl kk_) ?_
    show Go p.tables e below (T.setTop (mkF m 114 #[.val (.int p0), .val (.int p1), .val (.int p2), .val (.int p3), .val (.long a), .second, .val (.long e'), .second, .val (.long k), .second, .val (.int (1 : Int32)), .val (.double (FP.l2d a)), .second, .val (.double (FP.l2d ae)), .second, .val (.double vc), .second, .val (.ref b8), .val (.ref b11), .unset, .unset, .unset, .unset] [])) _
    refine Go.by (fun tt_ kk_ => XS.iload X.here hx rfl (hb hby at_114) rfl kk_) ?_
    show Go p.tables e below (T.setTop (mkF m 116 #[.val (.int p0), .val (.int p1), .val (.int p2), .val (.int p3), .val (.long a), .second, .val (.long e'), .second, .val (.long k), .second, .val (.int (1 : Int32)), .val (.double (FP.l2d a)), .second, .val (.double (FP.l2d ae)), .second, .val (.double vc), .second, .val (.ref b8), .val (.ref b11), .unset, .unset, .unset, .unset] [(.int (1 : Int32))])) _
    refine Go.by (fun tt_ kk_ => XS.ifYes X.here hx rfl (pc0 := 116) (pc' := 128) rfl (hb hby at_116) rfl ((if0 _ _).trans (feq (by decide : ¬ ((1 : Int32) = (0 : Int32)))).2) (by decide) (by decide) kk_) ?_
    show Go p.tables e below (T.setTop (mkF m 128 #[.val (.int p0), .val (.int p1), .val (.int p2), .val (.int p3), .val (.long a), .second, .val (.long e'), .second, .val (.long k), .second, .val (.int (1 : Int32)), .val (.double (FP.l2d a)), .second, .val (.double (FP.l2d ae)), .second, .val (.double vc), .second, .val (.ref b8), .val (.ref b11), .unset, .unset, .unset, .unset] [])) _
    refine Go.by (fun tt_ kk_ => XS.iload X.here hx rfl (hb hby at_128) rfl kk_) ?_
    show Go p.tables e below (T.setTop (mkF m 130 #[.val (.int p0), .val (.int p1), .val (.int p2), .val (.int p3), .val (.long a), .second, .val (.long e'), .second, .val (.long k), .second, .val (.int (1 : Int32)), .val (.double (FP.l2d a)), .second, .val (.double (FP.l2d ae)), .second, .val (.double vc), .second, .val (.ref b8), .val (.ref b11), .unset, .unset, .unset, .unset] [(.int (1 : Int32))])) _
    refine Go.by (fun tt_ kk_ => XS.iconst X.here hx rfl (hb hby at_130) kk_) ?_
    show Go p.tables e below (T.setTop (mkF m 131 #[.val (.int p0), .val (.int p1), .val (.int p2), .val (.int p3), .val (.long a), .second, .val (.long e'), .second, .val (.long k), .second, .val (.int (1 : Int32)), .val (.double (FP.l2d a)), .second, .val (.double (FP.l2d ae)), .second, .val (.double vc), .second, .val (.ref b8), .val (.ref b11), .unset, .unset, .unset, .unset] [(.int (1 : Int32)), (.int (1 : Int32))])) _
    refine Go.by (fun tt_ kk_ => XS.icmpNo X.here hx rfl (hb hby at_131) rfl (teq (rfl : (1 : Int32) = (1 : Int32))).2 kk_) ?_
    show Go p.tables e below (T.setTop (mkF m 134 #[.val (.int p0), .val (.int p1), .val (.int p2), .val (.int p3), .val (.long a), .second, .val (.long e'), .second, .val (.long k), .second, .val (.int (1 : Int32)), .val (.double (FP.l2d a)), .second, .val (.double (FP.l2d ae)), .second, .val (.double vc), .second, .val (.ref b8), .val (.ref b11), .unset, .unset, .unset, .unset] [])) _
    refine Go.by (fun tt_ kk_ => XS.lload X.here hx rfl (hb hby at_134) rfl kk_) ?_
    show Go p.tables e below (T.setTop (mkF m 136 #[.val (.int p0), .val (.int p1), .val (.int p2), .val (.int p3), .val (.long a), .second, .val (.long e'), .second, .val (.long k), .second, .val (.int (1 : Int32)), .val (.double (FP.l2d a)), .second, .val (.double (FP.l2d ae)), .second, .val (.double vc), .second, .val (.ref b8), .val (.ref b11), .unset, .unset, .unset, .unset] [(.long a)])) _
    refine Go.by (fun tt_ kk_ => XS.l2dS X.here hx rfl (hb hby at_136) rfl rfl kk_) ?_
    show Go p.tables e below (T.setTop (mkF m 137 #[.val (.int p0), .val (.int p1), .val (.int p2), .val (.int p3), .val (.long a), .second, .val (.long e'), .second, .val (.long k), .second, .val (.int (1 : Int32)), .val (.double (FP.l2d a)), .second, .val (.double (FP.l2d ae)), .second, .val (.double vc), .second, .val (.ref b8), .val (.ref b11), .unset, .unset, .unset, .unset] [(.double (FP.l2d a))])) _
    refine Go.by (fun tt_ kk_ => XS.dstore X.here hx rfl (hb hby at_137) rfl (l' := #[.val (.int p0), .val (.int p1), .val (.int p2), .val (.int p3), .val (.long a), .second, .val (.long e'), .second, .val (.long k), .second, .val (.int (1 : Int32)), .val (.double (FP.l2d a)), .second, .val (.double (FP.l2d ae)), .second, .val (.double vc), .second, .val (.ref b8), .val (.ref b11), .val (.double (FP.l2d a)), .second, .unset, .unset]) rfl kk_) ?_
    show Go p.tables e below (T.setTop (mkF m 139 #[.val (.int p0), .val (.int p1), .val (.int p2), .val (.int p3), .val (.long a), .second, .val (.long e'), .second, .val (.long k), .second, .val (.int (1 : Int32)), .val (.double (FP.l2d a)), .second, .val (.double (FP.l2d ae)), .second, .val (.double vc), .second, .val (.ref b8), .val (.ref b11), .val (.double (FP.l2d a)), .second, .unset, .unset] [])) _
    refine Go.by (fun tt_ kk_ => XS.dconst0 X.here hx rfl (hb hby at_139) (v := (0 : UInt64)) rfl kk_) ?_
    show Go p.tables e below (T.setTop (mkF m 140 #[.val (.int p0), .val (.int p1), .val (.int p2), .val (.int p3), .val (.long a), .second, .val (.long e'), .second, .val (.long k), .second, .val (.int (1 : Int32)), .val (.double (FP.l2d a)), .second, .val (.double (FP.l2d ae)), .second, .val (.double vc), .second, .val (.ref b8), .val (.ref b11), .val (.double (FP.l2d a)), .second, .unset, .unset] [(.double (0 : UInt64))])) _
    refine Go.by (fun tt_ kk_ => XS.dstore X.here hx rfl (hb hby at_140) rfl (l' := #[.val (.int p0), .val (.int p1), .val (.int p2), .val (.int p3), .val (.long a), .second, .val (.long e'), .second, .val (.long k), .second, .val (.int (1 : Int32)), .val (.double (FP.l2d a)), .second, .val (.double (FP.l2d ae)), .second, .val (.double vc), .second, .val (.ref b8), .val (.ref b11), .val (.double (FP.l2d a)), .second, .val (.double (0 : UInt64)), .second]) rfl kk_) ?_
    show Go p.tables e below (T.setTop (mkF m 142 #[.val (.int p0), .val (.int p1), .val (.int p2), .val (.int p3), .val (.long a), .second, .val (.long e'), .second, .val (.long k), .second, .val (.int (1 : Int32)), .val (.double (FP.l2d a)), .second, .val (.double (FP.l2d ae)), .second, .val (.double vc), .second, .val (.ref b8), .val (.ref b11), .val (.double (FP.l2d a)), .second, .val (.double (0 : UInt64)), .second] [])) _
    refine Go.by (fun tt_ kk_ => XS.goto X.here hx rfl (pc0 := 142) (pc' := 227) rfl (hb hby at_142) (by decide) (by decide) kk_) ?_
    show Go p.tables e below (T.setTop (mkF m 227 #[.val (.int p0), .val (.int p1), .val (.int p2), .val (.int p3), .val (.long a), .second, .val (.long e'), .second, .val (.long k), .second, .val (.int (1 : Int32)), .val (.double (FP.l2d a)), .second, .val (.double (FP.l2d ae)), .second, .val (.double vc), .second, .val (.ref b8), .val (.ref b11), .val (.double (FP.l2d a)), .second, .val (.double (0 : UInt64)), .second] [])) _
    refine Go.by (fun tt_ kk_ => XS.aload X.here hx rfl (hb hby at_227) rfl rfl kk_) ?_
    show Go p.tables e below (T.setTop (mkF m 229 #[.val (.int p0), .val (.int p1), .val (.int p2), .val (.int p3), .val (.long a), .second, .val (.long e'), .second, .val (.long k), .second, .val (.int (1 : Int32)), .val (.double (FP.l2d a)), .second, .val (.double (FP.l2d ae)), .second, .val (.double vc), .second, .val (.ref b8), .val (.ref b11), .val (.double (FP.l2d a)), .second, .val (.double (0 : UInt64)), .second] [(.ref b11)])) _
    obtain ⟨cq_, kq_, qa_, qb_, qc_⟩ := isOf hZ eT E_b11
    obtain ⟨_, _, ⟨T, L_, k_, n_⟩, -, X, ⟨Lc_, hQ, l_, y_, z_⟩, st⟩ := X.virtualBack hx (y := (⟨"com/example/bogong/bogong/stats/Sample", "count", "()J"⟩ : MethodName)) (z := (⟨"com/example/bogong/bogong/stats/Sample", "count", "()J"⟩ : MethodName)) hown (mvT hZ (hw _ (List.mem_of_getElem? (i := 48) rfl))) (mvT hZ (hw _ (List.mem_of_getElem? (i := 49) rfl))) (notFace_of_selects (args := #[]) (mvT hZ (hw _ (List.mem_of_getElem? (i := 51) rfl)))) (mvT hZ (hw _ (List.mem_of_getElem? (i := 51) rfl))) (mvT hZ (hw _ (List.mem_of_getElem? (i := 50) rfl))) (by decide) (backOf (W := 0) (rm7 l Z a0 hw [] b11 ((0 : Int64) + (1 : Int64)) h12 n0 (Nat.le_trans Z0 K.1) F_count_b11) hZ (hw _ (List.mem_of_getElem? (i := 52) rfl)) (hw _ (List.mem_of_getElem? (i := 32) rfl)) (by decide) (by decide)) qa_ qc_ (g := (mkF m 229 #[.val (.int p0), .val (.int p1), .val (.int p2), .val (.int p3), .val (.long a), .second, .val (.long e'), .second, .val (.long k), .second, .val (.int (1 : Int32)), .val (.double (FP.l2d a)), .second, .val (.double (FP.l2d ae)), .second, .val (.double vc), .second, .val (.ref b8), .val (.ref b11), .val (.double (FP.l2d a)), .second, .val (.double (0 : UInt64)), .second] [(.ref b11)])) rfl (by rw [hml]; rfl) (Steps.refl _) (argsL := []) (rest := []) (lenOf pd_3 rfl) rfl (by show 2 * 0 + _ ≤ _; exact Nat.le_of_eq rfl) (hb hby at_229) (fun _ _ => ⟨rfl, eT, (by decide : 2 + 0 ≤ _), (by decide : 7 + 0 ≤ _)⟩)
    dsimp only [Pt.U, Pt.locs, Pt.cells, Pt.slots] at X l_ y_ z_ st hQ
    subst l_ y_ z_
    obtain ⟨rfl, Nq, eh⟩ := hQ
    have N := Fr.app N Nq
    have eT := eh
    refine Go.tr st ?_
    show Go p.tables e below (T.setTop (mkF m 232 #[.val (.int p0), .val (.int p1), .val (.int p2), .val (.int p3), .val (.long a), .second, .val (.long e'), .second, .val (.long k), .second, .val (.int (1 : Int32)), .val (.double (FP.l2d a)), .second, .val (.double (FP.l2d ae)), .second, .val (.double vc), .second, .val (.ref b8), .val (.ref b11), .val (.double (FP.l2d a)), .second, .val (.double (0 : UInt64)), .second] [(.long ((0 : Int64) + (1 : Int64)))])) _
    refine Go.by (fun tt_ kk_ => XS.iload X.here hx rfl (hb hby at_232) rfl kk_) ?_
    show Go p.tables e below (T.setTop (mkF m 234 #[.val (.int p0), .val (.int p1), .val (.int p2), .val (.int p3), .val (.long a), .second, .val (.long e'), .second, .val (.long k), .second, .val (.int (1 : Int32)), .val (.double (FP.l2d a)), .second, .val (.double (FP.l2d ae)), .second, .val (.double vc), .second, .val (.ref b8), .val (.ref b11), .val (.double (FP.l2d a)), .second, .val (.double (0 : UInt64)), .second] [(.int (1 : Int32)), (.long ((0 : Int64) + (1 : Int64)))])) _
    refine Go.by (fun tt_ kk_ => XS.i2l X.here hx rfl (hb hby at_234) rfl kk_) ?_
    show Go p.tables e below (T.setTop (mkF m 235 #[.val (.int p0), .val (.int p1), .val (.int p2), .val (.int p3), .val (.long a), .second, .val (.long e'), .second, .val (.long k), .second, .val (.int (1 : Int32)), .val (.double (FP.l2d a)), .second, .val (.double (FP.l2d ae)), .second, .val (.double vc), .second, .val (.ref b8), .val (.ref b11), .val (.double (FP.l2d a)), .second, .val (.double (0 : UInt64)), .second] [(.long ((1 : Int32).toInt64)), (.long ((0 : Int64) + (1 : Int64)))])) _
    refine Go.by (fun tt_ kk_ => XS.lcmp X.here hx rfl (hb hby at_235) rfl kk_) ?_
    show Go p.tables e below (T.setTop (mkF m 236 #[.val (.int p0), .val (.int p1), .val (.int p2), .val (.int p3), .val (.long a), .second, .val (.long e'), .second, .val (.long k), .second, .val (.int (1 : Int32)), .val (.double (FP.l2d a)), .second, .val (.double (FP.l2d ae)), .second, .val (.double vc), .second, .val (.ref b8), .val (.ref b11), .val (.double (FP.l2d a)), .second, .val (.double (0 : UInt64)), .second] [(.int (lcmpW ((0 : Int64) + (1 : Int64)) ((1 : Int32).toInt64)))])) _
    refine Go.by (fun tt_ kk_ => XS.ifNo X.here hx rfl (hb hby at_236) rfl ((if0 _ _).trans (teq (by decide : (lcmpW ((0 : Int64) + (1 : Int64)) ((1 : Int32).toInt64)) = (0 : Int32))).2) kk_) ?_
    show Go p.tables e below (T.setTop (mkF m 239 #[.val (.int p0), .val (.int p1), .val (.int p2), .val (.int p3), .val (.long a), .second, .val (.long e'), .second, .val (.long k), .second, .val (.int (1 : Int32)), .val (.double (FP.l2d a)), .second, .val (.double (FP.l2d ae)), .second, .val (.double vc), .second, .val (.ref b8), .val (.ref b11), .val (.double (FP.l2d a)), .second, .val (.double (0 : UInt64)), .second] [])) _
    refine Go.by (fun tt_ kk_ => XS.aload X.here hx rfl (hb hby at_239) rfl rfl kk_) ?_
    show Go p.tables e below (T.setTop (mkF m 241 #[.val (.int p0), .val (.int p1), .val (.int p2), .val (.int p3), .val (.long a), .second, .val (.long e'), .second, .val (.long k), .second, .val (.int (1 : Int32)), .val (.double (FP.l2d a)), .second, .val (.double (FP.l2d ae)), .second, .val (.double vc), .second, .val (.ref b8), .val (.ref b11), .val (.double (FP.l2d a)), .second, .val (.double (0 : UInt64)), .second] [(.ref b11)])) _
    obtain ⟨cq_, kq_, qa_, qb_, qc_⟩ := isOf hZ eT E_b11
    obtain ⟨_, _, ⟨T, L_, k_, n_⟩, -, X, ⟨Lc_, hQ, l_, y_, z_⟩, st⟩ := X.virtualBack hx (y := (⟨"com/example/bogong/bogong/stats/Sample", "sum", "()D"⟩ : MethodName)) (z := (⟨"com/example/bogong/bogong/stats/Sample", "sum", "()D"⟩ : MethodName)) hown (mvT hZ (hw _ (List.mem_of_getElem? (i := 53) rfl))) (mvT hZ (hw _ (List.mem_of_getElem? (i := 54) rfl))) (notFace_of_selects (args := #[]) (mvT hZ (hw _ (List.mem_of_getElem? (i := 56) rfl)))) (mvT hZ (hw _ (List.mem_of_getElem? (i := 56) rfl))) (mvT hZ (hw _ (List.mem_of_getElem? (i := 55) rfl))) (by decide) (backOf (W := 0) (rm8 l Z a0 hw [] b11 s1_1 h12 n0 (Nat.le_trans Z0 K.1) F_sum_b11) hZ (hw _ (List.mem_of_getElem? (i := 57) rfl)) (hw _ (List.mem_of_getElem? (i := 32) rfl)) (by decide) (by decide)) qa_ qc_ (g := (mkF m 241 #[.val (.int p0), .val (.int p1), .val (.int p2), .val (.int p3), .val (.long a), .second, .val (.long e'), .second, .val (.long k), .second, .val (.int (1 : Int32)), .val (.double (FP.l2d a)), .second, .val (.double (FP.l2d ae)), .second, .val (.double vc), .second, .val (.ref b8), .val (.ref b11), .val (.double (FP.l2d a)), .second, .val (.double (0 : UInt64)), .second] [(.ref b11)])) rfl (by rw [hml]; rfl) (Steps.refl _) (argsL := []) (rest := []) (lenOf pd_4 rfl) rfl (by show 2 * 0 + _ ≤ _; exact Nat.le_of_eq rfl) (hb hby at_241) (fun _ _ => ⟨rfl, eT, (by decide : 2 + 0 ≤ _), (by decide : 7 + 0 ≤ _)⟩)
    dsimp only [Pt.U, Pt.locs, Pt.cells, Pt.slots] at X l_ y_ z_ st hQ
    subst l_ y_ z_
    obtain ⟨rfl, Nq, eh⟩ := hQ
    have N := Fr.app N Nq
    have eT := eh
    refine Go.tr st ?_
    show Go p.tables e below (T.setTop (mkF m 244 #[.val (.int p0), .val (.int p1), .val (.int p2), .val (.int p3), .val (.long a), .second, .val (.long e'), .second, .val (.long k), .second, .val (.int (1 : Int32)), .val (.double (FP.l2d a)), .second, .val (.double (FP.l2d ae)), .second, .val (.double vc), .second, .val (.ref b8), .val (.ref b11), .val (.double (FP.l2d a)), .second, .val (.double (0 : UInt64)), .second] [(.double s1_1)])) _
    refine Go.by (fun tt_ kk_ => XS.dload X.here hx rfl (hb hby at_244) rfl kk_) ?_
    show Go p.tables e below (T.setTop (mkF m 246 #[.val (.int p0), .val (.int p1), .val (.int p2), .val (.int p3), .val (.long a), .second, .val (.long e'), .second, .val (.long k), .second, .val (.int (1 : Int32)), .val (.double (FP.l2d a)), .second, .val (.double (FP.l2d ae)), .second, .val (.double vc), .second, .val (.ref b8), .val (.ref b11), .val (.double (FP.l2d a)), .second, .val (.double (0 : UInt64)), .second] [(.double (FP.l2d a)), (.double s1_1)])) _
    refine Go.by (fun tt_ kk_ => XS.dcmpS X.here hx rfl (hb hby at_246) rfl ((d_s1_1.cmpV (Dy.l2d (by omega)) .l).trans (own_ci_eq.mpr rfl)) kk_) ?_
    show Go p.tables e below (T.setTop (mkF m 247 #[.val (.int p0), .val (.int p1), .val (.int p2), .val (.int p3), .val (.long a), .second, .val (.long e'), .second, .val (.long k), .second, .val (.int (1 : Int32)), .val (.double (FP.l2d a)), .second, .val (.double (FP.l2d ae)), .second, .val (.double vc), .second, .val (.ref b8), .val (.ref b11), .val (.double (FP.l2d a)), .second, .val (.double (0 : UInt64)), .second] [(.int (0 : Int32))])) _
    refine Go.by (fun tt_ kk_ => XS.ifNo X.here hx rfl (hb hby at_247) rfl ((if0 _ _).trans (teq (rfl : (0 : Int32) = (0 : Int32))).2) kk_) ?_
    show Go p.tables e below (T.setTop (mkF m 250 #[.val (.int p0), .val (.int p1), .val (.int p2), .val (.int p3), .val (.long a), .second, .val (.long e'), .second, .val (.long k), .second, .val (.int (1 : Int32)), .val (.double (FP.l2d a)), .second, .val (.double (FP.l2d ae)), .second, .val (.double vc), .second, .val (.ref b8), .val (.ref b11), .val (.double (FP.l2d a)), .second, .val (.double (0 : UInt64)), .second] [])) _
    refine Go.by (fun tt_ kk_ => XS.aload X.here hx rfl (hb hby at_250) rfl rfl kk_) ?_
    show Go p.tables e below (T.setTop (mkF m 252 #[.val (.int p0), .val (.int p1), .val (.int p2), .val (.int p3), .val (.long a), .second, .val (.long e'), .second, .val (.long k), .second, .val (.int (1 : Int32)), .val (.double (FP.l2d a)), .second, .val (.double (FP.l2d ae)), .second, .val (.double vc), .second, .val (.ref b8), .val (.ref b11), .val (.double (FP.l2d a)), .second, .val (.double (0 : UInt64)), .second] [(.ref b11)])) _
    obtain ⟨cq_, kq_, qa_, qb_, qc_⟩ := isOf hZ eT E_b11
    obtain ⟨_, _, ⟨T, L_, k_, n_⟩, -, X, ⟨Lc_, hQ, l_, y_, z_⟩, st⟩ := X.virtualBack hx (y := (⟨"com/example/bogong/bogong/stats/Sample", "squaredDeviations", "()D"⟩ : MethodName)) (z := (⟨"com/example/bogong/bogong/stats/Sample", "squaredDeviations", "()D"⟩ : MethodName)) hown (mvT hZ (hw _ (List.mem_of_getElem? (i := 58) rfl))) (mvT hZ (hw _ (List.mem_of_getElem? (i := 59) rfl))) (notFace_of_selects (args := #[]) (mvT hZ (hw _ (List.mem_of_getElem? (i := 61) rfl)))) (mvT hZ (hw _ (List.mem_of_getElem? (i := 61) rfl))) (mvT hZ (hw _ (List.mem_of_getElem? (i := 60) rfl))) (by decide) (backOf (W := 0) (rm9 l Z a0 hw [] b11 q1_1 h12 n0 (Nat.le_trans Z0 K.1) F_squaredDeviations_b11) hZ (hw _ (List.mem_of_getElem? (i := 62) rfl)) (hw _ (List.mem_of_getElem? (i := 32) rfl)) (by decide) (by decide)) qa_ qc_ (g := (mkF m 252 #[.val (.int p0), .val (.int p1), .val (.int p2), .val (.int p3), .val (.long a), .second, .val (.long e'), .second, .val (.long k), .second, .val (.int (1 : Int32)), .val (.double (FP.l2d a)), .second, .val (.double (FP.l2d ae)), .second, .val (.double vc), .second, .val (.ref b8), .val (.ref b11), .val (.double (FP.l2d a)), .second, .val (.double (0 : UInt64)), .second] [(.ref b11)])) rfl (by rw [hml]; rfl) (Steps.refl _) (argsL := []) (rest := []) (lenOf pd_4 rfl) rfl (by show 2 * 0 + _ ≤ _; exact Nat.le_of_eq rfl) (hb hby at_252) (fun _ _ => ⟨rfl, eT, (by decide : 2 + 0 ≤ _), (by decide : 7 + 0 ≤ _)⟩)
    dsimp only [Pt.U, Pt.locs, Pt.cells, Pt.slots] at X l_ y_ z_ st hQ
    subst l_ y_ z_
    obtain ⟨rfl, Nq, eh⟩ := hQ
    have N := Fr.app N Nq
    have eT := eh
    refine Go.tr st ?_
    show Go p.tables e below (T.setTop (mkF m 255 #[.val (.int p0), .val (.int p1), .val (.int p2), .val (.int p3), .val (.long a), .second, .val (.long e'), .second, .val (.long k), .second, .val (.int (1 : Int32)), .val (.double (FP.l2d a)), .second, .val (.double (FP.l2d ae)), .second, .val (.double vc), .second, .val (.ref b8), .val (.ref b11), .val (.double (FP.l2d a)), .second, .val (.double (0 : UInt64)), .second] [(.double q1_1)])) _
    refine Go.by (fun tt_ kk_ => XS.dload X.here hx rfl (hb hby at_255) rfl kk_) ?_
    show Go p.tables e below (T.setTop (mkF m 257 #[.val (.int p0), .val (.int p1), .val (.int p2), .val (.int p3), .val (.long a), .second, .val (.long e'), .second, .val (.long k), .second, .val (.int (1 : Int32)), .val (.double (FP.l2d a)), .second, .val (.double (FP.l2d ae)), .second, .val (.double vc), .second, .val (.ref b8), .val (.ref b11), .val (.double (FP.l2d a)), .second, .val (.double (0 : UInt64)), .second] [(.double (0 : UInt64)), (.double q1_1)])) _
    refine Go.by (fun tt_ kk_ => XS.dcmpS X.here hx rfl (hb hby at_257) rfl ((d_q1_1.cmpV (own_zero 0) .l).trans (own_ci_eq.mpr (by omega))) kk_) ?_
    show Go p.tables e below (T.setTop (mkF m 258 #[.val (.int p0), .val (.int p1), .val (.int p2), .val (.int p3), .val (.long a), .second, .val (.long e'), .second, .val (.long k), .second, .val (.int (1 : Int32)), .val (.double (FP.l2d a)), .second, .val (.double (FP.l2d ae)), .second, .val (.double vc), .second, .val (.ref b8), .val (.ref b11), .val (.double (FP.l2d a)), .second, .val (.double (0 : UInt64)), .second] [(.int (0 : Int32))])) _
    refine Go.by (fun tt_ kk_ => XS.ifNo X.here hx rfl (hb hby at_258) rfl ((if0 _ _).trans (teq (rfl : (0 : Int32) = (0 : Int32))).2) kk_) ?_
    show Go p.tables e below (T.setTop (mkF m 261 #[.val (.int p0), .val (.int p1), .val (.int p2), .val (.int p3), .val (.long a), .second, .val (.long e'), .second, .val (.long k), .second, .val (.int (1 : Int32)), .val (.double (FP.l2d a)), .second, .val (.double (FP.l2d ae)), .second, .val (.double vc), .second, .val (.ref b8), .val (.ref b11), .val (.double (FP.l2d a)), .second, .val (.double (0 : UInt64)), .second] [])) _
    refine Go.by (fun tt_ kk_ => XS.iconst X.here hx rfl (hb hby at_261) kk_) ?_
    show Go p.tables e below (T.setTop (mkF m 262 #[.val (.int p0), .val (.int p1), .val (.int p2), .val (.int p3), .val (.long a), .second, .val (.long e'), .second, .val (.long k), .second, .val (.int (1 : Int32)), .val (.double (FP.l2d a)), .second, .val (.double (FP.l2d ae)), .second, .val (.double vc), .second, .val (.ref b8), .val (.ref b11), .val (.double (FP.l2d a)), .second, .val (.double (0 : UInt64)), .second] [(.int (1 : Int32))])) _
    refine Go.by (fun tt_ kk_ => XS.goto X.here hx rfl (pc0 := 262) (pc' := 266) rfl (hb hby at_262) (by decide) (by decide) kk_) ?_
    show Go p.tables e below (T.setTop (mkF m 266 #[.val (.int p0), .val (.int p1), .val (.int p2), .val (.int p3), .val (.long a), .second, .val (.long e'), .second, .val (.long k), .second, .val (.int (1 : Int32)), .val (.double (FP.l2d a)), .second, .val (.double (FP.l2d ae)), .second, .val (.double vc), .second, .val (.ref b8), .val (.ref b11), .val (.double (FP.l2d a)), .second, .val (.double (0 : UInt64)), .second] [(.int (1 : Int32))])) _
    exact Go.done X  (v := some (.int (1 : Int32))) (fun h => by rw [Bd.returns] at h; cases h) Bd.notSynchronized (fun fs hr => retN X hx (z := (1 : Int32)) (t := .boolean) Bd.returns (by simp) (hb hby at_266) hr) (by rw [eT]; exact ⟨rfl, N⟩) (by decide) (by decide)
  · rw [hcs]
    show Go p.tables e below (T.setTop (mkF m 21 #[.val (.int p0), .val (.int p1), .val (.int p2), .val (.int p3), .val (.long a), .second, .val (.long e'), .second, .val (.long k), .second, .unset, .unset, .unset, .unset, .unset, .unset, .unset, .unset, .unset, .unset, .unset, .unset, .unset] [(.int (2 : Int32))])) _
    refine Go.by (fun tt_ kk_ => XS.istore X.here hx rfl (hb hby at_21) rfl (l' := #[.val (.int p0), .val (.int p1), .val (.int p2), .val (.int p3), .val (.long a), .second, .val (.long e'), .second, .val (.long k), .second, .val (.int (2 : Int32)), .unset, .unset, .unset, .unset, .unset, .unset, .unset, .unset, .unset, .unset, .unset, .unset]) rfl kk_) ?_
    show Go p.tables e below (T.setTop (mkF m 23 #[.val (.int p0), .val (.int p1), .val (.int p2), .val (.int p3), .val (.long a), .second, .val (.long e'), .second, .val (.long k), .second, .val (.int (2 : Int32)), .unset, .unset, .unset, .unset, .unset, .unset, .unset, .unset, .unset, .unset, .unset, .unset] [])) _
    refine Go.by (fun tt_ kk_ => XS.lload X.here hx rfl (hb hby at_23) rfl kk_) ?_
    show Go p.tables e below (T.setTop (mkF m 25 #[.val (.int p0), .val (.int p1), .val (.int p2), .val (.int p3), .val (.long a), .second, .val (.long e'), .second, .val (.long k), .second, .val (.int (2 : Int32)), .unset, .unset, .unset, .unset, .unset, .unset, .unset, .unset, .unset, .unset, .unset, .unset] [(.long a)])) _
    refine Go.by (fun tt_ kk_ => XS.l2dS X.here hx rfl (hb hby at_25) rfl rfl kk_) ?_
    show Go p.tables e below (T.setTop (mkF m 26 #[.val (.int p0), .val (.int p1), .val (.int p2), .val (.int p3), .val (.long a), .second, .val (.long e'), .second, .val (.long k), .second, .val (.int (2 : Int32)), .unset, .unset, .unset, .unset, .unset, .unset, .unset, .unset, .unset, .unset, .unset, .unset] [(.double (FP.l2d a))])) _
    refine Go.by (fun tt_ kk_ => XS.dstore X.here hx rfl (hb hby at_26) rfl (l' := #[.val (.int p0), .val (.int p1), .val (.int p2), .val (.int p3), .val (.long a), .second, .val (.long e'), .second, .val (.long k), .second, .val (.int (2 : Int32)), .val (.double (FP.l2d a)), .second, .unset, .unset, .unset, .unset, .unset, .unset, .unset, .unset, .unset, .unset]) rfl kk_) ?_
    show Go p.tables e below (T.setTop (mkF m 28 #[.val (.int p0), .val (.int p1), .val (.int p2), .val (.int p3), .val (.long a), .second, .val (.long e'), .second, .val (.long k), .second, .val (.int (2 : Int32)), .val (.double (FP.l2d a)), .second, .unset, .unset, .unset, .unset, .unset, .unset, .unset, .unset, .unset, .unset] [])) _
    refine Go.by (fun tt_ kk_ => XS.lload X.here hx rfl (hb hby at_28) rfl kk_) ?_
    show Go p.tables e below (T.setTop (mkF m 30 #[.val (.int p0), .val (.int p1), .val (.int p2), .val (.int p3), .val (.long a), .second, .val (.long e'), .second, .val (.long k), .second, .val (.int (2 : Int32)), .val (.double (FP.l2d a)), .second, .unset, .unset, .unset, .unset, .unset, .unset, .unset, .unset, .unset, .unset] [(.long a)])) _
    refine Go.by (fun tt_ kk_ => XS.lload X.here hx rfl (hb hby at_30) rfl kk_) ?_
    show Go p.tables e below (T.setTop (mkF m 32 #[.val (.int p0), .val (.int p1), .val (.int p2), .val (.int p3), .val (.long a), .second, .val (.long e'), .second, .val (.long k), .second, .val (.int (2 : Int32)), .val (.double (FP.l2d a)), .second, .unset, .unset, .unset, .unset, .unset, .unset, .unset, .unset, .unset, .unset] [(.long e'), (.long a)])) _
    refine Go.by (fun tt_ kk_ => XS.ladd X.here hx rfl (hb hby at_32) rfl kk_) ?_
    show Go p.tables e below (T.setTop (mkF m 33 #[.val (.int p0), .val (.int p1), .val (.int p2), .val (.int p3), .val (.long a), .second, .val (.long e'), .second, .val (.long k), .second, .val (.int (2 : Int32)), .val (.double (FP.l2d a)), .second, .unset, .unset, .unset, .unset, .unset, .unset, .unset, .unset, .unset, .unset] [(.long (a + e'))])) _
    obtain ⟨ae, e_ae⟩ : ∃ z, z = (a + e') := ⟨_, rfl⟩
    rw [← e_ae]
    show Go p.tables e below (T.setTop (mkF m 33 #[.val (.int p0), .val (.int p1), .val (.int p2), .val (.int p3), .val (.long a), .second, .val (.long e'), .second, .val (.long k), .second, .val (.int (2 : Int32)), .val (.double (FP.l2d a)), .second, .unset, .unset, .unset, .unset, .unset, .unset, .unset, .unset, .unset, .unset] [(.long ae)])) _
    have b_ae : ae.toInt = a.toInt + e'.toInt := by rw [e_ae]; exact FP.Core.int64_add (by omega) (by omega)
    refine Go.by (fun tt_ kk_ => XS.l2dS X.here hx rfl (hb hby at_33) rfl rfl kk_) ?_
    show Go p.tables e below (T.setTop (mkF m 34 #[.val (.int p0), .val (.int p1), .val (.int p2), .val (.int p3), .val (.long a), .second, .val (.long e'), .second, .val (.long k), .second, .val (.int (2 : Int32)), .val (.double (FP.l2d a)), .second, .unset, .unset, .unset, .unset, .unset, .unset, .unset, .unset, .unset, .unset] [(.double (FP.l2d ae))])) _
    refine Go.by (fun tt_ kk_ => XS.dstore X.here hx rfl (hb hby at_34) rfl (l' := #[.val (.int p0), .val (.int p1), .val (.int p2), .val (.int p3), .val (.long a), .second, .val (.long e'), .second, .val (.long k), .second, .val (.int (2 : Int32)), .val (.double (FP.l2d a)), .second, .val (.double (FP.l2d ae)), .second, .unset, .unset, .unset, .unset, .unset, .unset, .unset, .unset]) rfl kk_) ?_
    show Go p.tables e below (T.setTop (mkF m 36 #[.val (.int p0), .val (.int p1), .val (.int p2), .val (.int p3), .val (.long a), .second, .val (.long e'), .second, .val (.long k), .second, .val (.int (2 : Int32)), .val (.double (FP.l2d a)), .second, .val (.double (FP.l2d ae)), .second, .unset, .unset, .unset, .unset, .unset, .unset, .unset, .unset] [])) _
    refine Go.by (X.ldc2Long hx hown (mvT hZ (hw _ (List.mem_of_getElem? (i := 0) rfl))) (g := (mkF m 36 #[.val (.int p0), .val (.int p1), .val (.int p2), .val (.int p3), .val (.long a), .second, .val (.long e'), .second, .val (.long k), .second, .val (.int (2 : Int32)), .val (.double (FP.l2d a)), .second, .val (.double (FP.l2d ae)), .second, .unset, .unset, .unset, .unset, .unset, .unset, .unset, .unset] [])) rfl (hb hby at_36)) ?_
    show Go p.tables e below (T.setTop (mkF m 39 #[.val (.int p0), .val (.int p1), .val (.int p2), .val (.int p3), .val (.long a), .second, .val (.long e'), .second, .val (.long k), .second, .val (.int (2 : Int32)), .val (.double (FP.l2d a)), .second, .val (.double (FP.l2d ae)), .second, .unset, .unset, .unset, .unset, .unset, .unset, .unset, .unset] [(.long (2 : Int64))])) _
    refine Go.by (fun tt_ kk_ => XS.lload X.here hx rfl (hb hby at_39) rfl kk_) ?_
    show Go p.tables e below (T.setTop (mkF m 41 #[.val (.int p0), .val (.int p1), .val (.int p2), .val (.int p3), .val (.long a), .second, .val (.long e'), .second, .val (.long k), .second, .val (.int (2 : Int32)), .val (.double (FP.l2d a)), .second, .val (.double (FP.l2d ae)), .second, .unset, .unset, .unset, .unset, .unset, .unset, .unset, .unset] [(.long a), (.long (2 : Int64))])) _
    refine Go.by (fun tt_ kk_ => XS.lmul X.here hx rfl (hb hby at_41) rfl kk_) ?_
    show Go p.tables e below (T.setTop (mkF m 42 #[.val (.int p0), .val (.int p1), .val (.int p2), .val (.int p3), .val (.long a), .second, .val (.long e'), .second, .val (.long k), .second, .val (.int (2 : Int32)), .val (.double (FP.l2d a)), .second, .val (.double (FP.l2d ae)), .second, .unset, .unset, .unset, .unset, .unset, .unset, .unset, .unset] [(.long ((2 : Int64) * a))])) _
    refine Go.by (fun tt_ kk_ => XS.lload X.here hx rfl (hb hby at_42) rfl kk_) ?_
    show Go p.tables e below (T.setTop (mkF m 44 #[.val (.int p0), .val (.int p1), .val (.int p2), .val (.int p3), .val (.long a), .second, .val (.long e'), .second, .val (.long k), .second, .val (.int (2 : Int32)), .val (.double (FP.l2d a)), .second, .val (.double (FP.l2d ae)), .second, .unset, .unset, .unset, .unset, .unset, .unset, .unset, .unset] [(.long e'), (.long ((2 : Int64) * a))])) _
    refine Go.by (fun tt_ kk_ => XS.ladd X.here hx rfl (hb hby at_44) rfl kk_) ?_
    show Go p.tables e below (T.setTop (mkF m 45 #[.val (.int p0), .val (.int p1), .val (.int p2), .val (.int p3), .val (.long a), .second, .val (.long e'), .second, .val (.long k), .second, .val (.int (2 : Int32)), .val (.double (FP.l2d a)), .second, .val (.double (FP.l2d ae)), .second, .unset, .unset, .unset, .unset, .unset, .unset, .unset, .unset] [(.long (((2 : Int64) * a) + e'))])) _
    refine Go.by (X.ldc2Long hx hown (mvT hZ (hw _ (List.mem_of_getElem? (i := 1) rfl))) (g := (mkF m 45 #[.val (.int p0), .val (.int p1), .val (.int p2), .val (.int p3), .val (.long a), .second, .val (.long e'), .second, .val (.long k), .second, .val (.int (2 : Int32)), .val (.double (FP.l2d a)), .second, .val (.double (FP.l2d ae)), .second, .unset, .unset, .unset, .unset, .unset, .unset, .unset, .unset] [(.long (((2 : Int64) * a) + e'))])) rfl (hb hby at_45)) ?_
    show Go p.tables e below (T.setTop (mkF m 48 #[.val (.int p0), .val (.int p1), .val (.int p2), .val (.int p3), .val (.long a), .second, .val (.long e'), .second, .val (.long k), .second, .val (.int (2 : Int32)), .val (.double (FP.l2d a)), .second, .val (.double (FP.l2d ae)), .second, .unset, .unset, .unset, .unset, .unset, .unset, .unset, .unset] [(.long (6 : Int64)), (.long (((2 : Int64) * a) + e'))])) _
    refine Go.by (fun tt_ kk_ => XS.lload X.here hx rfl (hb hby at_48) rfl kk_) ?_
    show Go p.tables e below (T.setTop (mkF m 50 #[.val (.int p0), .val (.int p1), .val (.int p2), .val (.int p3), .val (.long a), .second, .val (.long e'), .second, .val (.long k), .second, .val (.int (2 : Int32)), .val (.double (FP.l2d a)), .second, .val (.double (FP.l2d ae)), .second, .unset, .unset, .unset, .unset, .unset, .unset, .unset, .unset] [(.long k), (.long (6 : Int64)), (.long (((2 : Int64) * a) + e'))])) _
    refine Go.by (fun tt_ kk_ => XS.lmul X.here hx rfl (hb hby at_50) rfl kk_) ?_
    show Go p.tables e below (T.setTop (mkF m 51 #[.val (.int p0), .val (.int p1), .val (.int p2), .val (.int p3), .val (.long a), .second, .val (.long e'), .second, .val (.long k), .second, .val (.int (2 : Int32)), .val (.double (FP.l2d a)), .second, .val (.double (FP.l2d ae)), .second, .unset, .unset, .unset, .unset, .unset, .unset, .unset, .unset] [(.long ((6 : Int64) * k)), (.long (((2 : Int64) * a) + e'))])) _
    refine Go.by (fun tt_ kk_ => XS.ladd X.here hx rfl (hb hby at_51) rfl kk_) ?_
    show Go p.tables e below (T.setTop (mkF m 52 #[.val (.int p0), .val (.int p1), .val (.int p2), .val (.int p3), .val (.long a), .second, .val (.long e'), .second, .val (.long k), .second, .val (.int (2 : Int32)), .val (.double (FP.l2d a)), .second, .val (.double (FP.l2d ae)), .second, .unset, .unset, .unset, .unset, .unset, .unset, .unset, .unset] [(.long ((((2 : Int64) * a) + e') + ((6 : Int64) * k)))])) _
    obtain ⟨vl, e_vl⟩ : ∃ z, z = ((((2 : Int64) * a) + e') + ((6 : Int64) * k)) := ⟨_, rfl⟩
    rw [← e_vl]
    show Go p.tables e below (T.setTop (mkF m 52 #[.val (.int p0), .val (.int p1), .val (.int p2), .val (.int p3), .val (.long a), .second, .val (.long e'), .second, .val (.long k), .second, .val (.int (2 : Int32)), .val (.double (FP.l2d a)), .second, .val (.double (FP.l2d ae)), .second, .unset, .unset, .unset, .unset, .unset, .unset, .unset, .unset] [(.long vl)])) _
    have l1 : ((2 : Int64) * a).toInt = 2 * a.toInt := FP.Core.int64_mul (by rw [show (2 : Int64).toInt = 2 by decide]; omega) (by rw [show (2 : Int64).toInt = 2 by decide]; omega)
    have l2 : ((2 : Int64) * a + e').toInt = 2 * a.toInt + e'.toInt := by rw [FP.Core.int64_add (by rw [l1]; omega) (by rw [l1]; omega), l1]
    have l3 : ((6 : Int64) * k).toInt = 6 * k.toInt := FP.Core.int64_mul (by rw [show (6 : Int64).toInt = 6 by decide]; omega) (by rw [show (6 : Int64).toInt = 6 by decide]; omega)
    have b_vl : vl.toInt = 2 * a.toInt + e'.toInt + 6 * k.toInt := by rw [e_vl, FP.Core.int64_add (by rw [l2, l3]; omega) (by rw [l2, l3]; omega), l2, l3]
    refine Go.by (fun tt_ kk_ => XS.l2dS X.here hx rfl (hb hby at_52) rfl rfl kk_) ?_
    show Go p.tables e below (T.setTop (mkF m 53 #[.val (.int p0), .val (.int p1), .val (.int p2), .val (.int p3), .val (.long a), .second, .val (.long e'), .second, .val (.long k), .second, .val (.int (2 : Int32)), .val (.double (FP.l2d a)), .second, .val (.double (FP.l2d ae)), .second, .unset, .unset, .unset, .unset, .unset, .unset, .unset, .unset] [(.double (FP.l2d vl))])) _
    refine Go.by (X.ldc2DoubleC hx hown (mvT hZ (hw _ (List.mem_of_getElem? (i := 2) rfl))) (g := (mkF m 53 #[.val (.int p0), .val (.int p1), .val (.int p2), .val (.int p3), .val (.long a), .second, .val (.long e'), .second, .val (.long k), .second, .val (.int (2 : Int32)), .val (.double (FP.l2d a)), .second, .val (.double (FP.l2d ae)), .second, .unset, .unset, .unset, .unset, .unset, .unset, .unset, .unset] [(.double (FP.l2d vl))])) rfl (hb hby at_53)) ?_
    show Go p.tables e below (T.setTop (mkF m 56 #[.val (.int p0), .val (.int p1), .val (.int p2), .val (.int p3), .val (.long a), .second, .val (.long e'), .second, .val (.long k), .second, .val (.int (2 : Int32)), .val (.double (FP.l2d a)), .second, .val (.double (FP.l2d ae)), .second, .unset, .unset, .unset, .unset, .unset, .unset, .unset, .unset] [(.double (4611686018427387904 : UInt64)), (.double (FP.l2d vl))])) _
    obtain ⟨vc, e_vc⟩ : ∃ z, z = FP.ddiv (FP.l2d vl) (4611686018427387904 : UInt64) := ⟨_, rfl⟩
    have d_vc : Dy (2 * a.toInt + e'.toInt + 6 * k.toInt) (-1) vc := by rw [e_vc]; exact Dy.div (k := 2 * a.toInt + e'.toInt + 6 * k.toInt) (j := 1) (e := 0) (g := 1) (by rw [Int.mul_one]; exact (Dy.l2d (by omega)).cast b_vl rfl) own_two (by decide) (by omega) (by decide) (by decide)
    refine Go.by (fun tt_ kk_ => XS.ddivS X.here hx rfl (hb hby at_56) rfl (e_vc ▸ d_vc.noNaN) e_vc.symm kk_) ?_
    show Go p.tables e below (T.setTop (mkF m 57 #[.val (.int p0), .val (.int p1), .val (.int p2), .val (.int p3), .val (.long a), .second, .val (.long e'), .second, .val (.long k), .second, .val (.int (2 : Int32)), .val (.double (FP.l2d a)), .second, .val (.double (FP.l2d ae)), .second, .unset, .unset, .unset, .unset, .unset, .unset, .unset, .unset] [(.double vc)])) _
    refine Go.by (fun tt_ kk_ => XS.dstore X.here hx rfl (hb hby at_57) rfl (l' := #[.val (.int p0), .val (.int p1), .val (.int p2), .val (.int p3), .val (.long a), .second, .val (.long e'), .second, .val (.long k), .second, .val (.int (2 : Int32)), .val (.double (FP.l2d a)), .second, .val (.double (FP.l2d ae)), .second, .val (.double vc), .second, .unset, .unset, .unset, .unset, .unset, .unset]) rfl kk_) ?_
    show Go p.tables e below (T.setTop (mkF m 59 #[.val (.int p0), .val (.int p1), .val (.int p2), .val (.int p3), .val (.long a), .second, .val (.long e'), .second, .val (.long k), .second, .val (.int (2 : Int32)), .val (.double (FP.l2d a)), .second, .val (.double (FP.l2d ae)), .second, .val (.double vc), .second, .unset, .unset, .unset, .unset, .unset, .unset] [])) _
    obtain ⟨T, h16, X, eT, E_, A_, D_, -, st⟩ := newO X hx hZ hown (hw _ (List.mem_of_getElem? (i := 3) rfl)) (hw _ (List.mem_of_getElem? (i := 4) rfl)) (hw _ (List.mem_of_getElem? (i := 5) rfl)) eT (g := (mkF m 59 #[.val (.int p0), .val (.int p1), .val (.int p2), .val (.int p3), .val (.long a), .second, .val (.long e'), .second, .val (.long k), .second, .val (.int (2 : Int32)), .val (.double (FP.l2d a)), .second, .val (.double (FP.l2d ae)), .second, .val (.double vc), .second, .unset, .unset, .unset, .unset, .unset, .unset] [])) rfl (hb hby at_59) (by decide) (by decide)
    obtain ⟨b16, g_b16'⟩ : ∃ z, z = h0.size := ⟨_, rfl⟩
    rw [← g_b16'] at A_ D_ st
    have g_b16 : n0 ≤ b16 := Nat.le_trans Z0 (Nat.le_trans K.1 (Nat.le_of_eq g_b16'.symm))
    have sz_b16 : h0.size ≤ b16 := Nat.le_trans K.1 (Nat.le_of_eq g_b16'.symm)
    have K := K.ext E_
    have E_b16 := A_
    have F_count_b16 : Fld Z h16 b16 "com/example/bogong/bogong/stats/Tally" "count" "J" (.long (0 : Int64)) := D_ (Or.inl (hw _ (List.mem_of_getElem? (i := 18) rfl))) (ty := .long) (by decide)
    have F_sum_b16 : Fld Z h16 b16 "com/example/bogong/bogong/stats/Tally" "sum" "D" (.double (0 : UInt64)) := D_ (Or.inl (hw _ (List.mem_of_getElem? (i := 20) rfl))) (ty := .double) (by decide)
    have F_mean_b16 : Fld Z h16 b16 "com/example/bogong/bogong/stats/Tally" "mean" "D" (.double (0 : UInt64)) := D_ (Or.inl (hw _ (List.mem_of_getElem? (i := 22) rfl))) (ty := .double) (by decide)
    have F_squaredDeviations_b16 : Fld Z h16 b16 "com/example/bogong/bogong/stats/Tally" "squaredDeviations" "D" (.double (0 : UInt64)) := D_ (Or.inl (hw _ (List.mem_of_getElem? (i := 24) rfl))) (ty := .double) (by decide)
    refine Go.by st ?_
    show Go p.tables e below (T.setTop (mkF m 62 #[.val (.int p0), .val (.int p1), .val (.int p2), .val (.int p3), .val (.long a), .second, .val (.long e'), .second, .val (.long k), .second, .val (.int (2 : Int32)), .val (.double (FP.l2d a)), .second, .val (.double (FP.l2d ae)), .second, .val (.double vc), .second, .unset, .unset, .unset, .unset, .unset, .unset] [(.ref b16)])) _
    refine Go.by (fun tt_ kk_ => XS.dup X.here hx rfl (hb hby at_62) rfl rfl kk_) ?_
    show Go p.tables e below (T.setTop (mkF m 63 #[.val (.int p0), .val (.int p1), .val (.int p2), .val (.int p3), .val (.long a), .second, .val (.long e'), .second, .val (.long k), .second, .val (.int (2 : Int32)), .val (.double (FP.l2d a)), .second, .val (.double (FP.l2d ae)), .second, .val (.double vc), .second, .unset, .unset, .unset, .unset, .unset, .unset] [(.ref b16), (.ref b16)])) _
    obtain ⟨_, _, ⟨T, L_, k_, n_⟩, -, X, ⟨Lc_, hQ, l_, y_, z_⟩, st⟩ := X.specialBack hx (y := (⟨"com/example/bogong/bogong/stats/Tally", "<init>", "()V"⟩ : MethodName)) rfl hown (mvT hZ (hw _ (List.mem_of_getElem? (i := 6) rfl))) (mvT hZ (hw _ (List.mem_of_getElem? (i := 7) rfl))) (mvT hZ (hw _ (List.mem_of_getElem? (i := 8) rfl))) (by decide) (backOf (W := 1) (rm1 l Z a0 hw [] b16 h16 n0 (Nat.le_trans Z0 K.1) ) hZ (hw _ (List.mem_of_getElem? (i := 8) rfl)) (hw _ (List.mem_of_getElem? (i := 5) rfl)) (by decide) (by decide)) (g := (mkF m 63 #[.val (.int p0), .val (.int p1), .val (.int p2), .val (.int p3), .val (.long a), .second, .val (.long e'), .second, .val (.long k), .second, .val (.int (2 : Int32)), .val (.double (FP.l2d a)), .second, .val (.double (FP.l2d ae)), .second, .val (.double vc), .second, .unset, .unset, .unset, .unset, .unset, .unset] [(.ref b16), (.ref b16)])) rfl (by rw [hml]; rfl) (Steps.refl _) (a := b16) (argsL := []) (rest := [(.ref b16)]) (lenOf pd_0 rfl) rfl (by show 2 * 0 + _ ≤ _; exact Nat.le_of_eq rfl) (hb hby at_63) (fun _ _ => ⟨rfl, eT, (by decide : 1 + 0 ≤ _), (by decide : 4 + 0 ≤ _)⟩)
    dsimp only [Pt.U, Pt.locs, Pt.cells, Pt.slots] at X l_ y_ z_ st hQ
    subst l_ y_ z_
    obtain ⟨rfl, Nq, eh⟩ := hQ
    have N := Fr.app N Nq
    have eT := eh
    refine Go.tr st ?_
    show Go p.tables e below (T.setTop (mkF m 66 #[.val (.int p0), .val (.int p1), .val (.int p2), .val (.int p3), .val (.long a), .second, .val (.long e'), .second, .val (.long k), .second, .val (.int (2 : Int32)), .val (.double (FP.l2d a)), .second, .val (.double (FP.l2d ae)), .second, .val (.double vc), .second, .unset, .unset, .unset, .unset, .unset, .unset] [(.ref b16)])) _
    refine Go.by (fun tt_ kk_ => XS.astore X.here hx rfl (hb hby at_66) rfl rfl (l' := #[.val (.int p0), .val (.int p1), .val (.int p2), .val (.int p3), .val (.long a), .second, .val (.long e'), .second, .val (.long k), .second, .val (.int (2 : Int32)), .val (.double (FP.l2d a)), .second, .val (.double (FP.l2d ae)), .second, .val (.double vc), .second, .val (.ref b16), .unset, .unset, .unset, .unset, .unset]) rfl kk_) ?_
    show Go p.tables e below (T.setTop (mkF m 68 #[.val (.int p0), .val (.int p1), .val (.int p2), .val (.int p3), .val (.long a), .second, .val (.long e'), .second, .val (.long k), .second, .val (.int (2 : Int32)), .val (.double (FP.l2d a)), .second, .val (.double (FP.l2d ae)), .second, .val (.double vc), .second, .val (.ref b16), .unset, .unset, .unset, .unset, .unset] [])) _
    refine Go.by (fun tt_ kk_ => XS.iload X.here hx rfl (hb hby at_68) rfl kk_) ?_
    show Go p.tables e below (T.setTop (mkF m 70 #[.val (.int p0), .val (.int p1), .val (.int p2), .val (.int p3), .val (.long a), .second, .val (.long e'), .second, .val (.long k), .second, .val (.int (2 : Int32)), .val (.double (FP.l2d a)), .second, .val (.double (FP.l2d ae)), .second, .val (.double vc), .second, .val (.ref b16), .unset, .unset, .unset, .unset, .unset] [(.int (2 : Int32))])) _
    refine Go.by (fun tt_ kk_ => XS.iconst X.here hx rfl (hb hby at_70) kk_) ?_
    show Go p.tables e below (T.setTop (mkF m 71 #[.val (.int p0), .val (.int p1), .val (.int p2), .val (.int p3), .val (.long a), .second, .val (.long e'), .second, .val (.long k), .second, .val (.int (2 : Int32)), .val (.double (FP.l2d a)), .second, .val (.double (FP.l2d ae)), .second, .val (.double vc), .second, .val (.ref b16), .unset, .unset, .unset, .unset, .unset] [(.int (1 : Int32)), (.int (2 : Int32))])) _
    refine Go.by (fun tt_ kk_ => XS.icmpNo X.here hx rfl (hb hby at_71) rfl (flt (by decide : ¬ ((2 : Int32) < (1 : Int32)))).1 kk_) ?_
    show Go p.tables e below (T.setTop (mkF m 74 #[.val (.int p0), .val (.int p1), .val (.int p2), .val (.int p3), .val (.long a), .second, .val (.long e'), .second, .val (.long k), .second, .val (.int (2 : Int32)), .val (.double (FP.l2d a)), .second, .val (.double (FP.l2d ae)), .second, .val (.double vc), .second, .val (.ref b16), .unset, .unset, .unset, .unset, .unset] [])) _
    refine Go.by (fun tt_ kk_ => XS.aload X.here hx rfl (hb hby at_74) rfl rfl kk_) ?_
    show Go p.tables e below (T.setTop (mkF m 76 #[.val (.int p0), .val (.int p1), .val (.int p2), .val (.int p3), .val (.long a), .second, .val (.long e'), .second, .val (.long k), .second, .val (.int (2 : Int32)), .val (.double (FP.l2d a)), .second, .val (.double (FP.l2d ae)), .second, .val (.double vc), .second, .val (.ref b16), .unset, .unset, .unset, .unset, .unset] [(.ref b16)])) _
    refine Go.by (fun tt_ kk_ => XS.dload X.here hx rfl (hb hby at_76) rfl kk_) ?_
    show Go p.tables e below (T.setTop (mkF m 78 #[.val (.int p0), .val (.int p1), .val (.int p2), .val (.int p3), .val (.long a), .second, .val (.long e'), .second, .val (.long k), .second, .val (.int (2 : Int32)), .val (.double (FP.l2d a)), .second, .val (.double (FP.l2d ae)), .second, .val (.double vc), .second, .val (.ref b16), .unset, .unset, .unset, .unset, .unset] [(.double (FP.l2d a)), (.ref b16)])) _
    have d_x1 : Dy a.toInt 0 (FP.l2d a) := Dy.l2d (by omega)
    have dc1 : Dy 1 0 (FP.l2d ((0 : Int64) + (1 : Int64))) := Dy.l2d (x := (0 : Int64) + (1 : Int64)) (by decide)
    obtain ⟨s1_1, e_s1_1⟩ : ∃ z, z = FP.dadd (0 : UInt64) (FP.l2d a) := ⟨_, rfl⟩
    have d_s1_1 : Dy a.toInt 0 s1_1 := by rw [e_s1_1]; exact ((own_zero 0).add d_x1 (by omega) (by decide) (by decide)).cast (by omega) rfl
    obtain ⟨dv_1, e_dv_1⟩ : ∃ z, z = FP.dsub (FP.l2d a) (0 : UInt64) := ⟨_, rfl⟩
    have d_dv_1 : Dy a.toInt 0 dv_1 := by rw [e_dv_1]; exact (d_x1.sub (own_zero 0) (by omega) (by decide) (by decide)).cast (by omega) rfl
    obtain ⟨qt_1, e_qt_1⟩ : ∃ z, z = FP.ddiv dv_1 (FP.l2d ((0 : Int64) + (1 : Int64))) := ⟨_, rfl⟩
    have d_qt_1 : Dy a.toInt 0 qt_1 := by rw [e_qt_1]; exact Dy.div (k := a.toInt) (j := 1) (e := 0) (g := 0) (by rw [Int.mul_one]; exact d_dv_1) dc1 (by decide) (by omega) (by decide) (by decide)
    obtain ⟨m1_1, e_m1_1⟩ : ∃ z, z = FP.dadd (0 : UInt64) qt_1 := ⟨_, rfl⟩
    have d_m1_1 : Dy a.toInt 0 m1_1 := by rw [e_m1_1]; exact ((own_zero 0).add d_qt_1 (by omega) (by decide) (by decide)).cast (by omega) rfl
    obtain ⟨xm_1, e_xm_1⟩ : ∃ z, z = FP.dsub (FP.l2d a) m1_1 := ⟨_, rfl⟩
    have d_xm_1 : Dy 0 0 xm_1 := by rw [e_xm_1]; exact (d_x1.sub d_m1_1 (by omega) (by decide) (by decide)).cast (by omega) rfl
    obtain ⟨pr_1, e_pr_1⟩ : ∃ z, z = FP.dmul dv_1 xm_1 := ⟨_, rfl⟩
    have d_pr_1 : Dy 0 0 pr_1 := by rw [e_pr_1]; exact (d_dv_1.mul d_xm_1 (by rw [Int.mul_zero]; decide) (by decide) (by decide)).cast (Int.mul_zero _) rfl
    obtain ⟨q1_1, e_q1_1⟩ : ∃ z, z = FP.dadd (0 : UInt64) pr_1 := ⟨_, rfl⟩
    have d_q1_1 : Dy 0 0 q1_1 := by rw [e_q1_1]; exact ((own_zero 0).add d_pr_1 (by decide) (by decide) (by decide)).cast rfl rfl
    obtain ⟨cq_, kq_, qa_, qb_, qc_⟩ := isOf hZ eT E_b16
    obtain ⟨_, _, ⟨T, L_, k_, n_⟩, -, X, ⟨Lc_, hQ, l_, y_, z_⟩, st⟩ := X.virtualBack hx (y := (⟨"com/example/bogong/bogong/stats/Tally", "add", "(D)V"⟩ : MethodName)) (z := (⟨"com/example/bogong/bogong/stats/Tally", "add", "(D)V"⟩ : MethodName)) hown (mvT hZ (hw _ (List.mem_of_getElem? (i := 12) rfl))) (mvT hZ (hw _ (List.mem_of_getElem? (i := 13) rfl))) (notFace_of_selects (args := #[]) (mvT hZ (hw _ (List.mem_of_getElem? (i := 15) rfl)))) (mvT hZ (hw _ (List.mem_of_getElem? (i := 15) rfl))) (mvT hZ (hw _ (List.mem_of_getElem? (i := 14) rfl))) (by decide) (backOf (W := 0) (rm3 l Z a0 hw [] b16 (FP.l2d a) (0 : Int64) (0 : UInt64) (0 : UInt64) (0 : UInt64) s1_1 dv_1 qt_1 m1_1 xm_1 pr_1 q1_1 h16 n0 (Nat.le_trans Z0 K.1) E_b16 g_b16 F_count_b16 F_sum_b16 F_mean_b16 F_squaredDeviations_b16 e_s1_1 d_s1_1.noNaN e_dv_1 d_dv_1.noNaN e_qt_1 d_qt_1.noNaN e_m1_1 d_m1_1.noNaN e_xm_1 d_xm_1.noNaN e_pr_1 d_pr_1.noNaN e_q1_1 d_q1_1.noNaN) hZ (hw _ (List.mem_of_getElem? (i := 16) rfl)) (hw _ (List.mem_of_getElem? (i := 5) rfl)) (by decide) (by decide)) qa_ qc_ (g := (mkF m 78 #[.val (.int p0), .val (.int p1), .val (.int p2), .val (.int p3), .val (.long a), .second, .val (.long e'), .second, .val (.long k), .second, .val (.int (2 : Int32)), .val (.double (FP.l2d a)), .second, .val (.double (FP.l2d ae)), .second, .val (.double vc), .second, .val (.ref b16), .unset, .unset, .unset, .unset, .unset] [(.double (FP.l2d a)), (.ref b16)])) rfl (by rw [hml]; rfl) (Steps.refl _) (argsL := [(.double (FP.l2d a))]) (rest := []) (lenOf pd_5 rfl) rfl (by show 2 * 0 + _ ≤ _; exact Nat.le_of_eq rfl) (hb hby at_78) (fun _ _ => ⟨rfl, eT, (by decide : 1 + 0 ≤ _), (by decide : 4 + 0 ≤ _)⟩)
    dsimp only [Pt.U, Pt.locs, Pt.cells, Pt.slots] at X l_ y_ z_ st hQ
    subst l_ y_ z_
    obtain ⟨h18, eT⟩ : ∃ z, T.heap = z := ⟨_, rfl⟩
    rw [eT] at hQ
    obtain ⟨rfl, Nq, Kq, Eq_, Fq_count, Fq_sum, Fq_mean, Fq_squaredDeviations⟩ := hQ
    have N := Fr.app N Nq
    have E_b16 := Eq_
    have F_count_b16 := Fq_count
    have F_sum_b16 := Fq_sum
    have F_mean_b16 := Fq_mean
    have F_squaredDeviations_b16 := Fq_squaredDeviations
    have K := K.trans Kq (allS (Or.inr sz_b16) all0)
    refine Go.tr st ?_
    show Go p.tables e below (T.setTop (mkF m 81 #[.val (.int p0), .val (.int p1), .val (.int p2), .val (.int p3), .val (.long a), .second, .val (.long e'), .second, .val (.long k), .second, .val (.int (2 : Int32)), .val (.double (FP.l2d a)), .second, .val (.double (FP.l2d ae)), .second, .val (.double vc), .second, .val (.ref b16), .unset, .unset, .unset, .unset, .unset] [])) _
    refine Go.by (fun tt_ kk_ => XS.iload X.here hx rfl (hb hby at_81) rfl kk_) ?_
    show Go p.tables e below (T.setTop (mkF m 83 #[.val (.int p0), .val (.int p1), .val (.int p2), .val (.int p3), .val (.long a), .second, .val (.long e'), .second, .val (.long k), .second, .val (.int (2 : Int32)), .val (.double (FP.l2d a)), .second, .val (.double (FP.l2d ae)), .second, .val (.double vc), .second, .val (.ref b16), .unset, .unset, .unset, .unset, .unset] [(.int (2 : Int32))])) _
    refine Go.by (fun tt_ kk_ => XS.iconst X.here hx rfl (hb hby at_83) kk_) ?_
    show Go p.tables e below (T.setTop (mkF m 84 #[.val (.int p0), .val (.int p1), .val (.int p2), .val (.int p3), .val (.long a), .second, .val (.long e'), .second, .val (.long k), .second, .val (.int (2 : Int32)), .val (.double (FP.l2d a)), .second, .val (.double (FP.l2d ae)), .second, .val (.double vc), .second, .val (.ref b16), .unset, .unset, .unset, .unset, .unset] [(.int (2 : Int32)), (.int (2 : Int32))])) _
    refine Go.by (fun tt_ kk_ => XS.icmpNo X.here hx rfl (hb hby at_84) rfl (flt (by decide : ¬ ((2 : Int32) < (2 : Int32)))).1 kk_) ?_
    show Go p.tables e below (T.setTop (mkF m 87 #[.val (.int p0), .val (.int p1), .val (.int p2), .val (.int p3), .val (.long a), .second, .val (.long e'), .second, .val (.long k), .second, .val (.int (2 : Int32)), .val (.double (FP.l2d a)), .second, .val (.double (FP.l2d ae)), .second, .val (.double vc), .second, .val (.ref b16), .unset, .unset, .unset, .unset, .unset] [])) _
    refine Go.by (fun tt_ kk_ => XS.aload X.here hx rfl (hb hby at_87) rfl rfl kk_) ?_
    show Go p.tables e below (T.setTop (mkF m 89 #[.val (.int p0), .val (.int p1), .val (.int p2), .val (.int p3), .val (.long a), .second, .val (.long e'), .second, .val (.long k), .second, .val (.int (2 : Int32)), .val (.double (FP.l2d a)), .second, .val (.double (FP.l2d ae)), .second, .val (.double vc), .second, .val (.ref b16), .unset, .unset, .unset, .unset, .unset] [(.ref b16)])) _
    refine Go.by (fun tt_ kk_ => XS.dload X.here hx rfl (hb hby at_89) rfl kk_) ?_
    show Go p.tables e below (T.setTop (mkF m 91 #[.val (.int p0), .val (.int p1), .val (.int p2), .val (.int p3), .val (.long a), .second, .val (.long e'), .second, .val (.long k), .second, .val (.int (2 : Int32)), .val (.double (FP.l2d a)), .second, .val (.double (FP.l2d ae)), .second, .val (.double vc), .second, .val (.ref b16), .unset, .unset, .unset, .unset, .unset] [(.double (FP.l2d ae)), (.ref b16)])) _
    have d_x2 : Dy (a.toInt + e'.toInt) 0 (FP.l2d ae) := (Dy.l2d (by omega)).cast b_ae rfl
    have dc2 : Dy 1 1 (FP.l2d ((0 : Int64) + (1 : Int64) + (1 : Int64))) := (Dy.unscale 1 (i := 1) (Dy.l2d (x := (0 : Int64) + (1 : Int64) + (1 : Int64)) (by decide))).cast rfl (by decide)
    obtain ⟨s1_2, e_s1_2⟩ : ∃ z, z = FP.dadd s1_1 (FP.l2d ae) := ⟨_, rfl⟩
    have d_s1_2 : Dy (2 * a.toInt + e'.toInt) 0 s1_2 := by rw [e_s1_2]; exact (d_s1_1.add d_x2 (by omega) (by decide) (by decide)).cast (by omega) rfl
    obtain ⟨dv_2, e_dv_2⟩ : ∃ z, z = FP.dsub (FP.l2d ae) m1_1 := ⟨_, rfl⟩
    have d_dv_2 : Dy e'.toInt 0 dv_2 := by rw [e_dv_2]; exact (d_x2.sub d_m1_1 (by omega) (by decide) (by decide)).cast (by omega) rfl
    obtain ⟨qt_2, e_qt_2⟩ : ∃ z, z = FP.ddiv dv_2 (FP.l2d (((0 : Int64) + (1 : Int64)) + (1 : Int64))) := ⟨_, rfl⟩
    have d_qt_2 : Dy e'.toInt (-1) qt_2 := by rw [e_qt_2]; exact Dy.div (k := e'.toInt) (j := 1) (e := 0) (g := 1) (by rw [Int.mul_one]; exact d_dv_2) dc2 (by decide) (by omega) (by decide) (by decide)
    obtain ⟨m1_2, e_m1_2⟩ : ∃ z, z = FP.dadd m1_1 qt_2 := ⟨_, rfl⟩
    have d_m1_2 : Dy (2 * a.toInt + e'.toInt) (-1) m1_2 := by rw [e_m1_2]; exact (Dy.add (d_m1_1.scale 1) d_qt_2 (by omega) (by decide) (by decide)).cast (by omega) rfl
    obtain ⟨xm_2, e_xm_2⟩ : ∃ z, z = FP.dsub (FP.l2d ae) m1_2 := ⟨_, rfl⟩
    have d_xm_2 : Dy e'.toInt (-1) xm_2 := by rw [e_xm_2]; exact (Dy.sub (d_x2.scale 1) d_m1_2 (by omega) (by decide) (by decide)).cast (by omega) rfl
    obtain ⟨pr_2, e_pr_2⟩ : ∃ z, z = FP.dmul dv_2 xm_2 := ⟨_, rfl⟩
    have d_pr_2 : Dy (e'.toInt * e'.toInt) (-1) pr_2 := by rw [e_pr_2]; exact d_dv_2.mul d_xm_2 (by omega) (by decide) (by decide)
    obtain ⟨q1_2, e_q1_2⟩ : ∃ z, z = FP.dadd q1_1 pr_2 := ⟨_, rfl⟩
    have d_q1_2 : Dy (e'.toInt * e'.toInt) (-1) q1_2 := by rw [e_q1_2]; exact (Dy.add (d_q1_1.scale 1) d_pr_2 (by omega) (by decide) (by decide)).cast (by omega) rfl
    obtain ⟨cq_, kq_, qa_, qb_, qc_⟩ := isOf hZ eT E_b16
    obtain ⟨_, _, ⟨T, L_, k_, n_⟩, -, X, ⟨Lc_, hQ, l_, y_, z_⟩, st⟩ := X.virtualBack hx (y := (⟨"com/example/bogong/bogong/stats/Tally", "add", "(D)V"⟩ : MethodName)) (z := (⟨"com/example/bogong/bogong/stats/Tally", "add", "(D)V"⟩ : MethodName)) hown (mvT hZ (hw _ (List.mem_of_getElem? (i := 12) rfl))) (mvT hZ (hw _ (List.mem_of_getElem? (i := 13) rfl))) (notFace_of_selects (args := #[]) (mvT hZ (hw _ (List.mem_of_getElem? (i := 15) rfl)))) (mvT hZ (hw _ (List.mem_of_getElem? (i := 15) rfl))) (mvT hZ (hw _ (List.mem_of_getElem? (i := 14) rfl))) (by decide) (backOf (W := 0) (rm3 l Z a0 hw [] b16 (FP.l2d ae) ((0 : Int64) + (1 : Int64)) s1_1 m1_1 q1_1 s1_2 dv_2 qt_2 m1_2 xm_2 pr_2 q1_2 h18 n0 (Nat.le_trans Z0 K.1) E_b16 g_b16 F_count_b16 F_sum_b16 F_mean_b16 F_squaredDeviations_b16 e_s1_2 d_s1_2.noNaN e_dv_2 d_dv_2.noNaN e_qt_2 d_qt_2.noNaN e_m1_2 d_m1_2.noNaN e_xm_2 d_xm_2.noNaN e_pr_2 d_pr_2.noNaN e_q1_2 d_q1_2.noNaN) hZ (hw _ (List.mem_of_getElem? (i := 16) rfl)) (hw _ (List.mem_of_getElem? (i := 5) rfl)) (by decide) (by decide)) qa_ qc_ (g := (mkF m 91 #[.val (.int p0), .val (.int p1), .val (.int p2), .val (.int p3), .val (.long a), .second, .val (.long e'), .second, .val (.long k), .second, .val (.int (2 : Int32)), .val (.double (FP.l2d a)), .second, .val (.double (FP.l2d ae)), .second, .val (.double vc), .second, .val (.ref b16), .unset, .unset, .unset, .unset, .unset] [(.double (FP.l2d ae)), (.ref b16)])) rfl (by rw [hml]; rfl) (Steps.refl _) (argsL := [(.double (FP.l2d ae))]) (rest := []) (lenOf pd_5 rfl) rfl (by show 2 * 0 + _ ≤ _; exact Nat.le_of_eq rfl) (hb hby at_91) (fun _ _ => ⟨rfl, eT, (by decide : 1 + 0 ≤ _), (by decide : 4 + 0 ≤ _)⟩)
    dsimp only [Pt.U, Pt.locs, Pt.cells, Pt.slots] at X l_ y_ z_ st hQ
    subst l_ y_ z_
    obtain ⟨h19, eT⟩ : ∃ z, T.heap = z := ⟨_, rfl⟩
    rw [eT] at hQ
    obtain ⟨rfl, Nq, Kq, Eq_, Fq_count, Fq_sum, Fq_mean, Fq_squaredDeviations⟩ := hQ
    have N := Fr.app N Nq
    have E_b16 := Eq_
    have F_count_b16 := Fq_count
    have F_sum_b16 := Fq_sum
    have F_mean_b16 := Fq_mean
    have F_squaredDeviations_b16 := Fq_squaredDeviations
    have K := K.trans Kq (allS (Or.inr sz_b16) all0)
    refine Go.tr st ?_
    show Go p.tables e below (T.setTop (mkF m 94 #[.val (.int p0), .val (.int p1), .val (.int p2), .val (.int p3), .val (.long a), .second, .val (.long e'), .second, .val (.long k), .second, .val (.int (2 : Int32)), .val (.double (FP.l2d a)), .second, .val (.double (FP.l2d ae)), .second, .val (.double vc), .second, .val (.ref b16), .unset, .unset, .unset, .unset, .unset] [])) _
    refine Go.by (fun tt_ kk_ => XS.iload X.here hx rfl (hb hby at_94) rfl kk_) ?_
    show Go p.tables e below (T.setTop (mkF m 96 #[.val (.int p0), .val (.int p1), .val (.int p2), .val (.int p3), .val (.long a), .second, .val (.long e'), .second, .val (.long k), .second, .val (.int (2 : Int32)), .val (.double (FP.l2d a)), .second, .val (.double (FP.l2d ae)), .second, .val (.double vc), .second, .val (.ref b16), .unset, .unset, .unset, .unset, .unset] [(.int (2 : Int32))])) _
    refine Go.by (fun tt_ kk_ => XS.iconst X.here hx rfl (hb hby at_96) kk_) ?_
    show Go p.tables e below (T.setTop (mkF m 97 #[.val (.int p0), .val (.int p1), .val (.int p2), .val (.int p3), .val (.long a), .second, .val (.long e'), .second, .val (.long k), .second, .val (.int (2 : Int32)), .val (.double (FP.l2d a)), .second, .val (.double (FP.l2d ae)), .second, .val (.double vc), .second, .val (.ref b16), .unset, .unset, .unset, .unset, .unset] [(.int (3 : Int32)), (.int (2 : Int32))])) _
    refine Go.by (fun tt_ kk_ => XS.icmpYes X.here hx rfl (pc0 := 97) (pc' := 107) rfl (hb hby at_97) rfl (tlt (by decide : (2 : Int32) < (3 : Int32))).1 (by decide) (by decide) kk_) ?_
    show Go p.tables e below (T.setTop (mkF m 107 #[.val (.int p0), .val (.int p1), .val (.int p2), .val (.int p3), .val (.long a), .second, .val (.long e'), .second, .val (.long k), .second, .val (.int (2 : Int32)), .val (.double (FP.l2d a)), .second, .val (.double (FP.l2d ae)), .second, .val (.double vc), .second, .val (.ref b16), .unset, .unset, .unset, .unset, .unset] [])) _
    refine Go.by (fun tt_ kk_ => XS.aload X.here hx rfl (hb hby at_107) rfl rfl kk_) ?_
    show Go p.tables e below (T.setTop (mkF m 109 #[.val (.int p0), .val (.int p1), .val (.int p2), .val (.int p3), .val (.long a), .second, .val (.long e'), .second, .val (.long k), .second, .val (.int (2 : Int32)), .val (.double (FP.l2d a)), .second, .val (.double (FP.l2d ae)), .second, .val (.double vc), .second, .val (.ref b16), .unset, .unset, .unset, .unset, .unset] [(.ref b16)])) _
    obtain ⟨cq_, kq_, qa_, qb_, qc_⟩ := isOf hZ eT E_b16
    obtain ⟨_, _, ⟨T, L_, k_, n_⟩, -, X, ⟨Lc_, hQ, l_, y_, z_⟩, st⟩ := X.virtualBack hx (y := (⟨"com/example/bogong/bogong/stats/Tally", "sample", "()Lcom/example/bogong/bogong/stats/Sample;"⟩ : MethodName)) (z := (⟨"com/example/bogong/bogong/stats/Tally", "sample", "()Lcom/example/bogong/bogong/stats/Sample;"⟩ : MethodName)) hown (mvT hZ (hw _ (List.mem_of_getElem? (i := 25) rfl))) (mvT hZ (hw _ (List.mem_of_getElem? (i := 26) rfl))) (notFace_of_selects (args := #[]) (mvT hZ (hw _ (List.mem_of_getElem? (i := 28) rfl)))) (mvT hZ (hw _ (List.mem_of_getElem? (i := 28) rfl))) (mvT hZ (hw _ (List.mem_of_getElem? (i := 27) rfl))) (by decide) (backOf (W := 0) (rm4 l Z a0 hw [] b16 (((0 : Int64) + (1 : Int64)) + (1 : Int64)) s1_2 q1_2 h19 n0 (Nat.le_trans Z0 K.1) F_count_b16 F_sum_b16 F_squaredDeviations_b16) hZ (hw _ (List.mem_of_getElem? (i := 29) rfl)) (hw _ (List.mem_of_getElem? (i := 5) rfl)) (by decide) (by decide)) qa_ qc_ (g := (mkF m 109 #[.val (.int p0), .val (.int p1), .val (.int p2), .val (.int p3), .val (.long a), .second, .val (.long e'), .second, .val (.long k), .second, .val (.int (2 : Int32)), .val (.double (FP.l2d a)), .second, .val (.double (FP.l2d ae)), .second, .val (.double vc), .second, .val (.ref b16), .unset, .unset, .unset, .unset, .unset] [(.ref b16)])) rfl (by rw [hml]; rfl) (Steps.refl _) (argsL := []) (rest := []) (lenOf pd_2 rfl) rfl (by show 2 * 0 + _ ≤ _; exact Nat.le_of_eq rfl) (hb hby at_109) (fun _ _ => ⟨rfl, eT, (by decide : 1 + 1 ≤ _), (by decide : 4 + 3 ≤ _)⟩)
    dsimp only [Pt.U, Pt.locs, Pt.cells, Pt.slots] at X l_ y_ z_ st hQ
    subst l_ y_ z_
    obtain ⟨h21, eT⟩ : ∃ z, T.heap = z := ⟨_, rfl⟩
    rw [eT] at hQ
    obtain ⟨b20, g_b20, sq_b20, rfl, Nq, Kq, E_b20, F_count_b20, F_sum_b20, F_squaredDeviations_b20⟩ := hQ
    have N := Fr.app N Nq
    have E_b16 := Exa.keep E_b16 Kq
    have F_count_b16 := Fld.keep F_count_b16 Kq nin0
    have F_sum_b16 := Fld.keep F_sum_b16 Kq nin0
    have F_mean_b16 := Fld.keep F_mean_b16 Kq nin0
    have F_squaredDeviations_b16 := Fld.keep F_squaredDeviations_b16 Kq nin0
    have K := K.trans Kq all0
    refine Go.tr st ?_
    show Go p.tables e below (T.setTop (mkF m 112 #[.val (.int p0), .val (.int p1), .val (.int p2), .val (.int p3), .val (.long a), .second, .val (.long e'), .second, .val (.long k), .second, .val (.int (2 : Int32)), .val (.double (FP.l2d a)), .second, .val (.double (FP.l2d ae)), .second, .val (.double vc), .second, .val (.ref b16), .unset, .unset, .unset, .unset, .unset] [(.ref b20)])) _
    refine Go.by (fun tt_ kk_ => XS.astore X.here hx rfl (hb hby at_112) rfl rfl (l' := #[.val (.int p0), .val (.int p1), .val (.int p2), .val (.int p3), .val (.long a), .second, .val (.long e'), .second, .val (.long k), .second, .val (.int (2 : Int32)), .val (.double (FP.l2d a)), .second, .val (.double (FP.l2d ae)), .second, .val (.double vc), .second, .val (.ref b16), .val (.ref b20), .unset, .unset, .unset, .unset]) rfl kk_) ?_
    show Go p.tables e below (T.setTop (mkF m 114 #[.val (.int p0), .val (.int p1), .val (.int p2), .val (.int p3), .val (.long a), .second, .val (.long e'), .second, .val (.long k), .second, .val (.int (2 : Int32)), .val (.double (FP.l2d a)), .second, .val (.double (FP.l2d ae)), .second, .val (.double vc), .second, .val (.ref b16), .val (.ref b20), .unset, .unset, .unset, .unset] [])) _
    refine Go.by (fun tt_ kk_ => XS.iload X.here hx rfl (hb hby at_114) rfl kk_) ?_
    show Go p.tables e below (T.setTop (mkF m 116 #[.val (.int p0), .val (.int p1), .val (.int p2), .val (.int p3), .val (.long a), .second, .val (.long e'), .second, .val (.long k), .second, .val (.int (2 : Int32)), .val (.double (FP.l2d a)), .second, .val (.double (FP.l2d ae)), .second, .val (.double vc), .second, .val (.ref b16), .val (.ref b20), .unset, .unset, .unset, .unset] [(.int (2 : Int32))])) _
    refine Go.by (fun tt_ kk_ => XS.ifYes X.here hx rfl (pc0 := 116) (pc' := 128) rfl (hb hby at_116) rfl ((if0 _ _).trans (feq (by decide : ¬ ((2 : Int32) = (0 : Int32)))).2) (by decide) (by decide) kk_) ?_
    show Go p.tables e below (T.setTop (mkF m 128 #[.val (.int p0), .val (.int p1), .val (.int p2), .val (.int p3), .val (.long a), .second, .val (.long e'), .second, .val (.long k), .second, .val (.int (2 : Int32)), .val (.double (FP.l2d a)), .second, .val (.double (FP.l2d ae)), .second, .val (.double vc), .second, .val (.ref b16), .val (.ref b20), .unset, .unset, .unset, .unset] [])) _
    refine Go.by (fun tt_ kk_ => XS.iload X.here hx rfl (hb hby at_128) rfl kk_) ?_
    show Go p.tables e below (T.setTop (mkF m 130 #[.val (.int p0), .val (.int p1), .val (.int p2), .val (.int p3), .val (.long a), .second, .val (.long e'), .second, .val (.long k), .second, .val (.int (2 : Int32)), .val (.double (FP.l2d a)), .second, .val (.double (FP.l2d ae)), .second, .val (.double vc), .second, .val (.ref b16), .val (.ref b20), .unset, .unset, .unset, .unset] [(.int (2 : Int32))])) _
    refine Go.by (fun tt_ kk_ => XS.iconst X.here hx rfl (hb hby at_130) kk_) ?_
    show Go p.tables e below (T.setTop (mkF m 131 #[.val (.int p0), .val (.int p1), .val (.int p2), .val (.int p3), .val (.long a), .second, .val (.long e'), .second, .val (.long k), .second, .val (.int (2 : Int32)), .val (.double (FP.l2d a)), .second, .val (.double (FP.l2d ae)), .second, .val (.double vc), .second, .val (.ref b16), .val (.ref b20), .unset, .unset, .unset, .unset] [(.int (1 : Int32)), (.int (2 : Int32))])) _
    refine Go.by (fun tt_ kk_ => XS.icmpYes X.here hx rfl (pc0 := 131) (pc' := 145) rfl (hb hby at_131) rfl (feq (by decide : ¬ ((2 : Int32) = (1 : Int32)))).2 (by decide) (by decide) kk_) ?_
    show Go p.tables e below (T.setTop (mkF m 145 #[.val (.int p0), .val (.int p1), .val (.int p2), .val (.int p3), .val (.long a), .second, .val (.long e'), .second, .val (.long k), .second, .val (.int (2 : Int32)), .val (.double (FP.l2d a)), .second, .val (.double (FP.l2d ae)), .second, .val (.double vc), .second, .val (.ref b16), .val (.ref b20), .unset, .unset, .unset, .unset] [])) _
    refine Go.by (fun tt_ kk_ => XS.iload X.here hx rfl (hb hby at_145) rfl kk_) ?_
    show Go p.tables e below (T.setTop (mkF m 147 #[.val (.int p0), .val (.int p1), .val (.int p2), .val (.int p3), .val (.long a), .second, .val (.long e'), .second, .val (.long k), .second, .val (.int (2 : Int32)), .val (.double (FP.l2d a)), .second, .val (.double (FP.l2d ae)), .second, .val (.double vc), .second, .val (.ref b16), .val (.ref b20), .unset, .unset, .unset, .unset] [(.int (2 : Int32))])) _
    refine Go.by (fun tt_ kk_ => XS.iconst X.here hx rfl (hb hby at_147) kk_) ?_
    show Go p.tables e below (T.setTop (mkF m 148 #[.val (.int p0), .val (.int p1), .val (.int p2), .val (.int p3), .val (.long a), .second, .val (.long e'), .second, .val (.long k), .second, .val (.int (2 : Int32)), .val (.double (FP.l2d a)), .second, .val (.double (FP.l2d ae)), .second, .val (.double vc), .second, .val (.ref b16), .val (.ref b20), .unset, .unset, .unset, .unset] [(.int (2 : Int32)), (.int (2 : Int32))])) _
    refine Go.by (fun tt_ kk_ => XS.icmpNo X.here hx rfl (hb hby at_148) rfl (teq (rfl : (2 : Int32) = (2 : Int32))).2 kk_) ?_
    show Go p.tables e below (T.setTop (mkF m 151 #[.val (.int p0), .val (.int p1), .val (.int p2), .val (.int p3), .val (.long a), .second, .val (.long e'), .second, .val (.long k), .second, .val (.int (2 : Int32)), .val (.double (FP.l2d a)), .second, .val (.double (FP.l2d ae)), .second, .val (.double vc), .second, .val (.ref b16), .val (.ref b20), .unset, .unset, .unset, .unset] [])) _
    refine Go.by (X.ldc2Long hx hown (mvT hZ (hw _ (List.mem_of_getElem? (i := 0) rfl))) (g := (mkF m 151 #[.val (.int p0), .val (.int p1), .val (.int p2), .val (.int p3), .val (.long a), .second, .val (.long e'), .second, .val (.long k), .second, .val (.int (2 : Int32)), .val (.double (FP.l2d a)), .second, .val (.double (FP.l2d ae)), .second, .val (.double vc), .second, .val (.ref b16), .val (.ref b20), .unset, .unset, .unset, .unset] [])) rfl (hb hby at_151)) ?_
    show Go p.tables e below (T.setTop (mkF m 154 #[.val (.int p0), .val (.int p1), .val (.int p2), .val (.int p3), .val (.long a), .second, .val (.long e'), .second, .val (.long k), .second, .val (.int (2 : Int32)), .val (.double (FP.l2d a)), .second, .val (.double (FP.l2d ae)), .second, .val (.double vc), .second, .val (.ref b16), .val (.ref b20), .unset, .unset, .unset, .unset] [(.long (2 : Int64))])) _
    refine Go.by (fun tt_ kk_ => XS.lload X.here hx rfl (hb hby at_154) rfl kk_) ?_
    show Go p.tables e below (T.setTop (mkF m 156 #[.val (.int p0), .val (.int p1), .val (.int p2), .val (.int p3), .val (.long a), .second, .val (.long e'), .second, .val (.long k), .second, .val (.int (2 : Int32)), .val (.double (FP.l2d a)), .second, .val (.double (FP.l2d ae)), .second, .val (.double vc), .second, .val (.ref b16), .val (.ref b20), .unset, .unset, .unset, .unset] [(.long a), (.long (2 : Int64))])) _
    refine Go.by (fun tt_ kk_ => XS.lmul X.here hx rfl (hb hby at_156) rfl kk_) ?_
    show Go p.tables e below (T.setTop (mkF m 157 #[.val (.int p0), .val (.int p1), .val (.int p2), .val (.int p3), .val (.long a), .second, .val (.long e'), .second, .val (.long k), .second, .val (.int (2 : Int32)), .val (.double (FP.l2d a)), .second, .val (.double (FP.l2d ae)), .second, .val (.double vc), .second, .val (.ref b16), .val (.ref b20), .unset, .unset, .unset, .unset] [(.long ((2 : Int64) * a))])) _
    refine Go.by (fun tt_ kk_ => XS.lload X.here hx rfl (hb hby at_157) rfl kk_) ?_
    show Go p.tables e below (T.setTop (mkF m 159 #[.val (.int p0), .val (.int p1), .val (.int p2), .val (.int p3), .val (.long a), .second, .val (.long e'), .second, .val (.long k), .second, .val (.int (2 : Int32)), .val (.double (FP.l2d a)), .second, .val (.double (FP.l2d ae)), .second, .val (.double vc), .second, .val (.ref b16), .val (.ref b20), .unset, .unset, .unset, .unset] [(.long e'), (.long ((2 : Int64) * a))])) _
    refine Go.by (fun tt_ kk_ => XS.ladd X.here hx rfl (hb hby at_159) rfl kk_) ?_
    show Go p.tables e below (T.setTop (mkF m 160 #[.val (.int p0), .val (.int p1), .val (.int p2), .val (.int p3), .val (.long a), .second, .val (.long e'), .second, .val (.long k), .second, .val (.int (2 : Int32)), .val (.double (FP.l2d a)), .second, .val (.double (FP.l2d ae)), .second, .val (.double vc), .second, .val (.ref b16), .val (.ref b20), .unset, .unset, .unset, .unset] [(.long (((2 : Int64) * a) + e'))])) _
    refine Go.by (fun tt_ kk_ => XS.l2dS X.here hx rfl (hb hby at_160) rfl rfl kk_) ?_
    show Go p.tables e below (T.setTop (mkF m 161 #[.val (.int p0), .val (.int p1), .val (.int p2), .val (.int p3), .val (.long a), .second, .val (.long e'), .second, .val (.long k), .second, .val (.int (2 : Int32)), .val (.double (FP.l2d a)), .second, .val (.double (FP.l2d ae)), .second, .val (.double vc), .second, .val (.ref b16), .val (.ref b20), .unset, .unset, .unset, .unset] [(.double (FP.l2d (((2 : Int64) * a) + e')))])) _
    have d_es : Dy (2 * a.toInt + e'.toInt) 0 (FP.l2d (((2 : Int64) * a) + e')) := (Dy.l2d (by omega)).cast l2 rfl
    refine Go.by (fun tt_ kk_ => XS.dstore X.here hx rfl (hb hby at_161) rfl (l' := #[.val (.int p0), .val (.int p1), .val (.int p2), .val (.int p3), .val (.long a), .second, .val (.long e'), .second, .val (.long k), .second, .val (.int (2 : Int32)), .val (.double (FP.l2d a)), .second, .val (.double (FP.l2d ae)), .second, .val (.double vc), .second, .val (.ref b16), .val (.ref b20), .val (.double (FP.l2d (((2 : Int64) * a) + e'))), .second, .unset, .unset]) rfl kk_) ?_
    show Go p.tables e below (T.setTop (mkF m 163 #[.val (.int p0), .val (.int p1), .val (.int p2), .val (.int p3), .val (.long a), .second, .val (.long e'), .second, .val (.long k), .second, .val (.int (2 : Int32)), .val (.double (FP.l2d a)), .second, .val (.double (FP.l2d ae)), .second, .val (.double vc), .second, .val (.ref b16), .val (.ref b20), .val (.double (FP.l2d (((2 : Int64) * a) + e'))), .second, .unset, .unset] [])) _
    refine Go.by (fun tt_ kk_ => XS.lload X.here hx rfl (hb hby at_163) rfl kk_) ?_
    show Go p.tables e below (T.setTop (mkF m 165 #[.val (.int p0), .val (.int p1), .val (.int p2), .val (.int p3), .val (.long a), .second, .val (.long e'), .second, .val (.long k), .second, .val (.int (2 : Int32)), .val (.double (FP.l2d a)), .second, .val (.double (FP.l2d ae)), .second, .val (.double vc), .second, .val (.ref b16), .val (.ref b20), .val (.double (FP.l2d (((2 : Int64) * a) + e'))), .second, .unset, .unset] [(.long e')])) _
    refine Go.by (fun tt_ kk_ => XS.lload X.here hx rfl (hb hby at_165) rfl kk_) ?_
    show Go p.tables e below (T.setTop (mkF m 167 #[.val (.int p0), .val (.int p1), .val (.int p2), .val (.int p3), .val (.long a), .second, .val (.long e'), .second, .val (.long k), .second, .val (.int (2 : Int32)), .val (.double (FP.l2d a)), .second, .val (.double (FP.l2d ae)), .second, .val (.double vc), .second, .val (.ref b16), .val (.ref b20), .val (.double (FP.l2d (((2 : Int64) * a) + e'))), .second, .unset, .unset] [(.long e'), (.long e')])) _
    refine Go.by (fun tt_ kk_ => XS.lmul X.here hx rfl (hb hby at_167) rfl kk_) ?_
    show Go p.tables e below (T.setTop (mkF m 168 #[.val (.int p0), .val (.int p1), .val (.int p2), .val (.int p3), .val (.long a), .second, .val (.long e'), .second, .val (.long k), .second, .val (.int (2 : Int32)), .val (.double (FP.l2d a)), .second, .val (.double (FP.l2d ae)), .second, .val (.double vc), .second, .val (.ref b16), .val (.ref b20), .val (.double (FP.l2d (((2 : Int64) * a) + e'))), .second, .unset, .unset] [(.long (e' * e'))])) _
    refine Go.by (fun tt_ kk_ => XS.l2dS X.here hx rfl (hb hby at_168) rfl rfl kk_) ?_
    show Go p.tables e below (T.setTop (mkF m 169 #[.val (.int p0), .val (.int p1), .val (.int p2), .val (.int p3), .val (.long a), .second, .val (.long e'), .second, .val (.long k), .second, .val (.int (2 : Int32)), .val (.double (FP.l2d a)), .second, .val (.double (FP.l2d ae)), .second, .val (.double vc), .second, .val (.ref b16), .val (.ref b20), .val (.double (FP.l2d (((2 : Int64) * a) + e'))), .second, .unset, .unset] [(.double (FP.l2d (e' * e')))])) _
    refine Go.by (X.ldc2DoubleC hx hown (mvT hZ (hw _ (List.mem_of_getElem? (i := 2) rfl))) (g := (mkF m 169 #[.val (.int p0), .val (.int p1), .val (.int p2), .val (.int p3), .val (.long a), .second, .val (.long e'), .second, .val (.long k), .second, .val (.int (2 : Int32)), .val (.double (FP.l2d a)), .second, .val (.double (FP.l2d ae)), .second, .val (.double vc), .second, .val (.ref b16), .val (.ref b20), .val (.double (FP.l2d (((2 : Int64) * a) + e'))), .second, .unset, .unset] [(.double (FP.l2d (e' * e')))])) rfl (hb hby at_169)) ?_
    show Go p.tables e below (T.setTop (mkF m 172 #[.val (.int p0), .val (.int p1), .val (.int p2), .val (.int p3), .val (.long a), .second, .val (.long e'), .second, .val (.long k), .second, .val (.int (2 : Int32)), .val (.double (FP.l2d a)), .second, .val (.double (FP.l2d ae)), .second, .val (.double vc), .second, .val (.ref b16), .val (.ref b20), .val (.double (FP.l2d (((2 : Int64) * a) + e'))), .second, .unset, .unset] [(.double (4611686018427387904 : UInt64)), (.double (FP.l2d (e' * e')))])) _
    have l4 : (e' * e').toInt = e'.toInt * e'.toInt := FP.Core.int64_mul (by omega) (by omega)
    obtain ⟨eq, e_eq⟩ : ∃ z, z = FP.ddiv (FP.l2d (e' * e')) (4611686018427387904 : UInt64) := ⟨_, rfl⟩
    have d_eq : Dy (e'.toInt * e'.toInt) (-1) eq := by rw [e_eq]; exact Dy.div (k := e'.toInt * e'.toInt) (j := 1) (e := 0) (g := 1) (by rw [Int.mul_one]; exact (Dy.l2d (by omega)).cast l4 rfl) own_two (by decide) (by omega) (by decide) (by decide)
    refine Go.by (fun tt_ kk_ => XS.ddivS X.here hx rfl (hb hby at_172) rfl (e_eq ▸ d_eq.noNaN) e_eq.symm kk_) ?_
    show Go p.tables e below (T.setTop (mkF m 173 #[.val (.int p0), .val (.int p1), .val (.int p2), .val (.int p3), .val (.long a), .second, .val (.long e'), .second, .val (.long k), .second, .val (.int (2 : Int32)), .val (.double (FP.l2d a)), .second, .val (.double (FP.l2d ae)), .second, .val (.double vc), .second, .val (.ref b16), .val (.ref b20), .val (.double (FP.l2d (((2 : Int64) * a) + e'))), .second, .unset, .unset] [(.double eq)])) _
    refine Go.by (fun tt_ kk_ => XS.dstore X.here hx rfl (hb hby at_173) rfl (l' := #[.val (.int p0), .val (.int p1), .val (.int p2), .val (.int p3), .val (.long a), .second, .val (.long e'), .second, .val (.long k), .second, .val (.int (2 : Int32)), .val (.double (FP.l2d a)), .second, .val (.double (FP.l2d ae)), .second, .val (.double vc), .second, .val (.ref b16), .val (.ref b20), .val (.double (FP.l2d (((2 : Int64) * a) + e'))), .second, .val (.double eq), .second]) rfl kk_) ?_
    show Go p.tables e below (T.setTop (mkF m 175 #[.val (.int p0), .val (.int p1), .val (.int p2), .val (.int p3), .val (.long a), .second, .val (.long e'), .second, .val (.long k), .second, .val (.int (2 : Int32)), .val (.double (FP.l2d a)), .second, .val (.double (FP.l2d ae)), .second, .val (.double vc), .second, .val (.ref b16), .val (.ref b20), .val (.double (FP.l2d (((2 : Int64) * a) + e'))), .second, .val (.double eq), .second] [])) _
    refine Go.by (fun tt_ kk_ => XS.goto X.here hx rfl (pc0 := 175) (pc' := 227) rfl (hb hby at_175) (by decide) (by decide) kk_) ?_
    show Go p.tables e below (T.setTop (mkF m 227 #[.val (.int p0), .val (.int p1), .val (.int p2), .val (.int p3), .val (.long a), .second, .val (.long e'), .second, .val (.long k), .second, .val (.int (2 : Int32)), .val (.double (FP.l2d a)), .second, .val (.double (FP.l2d ae)), .second, .val (.double vc), .second, .val (.ref b16), .val (.ref b20), .val (.double (FP.l2d (((2 : Int64) * a) + e'))), .second, .val (.double eq), .second] [])) _
    refine Go.by (fun tt_ kk_ => XS.aload X.here hx rfl (hb hby at_227) rfl rfl kk_) ?_
    show Go p.tables e below (T.setTop (mkF m 229 #[.val (.int p0), .val (.int p1), .val (.int p2), .val (.int p3), .val (.long a), .second, .val (.long e'), .second, .val (.long k), .second, .val (.int (2 : Int32)), .val (.double (FP.l2d a)), .second, .val (.double (FP.l2d ae)), .second, .val (.double vc), .second, .val (.ref b16), .val (.ref b20), .val (.double (FP.l2d (((2 : Int64) * a) + e'))), .second, .val (.double eq), .second] [(.ref b20)])) _
    obtain ⟨cq_, kq_, qa_, qb_, qc_⟩ := isOf hZ eT E_b20
    obtain ⟨_, _, ⟨T, L_, k_, n_⟩, -, X, ⟨Lc_, hQ, l_, y_, z_⟩, st⟩ := X.virtualBack hx (y := (⟨"com/example/bogong/bogong/stats/Sample", "count", "()J"⟩ : MethodName)) (z := (⟨"com/example/bogong/bogong/stats/Sample", "count", "()J"⟩ : MethodName)) hown (mvT hZ (hw _ (List.mem_of_getElem? (i := 48) rfl))) (mvT hZ (hw _ (List.mem_of_getElem? (i := 49) rfl))) (notFace_of_selects (args := #[]) (mvT hZ (hw _ (List.mem_of_getElem? (i := 51) rfl)))) (mvT hZ (hw _ (List.mem_of_getElem? (i := 51) rfl))) (mvT hZ (hw _ (List.mem_of_getElem? (i := 50) rfl))) (by decide) (backOf (W := 0) (rm7 l Z a0 hw [] b20 (((0 : Int64) + (1 : Int64)) + (1 : Int64)) h21 n0 (Nat.le_trans Z0 K.1) F_count_b20) hZ (hw _ (List.mem_of_getElem? (i := 52) rfl)) (hw _ (List.mem_of_getElem? (i := 32) rfl)) (by decide) (by decide)) qa_ qc_ (g := (mkF m 229 #[.val (.int p0), .val (.int p1), .val (.int p2), .val (.int p3), .val (.long a), .second, .val (.long e'), .second, .val (.long k), .second, .val (.int (2 : Int32)), .val (.double (FP.l2d a)), .second, .val (.double (FP.l2d ae)), .second, .val (.double vc), .second, .val (.ref b16), .val (.ref b20), .val (.double (FP.l2d (((2 : Int64) * a) + e'))), .second, .val (.double eq), .second] [(.ref b20)])) rfl (by rw [hml]; rfl) (Steps.refl _) (argsL := []) (rest := []) (lenOf pd_3 rfl) rfl (by show 2 * 0 + _ ≤ _; exact Nat.le_of_eq rfl) (hb hby at_229) (fun _ _ => ⟨rfl, eT, (by decide : 2 + 0 ≤ _), (by decide : 7 + 0 ≤ _)⟩)
    dsimp only [Pt.U, Pt.locs, Pt.cells, Pt.slots] at X l_ y_ z_ st hQ
    subst l_ y_ z_
    obtain ⟨rfl, Nq, eh⟩ := hQ
    have N := Fr.app N Nq
    have eT := eh
    refine Go.tr st ?_
    show Go p.tables e below (T.setTop (mkF m 232 #[.val (.int p0), .val (.int p1), .val (.int p2), .val (.int p3), .val (.long a), .second, .val (.long e'), .second, .val (.long k), .second, .val (.int (2 : Int32)), .val (.double (FP.l2d a)), .second, .val (.double (FP.l2d ae)), .second, .val (.double vc), .second, .val (.ref b16), .val (.ref b20), .val (.double (FP.l2d (((2 : Int64) * a) + e'))), .second, .val (.double eq), .second] [(.long (((0 : Int64) + (1 : Int64)) + (1 : Int64)))])) _
    refine Go.by (fun tt_ kk_ => XS.iload X.here hx rfl (hb hby at_232) rfl kk_) ?_
    show Go p.tables e below (T.setTop (mkF m 234 #[.val (.int p0), .val (.int p1), .val (.int p2), .val (.int p3), .val (.long a), .second, .val (.long e'), .second, .val (.long k), .second, .val (.int (2 : Int32)), .val (.double (FP.l2d a)), .second, .val (.double (FP.l2d ae)), .second, .val (.double vc), .second, .val (.ref b16), .val (.ref b20), .val (.double (FP.l2d (((2 : Int64) * a) + e'))), .second, .val (.double eq), .second] [(.int (2 : Int32)), (.long (((0 : Int64) + (1 : Int64)) + (1 : Int64)))])) _
    refine Go.by (fun tt_ kk_ => XS.i2l X.here hx rfl (hb hby at_234) rfl kk_) ?_
    show Go p.tables e below (T.setTop (mkF m 235 #[.val (.int p0), .val (.int p1), .val (.int p2), .val (.int p3), .val (.long a), .second, .val (.long e'), .second, .val (.long k), .second, .val (.int (2 : Int32)), .val (.double (FP.l2d a)), .second, .val (.double (FP.l2d ae)), .second, .val (.double vc), .second, .val (.ref b16), .val (.ref b20), .val (.double (FP.l2d (((2 : Int64) * a) + e'))), .second, .val (.double eq), .second] [(.long ((2 : Int32).toInt64)), (.long (((0 : Int64) + (1 : Int64)) + (1 : Int64)))])) _
    refine Go.by (fun tt_ kk_ => XS.lcmp X.here hx rfl (hb hby at_235) rfl kk_) ?_
    show Go p.tables e below (T.setTop (mkF m 236 #[.val (.int p0), .val (.int p1), .val (.int p2), .val (.int p3), .val (.long a), .second, .val (.long e'), .second, .val (.long k), .second, .val (.int (2 : Int32)), .val (.double (FP.l2d a)), .second, .val (.double (FP.l2d ae)), .second, .val (.double vc), .second, .val (.ref b16), .val (.ref b20), .val (.double (FP.l2d (((2 : Int64) * a) + e'))), .second, .val (.double eq), .second] [(.int (lcmpW (((0 : Int64) + (1 : Int64)) + (1 : Int64)) ((2 : Int32).toInt64)))])) _
    refine Go.by (fun tt_ kk_ => XS.ifNo X.here hx rfl (hb hby at_236) rfl ((if0 _ _).trans (teq (by decide : (lcmpW (((0 : Int64) + (1 : Int64)) + (1 : Int64)) ((2 : Int32).toInt64)) = (0 : Int32))).2) kk_) ?_
    show Go p.tables e below (T.setTop (mkF m 239 #[.val (.int p0), .val (.int p1), .val (.int p2), .val (.int p3), .val (.long a), .second, .val (.long e'), .second, .val (.long k), .second, .val (.int (2 : Int32)), .val (.double (FP.l2d a)), .second, .val (.double (FP.l2d ae)), .second, .val (.double vc), .second, .val (.ref b16), .val (.ref b20), .val (.double (FP.l2d (((2 : Int64) * a) + e'))), .second, .val (.double eq), .second] [])) _
    refine Go.by (fun tt_ kk_ => XS.aload X.here hx rfl (hb hby at_239) rfl rfl kk_) ?_
    show Go p.tables e below (T.setTop (mkF m 241 #[.val (.int p0), .val (.int p1), .val (.int p2), .val (.int p3), .val (.long a), .second, .val (.long e'), .second, .val (.long k), .second, .val (.int (2 : Int32)), .val (.double (FP.l2d a)), .second, .val (.double (FP.l2d ae)), .second, .val (.double vc), .second, .val (.ref b16), .val (.ref b20), .val (.double (FP.l2d (((2 : Int64) * a) + e'))), .second, .val (.double eq), .second] [(.ref b20)])) _
    obtain ⟨cq_, kq_, qa_, qb_, qc_⟩ := isOf hZ eT E_b20
    obtain ⟨_, _, ⟨T, L_, k_, n_⟩, -, X, ⟨Lc_, hQ, l_, y_, z_⟩, st⟩ := X.virtualBack hx (y := (⟨"com/example/bogong/bogong/stats/Sample", "sum", "()D"⟩ : MethodName)) (z := (⟨"com/example/bogong/bogong/stats/Sample", "sum", "()D"⟩ : MethodName)) hown (mvT hZ (hw _ (List.mem_of_getElem? (i := 53) rfl))) (mvT hZ (hw _ (List.mem_of_getElem? (i := 54) rfl))) (notFace_of_selects (args := #[]) (mvT hZ (hw _ (List.mem_of_getElem? (i := 56) rfl)))) (mvT hZ (hw _ (List.mem_of_getElem? (i := 56) rfl))) (mvT hZ (hw _ (List.mem_of_getElem? (i := 55) rfl))) (by decide) (backOf (W := 0) (rm8 l Z a0 hw [] b20 s1_2 h21 n0 (Nat.le_trans Z0 K.1) F_sum_b20) hZ (hw _ (List.mem_of_getElem? (i := 57) rfl)) (hw _ (List.mem_of_getElem? (i := 32) rfl)) (by decide) (by decide)) qa_ qc_ (g := (mkF m 241 #[.val (.int p0), .val (.int p1), .val (.int p2), .val (.int p3), .val (.long a), .second, .val (.long e'), .second, .val (.long k), .second, .val (.int (2 : Int32)), .val (.double (FP.l2d a)), .second, .val (.double (FP.l2d ae)), .second, .val (.double vc), .second, .val (.ref b16), .val (.ref b20), .val (.double (FP.l2d (((2 : Int64) * a) + e'))), .second, .val (.double eq), .second] [(.ref b20)])) rfl (by rw [hml]; rfl) (Steps.refl _) (argsL := []) (rest := []) (lenOf pd_4 rfl) rfl (by show 2 * 0 + _ ≤ _; exact Nat.le_of_eq rfl) (hb hby at_241) (fun _ _ => ⟨rfl, eT, (by decide : 2 + 0 ≤ _), (by decide : 7 + 0 ≤ _)⟩)
    dsimp only [Pt.U, Pt.locs, Pt.cells, Pt.slots] at X l_ y_ z_ st hQ
    subst l_ y_ z_
    obtain ⟨rfl, Nq, eh⟩ := hQ
    have N := Fr.app N Nq
    have eT := eh
    refine Go.tr st ?_
    show Go p.tables e below (T.setTop (mkF m 244 #[.val (.int p0), .val (.int p1), .val (.int p2), .val (.int p3), .val (.long a), .second, .val (.long e'), .second, .val (.long k), .second, .val (.int (2 : Int32)), .val (.double (FP.l2d a)), .second, .val (.double (FP.l2d ae)), .second, .val (.double vc), .second, .val (.ref b16), .val (.ref b20), .val (.double (FP.l2d (((2 : Int64) * a) + e'))), .second, .val (.double eq), .second] [(.double s1_2)])) _
    refine Go.by (fun tt_ kk_ => XS.dload X.here hx rfl (hb hby at_244) rfl kk_) ?_
    show Go p.tables e below (T.setTop (mkF m 246 #[.val (.int p0), .val (.int p1), .val (.int p2), .val (.int p3), .val (.long a), .second, .val (.long e'), .second, .val (.long k), .second, .val (.int (2 : Int32)), .val (.double (FP.l2d a)), .second, .val (.double (FP.l2d ae)), .second, .val (.double vc), .second, .val (.ref b16), .val (.ref b20), .val (.double (FP.l2d (((2 : Int64) * a) + e'))), .second, .val (.double eq), .second] [(.double (FP.l2d (((2 : Int64) * a) + e'))), (.double s1_2)])) _
    refine Go.by (fun tt_ kk_ => XS.dcmpS X.here hx rfl (hb hby at_246) rfl ((d_s1_2.cmpV d_es .l).trans (own_ci_eq.mpr rfl)) kk_) ?_
    show Go p.tables e below (T.setTop (mkF m 247 #[.val (.int p0), .val (.int p1), .val (.int p2), .val (.int p3), .val (.long a), .second, .val (.long e'), .second, .val (.long k), .second, .val (.int (2 : Int32)), .val (.double (FP.l2d a)), .second, .val (.double (FP.l2d ae)), .second, .val (.double vc), .second, .val (.ref b16), .val (.ref b20), .val (.double (FP.l2d (((2 : Int64) * a) + e'))), .second, .val (.double eq), .second] [(.int (0 : Int32))])) _
    refine Go.by (fun tt_ kk_ => XS.ifNo X.here hx rfl (hb hby at_247) rfl ((if0 _ _).trans (teq (rfl : (0 : Int32) = (0 : Int32))).2) kk_) ?_
    show Go p.tables e below (T.setTop (mkF m 250 #[.val (.int p0), .val (.int p1), .val (.int p2), .val (.int p3), .val (.long a), .second, .val (.long e'), .second, .val (.long k), .second, .val (.int (2 : Int32)), .val (.double (FP.l2d a)), .second, .val (.double (FP.l2d ae)), .second, .val (.double vc), .second, .val (.ref b16), .val (.ref b20), .val (.double (FP.l2d (((2 : Int64) * a) + e'))), .second, .val (.double eq), .second] [])) _
    refine Go.by (fun tt_ kk_ => XS.aload X.here hx rfl (hb hby at_250) rfl rfl kk_) ?_
    show Go p.tables e below (T.setTop (mkF m 252 #[.val (.int p0), .val (.int p1), .val (.int p2), .val (.int p3), .val (.long a), .second, .val (.long e'), .second, .val (.long k), .second, .val (.int (2 : Int32)), .val (.double (FP.l2d a)), .second, .val (.double (FP.l2d ae)), .second, .val (.double vc), .second, .val (.ref b16), .val (.ref b20), .val (.double (FP.l2d (((2 : Int64) * a) + e'))), .second, .val (.double eq), .second] [(.ref b20)])) _
    obtain ⟨cq_, kq_, qa_, qb_, qc_⟩ := isOf hZ eT E_b20
    obtain ⟨_, _, ⟨T, L_, k_, n_⟩, -, X, ⟨Lc_, hQ, l_, y_, z_⟩, st⟩ := X.virtualBack hx (y := (⟨"com/example/bogong/bogong/stats/Sample", "squaredDeviations", "()D"⟩ : MethodName)) (z := (⟨"com/example/bogong/bogong/stats/Sample", "squaredDeviations", "()D"⟩ : MethodName)) hown (mvT hZ (hw _ (List.mem_of_getElem? (i := 58) rfl))) (mvT hZ (hw _ (List.mem_of_getElem? (i := 59) rfl))) (notFace_of_selects (args := #[]) (mvT hZ (hw _ (List.mem_of_getElem? (i := 61) rfl)))) (mvT hZ (hw _ (List.mem_of_getElem? (i := 61) rfl))) (mvT hZ (hw _ (List.mem_of_getElem? (i := 60) rfl))) (by decide) (backOf (W := 0) (rm9 l Z a0 hw [] b20 q1_2 h21 n0 (Nat.le_trans Z0 K.1) F_squaredDeviations_b20) hZ (hw _ (List.mem_of_getElem? (i := 62) rfl)) (hw _ (List.mem_of_getElem? (i := 32) rfl)) (by decide) (by decide)) qa_ qc_ (g := (mkF m 252 #[.val (.int p0), .val (.int p1), .val (.int p2), .val (.int p3), .val (.long a), .second, .val (.long e'), .second, .val (.long k), .second, .val (.int (2 : Int32)), .val (.double (FP.l2d a)), .second, .val (.double (FP.l2d ae)), .second, .val (.double vc), .second, .val (.ref b16), .val (.ref b20), .val (.double (FP.l2d (((2 : Int64) * a) + e'))), .second, .val (.double eq), .second] [(.ref b20)])) rfl (by rw [hml]; rfl) (Steps.refl _) (argsL := []) (rest := []) (lenOf pd_4 rfl) rfl (by show 2 * 0 + _ ≤ _; exact Nat.le_of_eq rfl) (hb hby at_252) (fun _ _ => ⟨rfl, eT, (by decide : 2 + 0 ≤ _), (by decide : 7 + 0 ≤ _)⟩)
    dsimp only [Pt.U, Pt.locs, Pt.cells, Pt.slots] at X l_ y_ z_ st hQ
    subst l_ y_ z_
    obtain ⟨rfl, Nq, eh⟩ := hQ
    have N := Fr.app N Nq
    have eT := eh
    refine Go.tr st ?_
    show Go p.tables e below (T.setTop (mkF m 255 #[.val (.int p0), .val (.int p1), .val (.int p2), .val (.int p3), .val (.long a), .second, .val (.long e'), .second, .val (.long k), .second, .val (.int (2 : Int32)), .val (.double (FP.l2d a)), .second, .val (.double (FP.l2d ae)), .second, .val (.double vc), .second, .val (.ref b16), .val (.ref b20), .val (.double (FP.l2d (((2 : Int64) * a) + e'))), .second, .val (.double eq), .second] [(.double q1_2)])) _
    refine Go.by (fun tt_ kk_ => XS.dload X.here hx rfl (hb hby at_255) rfl kk_) ?_
    show Go p.tables e below (T.setTop (mkF m 257 #[.val (.int p0), .val (.int p1), .val (.int p2), .val (.int p3), .val (.long a), .second, .val (.long e'), .second, .val (.long k), .second, .val (.int (2 : Int32)), .val (.double (FP.l2d a)), .second, .val (.double (FP.l2d ae)), .second, .val (.double vc), .second, .val (.ref b16), .val (.ref b20), .val (.double (FP.l2d (((2 : Int64) * a) + e'))), .second, .val (.double eq), .second] [(.double eq), (.double q1_2)])) _
    refine Go.by (fun tt_ kk_ => XS.dcmpS X.here hx rfl (hb hby at_257) rfl ((d_q1_2.cmpV d_eq .l).trans (own_ci_eq.mpr (by omega))) kk_) ?_
    show Go p.tables e below (T.setTop (mkF m 258 #[.val (.int p0), .val (.int p1), .val (.int p2), .val (.int p3), .val (.long a), .second, .val (.long e'), .second, .val (.long k), .second, .val (.int (2 : Int32)), .val (.double (FP.l2d a)), .second, .val (.double (FP.l2d ae)), .second, .val (.double vc), .second, .val (.ref b16), .val (.ref b20), .val (.double (FP.l2d (((2 : Int64) * a) + e'))), .second, .val (.double eq), .second] [(.int (0 : Int32))])) _
    refine Go.by (fun tt_ kk_ => XS.ifNo X.here hx rfl (hb hby at_258) rfl ((if0 _ _).trans (teq (rfl : (0 : Int32) = (0 : Int32))).2) kk_) ?_
    show Go p.tables e below (T.setTop (mkF m 261 #[.val (.int p0), .val (.int p1), .val (.int p2), .val (.int p3), .val (.long a), .second, .val (.long e'), .second, .val (.long k), .second, .val (.int (2 : Int32)), .val (.double (FP.l2d a)), .second, .val (.double (FP.l2d ae)), .second, .val (.double vc), .second, .val (.ref b16), .val (.ref b20), .val (.double (FP.l2d (((2 : Int64) * a) + e'))), .second, .val (.double eq), .second] [])) _
    refine Go.by (fun tt_ kk_ => XS.iconst X.here hx rfl (hb hby at_261) kk_) ?_
    show Go p.tables e below (T.setTop (mkF m 262 #[.val (.int p0), .val (.int p1), .val (.int p2), .val (.int p3), .val (.long a), .second, .val (.long e'), .second, .val (.long k), .second, .val (.int (2 : Int32)), .val (.double (FP.l2d a)), .second, .val (.double (FP.l2d ae)), .second, .val (.double vc), .second, .val (.ref b16), .val (.ref b20), .val (.double (FP.l2d (((2 : Int64) * a) + e'))), .second, .val (.double eq), .second] [(.int (1 : Int32))])) _
    refine Go.by (fun tt_ kk_ => XS.goto X.here hx rfl (pc0 := 262) (pc' := 266) rfl (hb hby at_262) (by decide) (by decide) kk_) ?_
    show Go p.tables e below (T.setTop (mkF m 266 #[.val (.int p0), .val (.int p1), .val (.int p2), .val (.int p3), .val (.long a), .second, .val (.long e'), .second, .val (.long k), .second, .val (.int (2 : Int32)), .val (.double (FP.l2d a)), .second, .val (.double (FP.l2d ae)), .second, .val (.double vc), .second, .val (.ref b16), .val (.ref b20), .val (.double (FP.l2d (((2 : Int64) * a) + e'))), .second, .val (.double eq), .second] [(.int (1 : Int32))])) _
    exact Go.done X  (v := some (.int (1 : Int32))) (fun h => by rw [Bd.returns] at h; cases h) Bd.notSynchronized (fun fs hr => retN X hx (z := (1 : Int32)) (t := .boolean) Bd.returns (by simp) (hb hby at_266) hr) (by rw [eT]; exact ⟨rfl, N⟩) (by decide) (by decide)
  · rw [hcs]
    show Go p.tables e below (T.setTop (mkF m 21 #[.val (.int p0), .val (.int p1), .val (.int p2), .val (.int p3), .val (.long a), .second, .val (.long e'), .second, .val (.long k), .second, .unset, .unset, .unset, .unset, .unset, .unset, .unset, .unset, .unset, .unset, .unset, .unset, .unset] [(.int (3 : Int32))])) _
    refine Go.by (fun tt_ kk_ => XS.istore X.here hx rfl (hb hby at_21) rfl (l' := #[.val (.int p0), .val (.int p1), .val (.int p2), .val (.int p3), .val (.long a), .second, .val (.long e'), .second, .val (.long k), .second, .val (.int (3 : Int32)), .unset, .unset, .unset, .unset, .unset, .unset, .unset, .unset, .unset, .unset, .unset, .unset]) rfl kk_) ?_
    show Go p.tables e below (T.setTop (mkF m 23 #[.val (.int p0), .val (.int p1), .val (.int p2), .val (.int p3), .val (.long a), .second, .val (.long e'), .second, .val (.long k), .second, .val (.int (3 : Int32)), .unset, .unset, .unset, .unset, .unset, .unset, .unset, .unset, .unset, .unset, .unset, .unset] [])) _
    refine Go.by (fun tt_ kk_ => XS.lload X.here hx rfl (hb hby at_23) rfl kk_) ?_
    show Go p.tables e below (T.setTop (mkF m 25 #[.val (.int p0), .val (.int p1), .val (.int p2), .val (.int p3), .val (.long a), .second, .val (.long e'), .second, .val (.long k), .second, .val (.int (3 : Int32)), .unset, .unset, .unset, .unset, .unset, .unset, .unset, .unset, .unset, .unset, .unset, .unset] [(.long a)])) _
    refine Go.by (fun tt_ kk_ => XS.l2dS X.here hx rfl (hb hby at_25) rfl rfl kk_) ?_
    show Go p.tables e below (T.setTop (mkF m 26 #[.val (.int p0), .val (.int p1), .val (.int p2), .val (.int p3), .val (.long a), .second, .val (.long e'), .second, .val (.long k), .second, .val (.int (3 : Int32)), .unset, .unset, .unset, .unset, .unset, .unset, .unset, .unset, .unset, .unset, .unset, .unset] [(.double (FP.l2d a))])) _
    refine Go.by (fun tt_ kk_ => XS.dstore X.here hx rfl (hb hby at_26) rfl (l' := #[.val (.int p0), .val (.int p1), .val (.int p2), .val (.int p3), .val (.long a), .second, .val (.long e'), .second, .val (.long k), .second, .val (.int (3 : Int32)), .val (.double (FP.l2d a)), .second, .unset, .unset, .unset, .unset, .unset, .unset, .unset, .unset, .unset, .unset]) rfl kk_) ?_
    show Go p.tables e below (T.setTop (mkF m 28 #[.val (.int p0), .val (.int p1), .val (.int p2), .val (.int p3), .val (.long a), .second, .val (.long e'), .second, .val (.long k), .second, .val (.int (3 : Int32)), .val (.double (FP.l2d a)), .second, .unset, .unset, .unset, .unset, .unset, .unset, .unset, .unset, .unset, .unset] [])) _
    refine Go.by (fun tt_ kk_ => XS.lload X.here hx rfl (hb hby at_28) rfl kk_) ?_
    show Go p.tables e below (T.setTop (mkF m 30 #[.val (.int p0), .val (.int p1), .val (.int p2), .val (.int p3), .val (.long a), .second, .val (.long e'), .second, .val (.long k), .second, .val (.int (3 : Int32)), .val (.double (FP.l2d a)), .second, .unset, .unset, .unset, .unset, .unset, .unset, .unset, .unset, .unset, .unset] [(.long a)])) _
    refine Go.by (fun tt_ kk_ => XS.lload X.here hx rfl (hb hby at_30) rfl kk_) ?_
    show Go p.tables e below (T.setTop (mkF m 32 #[.val (.int p0), .val (.int p1), .val (.int p2), .val (.int p3), .val (.long a), .second, .val (.long e'), .second, .val (.long k), .second, .val (.int (3 : Int32)), .val (.double (FP.l2d a)), .second, .unset, .unset, .unset, .unset, .unset, .unset, .unset, .unset, .unset, .unset] [(.long e'), (.long a)])) _
    refine Go.by (fun tt_ kk_ => XS.ladd X.here hx rfl (hb hby at_32) rfl kk_) ?_
    show Go p.tables e below (T.setTop (mkF m 33 #[.val (.int p0), .val (.int p1), .val (.int p2), .val (.int p3), .val (.long a), .second, .val (.long e'), .second, .val (.long k), .second, .val (.int (3 : Int32)), .val (.double (FP.l2d a)), .second, .unset, .unset, .unset, .unset, .unset, .unset, .unset, .unset, .unset, .unset] [(.long (a + e'))])) _
    obtain ⟨ae, e_ae⟩ : ∃ z, z = (a + e') := ⟨_, rfl⟩
    rw [← e_ae]
    show Go p.tables e below (T.setTop (mkF m 33 #[.val (.int p0), .val (.int p1), .val (.int p2), .val (.int p3), .val (.long a), .second, .val (.long e'), .second, .val (.long k), .second, .val (.int (3 : Int32)), .val (.double (FP.l2d a)), .second, .unset, .unset, .unset, .unset, .unset, .unset, .unset, .unset, .unset, .unset] [(.long ae)])) _
    have b_ae : ae.toInt = a.toInt + e'.toInt := by rw [e_ae]; exact FP.Core.int64_add (by omega) (by omega)
    refine Go.by (fun tt_ kk_ => XS.l2dS X.here hx rfl (hb hby at_33) rfl rfl kk_) ?_
    show Go p.tables e below (T.setTop (mkF m 34 #[.val (.int p0), .val (.int p1), .val (.int p2), .val (.int p3), .val (.long a), .second, .val (.long e'), .second, .val (.long k), .second, .val (.int (3 : Int32)), .val (.double (FP.l2d a)), .second, .unset, .unset, .unset, .unset, .unset, .unset, .unset, .unset, .unset, .unset] [(.double (FP.l2d ae))])) _
    refine Go.by (fun tt_ kk_ => XS.dstore X.here hx rfl (hb hby at_34) rfl (l' := #[.val (.int p0), .val (.int p1), .val (.int p2), .val (.int p3), .val (.long a), .second, .val (.long e'), .second, .val (.long k), .second, .val (.int (3 : Int32)), .val (.double (FP.l2d a)), .second, .val (.double (FP.l2d ae)), .second, .unset, .unset, .unset, .unset, .unset, .unset, .unset, .unset]) rfl kk_) ?_
    show Go p.tables e below (T.setTop (mkF m 36 #[.val (.int p0), .val (.int p1), .val (.int p2), .val (.int p3), .val (.long a), .second, .val (.long e'), .second, .val (.long k), .second, .val (.int (3 : Int32)), .val (.double (FP.l2d a)), .second, .val (.double (FP.l2d ae)), .second, .unset, .unset, .unset, .unset, .unset, .unset, .unset, .unset] [])) _
    refine Go.by (X.ldc2Long hx hown (mvT hZ (hw _ (List.mem_of_getElem? (i := 0) rfl))) (g := (mkF m 36 #[.val (.int p0), .val (.int p1), .val (.int p2), .val (.int p3), .val (.long a), .second, .val (.long e'), .second, .val (.long k), .second, .val (.int (3 : Int32)), .val (.double (FP.l2d a)), .second, .val (.double (FP.l2d ae)), .second, .unset, .unset, .unset, .unset, .unset, .unset, .unset, .unset] [])) rfl (hb hby at_36)) ?_
    show Go p.tables e below (T.setTop (mkF m 39 #[.val (.int p0), .val (.int p1), .val (.int p2), .val (.int p3), .val (.long a), .second, .val (.long e'), .second, .val (.long k), .second, .val (.int (3 : Int32)), .val (.double (FP.l2d a)), .second, .val (.double (FP.l2d ae)), .second, .unset, .unset, .unset, .unset, .unset, .unset, .unset, .unset] [(.long (2 : Int64))])) _
    refine Go.by (fun tt_ kk_ => XS.lload X.here hx rfl (hb hby at_39) rfl kk_) ?_
    show Go p.tables e below (T.setTop (mkF m 41 #[.val (.int p0), .val (.int p1), .val (.int p2), .val (.int p3), .val (.long a), .second, .val (.long e'), .second, .val (.long k), .second, .val (.int (3 : Int32)), .val (.double (FP.l2d a)), .second, .val (.double (FP.l2d ae)), .second, .unset, .unset, .unset, .unset, .unset, .unset, .unset, .unset] [(.long a), (.long (2 : Int64))])) _
    refine Go.by (fun tt_ kk_ => XS.lmul X.here hx rfl (hb hby at_41) rfl kk_) ?_
    show Go p.tables e below (T.setTop (mkF m 42 #[.val (.int p0), .val (.int p1), .val (.int p2), .val (.int p3), .val (.long a), .second, .val (.long e'), .second, .val (.long k), .second, .val (.int (3 : Int32)), .val (.double (FP.l2d a)), .second, .val (.double (FP.l2d ae)), .second, .unset, .unset, .unset, .unset, .unset, .unset, .unset, .unset] [(.long ((2 : Int64) * a))])) _
    refine Go.by (fun tt_ kk_ => XS.lload X.here hx rfl (hb hby at_42) rfl kk_) ?_
    show Go p.tables e below (T.setTop (mkF m 44 #[.val (.int p0), .val (.int p1), .val (.int p2), .val (.int p3), .val (.long a), .second, .val (.long e'), .second, .val (.long k), .second, .val (.int (3 : Int32)), .val (.double (FP.l2d a)), .second, .val (.double (FP.l2d ae)), .second, .unset, .unset, .unset, .unset, .unset, .unset, .unset, .unset] [(.long e'), (.long ((2 : Int64) * a))])) _
    refine Go.by (fun tt_ kk_ => XS.ladd X.here hx rfl (hb hby at_44) rfl kk_) ?_
    show Go p.tables e below (T.setTop (mkF m 45 #[.val (.int p0), .val (.int p1), .val (.int p2), .val (.int p3), .val (.long a), .second, .val (.long e'), .second, .val (.long k), .second, .val (.int (3 : Int32)), .val (.double (FP.l2d a)), .second, .val (.double (FP.l2d ae)), .second, .unset, .unset, .unset, .unset, .unset, .unset, .unset, .unset] [(.long (((2 : Int64) * a) + e'))])) _
    refine Go.by (X.ldc2Long hx hown (mvT hZ (hw _ (List.mem_of_getElem? (i := 1) rfl))) (g := (mkF m 45 #[.val (.int p0), .val (.int p1), .val (.int p2), .val (.int p3), .val (.long a), .second, .val (.long e'), .second, .val (.long k), .second, .val (.int (3 : Int32)), .val (.double (FP.l2d a)), .second, .val (.double (FP.l2d ae)), .second, .unset, .unset, .unset, .unset, .unset, .unset, .unset, .unset] [(.long (((2 : Int64) * a) + e'))])) rfl (hb hby at_45)) ?_
    show Go p.tables e below (T.setTop (mkF m 48 #[.val (.int p0), .val (.int p1), .val (.int p2), .val (.int p3), .val (.long a), .second, .val (.long e'), .second, .val (.long k), .second, .val (.int (3 : Int32)), .val (.double (FP.l2d a)), .second, .val (.double (FP.l2d ae)), .second, .unset, .unset, .unset, .unset, .unset, .unset, .unset, .unset] [(.long (6 : Int64)), (.long (((2 : Int64) * a) + e'))])) _
    refine Go.by (fun tt_ kk_ => XS.lload X.here hx rfl (hb hby at_48) rfl kk_) ?_
    show Go p.tables e below (T.setTop (mkF m 50 #[.val (.int p0), .val (.int p1), .val (.int p2), .val (.int p3), .val (.long a), .second, .val (.long e'), .second, .val (.long k), .second, .val (.int (3 : Int32)), .val (.double (FP.l2d a)), .second, .val (.double (FP.l2d ae)), .second, .unset, .unset, .unset, .unset, .unset, .unset, .unset, .unset] [(.long k), (.long (6 : Int64)), (.long (((2 : Int64) * a) + e'))])) _
    refine Go.by (fun tt_ kk_ => XS.lmul X.here hx rfl (hb hby at_50) rfl kk_) ?_
    show Go p.tables e below (T.setTop (mkF m 51 #[.val (.int p0), .val (.int p1), .val (.int p2), .val (.int p3), .val (.long a), .second, .val (.long e'), .second, .val (.long k), .second, .val (.int (3 : Int32)), .val (.double (FP.l2d a)), .second, .val (.double (FP.l2d ae)), .second, .unset, .unset, .unset, .unset, .unset, .unset, .unset, .unset] [(.long ((6 : Int64) * k)), (.long (((2 : Int64) * a) + e'))])) _
    refine Go.by (fun tt_ kk_ => XS.ladd X.here hx rfl (hb hby at_51) rfl kk_) ?_
    show Go p.tables e below (T.setTop (mkF m 52 #[.val (.int p0), .val (.int p1), .val (.int p2), .val (.int p3), .val (.long a), .second, .val (.long e'), .second, .val (.long k), .second, .val (.int (3 : Int32)), .val (.double (FP.l2d a)), .second, .val (.double (FP.l2d ae)), .second, .unset, .unset, .unset, .unset, .unset, .unset, .unset, .unset] [(.long ((((2 : Int64) * a) + e') + ((6 : Int64) * k)))])) _
    obtain ⟨vl, e_vl⟩ : ∃ z, z = ((((2 : Int64) * a) + e') + ((6 : Int64) * k)) := ⟨_, rfl⟩
    rw [← e_vl]
    show Go p.tables e below (T.setTop (mkF m 52 #[.val (.int p0), .val (.int p1), .val (.int p2), .val (.int p3), .val (.long a), .second, .val (.long e'), .second, .val (.long k), .second, .val (.int (3 : Int32)), .val (.double (FP.l2d a)), .second, .val (.double (FP.l2d ae)), .second, .unset, .unset, .unset, .unset, .unset, .unset, .unset, .unset] [(.long vl)])) _
    have l1 : ((2 : Int64) * a).toInt = 2 * a.toInt := FP.Core.int64_mul (by rw [show (2 : Int64).toInt = 2 by decide]; omega) (by rw [show (2 : Int64).toInt = 2 by decide]; omega)
    have l2 : ((2 : Int64) * a + e').toInt = 2 * a.toInt + e'.toInt := by rw [FP.Core.int64_add (by rw [l1]; omega) (by rw [l1]; omega), l1]
    have l3 : ((6 : Int64) * k).toInt = 6 * k.toInt := FP.Core.int64_mul (by rw [show (6 : Int64).toInt = 6 by decide]; omega) (by rw [show (6 : Int64).toInt = 6 by decide]; omega)
    have b_vl : vl.toInt = 2 * a.toInt + e'.toInt + 6 * k.toInt := by rw [e_vl, FP.Core.int64_add (by rw [l2, l3]; omega) (by rw [l2, l3]; omega), l2, l3]
    refine Go.by (fun tt_ kk_ => XS.l2dS X.here hx rfl (hb hby at_52) rfl rfl kk_) ?_
    show Go p.tables e below (T.setTop (mkF m 53 #[.val (.int p0), .val (.int p1), .val (.int p2), .val (.int p3), .val (.long a), .second, .val (.long e'), .second, .val (.long k), .second, .val (.int (3 : Int32)), .val (.double (FP.l2d a)), .second, .val (.double (FP.l2d ae)), .second, .unset, .unset, .unset, .unset, .unset, .unset, .unset, .unset] [(.double (FP.l2d vl))])) _
    refine Go.by (X.ldc2DoubleC hx hown (mvT hZ (hw _ (List.mem_of_getElem? (i := 2) rfl))) (g := (mkF m 53 #[.val (.int p0), .val (.int p1), .val (.int p2), .val (.int p3), .val (.long a), .second, .val (.long e'), .second, .val (.long k), .second, .val (.int (3 : Int32)), .val (.double (FP.l2d a)), .second, .val (.double (FP.l2d ae)), .second, .unset, .unset, .unset, .unset, .unset, .unset, .unset, .unset] [(.double (FP.l2d vl))])) rfl (hb hby at_53)) ?_
    show Go p.tables e below (T.setTop (mkF m 56 #[.val (.int p0), .val (.int p1), .val (.int p2), .val (.int p3), .val (.long a), .second, .val (.long e'), .second, .val (.long k), .second, .val (.int (3 : Int32)), .val (.double (FP.l2d a)), .second, .val (.double (FP.l2d ae)), .second, .unset, .unset, .unset, .unset, .unset, .unset, .unset, .unset] [(.double (4611686018427387904 : UInt64)), (.double (FP.l2d vl))])) _
    obtain ⟨vc, e_vc⟩ : ∃ z, z = FP.ddiv (FP.l2d vl) (4611686018427387904 : UInt64) := ⟨_, rfl⟩
    have d_vc : Dy (2 * a.toInt + e'.toInt + 6 * k.toInt) (-1) vc := by rw [e_vc]; exact Dy.div (k := 2 * a.toInt + e'.toInt + 6 * k.toInt) (j := 1) (e := 0) (g := 1) (by rw [Int.mul_one]; exact (Dy.l2d (by omega)).cast b_vl rfl) own_two (by decide) (by omega) (by decide) (by decide)
    refine Go.by (fun tt_ kk_ => XS.ddivS X.here hx rfl (hb hby at_56) rfl (e_vc ▸ d_vc.noNaN) e_vc.symm kk_) ?_
    show Go p.tables e below (T.setTop (mkF m 57 #[.val (.int p0), .val (.int p1), .val (.int p2), .val (.int p3), .val (.long a), .second, .val (.long e'), .second, .val (.long k), .second, .val (.int (3 : Int32)), .val (.double (FP.l2d a)), .second, .val (.double (FP.l2d ae)), .second, .unset, .unset, .unset, .unset, .unset, .unset, .unset, .unset] [(.double vc)])) _
    refine Go.by (fun tt_ kk_ => XS.dstore X.here hx rfl (hb hby at_57) rfl (l' := #[.val (.int p0), .val (.int p1), .val (.int p2), .val (.int p3), .val (.long a), .second, .val (.long e'), .second, .val (.long k), .second, .val (.int (3 : Int32)), .val (.double (FP.l2d a)), .second, .val (.double (FP.l2d ae)), .second, .val (.double vc), .second, .unset, .unset, .unset, .unset, .unset, .unset]) rfl kk_) ?_
    show Go p.tables e below (T.setTop (mkF m 59 #[.val (.int p0), .val (.int p1), .val (.int p2), .val (.int p3), .val (.long a), .second, .val (.long e'), .second, .val (.long k), .second, .val (.int (3 : Int32)), .val (.double (FP.l2d a)), .second, .val (.double (FP.l2d ae)), .second, .val (.double vc), .second, .unset, .unset, .unset, .unset, .unset, .unset] [])) _
    obtain ⟨T, h25, X, eT, E_, A_, D_, -, st⟩ := newO X hx hZ hown (hw _ (List.mem_of_getElem? (i := 3) rfl)) (hw _ (List.mem_of_getElem? (i := 4) rfl)) (hw _ (List.mem_of_getElem? (i := 5) rfl)) eT (g := (mkF m 59 #[.val (.int p0), .val (.int p1), .val (.int p2), .val (.int p3), .val (.long a), .second, .val (.long e'), .second, .val (.long k), .second, .val (.int (3 : Int32)), .val (.double (FP.l2d a)), .second, .val (.double (FP.l2d ae)), .second, .val (.double vc), .second, .unset, .unset, .unset, .unset, .unset, .unset] [])) rfl (hb hby at_59) (by decide) (by decide)
    obtain ⟨b25, g_b25'⟩ : ∃ z, z = h0.size := ⟨_, rfl⟩
    rw [← g_b25'] at A_ D_ st
    have g_b25 : n0 ≤ b25 := Nat.le_trans Z0 (Nat.le_trans K.1 (Nat.le_of_eq g_b25'.symm))
    have sz_b25 : h0.size ≤ b25 := Nat.le_trans K.1 (Nat.le_of_eq g_b25'.symm)
    have K := K.ext E_
    have E_b25 := A_
    have F_count_b25 : Fld Z h25 b25 "com/example/bogong/bogong/stats/Tally" "count" "J" (.long (0 : Int64)) := D_ (Or.inl (hw _ (List.mem_of_getElem? (i := 18) rfl))) (ty := .long) (by decide)
    have F_sum_b25 : Fld Z h25 b25 "com/example/bogong/bogong/stats/Tally" "sum" "D" (.double (0 : UInt64)) := D_ (Or.inl (hw _ (List.mem_of_getElem? (i := 20) rfl))) (ty := .double) (by decide)
    have F_mean_b25 : Fld Z h25 b25 "com/example/bogong/bogong/stats/Tally" "mean" "D" (.double (0 : UInt64)) := D_ (Or.inl (hw _ (List.mem_of_getElem? (i := 22) rfl))) (ty := .double) (by decide)
    have F_squaredDeviations_b25 : Fld Z h25 b25 "com/example/bogong/bogong/stats/Tally" "squaredDeviations" "D" (.double (0 : UInt64)) := D_ (Or.inl (hw _ (List.mem_of_getElem? (i := 24) rfl))) (ty := .double) (by decide)
    refine Go.by st ?_
    show Go p.tables e below (T.setTop (mkF m 62 #[.val (.int p0), .val (.int p1), .val (.int p2), .val (.int p3), .val (.long a), .second, .val (.long e'), .second, .val (.long k), .second, .val (.int (3 : Int32)), .val (.double (FP.l2d a)), .second, .val (.double (FP.l2d ae)), .second, .val (.double vc), .second, .unset, .unset, .unset, .unset, .unset, .unset] [(.ref b25)])) _
    refine Go.by (fun tt_ kk_ => XS.dup X.here hx rfl (hb hby at_62) rfl rfl kk_) ?_
    show Go p.tables e below (T.setTop (mkF m 63 #[.val (.int p0), .val (.int p1), .val (.int p2), .val (.int p3), .val (.long a), .second, .val (.long e'), .second, .val (.long k), .second, .val (.int (3 : Int32)), .val (.double (FP.l2d a)), .second, .val (.double (FP.l2d ae)), .second, .val (.double vc), .second, .unset, .unset, .unset, .unset, .unset, .unset] [(.ref b25), (.ref b25)])) _
    obtain ⟨_, _, ⟨T, L_, k_, n_⟩, -, X, ⟨Lc_, hQ, l_, y_, z_⟩, st⟩ := X.specialBack hx (y := (⟨"com/example/bogong/bogong/stats/Tally", "<init>", "()V"⟩ : MethodName)) rfl hown (mvT hZ (hw _ (List.mem_of_getElem? (i := 6) rfl))) (mvT hZ (hw _ (List.mem_of_getElem? (i := 7) rfl))) (mvT hZ (hw _ (List.mem_of_getElem? (i := 8) rfl))) (by decide) (backOf (W := 1) (rm1 l Z a0 hw [] b25 h25 n0 (Nat.le_trans Z0 K.1) ) hZ (hw _ (List.mem_of_getElem? (i := 8) rfl)) (hw _ (List.mem_of_getElem? (i := 5) rfl)) (by decide) (by decide)) (g := (mkF m 63 #[.val (.int p0), .val (.int p1), .val (.int p2), .val (.int p3), .val (.long a), .second, .val (.long e'), .second, .val (.long k), .second, .val (.int (3 : Int32)), .val (.double (FP.l2d a)), .second, .val (.double (FP.l2d ae)), .second, .val (.double vc), .second, .unset, .unset, .unset, .unset, .unset, .unset] [(.ref b25), (.ref b25)])) rfl (by rw [hml]; rfl) (Steps.refl _) (a := b25) (argsL := []) (rest := [(.ref b25)]) (lenOf pd_0 rfl) rfl (by show 2 * 0 + _ ≤ _; exact Nat.le_of_eq rfl) (hb hby at_63) (fun _ _ => ⟨rfl, eT, (by decide : 1 + 0 ≤ _), (by decide : 4 + 0 ≤ _)⟩)
    dsimp only [Pt.U, Pt.locs, Pt.cells, Pt.slots] at X l_ y_ z_ st hQ
    subst l_ y_ z_
    obtain ⟨rfl, Nq, eh⟩ := hQ
    have N := Fr.app N Nq
    have eT := eh
    refine Go.tr st ?_
    show Go p.tables e below (T.setTop (mkF m 66 #[.val (.int p0), .val (.int p1), .val (.int p2), .val (.int p3), .val (.long a), .second, .val (.long e'), .second, .val (.long k), .second, .val (.int (3 : Int32)), .val (.double (FP.l2d a)), .second, .val (.double (FP.l2d ae)), .second, .val (.double vc), .second, .unset, .unset, .unset, .unset, .unset, .unset] [(.ref b25)])) _
    refine Go.by (fun tt_ kk_ => XS.astore X.here hx rfl (hb hby at_66) rfl rfl (l' := #[.val (.int p0), .val (.int p1), .val (.int p2), .val (.int p3), .val (.long a), .second, .val (.long e'), .second, .val (.long k), .second, .val (.int (3 : Int32)), .val (.double (FP.l2d a)), .second, .val (.double (FP.l2d ae)), .second, .val (.double vc), .second, .val (.ref b25), .unset, .unset, .unset, .unset, .unset]) rfl kk_) ?_
    show Go p.tables e below (T.setTop (mkF m 68 #[.val (.int p0), .val (.int p1), .val (.int p2), .val (.int p3), .val (.long a), .second, .val (.long e'), .second, .val (.long k), .second, .val (.int (3 : Int32)), .val (.double (FP.l2d a)), .second, .val (.double (FP.l2d ae)), .second, .val (.double vc), .second, .val (.ref b25), .unset, .unset, .unset, .unset, .unset] [])) _
    refine Go.by (fun tt_ kk_ => XS.iload X.here hx rfl (hb hby at_68) rfl kk_) ?_
    show Go p.tables e below (T.setTop (mkF m 70 #[.val (.int p0), .val (.int p1), .val (.int p2), .val (.int p3), .val (.long a), .second, .val (.long e'), .second, .val (.long k), .second, .val (.int (3 : Int32)), .val (.double (FP.l2d a)), .second, .val (.double (FP.l2d ae)), .second, .val (.double vc), .second, .val (.ref b25), .unset, .unset, .unset, .unset, .unset] [(.int (3 : Int32))])) _
    refine Go.by (fun tt_ kk_ => XS.iconst X.here hx rfl (hb hby at_70) kk_) ?_
    show Go p.tables e below (T.setTop (mkF m 71 #[.val (.int p0), .val (.int p1), .val (.int p2), .val (.int p3), .val (.long a), .second, .val (.long e'), .second, .val (.long k), .second, .val (.int (3 : Int32)), .val (.double (FP.l2d a)), .second, .val (.double (FP.l2d ae)), .second, .val (.double vc), .second, .val (.ref b25), .unset, .unset, .unset, .unset, .unset] [(.int (1 : Int32)), (.int (3 : Int32))])) _
    refine Go.by (fun tt_ kk_ => XS.icmpNo X.here hx rfl (hb hby at_71) rfl (flt (by decide : ¬ ((3 : Int32) < (1 : Int32)))).1 kk_) ?_
    show Go p.tables e below (T.setTop (mkF m 74 #[.val (.int p0), .val (.int p1), .val (.int p2), .val (.int p3), .val (.long a), .second, .val (.long e'), .second, .val (.long k), .second, .val (.int (3 : Int32)), .val (.double (FP.l2d a)), .second, .val (.double (FP.l2d ae)), .second, .val (.double vc), .second, .val (.ref b25), .unset, .unset, .unset, .unset, .unset] [])) _
    refine Go.by (fun tt_ kk_ => XS.aload X.here hx rfl (hb hby at_74) rfl rfl kk_) ?_
    show Go p.tables e below (T.setTop (mkF m 76 #[.val (.int p0), .val (.int p1), .val (.int p2), .val (.int p3), .val (.long a), .second, .val (.long e'), .second, .val (.long k), .second, .val (.int (3 : Int32)), .val (.double (FP.l2d a)), .second, .val (.double (FP.l2d ae)), .second, .val (.double vc), .second, .val (.ref b25), .unset, .unset, .unset, .unset, .unset] [(.ref b25)])) _
    refine Go.by (fun tt_ kk_ => XS.dload X.here hx rfl (hb hby at_76) rfl kk_) ?_
    show Go p.tables e below (T.setTop (mkF m 78 #[.val (.int p0), .val (.int p1), .val (.int p2), .val (.int p3), .val (.long a), .second, .val (.long e'), .second, .val (.long k), .second, .val (.int (3 : Int32)), .val (.double (FP.l2d a)), .second, .val (.double (FP.l2d ae)), .second, .val (.double vc), .second, .val (.ref b25), .unset, .unset, .unset, .unset, .unset] [(.double (FP.l2d a)), (.ref b25)])) _
    have d_x1 : Dy a.toInt 0 (FP.l2d a) := Dy.l2d (by omega)
    have dc1 : Dy 1 0 (FP.l2d ((0 : Int64) + (1 : Int64))) := Dy.l2d (x := (0 : Int64) + (1 : Int64)) (by decide)
    obtain ⟨s1_1, e_s1_1⟩ : ∃ z, z = FP.dadd (0 : UInt64) (FP.l2d a) := ⟨_, rfl⟩
    have d_s1_1 : Dy a.toInt 0 s1_1 := by rw [e_s1_1]; exact ((own_zero 0).add d_x1 (by omega) (by decide) (by decide)).cast (by omega) rfl
    obtain ⟨dv_1, e_dv_1⟩ : ∃ z, z = FP.dsub (FP.l2d a) (0 : UInt64) := ⟨_, rfl⟩
    have d_dv_1 : Dy a.toInt 0 dv_1 := by rw [e_dv_1]; exact (d_x1.sub (own_zero 0) (by omega) (by decide) (by decide)).cast (by omega) rfl
    obtain ⟨qt_1, e_qt_1⟩ : ∃ z, z = FP.ddiv dv_1 (FP.l2d ((0 : Int64) + (1 : Int64))) := ⟨_, rfl⟩
    have d_qt_1 : Dy a.toInt 0 qt_1 := by rw [e_qt_1]; exact Dy.div (k := a.toInt) (j := 1) (e := 0) (g := 0) (by rw [Int.mul_one]; exact d_dv_1) dc1 (by decide) (by omega) (by decide) (by decide)
    obtain ⟨m1_1, e_m1_1⟩ : ∃ z, z = FP.dadd (0 : UInt64) qt_1 := ⟨_, rfl⟩
    have d_m1_1 : Dy a.toInt 0 m1_1 := by rw [e_m1_1]; exact ((own_zero 0).add d_qt_1 (by omega) (by decide) (by decide)).cast (by omega) rfl
    obtain ⟨xm_1, e_xm_1⟩ : ∃ z, z = FP.dsub (FP.l2d a) m1_1 := ⟨_, rfl⟩
    have d_xm_1 : Dy 0 0 xm_1 := by rw [e_xm_1]; exact (d_x1.sub d_m1_1 (by omega) (by decide) (by decide)).cast (by omega) rfl
    obtain ⟨pr_1, e_pr_1⟩ : ∃ z, z = FP.dmul dv_1 xm_1 := ⟨_, rfl⟩
    have d_pr_1 : Dy 0 0 pr_1 := by rw [e_pr_1]; exact (d_dv_1.mul d_xm_1 (by rw [Int.mul_zero]; decide) (by decide) (by decide)).cast (Int.mul_zero _) rfl
    obtain ⟨q1_1, e_q1_1⟩ : ∃ z, z = FP.dadd (0 : UInt64) pr_1 := ⟨_, rfl⟩
    have d_q1_1 : Dy 0 0 q1_1 := by rw [e_q1_1]; exact ((own_zero 0).add d_pr_1 (by decide) (by decide) (by decide)).cast rfl rfl
    obtain ⟨cq_, kq_, qa_, qb_, qc_⟩ := isOf hZ eT E_b25
    obtain ⟨_, _, ⟨T, L_, k_, n_⟩, -, X, ⟨Lc_, hQ, l_, y_, z_⟩, st⟩ := X.virtualBack hx (y := (⟨"com/example/bogong/bogong/stats/Tally", "add", "(D)V"⟩ : MethodName)) (z := (⟨"com/example/bogong/bogong/stats/Tally", "add", "(D)V"⟩ : MethodName)) hown (mvT hZ (hw _ (List.mem_of_getElem? (i := 12) rfl))) (mvT hZ (hw _ (List.mem_of_getElem? (i := 13) rfl))) (notFace_of_selects (args := #[]) (mvT hZ (hw _ (List.mem_of_getElem? (i := 15) rfl)))) (mvT hZ (hw _ (List.mem_of_getElem? (i := 15) rfl))) (mvT hZ (hw _ (List.mem_of_getElem? (i := 14) rfl))) (by decide) (backOf (W := 0) (rm3 l Z a0 hw [] b25 (FP.l2d a) (0 : Int64) (0 : UInt64) (0 : UInt64) (0 : UInt64) s1_1 dv_1 qt_1 m1_1 xm_1 pr_1 q1_1 h25 n0 (Nat.le_trans Z0 K.1) E_b25 g_b25 F_count_b25 F_sum_b25 F_mean_b25 F_squaredDeviations_b25 e_s1_1 d_s1_1.noNaN e_dv_1 d_dv_1.noNaN e_qt_1 d_qt_1.noNaN e_m1_1 d_m1_1.noNaN e_xm_1 d_xm_1.noNaN e_pr_1 d_pr_1.noNaN e_q1_1 d_q1_1.noNaN) hZ (hw _ (List.mem_of_getElem? (i := 16) rfl)) (hw _ (List.mem_of_getElem? (i := 5) rfl)) (by decide) (by decide)) qa_ qc_ (g := (mkF m 78 #[.val (.int p0), .val (.int p1), .val (.int p2), .val (.int p3), .val (.long a), .second, .val (.long e'), .second, .val (.long k), .second, .val (.int (3 : Int32)), .val (.double (FP.l2d a)), .second, .val (.double (FP.l2d ae)), .second, .val (.double vc), .second, .val (.ref b25), .unset, .unset, .unset, .unset, .unset] [(.double (FP.l2d a)), (.ref b25)])) rfl (by rw [hml]; rfl) (Steps.refl _) (argsL := [(.double (FP.l2d a))]) (rest := []) (lenOf pd_5 rfl) rfl (by show 2 * 0 + _ ≤ _; exact Nat.le_of_eq rfl) (hb hby at_78) (fun _ _ => ⟨rfl, eT, (by decide : 1 + 0 ≤ _), (by decide : 4 + 0 ≤ _)⟩)
    dsimp only [Pt.U, Pt.locs, Pt.cells, Pt.slots] at X l_ y_ z_ st hQ
    subst l_ y_ z_
    obtain ⟨h27, eT⟩ : ∃ z, T.heap = z := ⟨_, rfl⟩
    rw [eT] at hQ
    obtain ⟨rfl, Nq, Kq, Eq_, Fq_count, Fq_sum, Fq_mean, Fq_squaredDeviations⟩ := hQ
    have N := Fr.app N Nq
    have E_b25 := Eq_
    have F_count_b25 := Fq_count
    have F_sum_b25 := Fq_sum
    have F_mean_b25 := Fq_mean
    have F_squaredDeviations_b25 := Fq_squaredDeviations
    have K := K.trans Kq (allS (Or.inr sz_b25) all0)
    refine Go.tr st ?_
    show Go p.tables e below (T.setTop (mkF m 81 #[.val (.int p0), .val (.int p1), .val (.int p2), .val (.int p3), .val (.long a), .second, .val (.long e'), .second, .val (.long k), .second, .val (.int (3 : Int32)), .val (.double (FP.l2d a)), .second, .val (.double (FP.l2d ae)), .second, .val (.double vc), .second, .val (.ref b25), .unset, .unset, .unset, .unset, .unset] [])) _
    refine Go.by (fun tt_ kk_ => XS.iload X.here hx rfl (hb hby at_81) rfl kk_) ?_
    show Go p.tables e below (T.setTop (mkF m 83 #[.val (.int p0), .val (.int p1), .val (.int p2), .val (.int p3), .val (.long a), .second, .val (.long e'), .second, .val (.long k), .second, .val (.int (3 : Int32)), .val (.double (FP.l2d a)), .second, .val (.double (FP.l2d ae)), .second, .val (.double vc), .second, .val (.ref b25), .unset, .unset, .unset, .unset, .unset] [(.int (3 : Int32))])) _
    refine Go.by (fun tt_ kk_ => XS.iconst X.here hx rfl (hb hby at_83) kk_) ?_
    show Go p.tables e below (T.setTop (mkF m 84 #[.val (.int p0), .val (.int p1), .val (.int p2), .val (.int p3), .val (.long a), .second, .val (.long e'), .second, .val (.long k), .second, .val (.int (3 : Int32)), .val (.double (FP.l2d a)), .second, .val (.double (FP.l2d ae)), .second, .val (.double vc), .second, .val (.ref b25), .unset, .unset, .unset, .unset, .unset] [(.int (2 : Int32)), (.int (3 : Int32))])) _
    refine Go.by (fun tt_ kk_ => XS.icmpNo X.here hx rfl (hb hby at_84) rfl (flt (by decide : ¬ ((3 : Int32) < (2 : Int32)))).1 kk_) ?_
    show Go p.tables e below (T.setTop (mkF m 87 #[.val (.int p0), .val (.int p1), .val (.int p2), .val (.int p3), .val (.long a), .second, .val (.long e'), .second, .val (.long k), .second, .val (.int (3 : Int32)), .val (.double (FP.l2d a)), .second, .val (.double (FP.l2d ae)), .second, .val (.double vc), .second, .val (.ref b25), .unset, .unset, .unset, .unset, .unset] [])) _
    refine Go.by (fun tt_ kk_ => XS.aload X.here hx rfl (hb hby at_87) rfl rfl kk_) ?_
    show Go p.tables e below (T.setTop (mkF m 89 #[.val (.int p0), .val (.int p1), .val (.int p2), .val (.int p3), .val (.long a), .second, .val (.long e'), .second, .val (.long k), .second, .val (.int (3 : Int32)), .val (.double (FP.l2d a)), .second, .val (.double (FP.l2d ae)), .second, .val (.double vc), .second, .val (.ref b25), .unset, .unset, .unset, .unset, .unset] [(.ref b25)])) _
    refine Go.by (fun tt_ kk_ => XS.dload X.here hx rfl (hb hby at_89) rfl kk_) ?_
    show Go p.tables e below (T.setTop (mkF m 91 #[.val (.int p0), .val (.int p1), .val (.int p2), .val (.int p3), .val (.long a), .second, .val (.long e'), .second, .val (.long k), .second, .val (.int (3 : Int32)), .val (.double (FP.l2d a)), .second, .val (.double (FP.l2d ae)), .second, .val (.double vc), .second, .val (.ref b25), .unset, .unset, .unset, .unset, .unset] [(.double (FP.l2d ae)), (.ref b25)])) _
    have d_x2 : Dy (a.toInt + e'.toInt) 0 (FP.l2d ae) := (Dy.l2d (by omega)).cast b_ae rfl
    have dc2 : Dy 1 1 (FP.l2d ((0 : Int64) + (1 : Int64) + (1 : Int64))) := (Dy.unscale 1 (i := 1) (Dy.l2d (x := (0 : Int64) + (1 : Int64) + (1 : Int64)) (by decide))).cast rfl (by decide)
    obtain ⟨s1_2, e_s1_2⟩ : ∃ z, z = FP.dadd s1_1 (FP.l2d ae) := ⟨_, rfl⟩
    have d_s1_2 : Dy (2 * a.toInt + e'.toInt) 0 s1_2 := by rw [e_s1_2]; exact (d_s1_1.add d_x2 (by omega) (by decide) (by decide)).cast (by omega) rfl
    obtain ⟨dv_2, e_dv_2⟩ : ∃ z, z = FP.dsub (FP.l2d ae) m1_1 := ⟨_, rfl⟩
    have d_dv_2 : Dy e'.toInt 0 dv_2 := by rw [e_dv_2]; exact (d_x2.sub d_m1_1 (by omega) (by decide) (by decide)).cast (by omega) rfl
    obtain ⟨qt_2, e_qt_2⟩ : ∃ z, z = FP.ddiv dv_2 (FP.l2d (((0 : Int64) + (1 : Int64)) + (1 : Int64))) := ⟨_, rfl⟩
    have d_qt_2 : Dy e'.toInt (-1) qt_2 := by rw [e_qt_2]; exact Dy.div (k := e'.toInt) (j := 1) (e := 0) (g := 1) (by rw [Int.mul_one]; exact d_dv_2) dc2 (by decide) (by omega) (by decide) (by decide)
    obtain ⟨m1_2, e_m1_2⟩ : ∃ z, z = FP.dadd m1_1 qt_2 := ⟨_, rfl⟩
    have d_m1_2 : Dy (2 * a.toInt + e'.toInt) (-1) m1_2 := by rw [e_m1_2]; exact (Dy.add (d_m1_1.scale 1) d_qt_2 (by omega) (by decide) (by decide)).cast (by omega) rfl
    obtain ⟨xm_2, e_xm_2⟩ : ∃ z, z = FP.dsub (FP.l2d ae) m1_2 := ⟨_, rfl⟩
    have d_xm_2 : Dy e'.toInt (-1) xm_2 := by rw [e_xm_2]; exact (Dy.sub (d_x2.scale 1) d_m1_2 (by omega) (by decide) (by decide)).cast (by omega) rfl
    obtain ⟨pr_2, e_pr_2⟩ : ∃ z, z = FP.dmul dv_2 xm_2 := ⟨_, rfl⟩
    have d_pr_2 : Dy (e'.toInt * e'.toInt) (-1) pr_2 := by rw [e_pr_2]; exact d_dv_2.mul d_xm_2 (by omega) (by decide) (by decide)
    obtain ⟨q1_2, e_q1_2⟩ : ∃ z, z = FP.dadd q1_1 pr_2 := ⟨_, rfl⟩
    have d_q1_2 : Dy (e'.toInt * e'.toInt) (-1) q1_2 := by rw [e_q1_2]; exact (Dy.add (d_q1_1.scale 1) d_pr_2 (by omega) (by decide) (by decide)).cast (by omega) rfl
    obtain ⟨cq_, kq_, qa_, qb_, qc_⟩ := isOf hZ eT E_b25
    obtain ⟨_, _, ⟨T, L_, k_, n_⟩, -, X, ⟨Lc_, hQ, l_, y_, z_⟩, st⟩ := X.virtualBack hx (y := (⟨"com/example/bogong/bogong/stats/Tally", "add", "(D)V"⟩ : MethodName)) (z := (⟨"com/example/bogong/bogong/stats/Tally", "add", "(D)V"⟩ : MethodName)) hown (mvT hZ (hw _ (List.mem_of_getElem? (i := 12) rfl))) (mvT hZ (hw _ (List.mem_of_getElem? (i := 13) rfl))) (notFace_of_selects (args := #[]) (mvT hZ (hw _ (List.mem_of_getElem? (i := 15) rfl)))) (mvT hZ (hw _ (List.mem_of_getElem? (i := 15) rfl))) (mvT hZ (hw _ (List.mem_of_getElem? (i := 14) rfl))) (by decide) (backOf (W := 0) (rm3 l Z a0 hw [] b25 (FP.l2d ae) ((0 : Int64) + (1 : Int64)) s1_1 m1_1 q1_1 s1_2 dv_2 qt_2 m1_2 xm_2 pr_2 q1_2 h27 n0 (Nat.le_trans Z0 K.1) E_b25 g_b25 F_count_b25 F_sum_b25 F_mean_b25 F_squaredDeviations_b25 e_s1_2 d_s1_2.noNaN e_dv_2 d_dv_2.noNaN e_qt_2 d_qt_2.noNaN e_m1_2 d_m1_2.noNaN e_xm_2 d_xm_2.noNaN e_pr_2 d_pr_2.noNaN e_q1_2 d_q1_2.noNaN) hZ (hw _ (List.mem_of_getElem? (i := 16) rfl)) (hw _ (List.mem_of_getElem? (i := 5) rfl)) (by decide) (by decide)) qa_ qc_ (g := (mkF m 91 #[.val (.int p0), .val (.int p1), .val (.int p2), .val (.int p3), .val (.long a), .second, .val (.long e'), .second, .val (.long k), .second, .val (.int (3 : Int32)), .val (.double (FP.l2d a)), .second, .val (.double (FP.l2d ae)), .second, .val (.double vc), .second, .val (.ref b25), .unset, .unset, .unset, .unset, .unset] [(.double (FP.l2d ae)), (.ref b25)])) rfl (by rw [hml]; rfl) (Steps.refl _) (argsL := [(.double (FP.l2d ae))]) (rest := []) (lenOf pd_5 rfl) rfl (by show 2 * 0 + _ ≤ _; exact Nat.le_of_eq rfl) (hb hby at_91) (fun _ _ => ⟨rfl, eT, (by decide : 1 + 0 ≤ _), (by decide : 4 + 0 ≤ _)⟩)
    dsimp only [Pt.U, Pt.locs, Pt.cells, Pt.slots] at X l_ y_ z_ st hQ
    subst l_ y_ z_
    obtain ⟨h28, eT⟩ : ∃ z, T.heap = z := ⟨_, rfl⟩
    rw [eT] at hQ
    obtain ⟨rfl, Nq, Kq, Eq_, Fq_count, Fq_sum, Fq_mean, Fq_squaredDeviations⟩ := hQ
    have N := Fr.app N Nq
    have E_b25 := Eq_
    have F_count_b25 := Fq_count
    have F_sum_b25 := Fq_sum
    have F_mean_b25 := Fq_mean
    have F_squaredDeviations_b25 := Fq_squaredDeviations
    have K := K.trans Kq (allS (Or.inr sz_b25) all0)
    refine Go.tr st ?_
    show Go p.tables e below (T.setTop (mkF m 94 #[.val (.int p0), .val (.int p1), .val (.int p2), .val (.int p3), .val (.long a), .second, .val (.long e'), .second, .val (.long k), .second, .val (.int (3 : Int32)), .val (.double (FP.l2d a)), .second, .val (.double (FP.l2d ae)), .second, .val (.double vc), .second, .val (.ref b25), .unset, .unset, .unset, .unset, .unset] [])) _
    refine Go.by (fun tt_ kk_ => XS.iload X.here hx rfl (hb hby at_94) rfl kk_) ?_
    show Go p.tables e below (T.setTop (mkF m 96 #[.val (.int p0), .val (.int p1), .val (.int p2), .val (.int p3), .val (.long a), .second, .val (.long e'), .second, .val (.long k), .second, .val (.int (3 : Int32)), .val (.double (FP.l2d a)), .second, .val (.double (FP.l2d ae)), .second, .val (.double vc), .second, .val (.ref b25), .unset, .unset, .unset, .unset, .unset] [(.int (3 : Int32))])) _
    refine Go.by (fun tt_ kk_ => XS.iconst X.here hx rfl (hb hby at_96) kk_) ?_
    show Go p.tables e below (T.setTop (mkF m 97 #[.val (.int p0), .val (.int p1), .val (.int p2), .val (.int p3), .val (.long a), .second, .val (.long e'), .second, .val (.long k), .second, .val (.int (3 : Int32)), .val (.double (FP.l2d a)), .second, .val (.double (FP.l2d ae)), .second, .val (.double vc), .second, .val (.ref b25), .unset, .unset, .unset, .unset, .unset] [(.int (3 : Int32)), (.int (3 : Int32))])) _
    refine Go.by (fun tt_ kk_ => XS.icmpNo X.here hx rfl (hb hby at_97) rfl (flt (by decide : ¬ ((3 : Int32) < (3 : Int32)))).1 kk_) ?_
    show Go p.tables e below (T.setTop (mkF m 100 #[.val (.int p0), .val (.int p1), .val (.int p2), .val (.int p3), .val (.long a), .second, .val (.long e'), .second, .val (.long k), .second, .val (.int (3 : Int32)), .val (.double (FP.l2d a)), .second, .val (.double (FP.l2d ae)), .second, .val (.double vc), .second, .val (.ref b25), .unset, .unset, .unset, .unset, .unset] [])) _
    refine Go.by (fun tt_ kk_ => XS.aload X.here hx rfl (hb hby at_100) rfl rfl kk_) ?_
    show Go p.tables e below (T.setTop (mkF m 102 #[.val (.int p0), .val (.int p1), .val (.int p2), .val (.int p3), .val (.long a), .second, .val (.long e'), .second, .val (.long k), .second, .val (.int (3 : Int32)), .val (.double (FP.l2d a)), .second, .val (.double (FP.l2d ae)), .second, .val (.double vc), .second, .val (.ref b25), .unset, .unset, .unset, .unset, .unset] [(.ref b25)])) _
    refine Go.by (fun tt_ kk_ => XS.dload X.here hx rfl (hb hby at_102) rfl kk_) ?_
    show Go p.tables e below (T.setTop (mkF m 104 #[.val (.int p0), .val (.int p1), .val (.int p2), .val (.int p3), .val (.long a), .second, .val (.long e'), .second, .val (.long k), .second, .val (.int (3 : Int32)), .val (.double (FP.l2d a)), .second, .val (.double (FP.l2d ae)), .second, .val (.double vc), .second, .val (.ref b25), .unset, .unset, .unset, .unset, .unset] [(.double vc), (.ref b25)])) _
    have dc3 : Dy 3 0 (FP.l2d ((0 : Int64) + (1 : Int64) + (1 : Int64) + (1 : Int64))) := Dy.l2d (x := (0 : Int64) + (1 : Int64) + (1 : Int64) + (1 : Int64)) (by decide)
    obtain ⟨s1_3, e_s1_3⟩ : ∃ z, z = FP.dadd s1_2 vc := ⟨_, rfl⟩
    have d_s1_3 : Dy (6 * a.toInt + 3 * e'.toInt + 6 * k.toInt) (-1) s1_3 := by rw [e_s1_3]; exact (Dy.add (d_s1_2.scale 1) d_vc (by omega) (by decide) (by decide)).cast (by omega) rfl
    obtain ⟨dv_3, e_dv_3⟩ : ∃ z, z = FP.dsub vc m1_2 := ⟨_, rfl⟩
    have d_dv_3 : Dy (6 * k.toInt) (-1) dv_3 := by rw [e_dv_3]; exact (d_vc.sub d_m1_2 (by omega) (by decide) (by decide)).cast (by omega) rfl
    obtain ⟨qt_3, e_qt_3⟩ : ∃ z, z = FP.ddiv dv_3 (FP.l2d ((((0 : Int64) + (1 : Int64)) + (1 : Int64)) + (1 : Int64))) := ⟨_, rfl⟩
    have d_qt_3 : Dy (2 * k.toInt) (-1) qt_3 := by rw [e_qt_3]; exact Dy.div (k := 2 * k.toInt) (j := 3) (e := -1) (g := 0) (d_dv_3.cast (by omega) rfl) dc3 (by decide) (by omega) (by decide) (by decide)
    obtain ⟨m1_3, e_m1_3⟩ : ∃ z, z = FP.dadd m1_2 qt_3 := ⟨_, rfl⟩
    have d_m1_3 : Dy (2 * a.toInt + e'.toInt + 2 * k.toInt) (-1) m1_3 := by rw [e_m1_3]; exact (d_m1_2.add d_qt_3 (by omega) (by decide) (by decide)).cast (by omega) rfl
    obtain ⟨xm_3, e_xm_3⟩ : ∃ z, z = FP.dsub vc m1_3 := ⟨_, rfl⟩
    have d_xm_3 : Dy (4 * k.toInt) (-1) xm_3 := by rw [e_xm_3]; exact (d_vc.sub d_m1_3 (by omega) (by decide) (by decide)).cast (by omega) rfl
    obtain ⟨pr_3, e_pr_3⟩ : ∃ z, z = FP.dmul dv_3 xm_3 := ⟨_, rfl⟩
    have d_pr_3 : Dy (24 * (k.toInt * k.toInt)) (-2) pr_3 := by rw [e_pr_3]; exact (d_dv_3.mul d_xm_3 (by rw [kk]; omega) (by decide) (by decide)).cast kk (by decide)
    obtain ⟨q1_3, e_q1_3⟩ : ∃ z, z = FP.dadd q1_2 pr_3 := ⟨_, rfl⟩
    have d_q1_3 : Dy (2 * (e'.toInt * e'.toInt) + 24 * (k.toInt * k.toInt)) (-2) q1_3 := by rw [e_q1_3]; exact (Dy.add (d_q1_2.scale 1) d_pr_3 (by omega) (by decide) (by decide)).cast (by omega) rfl
    obtain ⟨cq_, kq_, qa_, qb_, qc_⟩ := isOf hZ eT E_b25
    obtain ⟨_, _, ⟨T, L_, k_, n_⟩, -, X, ⟨Lc_, hQ, l_, y_, z_⟩, st⟩ := X.virtualBack hx (y := (⟨"com/example/bogong/bogong/stats/Tally", "add", "(D)V"⟩ : MethodName)) (z := (⟨"com/example/bogong/bogong/stats/Tally", "add", "(D)V"⟩ : MethodName)) hown (mvT hZ (hw _ (List.mem_of_getElem? (i := 12) rfl))) (mvT hZ (hw _ (List.mem_of_getElem? (i := 13) rfl))) (notFace_of_selects (args := #[]) (mvT hZ (hw _ (List.mem_of_getElem? (i := 15) rfl)))) (mvT hZ (hw _ (List.mem_of_getElem? (i := 15) rfl))) (mvT hZ (hw _ (List.mem_of_getElem? (i := 14) rfl))) (by decide) (backOf (W := 0) (rm3 l Z a0 hw [] b25 vc (((0 : Int64) + (1 : Int64)) + (1 : Int64)) s1_2 m1_2 q1_2 s1_3 dv_3 qt_3 m1_3 xm_3 pr_3 q1_3 h28 n0 (Nat.le_trans Z0 K.1) E_b25 g_b25 F_count_b25 F_sum_b25 F_mean_b25 F_squaredDeviations_b25 e_s1_3 d_s1_3.noNaN e_dv_3 d_dv_3.noNaN e_qt_3 d_qt_3.noNaN e_m1_3 d_m1_3.noNaN e_xm_3 d_xm_3.noNaN e_pr_3 d_pr_3.noNaN e_q1_3 d_q1_3.noNaN) hZ (hw _ (List.mem_of_getElem? (i := 16) rfl)) (hw _ (List.mem_of_getElem? (i := 5) rfl)) (by decide) (by decide)) qa_ qc_ (g := (mkF m 104 #[.val (.int p0), .val (.int p1), .val (.int p2), .val (.int p3), .val (.long a), .second, .val (.long e'), .second, .val (.long k), .second, .val (.int (3 : Int32)), .val (.double (FP.l2d a)), .second, .val (.double (FP.l2d ae)), .second, .val (.double vc), .second, .val (.ref b25), .unset, .unset, .unset, .unset, .unset] [(.double vc), (.ref b25)])) rfl (by rw [hml]; rfl) (Steps.refl _) (argsL := [(.double vc)]) (rest := []) (lenOf pd_5 rfl) rfl (by show 2 * 0 + _ ≤ _; exact Nat.le_of_eq rfl) (hb hby at_104) (fun _ _ => ⟨rfl, eT, (by decide : 1 + 0 ≤ _), (by decide : 4 + 0 ≤ _)⟩)
    dsimp only [Pt.U, Pt.locs, Pt.cells, Pt.slots] at X l_ y_ z_ st hQ
    subst l_ y_ z_
    obtain ⟨h29, eT⟩ : ∃ z, T.heap = z := ⟨_, rfl⟩
    rw [eT] at hQ
    obtain ⟨rfl, Nq, Kq, Eq_, Fq_count, Fq_sum, Fq_mean, Fq_squaredDeviations⟩ := hQ
    have N := Fr.app N Nq
    have E_b25 := Eq_
    have F_count_b25 := Fq_count
    have F_sum_b25 := Fq_sum
    have F_mean_b25 := Fq_mean
    have F_squaredDeviations_b25 := Fq_squaredDeviations
    have K := K.trans Kq (allS (Or.inr sz_b25) all0)
    refine Go.tr st ?_
    show Go p.tables e below (T.setTop (mkF m 107 #[.val (.int p0), .val (.int p1), .val (.int p2), .val (.int p3), .val (.long a), .second, .val (.long e'), .second, .val (.long k), .second, .val (.int (3 : Int32)), .val (.double (FP.l2d a)), .second, .val (.double (FP.l2d ae)), .second, .val (.double vc), .second, .val (.ref b25), .unset, .unset, .unset, .unset, .unset] [])) _
    refine Go.by (fun tt_ kk_ => XS.aload X.here hx rfl (hb hby at_107) rfl rfl kk_) ?_
    show Go p.tables e below (T.setTop (mkF m 109 #[.val (.int p0), .val (.int p1), .val (.int p2), .val (.int p3), .val (.long a), .second, .val (.long e'), .second, .val (.long k), .second, .val (.int (3 : Int32)), .val (.double (FP.l2d a)), .second, .val (.double (FP.l2d ae)), .second, .val (.double vc), .second, .val (.ref b25), .unset, .unset, .unset, .unset, .unset] [(.ref b25)])) _
    obtain ⟨cq_, kq_, qa_, qb_, qc_⟩ := isOf hZ eT E_b25
    obtain ⟨_, _, ⟨T, L_, k_, n_⟩, -, X, ⟨Lc_, hQ, l_, y_, z_⟩, st⟩ := X.virtualBack hx (y := (⟨"com/example/bogong/bogong/stats/Tally", "sample", "()Lcom/example/bogong/bogong/stats/Sample;"⟩ : MethodName)) (z := (⟨"com/example/bogong/bogong/stats/Tally", "sample", "()Lcom/example/bogong/bogong/stats/Sample;"⟩ : MethodName)) hown (mvT hZ (hw _ (List.mem_of_getElem? (i := 25) rfl))) (mvT hZ (hw _ (List.mem_of_getElem? (i := 26) rfl))) (notFace_of_selects (args := #[]) (mvT hZ (hw _ (List.mem_of_getElem? (i := 28) rfl)))) (mvT hZ (hw _ (List.mem_of_getElem? (i := 28) rfl))) (mvT hZ (hw _ (List.mem_of_getElem? (i := 27) rfl))) (by decide) (backOf (W := 0) (rm4 l Z a0 hw [] b25 ((((0 : Int64) + (1 : Int64)) + (1 : Int64)) + (1 : Int64)) s1_3 q1_3 h29 n0 (Nat.le_trans Z0 K.1) F_count_b25 F_sum_b25 F_squaredDeviations_b25) hZ (hw _ (List.mem_of_getElem? (i := 29) rfl)) (hw _ (List.mem_of_getElem? (i := 5) rfl)) (by decide) (by decide)) qa_ qc_ (g := (mkF m 109 #[.val (.int p0), .val (.int p1), .val (.int p2), .val (.int p3), .val (.long a), .second, .val (.long e'), .second, .val (.long k), .second, .val (.int (3 : Int32)), .val (.double (FP.l2d a)), .second, .val (.double (FP.l2d ae)), .second, .val (.double vc), .second, .val (.ref b25), .unset, .unset, .unset, .unset, .unset] [(.ref b25)])) rfl (by rw [hml]; rfl) (Steps.refl _) (argsL := []) (rest := []) (lenOf pd_2 rfl) rfl (by show 2 * 0 + _ ≤ _; exact Nat.le_of_eq rfl) (hb hby at_109) (fun _ _ => ⟨rfl, eT, (by decide : 1 + 1 ≤ _), (by decide : 4 + 3 ≤ _)⟩)
    dsimp only [Pt.U, Pt.locs, Pt.cells, Pt.slots] at X l_ y_ z_ st hQ
    subst l_ y_ z_
    obtain ⟨h31, eT⟩ : ∃ z, T.heap = z := ⟨_, rfl⟩
    rw [eT] at hQ
    obtain ⟨b30, g_b30, sq_b30, rfl, Nq, Kq, E_b30, F_count_b30, F_sum_b30, F_squaredDeviations_b30⟩ := hQ
    have N := Fr.app N Nq
    have E_b25 := Exa.keep E_b25 Kq
    have F_count_b25 := Fld.keep F_count_b25 Kq nin0
    have F_sum_b25 := Fld.keep F_sum_b25 Kq nin0
    have F_mean_b25 := Fld.keep F_mean_b25 Kq nin0
    have F_squaredDeviations_b25 := Fld.keep F_squaredDeviations_b25 Kq nin0
    have K := K.trans Kq all0
    refine Go.tr st ?_
    show Go p.tables e below (T.setTop (mkF m 112 #[.val (.int p0), .val (.int p1), .val (.int p2), .val (.int p3), .val (.long a), .second, .val (.long e'), .second, .val (.long k), .second, .val (.int (3 : Int32)), .val (.double (FP.l2d a)), .second, .val (.double (FP.l2d ae)), .second, .val (.double vc), .second, .val (.ref b25), .unset, .unset, .unset, .unset, .unset] [(.ref b30)])) _
    refine Go.by (fun tt_ kk_ => XS.astore X.here hx rfl (hb hby at_112) rfl rfl (l' := #[.val (.int p0), .val (.int p1), .val (.int p2), .val (.int p3), .val (.long a), .second, .val (.long e'), .second, .val (.long k), .second, .val (.int (3 : Int32)), .val (.double (FP.l2d a)), .second, .val (.double (FP.l2d ae)), .second, .val (.double vc), .second, .val (.ref b25), .val (.ref b30), .unset, .unset, .unset, .unset]) rfl kk_) ?_
    show Go p.tables e below (T.setTop (mkF m 114 #[.val (.int p0), .val (.int p1), .val (.int p2), .val (.int p3), .val (.long a), .second, .val (.long e'), .second, .val (.long k), .second, .val (.int (3 : Int32)), .val (.double (FP.l2d a)), .second, .val (.double (FP.l2d ae)), .second, .val (.double vc), .second, .val (.ref b25), .val (.ref b30), .unset, .unset, .unset, .unset] [])) _
    refine Go.by (fun tt_ kk_ => XS.iload X.here hx rfl (hb hby at_114) rfl kk_) ?_
    show Go p.tables e below (T.setTop (mkF m 116 #[.val (.int p0), .val (.int p1), .val (.int p2), .val (.int p3), .val (.long a), .second, .val (.long e'), .second, .val (.long k), .second, .val (.int (3 : Int32)), .val (.double (FP.l2d a)), .second, .val (.double (FP.l2d ae)), .second, .val (.double vc), .second, .val (.ref b25), .val (.ref b30), .unset, .unset, .unset, .unset] [(.int (3 : Int32))])) _
    refine Go.by (fun tt_ kk_ => XS.ifYes X.here hx rfl (pc0 := 116) (pc' := 128) rfl (hb hby at_116) rfl ((if0 _ _).trans (feq (by decide : ¬ ((3 : Int32) = (0 : Int32)))).2) (by decide) (by decide) kk_) ?_
    show Go p.tables e below (T.setTop (mkF m 128 #[.val (.int p0), .val (.int p1), .val (.int p2), .val (.int p3), .val (.long a), .second, .val (.long e'), .second, .val (.long k), .second, .val (.int (3 : Int32)), .val (.double (FP.l2d a)), .second, .val (.double (FP.l2d ae)), .second, .val (.double vc), .second, .val (.ref b25), .val (.ref b30), .unset, .unset, .unset, .unset] [])) _
    refine Go.by (fun tt_ kk_ => XS.iload X.here hx rfl (hb hby at_128) rfl kk_) ?_
    show Go p.tables e below (T.setTop (mkF m 130 #[.val (.int p0), .val (.int p1), .val (.int p2), .val (.int p3), .val (.long a), .second, .val (.long e'), .second, .val (.long k), .second, .val (.int (3 : Int32)), .val (.double (FP.l2d a)), .second, .val (.double (FP.l2d ae)), .second, .val (.double vc), .second, .val (.ref b25), .val (.ref b30), .unset, .unset, .unset, .unset] [(.int (3 : Int32))])) _
    refine Go.by (fun tt_ kk_ => XS.iconst X.here hx rfl (hb hby at_130) kk_) ?_
    show Go p.tables e below (T.setTop (mkF m 131 #[.val (.int p0), .val (.int p1), .val (.int p2), .val (.int p3), .val (.long a), .second, .val (.long e'), .second, .val (.long k), .second, .val (.int (3 : Int32)), .val (.double (FP.l2d a)), .second, .val (.double (FP.l2d ae)), .second, .val (.double vc), .second, .val (.ref b25), .val (.ref b30), .unset, .unset, .unset, .unset] [(.int (1 : Int32)), (.int (3 : Int32))])) _
    refine Go.by (fun tt_ kk_ => XS.icmpYes X.here hx rfl (pc0 := 131) (pc' := 145) rfl (hb hby at_131) rfl (feq (by decide : ¬ ((3 : Int32) = (1 : Int32)))).2 (by decide) (by decide) kk_) ?_
    show Go p.tables e below (T.setTop (mkF m 145 #[.val (.int p0), .val (.int p1), .val (.int p2), .val (.int p3), .val (.long a), .second, .val (.long e'), .second, .val (.long k), .second, .val (.int (3 : Int32)), .val (.double (FP.l2d a)), .second, .val (.double (FP.l2d ae)), .second, .val (.double vc), .second, .val (.ref b25), .val (.ref b30), .unset, .unset, .unset, .unset] [])) _
    refine Go.by (fun tt_ kk_ => XS.iload X.here hx rfl (hb hby at_145) rfl kk_) ?_
    show Go p.tables e below (T.setTop (mkF m 147 #[.val (.int p0), .val (.int p1), .val (.int p2), .val (.int p3), .val (.long a), .second, .val (.long e'), .second, .val (.long k), .second, .val (.int (3 : Int32)), .val (.double (FP.l2d a)), .second, .val (.double (FP.l2d ae)), .second, .val (.double vc), .second, .val (.ref b25), .val (.ref b30), .unset, .unset, .unset, .unset] [(.int (3 : Int32))])) _
    refine Go.by (fun tt_ kk_ => XS.iconst X.here hx rfl (hb hby at_147) kk_) ?_
    show Go p.tables e below (T.setTop (mkF m 148 #[.val (.int p0), .val (.int p1), .val (.int p2), .val (.int p3), .val (.long a), .second, .val (.long e'), .second, .val (.long k), .second, .val (.int (3 : Int32)), .val (.double (FP.l2d a)), .second, .val (.double (FP.l2d ae)), .second, .val (.double vc), .second, .val (.ref b25), .val (.ref b30), .unset, .unset, .unset, .unset] [(.int (2 : Int32)), (.int (3 : Int32))])) _
    refine Go.by (fun tt_ kk_ => XS.icmpYes X.here hx rfl (pc0 := 148) (pc' := 178) rfl (hb hby at_148) rfl (feq (by decide : ¬ ((3 : Int32) = (2 : Int32)))).2 (by decide) (by decide) kk_) ?_
    show Go p.tables e below (T.setTop (mkF m 178 #[.val (.int p0), .val (.int p1), .val (.int p2), .val (.int p3), .val (.long a), .second, .val (.long e'), .second, .val (.long k), .second, .val (.int (3 : Int32)), .val (.double (FP.l2d a)), .second, .val (.double (FP.l2d ae)), .second, .val (.double vc), .second, .val (.ref b25), .val (.ref b30), .unset, .unset, .unset, .unset] [])) _
    refine Go.by (X.ldc2Long hx hown (mvT hZ (hw _ (List.mem_of_getElem? (i := 1) rfl))) (g := (mkF m 178 #[.val (.int p0), .val (.int p1), .val (.int p2), .val (.int p3), .val (.long a), .second, .val (.long e'), .second, .val (.long k), .second, .val (.int (3 : Int32)), .val (.double (FP.l2d a)), .second, .val (.double (FP.l2d ae)), .second, .val (.double vc), .second, .val (.ref b25), .val (.ref b30), .unset, .unset, .unset, .unset] [])) rfl (hb hby at_178)) ?_
    show Go p.tables e below (T.setTop (mkF m 181 #[.val (.int p0), .val (.int p1), .val (.int p2), .val (.int p3), .val (.long a), .second, .val (.long e'), .second, .val (.long k), .second, .val (.int (3 : Int32)), .val (.double (FP.l2d a)), .second, .val (.double (FP.l2d ae)), .second, .val (.double vc), .second, .val (.ref b25), .val (.ref b30), .unset, .unset, .unset, .unset] [(.long (6 : Int64))])) _
    refine Go.by (fun tt_ kk_ => XS.lload X.here hx rfl (hb hby at_181) rfl kk_) ?_
    show Go p.tables e below (T.setTop (mkF m 183 #[.val (.int p0), .val (.int p1), .val (.int p2), .val (.int p3), .val (.long a), .second, .val (.long e'), .second, .val (.long k), .second, .val (.int (3 : Int32)), .val (.double (FP.l2d a)), .second, .val (.double (FP.l2d ae)), .second, .val (.double vc), .second, .val (.ref b25), .val (.ref b30), .unset, .unset, .unset, .unset] [(.long a), (.long (6 : Int64))])) _
    refine Go.by (fun tt_ kk_ => XS.lmul X.here hx rfl (hb hby at_183) rfl kk_) ?_
    show Go p.tables e below (T.setTop (mkF m 184 #[.val (.int p0), .val (.int p1), .val (.int p2), .val (.int p3), .val (.long a), .second, .val (.long e'), .second, .val (.long k), .second, .val (.int (3 : Int32)), .val (.double (FP.l2d a)), .second, .val (.double (FP.l2d ae)), .second, .val (.double vc), .second, .val (.ref b25), .val (.ref b30), .unset, .unset, .unset, .unset] [(.long ((6 : Int64) * a))])) _
    refine Go.by (X.ldc2Long hx hown (mvT hZ (hw _ (List.mem_of_getElem? (i := 63) rfl))) (g := (mkF m 184 #[.val (.int p0), .val (.int p1), .val (.int p2), .val (.int p3), .val (.long a), .second, .val (.long e'), .second, .val (.long k), .second, .val (.int (3 : Int32)), .val (.double (FP.l2d a)), .second, .val (.double (FP.l2d ae)), .second, .val (.double vc), .second, .val (.ref b25), .val (.ref b30), .unset, .unset, .unset, .unset] [(.long ((6 : Int64) * a))])) rfl (hb hby at_184)) ?_
    show Go p.tables e below (T.setTop (mkF m 187 #[.val (.int p0), .val (.int p1), .val (.int p2), .val (.int p3), .val (.long a), .second, .val (.long e'), .second, .val (.long k), .second, .val (.int (3 : Int32)), .val (.double (FP.l2d a)), .second, .val (.double (FP.l2d ae)), .second, .val (.double vc), .second, .val (.ref b25), .val (.ref b30), .unset, .unset, .unset, .unset] [(.long (3 : Int64)), (.long ((6 : Int64) * a))])) _
    refine Go.by (fun tt_ kk_ => XS.lload X.here hx rfl (hb hby at_187) rfl kk_) ?_
    show Go p.tables e below (T.setTop (mkF m 189 #[.val (.int p0), .val (.int p1), .val (.int p2), .val (.int p3), .val (.long a), .second, .val (.long e'), .second, .val (.long k), .second, .val (.int (3 : Int32)), .val (.double (FP.l2d a)), .second, .val (.double (FP.l2d ae)), .second, .val (.double vc), .second, .val (.ref b25), .val (.ref b30), .unset, .unset, .unset, .unset] [(.long e'), (.long (3 : Int64)), (.long ((6 : Int64) * a))])) _
    refine Go.by (fun tt_ kk_ => XS.lmul X.here hx rfl (hb hby at_189) rfl kk_) ?_
    show Go p.tables e below (T.setTop (mkF m 190 #[.val (.int p0), .val (.int p1), .val (.int p2), .val (.int p3), .val (.long a), .second, .val (.long e'), .second, .val (.long k), .second, .val (.int (3 : Int32)), .val (.double (FP.l2d a)), .second, .val (.double (FP.l2d ae)), .second, .val (.double vc), .second, .val (.ref b25), .val (.ref b30), .unset, .unset, .unset, .unset] [(.long ((3 : Int64) * e')), (.long ((6 : Int64) * a))])) _
    refine Go.by (fun tt_ kk_ => XS.ladd X.here hx rfl (hb hby at_190) rfl kk_) ?_
    show Go p.tables e below (T.setTop (mkF m 191 #[.val (.int p0), .val (.int p1), .val (.int p2), .val (.int p3), .val (.long a), .second, .val (.long e'), .second, .val (.long k), .second, .val (.int (3 : Int32)), .val (.double (FP.l2d a)), .second, .val (.double (FP.l2d ae)), .second, .val (.double vc), .second, .val (.ref b25), .val (.ref b30), .unset, .unset, .unset, .unset] [(.long (((6 : Int64) * a) + ((3 : Int64) * e')))])) _
    refine Go.by (X.ldc2Long hx hown (mvT hZ (hw _ (List.mem_of_getElem? (i := 1) rfl))) (g := (mkF m 191 #[.val (.int p0), .val (.int p1), .val (.int p2), .val (.int p3), .val (.long a), .second, .val (.long e'), .second, .val (.long k), .second, .val (.int (3 : Int32)), .val (.double (FP.l2d a)), .second, .val (.double (FP.l2d ae)), .second, .val (.double vc), .second, .val (.ref b25), .val (.ref b30), .unset, .unset, .unset, .unset] [(.long (((6 : Int64) * a) + ((3 : Int64) * e')))])) rfl (hb hby at_191)) ?_
    show Go p.tables e below (T.setTop (mkF m 194 #[.val (.int p0), .val (.int p1), .val (.int p2), .val (.int p3), .val (.long a), .second, .val (.long e'), .second, .val (.long k), .second, .val (.int (3 : Int32)), .val (.double (FP.l2d a)), .second, .val (.double (FP.l2d ae)), .second, .val (.double vc), .second, .val (.ref b25), .val (.ref b30), .unset, .unset, .unset, .unset] [(.long (6 : Int64)), (.long (((6 : Int64) * a) + ((3 : Int64) * e')))])) _
    refine Go.by (fun tt_ kk_ => XS.lload X.here hx rfl (hb hby at_194) rfl kk_) ?_
    show Go p.tables e below (T.setTop (mkF m 196 #[.val (.int p0), .val (.int p1), .val (.int p2), .val (.int p3), .val (.long a), .second, .val (.long e'), .second, .val (.long k), .second, .val (.int (3 : Int32)), .val (.double (FP.l2d a)), .second, .val (.double (FP.l2d ae)), .second, .val (.double vc), .second, .val (.ref b25), .val (.ref b30), .unset, .unset, .unset, .unset] [(.long k), (.long (6 : Int64)), (.long (((6 : Int64) * a) + ((3 : Int64) * e')))])) _
    refine Go.by (fun tt_ kk_ => XS.lmul X.here hx rfl (hb hby at_196) rfl kk_) ?_
    show Go p.tables e below (T.setTop (mkF m 197 #[.val (.int p0), .val (.int p1), .val (.int p2), .val (.int p3), .val (.long a), .second, .val (.long e'), .second, .val (.long k), .second, .val (.int (3 : Int32)), .val (.double (FP.l2d a)), .second, .val (.double (FP.l2d ae)), .second, .val (.double vc), .second, .val (.ref b25), .val (.ref b30), .unset, .unset, .unset, .unset] [(.long ((6 : Int64) * k)), (.long (((6 : Int64) * a) + ((3 : Int64) * e')))])) _
    refine Go.by (fun tt_ kk_ => XS.ladd X.here hx rfl (hb hby at_197) rfl kk_) ?_
    show Go p.tables e below (T.setTop (mkF m 198 #[.val (.int p0), .val (.int p1), .val (.int p2), .val (.int p3), .val (.long a), .second, .val (.long e'), .second, .val (.long k), .second, .val (.int (3 : Int32)), .val (.double (FP.l2d a)), .second, .val (.double (FP.l2d ae)), .second, .val (.double vc), .second, .val (.ref b25), .val (.ref b30), .unset, .unset, .unset, .unset] [(.long ((((6 : Int64) * a) + ((3 : Int64) * e')) + ((6 : Int64) * k)))])) _
    refine Go.by (fun tt_ kk_ => XS.l2dS X.here hx rfl (hb hby at_198) rfl rfl kk_) ?_
    show Go p.tables e below (T.setTop (mkF m 199 #[.val (.int p0), .val (.int p1), .val (.int p2), .val (.int p3), .val (.long a), .second, .val (.long e'), .second, .val (.long k), .second, .val (.int (3 : Int32)), .val (.double (FP.l2d a)), .second, .val (.double (FP.l2d ae)), .second, .val (.double vc), .second, .val (.ref b25), .val (.ref b30), .unset, .unset, .unset, .unset] [(.double (FP.l2d ((((6 : Int64) * a) + ((3 : Int64) * e')) + ((6 : Int64) * k))))])) _
    refine Go.by (X.ldc2DoubleC hx hown (mvT hZ (hw _ (List.mem_of_getElem? (i := 2) rfl))) (g := (mkF m 199 #[.val (.int p0), .val (.int p1), .val (.int p2), .val (.int p3), .val (.long a), .second, .val (.long e'), .second, .val (.long k), .second, .val (.int (3 : Int32)), .val (.double (FP.l2d a)), .second, .val (.double (FP.l2d ae)), .second, .val (.double vc), .second, .val (.ref b25), .val (.ref b30), .unset, .unset, .unset, .unset] [(.double (FP.l2d ((((6 : Int64) * a) + ((3 : Int64) * e')) + ((6 : Int64) * k))))])) rfl (hb hby at_199)) ?_
    show Go p.tables e below (T.setTop (mkF m 202 #[.val (.int p0), .val (.int p1), .val (.int p2), .val (.int p3), .val (.long a), .second, .val (.long e'), .second, .val (.long k), .second, .val (.int (3 : Int32)), .val (.double (FP.l2d a)), .second, .val (.double (FP.l2d ae)), .second, .val (.double vc), .second, .val (.ref b25), .val (.ref b30), .unset, .unset, .unset, .unset] [(.double (4611686018427387904 : UInt64)), (.double (FP.l2d ((((6 : Int64) * a) + ((3 : Int64) * e')) + ((6 : Int64) * k))))])) _
    have l5 : ((6 : Int64) * a).toInt = 6 * a.toInt := FP.Core.int64_mul (by rw [show (6 : Int64).toInt = 6 by decide]; omega) (by rw [show (6 : Int64).toInt = 6 by decide]; omega)
    have l6 : ((3 : Int64) * e').toInt = 3 * e'.toInt := FP.Core.int64_mul (by rw [show (3 : Int64).toInt = 3 by decide]; omega) (by rw [show (3 : Int64).toInt = 3 by decide]; omega)
    have l7 : ((6 : Int64) * a + (3 : Int64) * e').toInt = 6 * a.toInt + 3 * e'.toInt := by rw [FP.Core.int64_add (by rw [l5, l6]; omega) (by rw [l5, l6]; omega), l5, l6]
    have l8 : ((6 : Int64) * a + (3 : Int64) * e' + (6 : Int64) * k).toInt = 6 * a.toInt + 3 * e'.toInt + 6 * k.toInt := by rw [FP.Core.int64_add (by rw [l7, l3]; omega) (by rw [l7, l3]; omega), l7, l3]
    obtain ⟨es, e_es⟩ : ∃ z, z = FP.ddiv (FP.l2d ((((6 : Int64) * a) + ((3 : Int64) * e')) + ((6 : Int64) * k))) (4611686018427387904 : UInt64) := ⟨_, rfl⟩
    have d_es : Dy (6 * a.toInt + 3 * e'.toInt + 6 * k.toInt) (-1) es := by rw [e_es]; exact Dy.div (k := 6 * a.toInt + 3 * e'.toInt + 6 * k.toInt) (j := 1) (e := 0) (g := 1) (by rw [Int.mul_one]; exact (Dy.l2d (by omega)).cast l8 rfl) own_two (by decide) (by omega) (by decide) (by decide)
    refine Go.by (fun tt_ kk_ => XS.ddivS X.here hx rfl (hb hby at_202) rfl (e_es ▸ d_es.noNaN) e_es.symm kk_) ?_
    show Go p.tables e below (T.setTop (mkF m 203 #[.val (.int p0), .val (.int p1), .val (.int p2), .val (.int p3), .val (.long a), .second, .val (.long e'), .second, .val (.long k), .second, .val (.int (3 : Int32)), .val (.double (FP.l2d a)), .second, .val (.double (FP.l2d ae)), .second, .val (.double vc), .second, .val (.ref b25), .val (.ref b30), .unset, .unset, .unset, .unset] [(.double es)])) _
    refine Go.by (fun tt_ kk_ => XS.dstore X.here hx rfl (hb hby at_203) rfl (l' := #[.val (.int p0), .val (.int p1), .val (.int p2), .val (.int p3), .val (.long a), .second, .val (.long e'), .second, .val (.long k), .second, .val (.int (3 : Int32)), .val (.double (FP.l2d a)), .second, .val (.double (FP.l2d ae)), .second, .val (.double vc), .second, .val (.ref b25), .val (.ref b30), .val (.double es), .second, .unset, .unset]) rfl kk_) ?_
    show Go p.tables e below (T.setTop (mkF m 205 #[.val (.int p0), .val (.int p1), .val (.int p2), .val (.int p3), .val (.long a), .second, .val (.long e'), .second, .val (.long k), .second, .val (.int (3 : Int32)), .val (.double (FP.l2d a)), .second, .val (.double (FP.l2d ae)), .second, .val (.double vc), .second, .val (.ref b25), .val (.ref b30), .val (.double es), .second, .unset, .unset] [])) _
    refine Go.by (fun tt_ kk_ => XS.lload X.here hx rfl (hb hby at_205) rfl kk_) ?_
    show Go p.tables e below (T.setTop (mkF m 207 #[.val (.int p0), .val (.int p1), .val (.int p2), .val (.int p3), .val (.long a), .second, .val (.long e'), .second, .val (.long k), .second, .val (.int (3 : Int32)), .val (.double (FP.l2d a)), .second, .val (.double (FP.l2d ae)), .second, .val (.double vc), .second, .val (.ref b25), .val (.ref b30), .val (.double es), .second, .unset, .unset] [(.long e')])) _
    refine Go.by (fun tt_ kk_ => XS.lload X.here hx rfl (hb hby at_207) rfl kk_) ?_
    show Go p.tables e below (T.setTop (mkF m 209 #[.val (.int p0), .val (.int p1), .val (.int p2), .val (.int p3), .val (.long a), .second, .val (.long e'), .second, .val (.long k), .second, .val (.int (3 : Int32)), .val (.double (FP.l2d a)), .second, .val (.double (FP.l2d ae)), .second, .val (.double vc), .second, .val (.ref b25), .val (.ref b30), .val (.double es), .second, .unset, .unset] [(.long e'), (.long e')])) _
    refine Go.by (fun tt_ kk_ => XS.lmul X.here hx rfl (hb hby at_209) rfl kk_) ?_
    show Go p.tables e below (T.setTop (mkF m 210 #[.val (.int p0), .val (.int p1), .val (.int p2), .val (.int p3), .val (.long a), .second, .val (.long e'), .second, .val (.long k), .second, .val (.int (3 : Int32)), .val (.double (FP.l2d a)), .second, .val (.double (FP.l2d ae)), .second, .val (.double vc), .second, .val (.ref b25), .val (.ref b30), .val (.double es), .second, .unset, .unset] [(.long (e' * e'))])) _
    refine Go.by (X.ldc2Long hx hown (mvT hZ (hw _ (List.mem_of_getElem? (i := 64) rfl))) (g := (mkF m 210 #[.val (.int p0), .val (.int p1), .val (.int p2), .val (.int p3), .val (.long a), .second, .val (.long e'), .second, .val (.long k), .second, .val (.int (3 : Int32)), .val (.double (FP.l2d a)), .second, .val (.double (FP.l2d ae)), .second, .val (.double vc), .second, .val (.ref b25), .val (.ref b30), .val (.double es), .second, .unset, .unset] [(.long (e' * e'))])) rfl (hb hby at_210)) ?_
    show Go p.tables e below (T.setTop (mkF m 213 #[.val (.int p0), .val (.int p1), .val (.int p2), .val (.int p3), .val (.long a), .second, .val (.long e'), .second, .val (.long k), .second, .val (.int (3 : Int32)), .val (.double (FP.l2d a)), .second, .val (.double (FP.l2d ae)), .second, .val (.double vc), .second, .val (.ref b25), .val (.ref b30), .val (.double es), .second, .unset, .unset] [(.long (12 : Int64)), (.long (e' * e'))])) _
    refine Go.by (fun tt_ kk_ => XS.lload X.here hx rfl (hb hby at_213) rfl kk_) ?_
    show Go p.tables e below (T.setTop (mkF m 215 #[.val (.int p0), .val (.int p1), .val (.int p2), .val (.int p3), .val (.long a), .second, .val (.long e'), .second, .val (.long k), .second, .val (.int (3 : Int32)), .val (.double (FP.l2d a)), .second, .val (.double (FP.l2d ae)), .second, .val (.double vc), .second, .val (.ref b25), .val (.ref b30), .val (.double es), .second, .unset, .unset] [(.long k), (.long (12 : Int64)), (.long (e' * e'))])) _
    refine Go.by (fun tt_ kk_ => XS.lmul X.here hx rfl (hb hby at_215) rfl kk_) ?_
    show Go p.tables e below (T.setTop (mkF m 216 #[.val (.int p0), .val (.int p1), .val (.int p2), .val (.int p3), .val (.long a), .second, .val (.long e'), .second, .val (.long k), .second, .val (.int (3 : Int32)), .val (.double (FP.l2d a)), .second, .val (.double (FP.l2d ae)), .second, .val (.double vc), .second, .val (.ref b25), .val (.ref b30), .val (.double es), .second, .unset, .unset] [(.long ((12 : Int64) * k)), (.long (e' * e'))])) _
    refine Go.by (fun tt_ kk_ => XS.lload X.here hx rfl (hb hby at_216) rfl kk_) ?_
    show Go p.tables e below (T.setTop (mkF m 218 #[.val (.int p0), .val (.int p1), .val (.int p2), .val (.int p3), .val (.long a), .second, .val (.long e'), .second, .val (.long k), .second, .val (.int (3 : Int32)), .val (.double (FP.l2d a)), .second, .val (.double (FP.l2d ae)), .second, .val (.double vc), .second, .val (.ref b25), .val (.ref b30), .val (.double es), .second, .unset, .unset] [(.long k), (.long ((12 : Int64) * k)), (.long (e' * e'))])) _
    refine Go.by (fun tt_ kk_ => XS.lmul X.here hx rfl (hb hby at_218) rfl kk_) ?_
    show Go p.tables e below (T.setTop (mkF m 219 #[.val (.int p0), .val (.int p1), .val (.int p2), .val (.int p3), .val (.long a), .second, .val (.long e'), .second, .val (.long k), .second, .val (.int (3 : Int32)), .val (.double (FP.l2d a)), .second, .val (.double (FP.l2d ae)), .second, .val (.double vc), .second, .val (.ref b25), .val (.ref b30), .val (.double es), .second, .unset, .unset] [(.long (((12 : Int64) * k) * k)), (.long (e' * e'))])) _
    refine Go.by (fun tt_ kk_ => XS.ladd X.here hx rfl (hb hby at_219) rfl kk_) ?_
    show Go p.tables e below (T.setTop (mkF m 220 #[.val (.int p0), .val (.int p1), .val (.int p2), .val (.int p3), .val (.long a), .second, .val (.long e'), .second, .val (.long k), .second, .val (.int (3 : Int32)), .val (.double (FP.l2d a)), .second, .val (.double (FP.l2d ae)), .second, .val (.double vc), .second, .val (.ref b25), .val (.ref b30), .val (.double es), .second, .unset, .unset] [(.long ((e' * e') + (((12 : Int64) * k) * k)))])) _
    refine Go.by (fun tt_ kk_ => XS.l2dS X.here hx rfl (hb hby at_220) rfl rfl kk_) ?_
    show Go p.tables e below (T.setTop (mkF m 221 #[.val (.int p0), .val (.int p1), .val (.int p2), .val (.int p3), .val (.long a), .second, .val (.long e'), .second, .val (.long k), .second, .val (.int (3 : Int32)), .val (.double (FP.l2d a)), .second, .val (.double (FP.l2d ae)), .second, .val (.double vc), .second, .val (.ref b25), .val (.ref b30), .val (.double es), .second, .unset, .unset] [(.double (FP.l2d ((e' * e') + (((12 : Int64) * k) * k))))])) _
    refine Go.by (X.ldc2DoubleC hx hown (mvT hZ (hw _ (List.mem_of_getElem? (i := 2) rfl))) (g := (mkF m 221 #[.val (.int p0), .val (.int p1), .val (.int p2), .val (.int p3), .val (.long a), .second, .val (.long e'), .second, .val (.long k), .second, .val (.int (3 : Int32)), .val (.double (FP.l2d a)), .second, .val (.double (FP.l2d ae)), .second, .val (.double vc), .second, .val (.ref b25), .val (.ref b30), .val (.double es), .second, .unset, .unset] [(.double (FP.l2d ((e' * e') + (((12 : Int64) * k) * k))))])) rfl (hb hby at_221)) ?_
    show Go p.tables e below (T.setTop (mkF m 224 #[.val (.int p0), .val (.int p1), .val (.int p2), .val (.int p3), .val (.long a), .second, .val (.long e'), .second, .val (.long k), .second, .val (.int (3 : Int32)), .val (.double (FP.l2d a)), .second, .val (.double (FP.l2d ae)), .second, .val (.double vc), .second, .val (.ref b25), .val (.ref b30), .val (.double es), .second, .unset, .unset] [(.double (4611686018427387904 : UInt64)), (.double (FP.l2d ((e' * e') + (((12 : Int64) * k) * k))))])) _
    have l4 : (e' * e').toInt = e'.toInt * e'.toInt := FP.Core.int64_mul (by omega) (by omega)
    have l9 : ((12 : Int64) * k).toInt = 12 * k.toInt := FP.Core.int64_mul (by rw [show (12 : Int64).toInt = 12 by decide]; omega) (by rw [show (12 : Int64).toInt = 12 by decide]; omega)
    have la : ((12 : Int64) * k * k).toInt = 12 * (k.toInt * k.toInt) := by rw [FP.Core.int64_mul (by rw [l9, Int.mul_assoc]; omega) (by rw [l9, Int.mul_assoc]; omega), l9, Int.mul_assoc]
    have lb : (e' * e' + (12 : Int64) * k * k).toInt = e'.toInt * e'.toInt + 12 * (k.toInt * k.toInt) := by rw [FP.Core.int64_add (by rw [l4, la]; omega) (by rw [l4, la]; omega), l4, la]
    obtain ⟨eq, e_eq⟩ : ∃ z, z = FP.ddiv (FP.l2d ((e' * e') + (((12 : Int64) * k) * k))) (4611686018427387904 : UInt64) := ⟨_, rfl⟩
    have d_eq : Dy (e'.toInt * e'.toInt + 12 * (k.toInt * k.toInt)) (-1) eq := by rw [e_eq]; exact Dy.div (k := e'.toInt * e'.toInt + 12 * (k.toInt * k.toInt)) (j := 1) (e := 0) (g := 1) (by rw [Int.mul_one]; exact (Dy.l2d (by omega)).cast lb rfl) own_two (by decide) (by omega) (by decide) (by decide)
    refine Go.by (fun tt_ kk_ => XS.ddivS X.here hx rfl (hb hby at_224) rfl (e_eq ▸ d_eq.noNaN) e_eq.symm kk_) ?_
    show Go p.tables e below (T.setTop (mkF m 225 #[.val (.int p0), .val (.int p1), .val (.int p2), .val (.int p3), .val (.long a), .second, .val (.long e'), .second, .val (.long k), .second, .val (.int (3 : Int32)), .val (.double (FP.l2d a)), .second, .val (.double (FP.l2d ae)), .second, .val (.double vc), .second, .val (.ref b25), .val (.ref b30), .val (.double es), .second, .unset, .unset] [(.double eq)])) _
    refine Go.by (fun tt_ kk_ => XS.dstore X.here hx rfl (hb hby at_225) rfl (l' := #[.val (.int p0), .val (.int p1), .val (.int p2), .val (.int p3), .val (.long a), .second, .val (.long e'), .second, .val (.long k), .second, .val (.int (3 : Int32)), .val (.double (FP.l2d a)), .second, .val (.double (FP.l2d ae)), .second, .val (.double vc), .second, .val (.ref b25), .val (.ref b30), .val (.double es), .second, .val (.double eq), .second]) rfl kk_) ?_
    show Go p.tables e below (T.setTop (mkF m 227 #[.val (.int p0), .val (.int p1), .val (.int p2), .val (.int p3), .val (.long a), .second, .val (.long e'), .second, .val (.long k), .second, .val (.int (3 : Int32)), .val (.double (FP.l2d a)), .second, .val (.double (FP.l2d ae)), .second, .val (.double vc), .second, .val (.ref b25), .val (.ref b30), .val (.double es), .second, .val (.double eq), .second] [])) _
    refine Go.by (fun tt_ kk_ => XS.aload X.here hx rfl (hb hby at_227) rfl rfl kk_) ?_
    show Go p.tables e below (T.setTop (mkF m 229 #[.val (.int p0), .val (.int p1), .val (.int p2), .val (.int p3), .val (.long a), .second, .val (.long e'), .second, .val (.long k), .second, .val (.int (3 : Int32)), .val (.double (FP.l2d a)), .second, .val (.double (FP.l2d ae)), .second, .val (.double vc), .second, .val (.ref b25), .val (.ref b30), .val (.double es), .second, .val (.double eq), .second] [(.ref b30)])) _
    obtain ⟨cq_, kq_, qa_, qb_, qc_⟩ := isOf hZ eT E_b30
    obtain ⟨_, _, ⟨T, L_, k_, n_⟩, -, X, ⟨Lc_, hQ, l_, y_, z_⟩, st⟩ := X.virtualBack hx (y := (⟨"com/example/bogong/bogong/stats/Sample", "count", "()J"⟩ : MethodName)) (z := (⟨"com/example/bogong/bogong/stats/Sample", "count", "()J"⟩ : MethodName)) hown (mvT hZ (hw _ (List.mem_of_getElem? (i := 48) rfl))) (mvT hZ (hw _ (List.mem_of_getElem? (i := 49) rfl))) (notFace_of_selects (args := #[]) (mvT hZ (hw _ (List.mem_of_getElem? (i := 51) rfl)))) (mvT hZ (hw _ (List.mem_of_getElem? (i := 51) rfl))) (mvT hZ (hw _ (List.mem_of_getElem? (i := 50) rfl))) (by decide) (backOf (W := 0) (rm7 l Z a0 hw [] b30 ((((0 : Int64) + (1 : Int64)) + (1 : Int64)) + (1 : Int64)) h31 n0 (Nat.le_trans Z0 K.1) F_count_b30) hZ (hw _ (List.mem_of_getElem? (i := 52) rfl)) (hw _ (List.mem_of_getElem? (i := 32) rfl)) (by decide) (by decide)) qa_ qc_ (g := (mkF m 229 #[.val (.int p0), .val (.int p1), .val (.int p2), .val (.int p3), .val (.long a), .second, .val (.long e'), .second, .val (.long k), .second, .val (.int (3 : Int32)), .val (.double (FP.l2d a)), .second, .val (.double (FP.l2d ae)), .second, .val (.double vc), .second, .val (.ref b25), .val (.ref b30), .val (.double es), .second, .val (.double eq), .second] [(.ref b30)])) rfl (by rw [hml]; rfl) (Steps.refl _) (argsL := []) (rest := []) (lenOf pd_3 rfl) rfl (by show 2 * 0 + _ ≤ _; exact Nat.le_of_eq rfl) (hb hby at_229) (fun _ _ => ⟨rfl, eT, (by decide : 2 + 0 ≤ _), (by decide : 7 + 0 ≤ _)⟩)
    dsimp only [Pt.U, Pt.locs, Pt.cells, Pt.slots] at X l_ y_ z_ st hQ
    subst l_ y_ z_
    obtain ⟨rfl, Nq, eh⟩ := hQ
    have N := Fr.app N Nq
    have eT := eh
    refine Go.tr st ?_
    show Go p.tables e below (T.setTop (mkF m 232 #[.val (.int p0), .val (.int p1), .val (.int p2), .val (.int p3), .val (.long a), .second, .val (.long e'), .second, .val (.long k), .second, .val (.int (3 : Int32)), .val (.double (FP.l2d a)), .second, .val (.double (FP.l2d ae)), .second, .val (.double vc), .second, .val (.ref b25), .val (.ref b30), .val (.double es), .second, .val (.double eq), .second] [(.long ((((0 : Int64) + (1 : Int64)) + (1 : Int64)) + (1 : Int64)))])) _
    refine Go.by (fun tt_ kk_ => XS.iload X.here hx rfl (hb hby at_232) rfl kk_) ?_
    show Go p.tables e below (T.setTop (mkF m 234 #[.val (.int p0), .val (.int p1), .val (.int p2), .val (.int p3), .val (.long a), .second, .val (.long e'), .second, .val (.long k), .second, .val (.int (3 : Int32)), .val (.double (FP.l2d a)), .second, .val (.double (FP.l2d ae)), .second, .val (.double vc), .second, .val (.ref b25), .val (.ref b30), .val (.double es), .second, .val (.double eq), .second] [(.int (3 : Int32)), (.long ((((0 : Int64) + (1 : Int64)) + (1 : Int64)) + (1 : Int64)))])) _
    refine Go.by (fun tt_ kk_ => XS.i2l X.here hx rfl (hb hby at_234) rfl kk_) ?_
    show Go p.tables e below (T.setTop (mkF m 235 #[.val (.int p0), .val (.int p1), .val (.int p2), .val (.int p3), .val (.long a), .second, .val (.long e'), .second, .val (.long k), .second, .val (.int (3 : Int32)), .val (.double (FP.l2d a)), .second, .val (.double (FP.l2d ae)), .second, .val (.double vc), .second, .val (.ref b25), .val (.ref b30), .val (.double es), .second, .val (.double eq), .second] [(.long ((3 : Int32).toInt64)), (.long ((((0 : Int64) + (1 : Int64)) + (1 : Int64)) + (1 : Int64)))])) _
    refine Go.by (fun tt_ kk_ => XS.lcmp X.here hx rfl (hb hby at_235) rfl kk_) ?_
    show Go p.tables e below (T.setTop (mkF m 236 #[.val (.int p0), .val (.int p1), .val (.int p2), .val (.int p3), .val (.long a), .second, .val (.long e'), .second, .val (.long k), .second, .val (.int (3 : Int32)), .val (.double (FP.l2d a)), .second, .val (.double (FP.l2d ae)), .second, .val (.double vc), .second, .val (.ref b25), .val (.ref b30), .val (.double es), .second, .val (.double eq), .second] [(.int (lcmpW ((((0 : Int64) + (1 : Int64)) + (1 : Int64)) + (1 : Int64)) ((3 : Int32).toInt64)))])) _
    refine Go.by (fun tt_ kk_ => XS.ifNo X.here hx rfl (hb hby at_236) rfl ((if0 _ _).trans (teq (by decide : (lcmpW ((((0 : Int64) + (1 : Int64)) + (1 : Int64)) + (1 : Int64)) ((3 : Int32).toInt64)) = (0 : Int32))).2) kk_) ?_
    show Go p.tables e below (T.setTop (mkF m 239 #[.val (.int p0), .val (.int p1), .val (.int p2), .val (.int p3), .val (.long a), .second, .val (.long e'), .second, .val (.long k), .second, .val (.int (3 : Int32)), .val (.double (FP.l2d a)), .second, .val (.double (FP.l2d ae)), .second, .val (.double vc), .second, .val (.ref b25), .val (.ref b30), .val (.double es), .second, .val (.double eq), .second] [])) _
    refine Go.by (fun tt_ kk_ => XS.aload X.here hx rfl (hb hby at_239) rfl rfl kk_) ?_
    show Go p.tables e below (T.setTop (mkF m 241 #[.val (.int p0), .val (.int p1), .val (.int p2), .val (.int p3), .val (.long a), .second, .val (.long e'), .second, .val (.long k), .second, .val (.int (3 : Int32)), .val (.double (FP.l2d a)), .second, .val (.double (FP.l2d ae)), .second, .val (.double vc), .second, .val (.ref b25), .val (.ref b30), .val (.double es), .second, .val (.double eq), .second] [(.ref b30)])) _
    obtain ⟨cq_, kq_, qa_, qb_, qc_⟩ := isOf hZ eT E_b30
    obtain ⟨_, _, ⟨T, L_, k_, n_⟩, -, X, ⟨Lc_, hQ, l_, y_, z_⟩, st⟩ := X.virtualBack hx (y := (⟨"com/example/bogong/bogong/stats/Sample", "sum", "()D"⟩ : MethodName)) (z := (⟨"com/example/bogong/bogong/stats/Sample", "sum", "()D"⟩ : MethodName)) hown (mvT hZ (hw _ (List.mem_of_getElem? (i := 53) rfl))) (mvT hZ (hw _ (List.mem_of_getElem? (i := 54) rfl))) (notFace_of_selects (args := #[]) (mvT hZ (hw _ (List.mem_of_getElem? (i := 56) rfl)))) (mvT hZ (hw _ (List.mem_of_getElem? (i := 56) rfl))) (mvT hZ (hw _ (List.mem_of_getElem? (i := 55) rfl))) (by decide) (backOf (W := 0) (rm8 l Z a0 hw [] b30 s1_3 h31 n0 (Nat.le_trans Z0 K.1) F_sum_b30) hZ (hw _ (List.mem_of_getElem? (i := 57) rfl)) (hw _ (List.mem_of_getElem? (i := 32) rfl)) (by decide) (by decide)) qa_ qc_ (g := (mkF m 241 #[.val (.int p0), .val (.int p1), .val (.int p2), .val (.int p3), .val (.long a), .second, .val (.long e'), .second, .val (.long k), .second, .val (.int (3 : Int32)), .val (.double (FP.l2d a)), .second, .val (.double (FP.l2d ae)), .second, .val (.double vc), .second, .val (.ref b25), .val (.ref b30), .val (.double es), .second, .val (.double eq), .second] [(.ref b30)])) rfl (by rw [hml]; rfl) (Steps.refl _) (argsL := []) (rest := []) (lenOf pd_4 rfl) rfl (by show 2 * 0 + _ ≤ _; exact Nat.le_of_eq rfl) (hb hby at_241) (fun _ _ => ⟨rfl, eT, (by decide : 2 + 0 ≤ _), (by decide : 7 + 0 ≤ _)⟩)
    dsimp only [Pt.U, Pt.locs, Pt.cells, Pt.slots] at X l_ y_ z_ st hQ
    subst l_ y_ z_
    obtain ⟨rfl, Nq, eh⟩ := hQ
    have N := Fr.app N Nq
    have eT := eh
    refine Go.tr st ?_
    show Go p.tables e below (T.setTop (mkF m 244 #[.val (.int p0), .val (.int p1), .val (.int p2), .val (.int p3), .val (.long a), .second, .val (.long e'), .second, .val (.long k), .second, .val (.int (3 : Int32)), .val (.double (FP.l2d a)), .second, .val (.double (FP.l2d ae)), .second, .val (.double vc), .second, .val (.ref b25), .val (.ref b30), .val (.double es), .second, .val (.double eq), .second] [(.double s1_3)])) _
    refine Go.by (fun tt_ kk_ => XS.dload X.here hx rfl (hb hby at_244) rfl kk_) ?_
    show Go p.tables e below (T.setTop (mkF m 246 #[.val (.int p0), .val (.int p1), .val (.int p2), .val (.int p3), .val (.long a), .second, .val (.long e'), .second, .val (.long k), .second, .val (.int (3 : Int32)), .val (.double (FP.l2d a)), .second, .val (.double (FP.l2d ae)), .second, .val (.double vc), .second, .val (.ref b25), .val (.ref b30), .val (.double es), .second, .val (.double eq), .second] [(.double es), (.double s1_3)])) _
    refine Go.by (fun tt_ kk_ => XS.dcmpS X.here hx rfl (hb hby at_246) rfl ((d_s1_3.cmpV d_es .l).trans (own_ci_eq.mpr rfl)) kk_) ?_
    show Go p.tables e below (T.setTop (mkF m 247 #[.val (.int p0), .val (.int p1), .val (.int p2), .val (.int p3), .val (.long a), .second, .val (.long e'), .second, .val (.long k), .second, .val (.int (3 : Int32)), .val (.double (FP.l2d a)), .second, .val (.double (FP.l2d ae)), .second, .val (.double vc), .second, .val (.ref b25), .val (.ref b30), .val (.double es), .second, .val (.double eq), .second] [(.int (0 : Int32))])) _
    refine Go.by (fun tt_ kk_ => XS.ifNo X.here hx rfl (hb hby at_247) rfl ((if0 _ _).trans (teq (rfl : (0 : Int32) = (0 : Int32))).2) kk_) ?_
    show Go p.tables e below (T.setTop (mkF m 250 #[.val (.int p0), .val (.int p1), .val (.int p2), .val (.int p3), .val (.long a), .second, .val (.long e'), .second, .val (.long k), .second, .val (.int (3 : Int32)), .val (.double (FP.l2d a)), .second, .val (.double (FP.l2d ae)), .second, .val (.double vc), .second, .val (.ref b25), .val (.ref b30), .val (.double es), .second, .val (.double eq), .second] [])) _
    refine Go.by (fun tt_ kk_ => XS.aload X.here hx rfl (hb hby at_250) rfl rfl kk_) ?_
    show Go p.tables e below (T.setTop (mkF m 252 #[.val (.int p0), .val (.int p1), .val (.int p2), .val (.int p3), .val (.long a), .second, .val (.long e'), .second, .val (.long k), .second, .val (.int (3 : Int32)), .val (.double (FP.l2d a)), .second, .val (.double (FP.l2d ae)), .second, .val (.double vc), .second, .val (.ref b25), .val (.ref b30), .val (.double es), .second, .val (.double eq), .second] [(.ref b30)])) _
    obtain ⟨cq_, kq_, qa_, qb_, qc_⟩ := isOf hZ eT E_b30
    obtain ⟨_, _, ⟨T, L_, k_, n_⟩, -, X, ⟨Lc_, hQ, l_, y_, z_⟩, st⟩ := X.virtualBack hx (y := (⟨"com/example/bogong/bogong/stats/Sample", "squaredDeviations", "()D"⟩ : MethodName)) (z := (⟨"com/example/bogong/bogong/stats/Sample", "squaredDeviations", "()D"⟩ : MethodName)) hown (mvT hZ (hw _ (List.mem_of_getElem? (i := 58) rfl))) (mvT hZ (hw _ (List.mem_of_getElem? (i := 59) rfl))) (notFace_of_selects (args := #[]) (mvT hZ (hw _ (List.mem_of_getElem? (i := 61) rfl)))) (mvT hZ (hw _ (List.mem_of_getElem? (i := 61) rfl))) (mvT hZ (hw _ (List.mem_of_getElem? (i := 60) rfl))) (by decide) (backOf (W := 0) (rm9 l Z a0 hw [] b30 q1_3 h31 n0 (Nat.le_trans Z0 K.1) F_squaredDeviations_b30) hZ (hw _ (List.mem_of_getElem? (i := 62) rfl)) (hw _ (List.mem_of_getElem? (i := 32) rfl)) (by decide) (by decide)) qa_ qc_ (g := (mkF m 252 #[.val (.int p0), .val (.int p1), .val (.int p2), .val (.int p3), .val (.long a), .second, .val (.long e'), .second, .val (.long k), .second, .val (.int (3 : Int32)), .val (.double (FP.l2d a)), .second, .val (.double (FP.l2d ae)), .second, .val (.double vc), .second, .val (.ref b25), .val (.ref b30), .val (.double es), .second, .val (.double eq), .second] [(.ref b30)])) rfl (by rw [hml]; rfl) (Steps.refl _) (argsL := []) (rest := []) (lenOf pd_4 rfl) rfl (by show 2 * 0 + _ ≤ _; exact Nat.le_of_eq rfl) (hb hby at_252) (fun _ _ => ⟨rfl, eT, (by decide : 2 + 0 ≤ _), (by decide : 7 + 0 ≤ _)⟩)
    dsimp only [Pt.U, Pt.locs, Pt.cells, Pt.slots] at X l_ y_ z_ st hQ
    subst l_ y_ z_
    obtain ⟨rfl, Nq, eh⟩ := hQ
    have N := Fr.app N Nq
    have eT := eh
    refine Go.tr st ?_
    show Go p.tables e below (T.setTop (mkF m 255 #[.val (.int p0), .val (.int p1), .val (.int p2), .val (.int p3), .val (.long a), .second, .val (.long e'), .second, .val (.long k), .second, .val (.int (3 : Int32)), .val (.double (FP.l2d a)), .second, .val (.double (FP.l2d ae)), .second, .val (.double vc), .second, .val (.ref b25), .val (.ref b30), .val (.double es), .second, .val (.double eq), .second] [(.double q1_3)])) _
    refine Go.by (fun tt_ kk_ => XS.dload X.here hx rfl (hb hby at_255) rfl kk_) ?_
    show Go p.tables e below (T.setTop (mkF m 257 #[.val (.int p0), .val (.int p1), .val (.int p2), .val (.int p3), .val (.long a), .second, .val (.long e'), .second, .val (.long k), .second, .val (.int (3 : Int32)), .val (.double (FP.l2d a)), .second, .val (.double (FP.l2d ae)), .second, .val (.double vc), .second, .val (.ref b25), .val (.ref b30), .val (.double es), .second, .val (.double eq), .second] [(.double eq), (.double q1_3)])) _
    refine Go.by (fun tt_ kk_ => XS.dcmpS X.here hx rfl (hb hby at_257) rfl ((d_q1_3.cmpV (d_eq.scale 1) .l).trans (own_ci_eq.mpr (by omega))) kk_) ?_
    show Go p.tables e below (T.setTop (mkF m 258 #[.val (.int p0), .val (.int p1), .val (.int p2), .val (.int p3), .val (.long a), .second, .val (.long e'), .second, .val (.long k), .second, .val (.int (3 : Int32)), .val (.double (FP.l2d a)), .second, .val (.double (FP.l2d ae)), .second, .val (.double vc), .second, .val (.ref b25), .val (.ref b30), .val (.double es), .second, .val (.double eq), .second] [(.int (0 : Int32))])) _
    refine Go.by (fun tt_ kk_ => XS.ifNo X.here hx rfl (hb hby at_258) rfl ((if0 _ _).trans (teq (rfl : (0 : Int32) = (0 : Int32))).2) kk_) ?_
    show Go p.tables e below (T.setTop (mkF m 261 #[.val (.int p0), .val (.int p1), .val (.int p2), .val (.int p3), .val (.long a), .second, .val (.long e'), .second, .val (.long k), .second, .val (.int (3 : Int32)), .val (.double (FP.l2d a)), .second, .val (.double (FP.l2d ae)), .second, .val (.double vc), .second, .val (.ref b25), .val (.ref b30), .val (.double es), .second, .val (.double eq), .second] [])) _
    refine Go.by (fun tt_ kk_ => XS.iconst X.here hx rfl (hb hby at_261) kk_) ?_
    show Go p.tables e below (T.setTop (mkF m 262 #[.val (.int p0), .val (.int p1), .val (.int p2), .val (.int p3), .val (.long a), .second, .val (.long e'), .second, .val (.long k), .second, .val (.int (3 : Int32)), .val (.double (FP.l2d a)), .second, .val (.double (FP.l2d ae)), .second, .val (.double vc), .second, .val (.ref b25), .val (.ref b30), .val (.double es), .second, .val (.double eq), .second] [(.int (1 : Int32))])) _
    refine Go.by (fun tt_ kk_ => XS.goto X.here hx rfl (pc0 := 262) (pc' := 266) rfl (hb hby at_262) (by decide) (by decide) kk_) ?_
    show Go p.tables e below (T.setTop (mkF m 266 #[.val (.int p0), .val (.int p1), .val (.int p2), .val (.int p3), .val (.long a), .second, .val (.long e'), .second, .val (.long k), .second, .val (.int (3 : Int32)), .val (.double (FP.l2d a)), .second, .val (.double (FP.l2d ae)), .second, .val (.double vc), .second, .val (.ref b25), .val (.ref b30), .val (.double es), .second, .val (.double eq), .second] [(.int (1 : Int32))])) _
    exact Go.done X  (v := some (.int (1 : Int32))) (fun h => by rw [Bd.returns] at h; cases h) Bd.notSynchronized (fun fs hr => retN X hx (z := (1 : Int32)) (t := .boolean) Bd.returns (by simp) (hb hby at_266) hr) (by rw [eT]; exact ⟨rfl, N⟩) (by decide) (by decide)
set_option maxRecDepth 65536 in
set_option maxHeartbeats 40000000 in
theorem comes_1 {Post : Tables → Env → Array Value → State → Outcome → State → Prop} (hpost : ∀ tb e args s v u, (limb_1_1.after args s (.returned v) u = true ∧ limb_1_2.after args s (.returned v) u = true ∧ True) → FrameEnd s (.returned v) u (Jvm.fieldLocs frame_1_writes args s ++ Jvm.arrayLocs frame_1_arrays args s ++ Jvm.staticLocs frame_1_statics s) 16 128 → Post tb e args s (.returned v) u) :
    ArmFor flags0 classFile x code maxLocals ret World_1 tables_1 room_1 Calls_1 rest_1 Pre_1 Post := by
  intro l hfl _ _ p e ha hc hk s m args below hf hA hF happ hP
  obtain ⟨hcalls, hrest, hpre⟩ := hP
  obtain ⟨-, -, -, hnamed, -, -, -, hat⟩ := (Spec.applies_iff hf).mp happ
  obtain ⟨hg, hn⟩ := and_e (Cond.before_iff.mp (show (Jvm.Cond.and given_1 narrow_1).before args s = true from hpre))
  obtain ⟨hcount, hg⟩ := and_e hg
  obtain ⟨hv0, hg⟩ := and_e hg
  obtain ⟨hv1, hg⟩ := and_e hg
  obtain ⟨hv2, hg⟩ := and_e hg
  have hv3 := hg
  obtain ⟨w0, w1, w2, w3, rfl⟩ : ∃ w0 w1 w2 w3 : Value, args = #[w0, w1, w2, w3] := by
    have hs : args.size = 4 := by simpa [Cond.value, given_1] using hcount
    obtain ⟨L⟩ := args
    match L, hs with
    | [w0, w1, w2, w3], _ => exact ⟨w0, w1, w2, w3, rfl⟩
  have hw := fun d (hd : d ∈ tables_1) => atoms_spec (ws := Jvm.Cond.code x code maxLocals ret :: tables_1) hat d (List.mem_cons_of_mem _ hd)
  have hfit : Fit s := fun {y c} hc i hi => by
    obtain ⟨ha, rfl⟩ := Array.getElem?_eq_some_iff.mp hc
    have q := List.all_eq_true.mp ((Array.all_eq_true_iff_forall_mem.mp hF) _ (Array.getElem_mem ha)) i (List.mem_range.mpr hi)
    simpa [Array.getElem?_eq_getElem hi] using q
  obtain ⟨i0, ei0⟩ := is_v hv0
  obtain rfl : w0 = (.int i0) := Option.some.inj ei0
  obtain ⟨i1, ei1⟩ := is_v hv1
  obtain rfl : w1 = (.int i1) := Option.some.inj ei1
  obtain ⟨i2, ei2⟩ := is_v hv2
  obtain rfl : w2 = (.int i2) := Option.some.inj ei2
  obtain ⟨i3, ei3⟩ := is_v hv3
  obtain rfl : w3 = (.int i3) := Option.some.inj ei3
  obtain ⟨n, o, h1, h2, h3, _, L, rfl, ⟨rfl, N⟩, hq⟩ := rm0 l s _ hw tables_1 i0 i1 i2 i3  s.heap s.heap.size (Nat.le_refl _)  p e ha hc hk s m _ below hf ((Spec.applies_iff_loose hf).mp happ).1 ⟨rfl, State.Warmed39.refl s, rfl⟩ trivial
  refine ⟨n, _, h1, h2, h3, hpost _ _ _ _ _ _ ⟨Cond.after_iff.mpr rfl, Cond.after_iff.mpr (eq_i res_at (Term.int_eval (1)) rfl), trivial⟩ ⟨hq.1, hq.2.1, (hq.2.2.sift fun y hy => Or.inr (N y hy)).mono (by decide) (by decide)⟩⟩
theorem main_1_1 : Claimed_1_1 := comes_1 fun _ _ _ _ _ _ h hF => ⟨h.1, hF⟩
theorem main_1_2 : Claimed_1_2 := comes_1 fun _ _ _ _ _ _ h hF => ⟨h.2.1, hF⟩
end Jvm.Pilot.@@N@@
namespace Jvm.Pilot.@@N@@
open Jvm Jvm.ClassFile Sem Op Lib Jvm.Free Jvm.Stand Jvm.Pilot.@@N@@.Jvm.D
/-! MADE BY PROGRAM (witnessworld.py) out of the Statement's table words and the real class files: 11 classes; the members and pool entries that the words name. The judged class is class 1, her method 1. -/
namespace start1
open Jvm.ClassFile
def u (s : String) : CpInfo := .utf8 (stringToUtf16 s)
/-- a pool by its gaps: so many unusable entries, then the entry; so many at the end -/
def gap : Nat → List CpInfo → List CpInfo
  | 0, r => r
  | n + 1, r => .unusable :: gap n r
def poolList (es : List (Nat × CpInfo)) (last : Nat) : List CpInfo := es.foldr (fun e r => gap e.1 (e.2 :: r)) (gap last [])
def pool (es : List (Nat × CpInfo)) (last : Nat) : Array CpInfo := ⟨poolList es last⟩
def fileOf (pool : Array CpInfo) (this : Nat) (attrs : Array Attribute := #[]) (ms : Array MethodInfo := #[]) (fl : Nat := 33) (sup : Nat := 0) (ifs : Array Nat := #[]) (fds : Array FieldInfo := #[]) : ClassFile where
  minorVersion := 0
  majorVersion := 65
  constantPool := pool
  accessFlags := fl
  thisClass := this
  superClass := sup
  interfaces := ifs
  fields := fds
  methods := ms
  attributes := attrs
def plain (name : String) (sup : Option ClassId) : Class where
  name := name
  kind := .ordinary
  loader := none
  accessFlags := 33
  super := sup
  interfaces := #[]
  cf := none
  fields := #[]
  methods := #[]
  instanceTypes := #[]
  staticTypes := #[]
  resolved := #[]
  callSites := []
  init := .initialized
  statics := none
  mirror := none

def pool0 : Array CpInfo := pool [(5, u "<init>"), (0, u "()V"), (1, .class_ 10), (1, u "java/lang/Object")] 113

def k0c0 : Code := { maxStack := 0, maxLocals := 1, code := object_method_1_code, exceptionTable := #[], attributes := #[] }
def k0m0 : Method := { name := "<init>", desc := "()V", sig := { parameters := [], returnType := none }, accessFlags := 1, code := some k0c0 }
/-- java/lang/Object -/
def k0 : Class := { plain "java/lang/Object" none with
  accessFlags := 33
  interfaces := #[]
  cf := some (fileOf pool0 8 #[] #[{ accessFlags := 1, nameIndex := 5, descriptorIndex := 6, attributes := #[] }] 33 0 #[] #[])
  fields := #[]
  methods := #[k0m0]
  instanceTypes := #[]
  staticTypes := #[]
  resolved := Array.replicate 124 none
  statics := none }

def pool1 : Array CpInfo := pool [(2, .class_ 4), (0, .nameAndType 5 6), (0, u "java/lang/Object"), (0, u "<init>"), (0, u "()V"), (0, .long 2), (1, .long 6), (1, .double 4611686018427387904), (1, .class_ 14), (0, u "com/example/bogong/bogong/stats/Tally"), (0, .methodref 13 3), (0, .methodref 13 17), (0, .nameAndType 18 19), (0, u "add"), (0, u "(D)V"), (0, .methodref 13 21), (0, .nameAndType 22 23), (0, u "sample"), (0, u "()Lcom/example/bogong/bogong/stats/Sample;"), (0, .long 3), (1, .long 12), (1, .methodref 29 30), (0, .class_ 31), (0, .nameAndType 32 33), (0, u "com/example/bogong/bogong/stats/Sample"), (0, u "count"), (0, u "()J"), (0, .methodref 29 35), (0, .nameAndType 36 37), (0, u "sum"), (0, u "()D"), (0, .methodref 29 39), (0, .nameAndType 40 37), (0, u "squaredDeviations"), (0, .class_ 42), (0, u "com/example/bogong/bogong/stats/TallyAddPinLaw"), (2, u "law"), (0, u "(IIII)Z")] 3

def k1m0 : Method := { name := "<init>", desc := "()V", sig := { parameters := [], returnType := none }, accessFlags := 1, code := none }
def k1c1 : Code := { maxStack := 6, maxLocals := 23, code := code, exceptionTable := #[], attributes := #[] }
def k1m1 : Method := { name := "law", desc := "(IIII)Z", sig := { parameters := [.int, .int, .int, .int], returnType := some .boolean }, accessFlags := 9, code := some k1c1 }
/-- com/example/bogong/bogong/stats/TallyAddPinLaw -/
def k1 : Class := { plain "com/example/bogong/bogong/stats/TallyAddPinLaw" (some 0) with
  accessFlags := 49
  interfaces := #[]
  cf := some (fileOf pool1 41 #[] #[{ accessFlags := 1, nameIndex := 5, descriptorIndex := 6, attributes := #[] }, { accessFlags := 9, nameIndex := 45, descriptorIndex := 46, attributes := #[] }] 49 2 #[] #[])
  fields := #[]
  methods := #[k1m0, k1m1]
  instanceTypes := #[]
  staticTypes := #[]
  resolved := Array.replicate 50 none
  statics := none }

def pool2 : Array CpInfo := pool [(1, .methodref 2 3), (0, .class_ 4), (0, .nameAndType 5 6), (0, u "java/lang/Object"), (0, u "<init>"), (0, u "()V"), (0, .fieldref 8 9), (0, .class_ 10), (0, .nameAndType 11 12), (0, u "com/example/bogong/bogong/stats/Tally"), (0, u "count"), (0, u "J"), (0, .fieldref 8 14), (0, .nameAndType 15 16), (0, u "sum"), (0, u "D"), (0, .fieldref 8 18), (0, .nameAndType 19 16), (0, u "mean"), (0, .fieldref 8 21), (0, .nameAndType 22 16), (0, u "squaredDeviations"), (0, .class_ 24), (0, u "com/example/bogong/bogong/stats/Sample"), (0, .methodref 23 26), (0, .nameAndType 5 27), (0, u "(JDD)V"), (2, u "add"), (0, u "(D)V"), (0, u "sample"), (0, u "()Lcom/example/bogong/bogong/stats/Sample;")] 2

def k2c0 : Code := { maxStack := 1, maxLocals := 1, code := prog_52_method_1_code, exceptionTable := #[], attributes := #[] }
def k2m0 : Method := { name := "<init>", desc := "()V", sig := { parameters := [], returnType := none }, accessFlags := 1, code := some k2c0 }
def k2c1 : Code := { maxStack := 9, maxLocals := 5, code := prog_52_method_2_code, exceptionTable := #[], attributes := #[] }
def k2m1 : Method := { name := "add", desc := "(D)V", sig := { parameters := [.double], returnType := none }, accessFlags := 1, code := some k2c1 }
def k2c2 : Code := { maxStack := 8, maxLocals := 1, code := prog_52_method_3_code, exceptionTable := #[], attributes := #[] }
def k2m2 : Method := { name := "sample", desc := "()Lcom/example/bogong/bogong/stats/Sample;", sig := { parameters := [], returnType := some (.object "com/example/bogong/bogong/stats/Sample") }, accessFlags := 1, code := some k2c2 }
/-- com/example/bogong/bogong/stats/Tally -/
def k2 : Class := { plain "com/example/bogong/bogong/stats/Tally" (some 0) with
  accessFlags := 33
  interfaces := #[]
  cf := some (fileOf pool2 8 #[] #[{ accessFlags := 1, nameIndex := 5, descriptorIndex := 6, attributes := #[] }, { accessFlags := 1, nameIndex := 30, descriptorIndex := 31, attributes := #[] }, { accessFlags := 1, nameIndex := 32, descriptorIndex := 33, attributes := #[] }] 33 2 #[] #[{ accessFlags := 2, nameIndex := 11, descriptorIndex := 12, attributes := #[] }, { accessFlags := 2, nameIndex := 15, descriptorIndex := 16, attributes := #[] }, { accessFlags := 2, nameIndex := 19, descriptorIndex := 16, attributes := #[] }, { accessFlags := 2, nameIndex := 22, descriptorIndex := 16, attributes := #[] }])
  fields := #[{ name := "count", type := .long, accessFlags := 2, slot := 0, constantValue := 0 }, { name := "sum", type := .double, accessFlags := 2, slot := 1, constantValue := 0 }, { name := "mean", type := .double, accessFlags := 2, slot := 2, constantValue := 0 }, { name := "squaredDeviations", type := .double, accessFlags := 2, slot := 3, constantValue := 0 }]
  methods := #[k2m0, k2m1, k2m2]
  instanceTypes := #[.long, .double, .double, .double]
  staticTypes := #[]
  resolved := Array.replicate 36 none
  statics := none }

def pool3 : Array CpInfo := pool [(1, .methodref 2 3), (0, .class_ 4), (0, .nameAndType 5 6), (0, u "java/lang/Object"), (0, u "<init>"), (0, u "()V"), (0, .class_ 8), (0, u "java/lang/Record")] 13

def k3c0 : Code := { maxStack := 1, maxLocals := 1, code := jdk_30_method_1_code, exceptionTable := #[], attributes := #[] }
def k3m0 : Method := { name := "<init>", desc := "()V", sig := { parameters := [], returnType := none }, accessFlags := 4, code := some k3c0 }
/-- java/lang/Record -/
def k3 : Class := { plain "java/lang/Record" (some 0) with
  accessFlags := 1057
  interfaces := #[]
  cf := some (fileOf pool3 7 #[] #[{ accessFlags := 4, nameIndex := 5, descriptorIndex := 6, attributes := #[] }] 1057 2 #[] #[])
  fields := #[]
  methods := #[k3m0]
  instanceTypes := #[]
  staticTypes := #[]
  resolved := Array.replicate 22 none
  statics := none }

def pool4 : Array CpInfo := pool [(1, .methodref 2 3), (0, .class_ 4), (0, .nameAndType 5 6), (0, u "java/lang/Record"), (0, u "<init>"), (0, u "()V"), (0, .fieldref 8 9), (0, .class_ 10), (0, .nameAndType 11 12), (0, u "com/example/bogong/bogong/stats/Sample"), (0, u "count"), (0, u "J"), (0, .fieldref 8 14), (0, .nameAndType 15 16), (0, u "sum"), (0, u "D"), (0, .fieldref 8 18), (0, .nameAndType 19 16), (0, u "squaredDeviations"), (20, u "(JDD)V"), (25, u "()D"), (2, u "lastQuantile"), (0, u "Lcom/example/bogong/bogong/stats/Sample$Quantile;"), (1, .class_ 74), (1, u "com/example/bogong/bogong/stats/Sample$Quantile"), (4, u "()J")] 64

def k4c0 : Code := { maxStack := 3, maxLocals := 7, code := prog_49_method_1_code, exceptionTable := #[], attributes := #[] }
def k4m0 : Method := { name := "<init>", desc := "(JDD)V", sig := { parameters := [.long, .double, .double], returnType := none }, accessFlags := 1, code := some k4c0 }
def k4c1 : Code := { maxStack := 2, maxLocals := 1, code := prog_49_method_10_code, exceptionTable := #[], attributes := #[] }
def k4m1 : Method := { name := "count", desc := "()J", sig := { parameters := [], returnType := some .long }, accessFlags := 1, code := some k4c1 }
def k4c2 : Code := { maxStack := 2, maxLocals := 1, code := prog_49_method_11_code, exceptionTable := #[], attributes := #[] }
def k4m2 : Method := { name := "sum", desc := "()D", sig := { parameters := [], returnType := some .double }, accessFlags := 1, code := some k4c2 }
def k4c3 : Code := { maxStack := 2, maxLocals := 1, code := prog_49_method_12_code, exceptionTable := #[], attributes := #[] }
def k4m3 : Method := { name := "squaredDeviations", desc := "()D", sig := { parameters := [], returnType := some .double }, accessFlags := 1, code := some k4c3 }
/-- com/example/bogong/bogong/stats/Sample -/
def k4 : Class := { plain "com/example/bogong/bogong/stats/Sample" (some 3) with
  accessFlags := 49
  interfaces := #[]
  cf := some (fileOf pool4 8 #[.nestMembers #[72]] #[{ accessFlags := 1, nameIndex := 5, descriptorIndex := 40, attributes := #[] }, { accessFlags := 1, nameIndex := 11, descriptorIndex := 79, attributes := #[] }, { accessFlags := 1, nameIndex := 15, descriptorIndex := 66, attributes := #[] }, { accessFlags := 1, nameIndex := 19, descriptorIndex := 66, attributes := #[] }] 49 2 #[] #[{ accessFlags := 18, nameIndex := 11, descriptorIndex := 12, attributes := #[] }, { accessFlags := 18, nameIndex := 15, descriptorIndex := 16, attributes := #[] }, { accessFlags := 18, nameIndex := 19, descriptorIndex := 16, attributes := #[] }, { accessFlags := 74, nameIndex := 69, descriptorIndex := 70, attributes := #[] }])
  fields := #[{ name := "count", type := .long, accessFlags := 18, slot := 0, constantValue := 0 }, { name := "sum", type := .double, accessFlags := 18, slot := 1, constantValue := 0 }, { name := "squaredDeviations", type := .double, accessFlags := 18, slot := 2, constantValue := 0 }, { name := "lastQuantile", type := (.object "com/example/bogong/bogong/stats/Sample$Quantile"), accessFlags := 74, slot := 0, constantValue := 0 }]
  methods := #[k4m0, k4m1, k4m2, k4m3]
  instanceTypes := #[.long, .double, .double]
  staticTypes := #[(.object "com/example/bogong/bogong/stats/Sample$Quantile")]
  resolved := Array.replicate 144 none
  statics := none }

def pool5 : Array CpInfo := pool [(1, u "java/lang/Cloneable"), (0, .class_ 1), (0, u "java/lang/Object"), (0, .class_ 3)] 3

/-- java/lang/Cloneable -/
def k5 : Class := { plain "java/lang/Cloneable" (some 0) with
  accessFlags := 1537
  interfaces := #[]
  cf := some (fileOf pool5 2 #[] #[] 1537 4 #[] #[])
  fields := #[]
  methods := #[]
  instanceTypes := #[]
  staticTypes := #[]
  resolved := Array.replicate 8 none
  statics := none }

def pool6 : Array CpInfo := pool [(1, u "java/io/Serializable"), (0, .class_ 1), (0, u "java/lang/Object"), (0, .class_ 3)] 3

/-- java/io/Serializable -/
def k6 : Class := { plain "java/io/Serializable" (some 0) with
  accessFlags := 1537
  interfaces := #[]
  cf := some (fileOf pool6 2 #[] #[] 1537 4 #[] #[])
  fields := #[]
  methods := #[]
  instanceTypes := #[]
  staticTypes := #[]
  resolved := Array.replicate 8 none
  statics := none }

/-- the primitive byte -/
def k7 : Class := { plain "byte" none with kind := .primitive 'B', accessFlags := 0x411 }
/-- [B -/
def k8 : Class := { plain "[B" (some 0) with kind := .array 7 .byte, interfaces := #[5, 6], accessFlags := 1041 }

/-- the primitive int -/
def k9 : Class := { plain "int" none with kind := .primitive 'I', accessFlags := 0x411 }
/-- [I -/
def k10 : Class := { plain "[I" (some 0) with kind := .array 9 .int, interfaces := #[5, 6], accessFlags := 1041 }

def heap : Heap := #[]
def classes : Array Class := #[k0, k1, k2, k3, k4, k5, k6, k7, k8, k9, k10]
def interned : List (Array UInt16 × Addr) := []
def slotsUsed : Nat := 0
def theMethod : MethodId := ⟨1, 1⟩
def args0 : Array Value := #[.int 1, .int 2, .int 3, .int 4]
def aboutOver (below : List Frame) : State where
  vm := { classes := classes, interned := interned.toArray }
  heap := heap
  slotsUsed := slotsUsed
  threads := #[{ frames := .invoking theMethod args0 :: below }]
def below0 : List Frame := [.native { method := ⟨0, 0⟩, args := #[] }]
def about1 : State := aboutOver below0
def p0 : Program := .bare "" "" ""
def e0 : Env := launch0.env 0 0 0
theorem w_frames : about1.frames = Frame.invoking theMethod args0 :: below0 := rfl
set_option maxRecDepth 65536 in
theorem w_args : argsFit about1.vm theMethod args0 = true := by decide +kernel
set_option maxRecDepth 65536 in
theorem w_heap : heapFits about1 = true := by decide +kernel
set_option maxRecDepth 65536 in
theorem w_runnable : about1.curStatus? = some .runnable := by decide +kernel
set_option maxRecDepth 65536 in
theorem w_alone : about1.alone = true := by decide +kernel
set_option maxRecDepth 65536 in
theorem w_named : about1.methodNamed? x = some theMethod := by decide +kernel
set_option maxRecDepth 65536 in
theorem w_hears : about1.hears theMethod below0 = true := by decide +kernel
set_option maxRecDepth 65536 in
theorem w_ripe : about1.ripe theMethod args0 below0 = true := by decide +kernel
theorem w_running : about1.status = .running := rfl
set_option maxRecDepth 65536 in
theorem w_room : about1.hasRoom e0.platform room_1 = true :=
  launch0.hasRoom_least _ room_1 (by decide +kernel) (by decide +kernel) (by decide +kernel) (by decide +kernel) (by decide +kernel) (by decide +kernel)
theorem allAtoms_all (ts : List Jvm.Cond) (a : Array Jvm.Value) (st : Jvm.State) : (allAtoms ts).before a st = ts.all (fun c => c.before a st) := by
  induction ts with
  | nil => rfl
  | cons c t ih =>
    show (Jvm.Cond.and c (allAtoms t)).before a st = _
    rw [Jvm.Cond.before_and, ih, List.all_cons]
def words1 : List Jvm.Cond := Jvm.Cond.code x code maxLocals ret :: tables_1
/-- a 'code' word, met by the world's own term for the bytes: nothing is compared byte by byte -/
theorem code_word {y : MethodName} {bytes : ByteArray} {mx : Nat} {rt : Option FieldType} {a : Array Value} {s : State} {m : MethodId} {meth : Method} {c : Code} (h1 : s.methodNamed? y = some m) (h2 : s.vm.method? m = some meth) (h3 : meth.code = some c) (h4 : c.code = bytes)
    (h5 : (c.maxLocals == mx && c.exceptionTable.isEmpty && decide (c.maxStack ≤ mostOperands) && decide (meth.sig.returnType = rt) && !meth.locks && decide (parseMethodDescriptor y.desc = some meth.sig)) = true) : (Jvm.Cond.code y bytes mx rt).before a s = true := by
  simp only [Bool.and_eq_true, beq_iff_eq, Bool.not_eq_true', decide_eq_true_eq] at h5
  obtain ⟨⟨⟨⟨⟨g1, g2⟩, g3⟩, g4⟩, g5⟩, g6⟩ := h5
  simp [Cond.before, Cond.holds, Cond.value, h1, h2, h3, h4, g1, g2, g3, g4, g5, g6]
def isCode : Jvm.Cond → Bool
  | .code _ _ _ _ => true
  | _ => false
theorem all_split {L : List Jvm.Cond} {P : Jvm.Cond → Bool} (h1 : L.all (fun c => isCode c || P c) = true) (h2 : ∀ c ∈ L.filter isCode, P c = true) : L.all P = true := by
  refine List.all_eq_true.mpr fun c hc => ?_
  have h := List.all_eq_true.mp h1 c hc
  rcases Bool.eq_false_or_eq_true (isCode c) with hi | hi
  · exact h2 c (List.mem_filter.mpr ⟨hc, hi⟩)
  · simpa [hi] using h
set_option maxRecDepth 65536 in
theorem w_c0 : (Jvm.Cond.code x code maxLocals ret).before args0 about1 = true := code_word (m := ⟨1, 1⟩) (meth := k1m1) (c := k1c1) (by decide +kernel) rfl rfl rfl (by decide +kernel)
set_option maxRecDepth 65536 in
theorem w_c1 : (Jvm.Cond.code ({ cls := "com/example/bogong/bogong/stats/Tally", name := "<init>", desc := "()V" } : Jvm.MethodName) prog_52_method_1_code (1 : Nat) (Option.none : Option Jvm.ClassFile.FieldType)).before args0 about1 = true := code_word (m := ⟨2, 0⟩) (meth := k2m0) (c := k2c0) (by decide +kernel) rfl rfl rfl (by decide +kernel)
set_option maxRecDepth 65536 in
theorem w_c2 : (Jvm.Cond.code ({ cls := "java/lang/Object", name := "<init>", desc := "()V" } : Jvm.MethodName) object_method_1_code (1 : Nat) (Option.none : Option Jvm.ClassFile.FieldType)).before args0 about1 = true := code_word (m := ⟨0, 0⟩) (meth := k0m0) (c := k0c0) (by decide +kernel) rfl rfl rfl (by decide +kernel)
set_option maxRecDepth 65536 in
theorem w_c3 : (Jvm.Cond.code ({ cls := "com/example/bogong/bogong/stats/Tally", name := "add", desc := "(D)V" } : Jvm.MethodName) prog_52_method_2_code (5 : Nat) (Option.none : Option Jvm.ClassFile.FieldType)).before args0 about1 = true := code_word (m := ⟨2, 1⟩) (meth := k2m1) (c := k2c1) (by decide +kernel) rfl rfl rfl (by decide +kernel)
set_option maxRecDepth 65536 in
theorem w_c4 : (Jvm.Cond.code ({ cls := "com/example/bogong/bogong/stats/Tally", name := "sample", desc := "()Lcom/example/bogong/bogong/stats/Sample;" } : Jvm.MethodName) prog_52_method_3_code (1 : Nat) (Option.some (Jvm.ClassFile.FieldType.object "com/example/bogong/bogong/stats/Sample"))).before args0 about1 = true := code_word (m := ⟨2, 2⟩) (meth := k2m2) (c := k2c2) (by decide +kernel) rfl rfl rfl (by decide +kernel)
set_option maxRecDepth 65536 in
theorem w_c5 : (Jvm.Cond.code ({ cls := "com/example/bogong/bogong/stats/Sample", name := "<init>", desc := "(JDD)V" } : Jvm.MethodName) prog_49_method_1_code (7 : Nat) (Option.none : Option Jvm.ClassFile.FieldType)).before args0 about1 = true := code_word (m := ⟨4, 0⟩) (meth := k4m0) (c := k4c0) (by decide +kernel) rfl rfl rfl (by decide +kernel)
set_option maxRecDepth 65536 in
theorem w_c6 : (Jvm.Cond.code ({ cls := "java/lang/Record", name := "<init>", desc := "()V" } : Jvm.MethodName) jdk_30_method_1_code (1 : Nat) (Option.none : Option Jvm.ClassFile.FieldType)).before args0 about1 = true := code_word (m := ⟨3, 0⟩) (meth := k3m0) (c := k3c0) (by decide +kernel) rfl rfl rfl (by decide +kernel)
set_option maxRecDepth 65536 in
theorem w_c7 : (Jvm.Cond.code ({ cls := "com/example/bogong/bogong/stats/Sample", name := "count", desc := "()J" } : Jvm.MethodName) prog_49_method_10_code (1 : Nat) (Option.some Jvm.ClassFile.FieldType.long)).before args0 about1 = true := code_word (m := ⟨4, 1⟩) (meth := k4m1) (c := k4c1) (by decide +kernel) rfl rfl rfl (by decide +kernel)
set_option maxRecDepth 65536 in
theorem w_c8 : (Jvm.Cond.code ({ cls := "com/example/bogong/bogong/stats/Sample", name := "sum", desc := "()D" } : Jvm.MethodName) prog_49_method_11_code (1 : Nat) (Option.some Jvm.ClassFile.FieldType.double)).before args0 about1 = true := code_word (m := ⟨4, 2⟩) (meth := k4m2) (c := k4c2) (by decide +kernel) rfl rfl rfl (by decide +kernel)
set_option maxRecDepth 65536 in
theorem w_c9 : (Jvm.Cond.code ({ cls := "com/example/bogong/bogong/stats/Sample", name := "squaredDeviations", desc := "()D" } : Jvm.MethodName) prog_49_method_12_code (1 : Nat) (Option.some Jvm.ClassFile.FieldType.double)).before args0 about1 = true := code_word (m := ⟨4, 3⟩) (meth := k4m3) (c := k4c3) (by decide +kernel) rfl rfl rfl (by decide +kernel)
def codes1 : List Jvm.Cond := [Jvm.Cond.code x code maxLocals ret, Jvm.Cond.code ({ cls := "com/example/bogong/bogong/stats/Tally", name := "<init>", desc := "()V" } : Jvm.MethodName) prog_52_method_1_code (1 : Nat) (Option.none : Option Jvm.ClassFile.FieldType), Jvm.Cond.code ({ cls := "java/lang/Object", name := "<init>", desc := "()V" } : Jvm.MethodName) object_method_1_code (1 : Nat) (Option.none : Option Jvm.ClassFile.FieldType), Jvm.Cond.code ({ cls := "com/example/bogong/bogong/stats/Tally", name := "add", desc := "(D)V" } : Jvm.MethodName) prog_52_method_2_code (5 : Nat) (Option.none : Option Jvm.ClassFile.FieldType), Jvm.Cond.code ({ cls := "com/example/bogong/bogong/stats/Tally", name := "sample", desc := "()Lcom/example/bogong/bogong/stats/Sample;" } : Jvm.MethodName) prog_52_method_3_code (1 : Nat) (Option.some (Jvm.ClassFile.FieldType.object "com/example/bogong/bogong/stats/Sample")), Jvm.Cond.code ({ cls := "com/example/bogong/bogong/stats/Sample", name := "<init>", desc := "(JDD)V" } : Jvm.MethodName) prog_49_method_1_code (7 : Nat) (Option.none : Option Jvm.ClassFile.FieldType), Jvm.Cond.code ({ cls := "java/lang/Record", name := "<init>", desc := "()V" } : Jvm.MethodName) jdk_30_method_1_code (1 : Nat) (Option.none : Option Jvm.ClassFile.FieldType), Jvm.Cond.code ({ cls := "com/example/bogong/bogong/stats/Sample", name := "count", desc := "()J" } : Jvm.MethodName) prog_49_method_10_code (1 : Nat) (Option.some Jvm.ClassFile.FieldType.long), Jvm.Cond.code ({ cls := "com/example/bogong/bogong/stats/Sample", name := "sum", desc := "()D" } : Jvm.MethodName) prog_49_method_11_code (1 : Nat) (Option.some Jvm.ClassFile.FieldType.double), Jvm.Cond.code ({ cls := "com/example/bogong/bogong/stats/Sample", name := "squaredDeviations", desc := "()D" } : Jvm.MethodName) prog_49_method_12_code (1 : Nat) (Option.some Jvm.ClassFile.FieldType.double)]
set_option maxRecDepth 65536 in
theorem codes_eq : words1.filter isCode = codes1 := rfl
theorem w_codes : ∀ c ∈ words1.filter isCode, c.before args0 about1 = true := by
  rw [codes_eq]
  intro c hc
  simp only [codes1, List.mem_cons, List.not_mem_nil, or_false] at hc
  rcases hc with rfl | rfl | rfl | rfl | rfl | rfl | rfl | rfl | rfl | rfl
  · exact w_c0
  · exact w_c1
  · exact w_c2
  · exact w_c3
  · exact w_c4
  · exact w_c5
  · exact w_c6
  · exact w_c7
  · exact w_c8
  · exact w_c9
set_option maxRecDepth 65536 in
theorem w_t1 : (words1.take 24).all (fun c => isCode c || c.before args0 about1) = true := by decide +kernel
set_option maxRecDepth 65536 in
theorem w_t2 : ((words1.drop 24).take 24).all (fun c => isCode c || c.before args0 about1) = true := by decide +kernel
set_option maxRecDepth 65536 in
theorem w_t3 : ((words1.drop 24).drop 24).all (fun c => isCode c || c.before args0 about1) = true := by decide +kernel
theorem w_tables : (allAtoms (Jvm.Cond.code x code maxLocals ret :: tables_1)).before args0 about1 = true := by
  rw [allAtoms_all]
  show words1.all (fun c => c.before args0 about1) = true
  refine all_split ?_ w_codes
  rw [← List.take_append_drop 24 words1, List.all_append, w_t1, ← List.take_append_drop 24 (words1.drop 24), List.all_append, w_t2, w_t3]
  rfl
set_option maxRecDepth 65536 in
theorem w_case : (Jvm.Cond.and given_1 narrow_1).before args0 about1 = true := by decide +kernel
theorem w_applies : (headSpec (Jvm.Cond.code x code maxLocals ret :: tables_1) room_1).applies x e0.platform about1 = true :=
  (Spec.applies_iff w_frames).mpr ⟨w_running, w_runnable, w_alone, w_named, w_hears, w_ripe, w_room, w_tables⟩
theorem atStart : AtStart classFile x code maxLocals ret World_1 tables_1 room_1 Calls_1 rest_1 Pre_1 launch0 p0 e0 about1 theMethod args0 below0 :=
  ⟨lists_1, trivial, launch0.admits_env _ _ _, launch0.least_env, fairChoices_fair.cas, fairChoices_fair.clock, w_frames, w_args, w_heap, w_applies, trivial, trivial, w_case⟩
end start1
theorem witness_1 : WitnessClaimed_1 := ⟨start1.p0, start1.e0, start1.about1, start1.theMethod, start1.args0, start1.below0, start1.atStart⟩
end Jvm.Pilot.@@N@@
