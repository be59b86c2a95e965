import JvmDerived
import JvmDerived.Pilot.@@N@@Statement
import JvmDerived.Pilot.@@N@@Code
set_option linter.unusedVariables false
set_option linter.unusedSimpArgs false
namespace Jvm.OwnGo
open Jvm Sem ClassFile Op Lib Jvm.Stand Jvm.Free Jvm.LawKit Jvm.RoadKit
/-- from A the run comes to a state of which K is said -/
def Go (tb : Tables) (e : Env) (below : List Frame) (A : State) (K : State → Prop) : Prop := ∃ u, Steps tb e below A u ∧ K u
theorem Go.by {tb : Tables} {e : Env} {below : List Frame} {A B : State} {K : State → Prop} (h : ∀ t, Steps tb e below B t → Steps tb e below A t) (g : Go tb e below B K) : Go tb e below A K := by
  obtain ⟨u, s, k⟩ := g
  exact ⟨u, h u s, k⟩
theorem Go.tr {tb : Tables} {e : Env} {below : List Frame} {A B : State} {K : State → Prop} (h : Steps tb e below A B) (g : Go tb e below B K) : Go tb e below A K := by
  obtain ⟨u, s, k⟩ := g
  exact ⟨u, h.trans s, k⟩
theorem Go.out {tb : Tables} {e : Env} {below : List Frame} {A : State} {P : State → Outcome → Prop} (g : Go tb e below A (fun u => ∃ o, P u o)) : ∃ u o, Steps tb e below A u ∧ P u o := by
  obtain ⟨u, s, o, k⟩ := g
  exact ⟨u, o, s, k⟩
theorem Go.done {p : Program} {l : Launch} {e : Env} {R : Room} {s : State} {m : MethodId} {args : Array Value} {below : List Frame} {meth : Method} {c : Code} {T : State} {locs : List Loc} {cells slots C D : Nat}
    (X : Stand p l e R s m args below meth c T locs cells slots) {v : Option Value} (hv : meth.sig.returnType = none → v = none) (hlocks : meth.locks = false) {A : State}
    (hst : ∀ fs, (∀ (f : JFrame) (acts : List Action), f.method = m → f.locked = none → f.entered = [] → (doReturn e (T.setTop f) acts v).1 = T.setFrames fs) → Steps p.tables e below A (T.setFrames fs))
    {Q : Option Value → Heap → List Loc → Prop} (hq : Q v T.heap locs) (hc : cells ≤ C) (hs : slots ≤ D) :
    Go p.tables e below A (fun u => ∃ o, u.status = .running ∧ Ended u below o ∧ ∃ v L, o = .returned v ∧ Q v u.heap L ∧ FrameEnd s o u L C D) := by
  obtain ⟨fs, hr, hrun, hended, hW, hsame⟩ := X.leave hv hlocks
  exact ⟨_, hst fs hr, _, hrun, hended, _, _, rfl, hq, ⟨_, rfl⟩, hW, hsame.mono hc hs⟩
theorem Go.doneW {p : Program} {l : Launch} {e : Env} {R : Room} {s : State} {m : MethodId} {args : Array Value} {below : List Frame} {meth : Method} {c : Code} {T : State} {locs : List Loc} {cells slots C D : Nat} {vm1 : Vm}
    (X : Stand p l e R (s.setVm vm1) m args below meth c T locs cells slots) {n : Nat} (hS : s.Since vm1 n) (hn : n ≤ T.heap.size) {v : Option Value} (hv : meth.sig.returnType = none → v = none) (hlocks : meth.locks = false) {A : State}
    (hst : ∀ fs, (∀ (f : JFrame) (acts : List Action), f.method = m → f.locked = none → f.entered = [] → (doReturn e (T.setTop f) acts v).1 = T.setFrames fs) → Steps p.tables e below A (T.setFrames fs))
    {Q : Option Value → Heap → List Loc → Prop} (hq : Q v T.heap locs) (hc : cells ≤ C) (hs : slots ≤ D) :
    Go p.tables e below A (fun u => ∃ o, u.status = .running ∧ Ended u below o ∧ ∃ v L, o = .returned v ∧ Q v u.heap L ∧ ReturnedEndW s o u L C D) := by
  obtain ⟨fs, hr, hrun, hended, h1, h2, h3, h4⟩ := X.leaveW hS hn hv hlocks
  exact ⟨_, hst fs hr, _, hrun, hended, _, _, rfl, hq, h1, h2, h3, h4.mono hc hs⟩
end Jvm.OwnGo
namespace Jvm.OwnFp
open Jvm.FP Jvm.FP.Core Jvm.Free.Fl
/-- the double a is i * 2^e -/
def Dy (i e : Int) (a : UInt64) : Prop := ∃ s c q, val64 a = .fin s c q ∧ Whole i (.fin s c (q - e))
theorem own_const {i e : Int} {a : UInt64} (s : Bool) (c : Nat) (q : Int) (h1 : val64 a = .fin s c q) (h2 : signed s (c * 2 ^ (q - e).toNat) = i * ((2 ^ (-(q - e)).toNat : Nat) : Int)) : Dy i e a := ⟨s, c, q, h1, h2⟩
theorem Dy.noNaN {i e : Int} {a : UInt64} (h : Dy i e a) : NoNaN64 a := by
  obtain ⟨s, c, q, h1, -⟩ := h
  exact val64_no.mpr (by rw [h1]; exact fun q => nomatch q)
theorem Dy.fin {i e : Int} {a : UInt64} (h : Dy i e a) : Fin64 a := by
  obtain ⟨s, c, q, h1, -⟩ := h
  exact fin64_core.mpr ⟨s, c, q, h1⟩
theorem own_fit (s : Bool) {n : Nat} (hn : n ≤ 9007199254740992) {e : Int} (h1 : -1074 ≤ e) (h2 : e ≤ 900) :
    ∃ c q, Core.fits b64 (.fin s c q) ∧ n * 2 ^ (e - q).toNat = c * 1 * 2 ^ (q - e).toNat := by
  have e1 : b64.qmin = -1074 := qmin_b64
  have e2 : b64.qmax = 971 := by decide
  have e3 : b64.tails = 2 ^ 52 := tails_b64
  have e4 : b64.p = 53 := rfl
  have k53 : (9007199254740992 : Nat) = 2 ^ 53 := by decide
  by_cases h0 : n = 0
  · subst h0
    exact ⟨0, b64.qmin, zero_fits good_b64 s, by simp⟩
  by_cases hp : n = 9007199254740992
  · refine ⟨2 ^ 52, e + 1, ⟨by rw [e4]; decide, by rw [e1]; omega, by rw [e2]; omega, Or.inr (by rw [e3]; exact Nat.le_refl _)⟩, ?_⟩
    rw [show (e - (e + 1)).toNat = 0 by omega, show (e + 1 - e).toNat = 1 by omega, hp]
  · have l1 : 2 ^ n.log2 ≤ n := Nat.log2_self_le h0
    have l2 : n < 2 ^ (n.log2 + 1) := Nat.lt_log2_self
    have l3 : n.log2 < 53 := (Nat.pow_lt_pow_iff_right (by decide : 1 < 2)).mp (Nat.lt_of_le_of_lt l1 (by omega))
    generalize n.log2 = L at l1 l2 l3
    by_cases hq : -1074 ≤ e - (52 - (L : Int))
    · refine ⟨n * 2 ^ (52 - L), e - (52 - (L : Int)), ⟨?_, by rw [e1]; omega, by rw [e2]; omega, Or.inr ?_⟩, ?_⟩
      · rw [e4]
        calc n * 2 ^ (52 - L) < 2 ^ (L + 1) * 2 ^ (52 - L) := Nat.mul_lt_mul_of_pos_right l2 (Nat.two_pow_pos _)
          _ = 2 ^ 53 := by rw [← Nat.pow_add]; congr 1; omega
      · rw [e3]
        calc 2 ^ 52 = 2 ^ L * 2 ^ (52 - L) := by rw [← Nat.pow_add]; congr 1; omega
          _ ≤ n * 2 ^ (52 - L) := Nat.mul_le_mul_right _ l1
      · rw [show (e - (e - (52 - (L : Int)))).toNat = 52 - L by omega, show (e - (52 - (L : Int)) - e).toNat = 0 by omega]
        simp
    · refine ⟨n * 2 ^ (e + 1074).toNat, -1074, ⟨?_, by rw [e1]; omega, by rw [e2]; omega, Or.inl e1.symm⟩, ?_⟩
      · rw [e4]
        calc n * 2 ^ (e + 1074).toNat < 2 ^ (L + 1) * 2 ^ (e + 1074).toNat := Nat.mul_lt_mul_of_pos_right l2 (Nat.two_pow_pos _)
          _ = 2 ^ (L + 1 + (e + 1074).toNat) := by rw [← Nat.pow_add]
          _ ≤ 2 ^ 53 := Nat.pow_le_pow_right (by decide) (by omega)
      · rw [show (e - -1074).toNat = (e + 1074).toNat by omega, show (-1074 - e).toNat = 0 by omega]
        simp
theorem own_sg {i : Int} {s : Bool} {c : Nat} {q : Int} (h : Whole i (.fin s c q)) : signed s i.natAbs = i := by
  by_cases hi : i = 0
  · rw [hi]; exact signed_zero s
  · rw [whole_sign h hi]
    unfold signed
    by_cases z : i < 0
    · simp only [z, decide_true, if_true]; omega
    · simp only [z, decide_false]; simp; omega
theorem own_whole {i e : Int} {s : Bool} {c : Nat} {q : Int} (hs : signed s i.natAbs = i) (h : i.natAbs * 2 ^ (e - q).toNat = c * 1 * 2 ^ (q - e).toNat) : Whole i (.fin s c (q - e)) := by
  show signed s (c * 2 ^ (q - e).toNat) = i * ((2 ^ (-(q - e)).toNat : Nat) : Int)
  rw [Nat.mul_one] at h
  rw [← h, signed_mul, hs, show -(q - e) = e - q by omega]
/-- a ratio that is i * 2^e -/
theorem own_ratio {i e : Int} {s : Bool} (hs : signed s i.natAbs = i) (hi : i.natAbs ≤ 9007199254740992) (h1 : -1074 ≤ e) (h2 : e ≤ 900) :
    ∃ c q, roundRatio b64 s i.natAbs 1 e = .fin s c q ∧ Whole i (.fin s c (q - e)) := by
  obtain ⟨c, q, hf, h⟩ := own_fit s hi h1 h2
  exact ⟨c, q, roundRatio_exact good_b64 Nat.one_pos hf h, own_whole hs h⟩
theorem own_round {i e : Int} {s : Bool} {c : Nat} {q : Int} (h : Whole i (.fin s c (q - e))) (hi : i.natAbs ≤ 9007199254740992) (h1 : -1074 ≤ e) (h2 : e ≤ 900) :
    ∃ s' c' q', Core.round b64 (.fin s c q) = .fin s' c' q' ∧ Whole i (.fin s' c' (q' - e)) := by
  obtain ⟨c', q', r1, r2⟩ := own_ratio (own_sg h) hi h1 h2
  refine ⟨s, c', q', ?_, r2⟩
  have w := whole_natAbs h
  show roundRatio b64 s c 1 q = _
  rw [← r1]
  refine roundRatio_congr Nat.one_pos Nat.one_pos ?_
  rw [Nat.mul_one, Nat.mul_one, w, show -(q - e) = e - q by omega]
theorem Dy.add {i j e : Int} {a b : UInt64} (ha : Dy i e a) (hb : Dy j e b) (hi : (i + j).natAbs ≤ 9007199254740992) (h1 : -1074 ≤ e) (h2 : e ≤ 900) : Dy (i + j) e (FP.dadd a b) := by
  obtain ⟨s, c, q, a1, a2⟩ := ha
  obtain ⟨t, d, r, b1, b2⟩ := hb
  have w := whole_sum a2 b2
  have hm : min (q - e) (r - e) = min q r - e := by omega
  have hV : sumUnits s c (q - e) t d (r - e) (min q r - e) = sumUnits s c q t d r (min q r) := by
    unfold sumUnits inUnits
    rw [show q - e - (min q r - e) = q - min q r by omega, show r - e - (min q r - e) = r - min q r by omega]
  simp only [exactSum] at w
  rw [hm, hV] at w
  obtain ⟨s', c', q', r1, r2⟩ := own_round w hi h1 h2
  exact ⟨s', c', q', by rw [val64_dadd, a1, b1]; exact r1, r2⟩
theorem Dy.sub {i j e : Int} {a b : UInt64} (ha : Dy i e a) (hb : Dy j e b) (hi : (i - j).natAbs ≤ 9007199254740992) (h1 : -1074 ≤ e) (h2 : e ≤ 900) : Dy (i - j) e (FP.dsub a b) := by
  obtain ⟨s, c, q, a1, a2⟩ := ha
  obtain ⟨t, d, r, b1, b2⟩ := hb
  have w := whole_sum a2 (whole_negate b2)
  have hm : min (q - e) (r - e) = min q r - e := by omega
  have hV : sumUnits s c (q - e) (!t) d (r - e) (min q r - e) = sumUnits s c q (!t) d r (min q r) := by
    unfold sumUnits inUnits
    rw [show q - e - (min q r - e) = q - min q r by omega, show r - e - (min q r - e) = r - min q r by omega]
  simp only [negate, exactSum] at w
  rw [hm, hV] at w
  obtain ⟨s', c', q', r1, r2⟩ := own_round w hi h1 h2
  exact ⟨s', c', q', by rw [val64_dsub, a1, b1]; exact r1, r2⟩
theorem Dy.mul {i j e g : Int} {a b : UInt64} (ha : Dy i e a) (hb : Dy j g b) (hi : (i * j).natAbs ≤ 9007199254740992) (h1 : -1074 ≤ e + g) (h2 : e + g ≤ 900) : Dy (i * j) (e + g) (FP.dmul a b) := by
  obtain ⟨s, c, q, a1, a2⟩ := ha
  obtain ⟨t, d, r, b1, b2⟩ := hb
  have w := whole_product a2 b2
  simp only [exactProduct] at w
  rw [show q - e + (r - g) = q + r - (e + g) by omega] at w
  obtain ⟨s', c', q', r1, r2⟩ := own_round w hi h1 h2
  exact ⟨s', c', q', by rw [val64_dmul, a1, b1]; exact r1, r2⟩
/-- an exact quotient -/
theorem Dy.div {k j e g : Int} {a b : UInt64} (ha : Dy (k * j) e a) (hb : Dy j g b) (hj : j ≠ 0) (hi : k.natAbs ≤ 9007199254740992) (h1 : -1074 ≤ e - g) (h2 : e - g ≤ 900) : Dy k (e - g) (FP.ddiv a b) := by
  obtain ⟨s, c, q, a1, a2⟩ := ha
  obtain ⟨t, d, r, b1, b2⟩ := hb
  have wa := whole_natAbs a2
  have wb := whole_natAbs b2
  have hd : d ≠ 0 := fun z => hj ((whole_zero b2).mp z)
  have hs : signed (s != t) k.natAbs = k := by
    by_cases hk : k = 0
    · rw [hk]; exact signed_zero _
    · have s1 := whole_sign a2 (Int.mul_ne_zero hk hj)
      have s2 := whole_sign b2 hj
      rw [s1, s2]
      unfold signed
      rcases Int.lt_or_gt_of_ne hk with z | z <;> rcases Int.lt_or_gt_of_ne hj with y | y
      · have := Int.mul_pos_of_neg_of_neg z y
        simp [show ¬ k * j < 0 by omega, y]; omega
      · have := Int.mul_neg_of_neg_of_pos z y
        simp [this, show ¬ j < 0 by omega]; omega
      · have := Int.mul_neg_of_pos_of_neg z y
        simp [this, y]; omega
      · have := Int.mul_pos z y
        simp [show ¬ k * j < 0 by omega, show ¬ j < 0 by omega]; omega
  obtain ⟨c', q', r1, r2⟩ := own_ratio hs hi h1 h2
  refine ⟨_, c', q', ?_, r2⟩
  rw [val64_ddiv, a1, b1]
  show (if d = 0 then _ else roundRatio b64 (s != t) c d (q - r)) = _
  rw [if_neg hd, ← r1]
  refine roundRatio_congr (Nat.pos_of_ne_zero hd) Nat.one_pos ?_
  rw [Nat.mul_one]
  rw [Int.natAbs_mul] at wa
  -- c * 2^(q-e)+ = |k| |j| 2^(q-e)- , d * 2^(r-g)+ = |j| 2^(r-g)-
  have hj' : 0 < j.natAbs := by omega
  apply Nat.eq_of_mul_eq_mul_right (Nat.mul_pos hj' (Nat.mul_pos (Nat.two_pow_pos (q - e).toNat) (Nat.two_pow_pos (-(r - g)).toNat)))
  calc c * 2 ^ (q - r - (e - g)).toNat * (j.natAbs * (2 ^ (q - e).toNat * 2 ^ (-(r - g)).toNat))
      = (c * 2 ^ (q - e).toNat) * (j.natAbs * 2 ^ (-(r - g)).toNat) * 2 ^ (q - r - (e - g)).toNat := by ac_rfl
    _ = (k.natAbs * j.natAbs * 2 ^ (-(q - e)).toNat) * (d * 2 ^ (r - g).toNat) * 2 ^ (q - r - (e - g)).toNat := by rw [wa, wb]
    _ = k.natAbs * d * j.natAbs * 2 ^ ((-(q - e)).toNat + (r - g).toNat + (q - r - (e - g)).toNat) := by rw [Nat.pow_add, Nat.pow_add]; ac_rfl
    _ = k.natAbs * d * j.natAbs * 2 ^ ((e - g - (q - r)).toNat + (q - e).toNat + (-(r - g)).toNat) := by congr 2; omega
    _ = k.natAbs * d * 2 ^ (e - g - (q - r)).toNat * (j.natAbs * (2 ^ (q - e).toNat * 2 ^ (-(r - g)).toNat)) := by rw [Nat.pow_add, Nat.pow_add]; ac_rfl
theorem Dy.scale {i e : Int} {a : UInt64} (h : Dy i e a) (k : Nat) : Dy (i * 2 ^ k) (e - k) a := by
  obtain ⟨s, c, q, a1, a2⟩ := h
  refine ⟨s, c, q, a1, ?_⟩
  have w : signed s (c * 2 ^ (q - e).toNat) = i * ((2 ^ (-(q - e)).toNat : Nat) : Int) := a2
  show signed s (c * 2 ^ (q - (e - k)).toNat) = i * 2 ^ k * ((2 ^ (-(q - (e - k))).toNat : Nat) : Int)
  have p2 : ((2 ^ ((-(q - e)).toNat) : Nat) : Int) ≠ 0 := by
    have := Nat.two_pow_pos ((-(q - e)).toNat); omega
  refine Int.eq_of_mul_eq_mul_right p2 ?_
  have hx : (q - (e - k)).toNat + (-(q - e)).toNat = (q - e).toNat + (k + (-(q - (e - k))).toNat) := by omega
  calc signed s (c * 2 ^ (q - (e - k)).toNat) * ((2 ^ ((-(q - e)).toNat) : Nat) : Int)
      = signed s (c * 2 ^ ((q - (e - k)).toNat + (-(q - e)).toNat)) := by rw [← signed_mul, Nat.pow_add, Nat.mul_assoc]
    _ = signed s (c * 2 ^ (q - e).toNat * 2 ^ (k + (-(q - (e - k))).toNat)) := by rw [hx, Nat.pow_add, Nat.mul_assoc]
    _ = i * ((2 ^ (-(q - e)).toNat : Nat) : Int) * ((2 ^ (k + (-(q - (e - k))).toNat) : Nat) : Int) := by rw [signed_mul, w]
    _ = i * 2 ^ k * ((2 ^ (-(q - (e - k))).toNat : Nat) : Int) * ((2 ^ ((-(q - e)).toNat) : Nat) : Int) := by
        rw [Nat.pow_add, Int.natCast_mul, Int.natCast_pow 2 k]
        show i * _ * ((2 : Int) ^ k * _) = _
        ac_rfl
theorem Dy.unscale {i e : Int} {a : UInt64} (k : Nat) (h : Dy (i * 2 ^ k) e a) : Dy i (e + k) a := by
  obtain ⟨s, c, q, a1, a2⟩ := h
  refine ⟨s, c, q, a1, ?_⟩
  have w : signed s (c * 2 ^ (q - e).toNat) = i * 2 ^ k * ((2 ^ (-(q - e)).toNat : Nat) : Int) := a2
  show signed s (c * 2 ^ (q - (e + k)).toNat) = i * ((2 ^ (-(q - (e + k))).toNat : Nat) : Int)
  have p2 : ((2 ^ (k + (-(q - e)).toNat) : Nat) : Int) ≠ 0 := by
    have := Nat.two_pow_pos (k + (-(q - e)).toNat); omega
  refine Int.eq_of_mul_eq_mul_right p2 ?_
  have hx : (q - (e + k)).toNat + (k + (-(q - e)).toNat) = (q - e).toNat + (-(q - (e + k))).toNat := by omega
  calc signed s (c * 2 ^ (q - (e + k)).toNat) * ((2 ^ (k + (-(q - e)).toNat) : Nat) : Int)
      = signed s (c * 2 ^ ((q - (e + k)).toNat + (k + (-(q - e)).toNat))) := by rw [← signed_mul, Nat.pow_add 2 (q - (e + k)).toNat, Nat.mul_assoc]
    _ = signed s (c * 2 ^ (q - e).toNat * 2 ^ ((-(q - (e + k))).toNat)) := by rw [hx, Nat.pow_add, Nat.mul_assoc]
    _ = i * 2 ^ k * ((2 ^ (-(q - e)).toNat : Nat) : Int) * ((2 ^ ((-(q - (e + k))).toNat) : Nat) : Int) := by rw [signed_mul, w]
    _ = i * ((2 ^ (-(q - (e + k))).toNat : Nat) : Int) * ((2 ^ (k + (-(q - e)).toNat) : Nat) : Int) := by
        rw [Nat.pow_add, Int.natCast_mul, Int.natCast_pow 2 k]
        show i * (2 : Int) ^ k * _ * _ = _ * ((2 : Int) ^ k * _)
        ac_rfl
theorem Dy.cmp {i j e : Int} {a b : UInt64} (ha : Dy i e a) (hb : Dy j e b) : FP.dcmp a b = some (compare i j) := by
  obtain ⟨s, c, q, a1, a2⟩ := ha
  obtain ⟨t, d, r, b1, b2⟩ := hb
  have w := order_whole a2 b2
  have hm : min (q - e) (r - e) = min q r - e := by omega
  simp only [order] at w
  rw [hm] at w
  unfold inUnits at w
  rw [show q - e - (min q r - e) = q - min q r by omega, show r - e - (min q r - e) = r - min q r by omega] at w
  show order (val64 a) (val64 b) = _
  rw [a1, b1]
  exact w
theorem Dy.of_int {i : Int} {a : UInt64} (h : DInt i a) : Dy i 0 a := by
  unfold DInt at h
  cases hv : val64 a with
  | nan => rw [hv] at h; exact h.elim
  | inf => rw [hv] at h; exact h.elim
  | fin s c q => rw [hv] at h; exact ⟨s, c, q, hv, by rw [Int.sub_zero]; exact h⟩
theorem Dy.i2d (x : Int32) : Dy x.toInt 0 (FP.i2d x) := Dy.of_int (i2d_int x)
theorem Dy.l2d {x : Int64} (h : x.toInt.natAbs ≤ 9007199254740992) : Dy x.toInt 0 (FP.l2d x) := Dy.of_int (l2d_int (Nat.le_trans h (by decide)))
/-- the int that a comparison pushes -/
def own_ci (i j : Int) : Int32 := if i < j then -1 else if i = j then 0 else 1
theorem Dy.cmpV {i j e : Int} {a b : UInt64} (ha : Dy i e a) (hb : Dy j e b) (o : Jvm.ClassFile.CmpOp) : Jvm.Op.cmpValue (FP.dcmp a b) o = own_ci i j := by
  rw [ha.cmp hb, compare_ite]
  unfold own_ci
  by_cases h1 : i < j
  · simp only [if_pos h1]; cases o <;> rfl
  · by_cases h2 : i = j
    · simp only [if_neg h1, if_pos h2]; cases o <;> rfl
    · simp only [if_neg h1, if_neg h2]; cases o <;> rfl
theorem own_ci_lt {i j : Int} : own_ci i j < 0 ↔ i < j := by
  unfold own_ci
  by_cases h1 : i < j
  · simp [h1]
  · by_cases h2 : i = j <;> simp [h1, h2]
theorem own_ci_gt {i j : Int} : 0 < own_ci i j ↔ j < i := by
  unfold own_ci
  by_cases h1 : i < j
  · simp [h1]; omega
  · by_cases h2 : i = j
    · simp [h2]
    · simp [h1, h2]; omega
theorem own_ci_eq {i j : Int} : own_ci i j = 0 ↔ i = j := by
  unfold own_ci
  by_cases h1 : i < j
  · simp [h1]; omega
  · by_cases h2 : i = j <;> simp [h1, h2]
theorem Dy.cast {i j e f : Int} {a : UInt64} (h : Dy i e a) (hi : i = j) (he : e = f) : Dy j f a := by subst hi he; exact h
theorem own_zero (e : Int) : Dy 0 e (0 : UInt64) := ⟨false, 0, -1074, by decide +kernel, by
  show signed false (0 * _) = 0 * _
  rw [Nat.zero_mul, Int.zero_mul]; rfl⟩
end Jvm.OwnFp
namespace Jvm.OwnNum
theorem own_mulb {a b A B : Int} (a1 : -A ≤ a) (a2 : a ≤ A) (b1 : -B ≤ b) (b2 : b ≤ B) : -(A * B) ≤ a * b ∧ a * b ≤ A * B := by
  have hm : (a * b).natAbs ≤ A.toNat * B.toNat := by rw [Int.natAbs_mul]; exact Nat.mul_le_mul (by omega) (by omega)
  have hm2 : ((A.toNat * B.toNat : Nat) : Int) = A * B := by rw [Int.natCast_mul, Int.toNat_of_nonneg (by omega), Int.toNat_of_nonneg (by omega)]
  omega
theorem own_i2l (x : Int32) : x.toInt64.toInt = x.toInt := by simp
/-- a remainder by a positive literal -/
theorem own_rem {x k : Int32} {K : Int} (hk : k.toInt = K) (h : 0 < K) : -K < (x % k).toInt ∧ (x % k).toInt < K := by
  rw [Int32.toInt_mod, hk]
  have h1 := Int.tmod_lt_of_pos x.toInt h
  have h2 := Int.lt_tmod_of_pos x.toInt h
  omega
theorem own_and {x k : Int32} {K : Nat} (hk : k.toInt = K) (h0 : K < 2 ^ 31) : 0 ≤ (x &&& k).toInt ∧ (x &&& k).toInt ≤ K := by
  have e : k.toBitVec.toNat = K := by
    have := k.toBitVec.isLt
    have q : k.toInt = k.toBitVec.toInt := rfl
    rw [q, BitVec.toInt_eq_toNat_cond] at hk
    split at hk <;> omega
  have b : (x &&& k).toBitVec.toNat ≤ K := by
    show (x.toBitVec &&& k.toBitVec).toNat ≤ K
    rw [BitVec.toNat_and, e]; exact Nat.and_le_right
  have q : (x &&& k).toInt = (x &&& k).toBitVec.toInt := rfl
  rw [q, BitVec.toInt_eq_toNat_cond]
  split <;> omega
theorem own_add32 {a b : Int32} (h1 : -2147483648 ≤ a.toInt + b.toInt) (h2 : a.toInt + b.toInt < 2147483648) : (a + b).toInt = a.toInt + b.toInt := by
  rw [Int32.toInt_add]; exact Int.bmod_eq_of_le (by omega) (by omega)
theorem own_sub32 {a b : Int32} (h1 : -2147483648 ≤ a.toInt - b.toInt) (h2 : a.toInt - b.toInt < 2147483648) : (a - b).toInt = a.toInt - b.toInt := by
  rw [Int32.toInt_sub]; exact Int.bmod_eq_of_le (by omega) (by omega)
theorem own_mul32 {a b : Int32} (h1 : -2147483648 ≤ a.toInt * b.toInt) (h2 : a.toInt * b.toInt < 2147483648) : (a * b).toInt = a.toInt * b.toInt := by
  rw [Int32.toInt_mul]; exact Int.bmod_eq_of_le (by omega) (by omega)
theorem own_min (a b : Int32) : (if b < a then b else a).toInt = min a.toInt b.toInt := by
  split
  · rename_i h; rw [Int32.lt_iff_toInt_lt] at h; omega
  · rename_i h; rw [Int32.lt_iff_toInt_lt] at h; omega
theorem own_max (a b : Int32) : (if a < b then b else a).toInt = max a.toInt b.toInt := by
  split
  · rename_i h; rw [Int32.lt_iff_toInt_lt] at h; omega
  · rename_i h; rw [Int32.lt_iff_toInt_lt] at h; omega
theorem own_shl {e : Int32} (h0 : 0 ≤ e.toInt) (h1 : e.toInt < 11) : ∃ k : Nat, k ≤ 10 ∧ ((1 : Int32) <<< (e &&& 31)).toInt = 2 ^ k := by
  have hk : e.toInt = 0 ∨ e.toInt = 1 ∨ e.toInt = 2 ∨ e.toInt = 3 ∨ e.toInt = 4 ∨ e.toInt = 5 ∨ e.toInt = 6 ∨ e.toInt = 7 ∨ e.toInt = 8 ∨ e.toInt = 9 ∨ e.toInt = 10 := by omega
  rcases hk with h | h | h | h | h | h | h | h | h | h | h
  · exact ⟨0, by decide, by rw [Int32.toInt_inj.mp (h.trans (by decide : (0 : Int) = (0 : Int32).toInt))]; decide⟩
  · exact ⟨1, by decide, by rw [Int32.toInt_inj.mp (h.trans (by decide : (1 : Int) = (1 : Int32).toInt))]; decide⟩
  · exact ⟨2, by decide, by rw [Int32.toInt_inj.mp (h.trans (by decide : (2 : Int) = (2 : Int32).toInt))]; decide⟩
  · exact ⟨3, by decide, by rw [Int32.toInt_inj.mp (h.trans (by decide : (3 : Int) = (3 : Int32).toInt))]; decide⟩
  · exact ⟨4, by decide, by rw [Int32.toInt_inj.mp (h.trans (by decide : (4 : Int) = (4 : Int32).toInt))]; decide⟩
  · exact ⟨5, by decide, by rw [Int32.toInt_inj.mp (h.trans (by decide : (5 : Int) = (5 : Int32).toInt))]; decide⟩
  · exact ⟨6, by decide, by rw [Int32.toInt_inj.mp (h.trans (by decide : (6 : Int) = (6 : Int32).toInt))]; decide⟩
  · exact ⟨7, by decide, by rw [Int32.toInt_inj.mp (h.trans (by decide : (7 : Int) = (7 : Int32).toInt))]; decide⟩
  · exact ⟨8, by decide, by rw [Int32.toInt_inj.mp (h.trans (by decide : (8 : Int) = (8 : Int32).toInt))]; decide⟩
  · exact ⟨9, by decide, by rw [Int32.toInt_inj.mp (h.trans (by decide : (9 : Int) = (9 : Int32).toInt))]; decide⟩
  · exact ⟨10, by decide, by rw [Int32.toInt_inj.mp (h.trans (by decide : (10 : Int) = (10 : Int32).toInt))]; decide⟩
theorem own_and3 (x : Int32) : (x &&& (3 : Int32)) = (0 : Int32) ∨ (x &&& (3 : Int32)) = (1 : Int32) ∨ (x &&& (3 : Int32)) = (2 : Int32) ∨ (x &&& (3 : Int32)) = (3 : Int32) := by
  have h := own_and (x := x) (k := 3) (K := 3) (by decide) (by decide)
  have q : (x &&& (3 : Int32)).toInt = 0 ∨ (x &&& (3 : Int32)).toInt = 1 ∨ (x &&& (3 : Int32)).toInt = 2 ∨ (x &&& (3 : Int32)).toInt = 3 := by omega
  rcases q with q | q | q | q
  · exact Or.inl (Int32.toInt_inj.mp (q.trans (by decide : (0 : Int) = (0 : Int32).toInt)))
  · exact Or.inr (Or.inl (Int32.toInt_inj.mp (q.trans (by decide : (1 : Int) = (1 : Int32).toInt))))
  · exact Or.inr (Or.inr (Or.inl (Int32.toInt_inj.mp (q.trans (by decide : (2 : Int) = (2 : Int32).toInt)))))
  · exact Or.inr (Or.inr (Or.inr (Int32.toInt_inj.mp (q.trans (by decide : (3 : Int) = (3 : Int32).toInt)))))
theorem own_pow10 {e : Nat} (h : e ≤ 10) : (2 : Int) ^ e ≤ 1024 ∧ 1 ≤ (2 : Int) ^ e := by
  have : ∀ e, e ≤ 10 → (2 : Int) ^ e ≤ 1024 ∧ 1 ≤ (2 : Int) ^ e := by decide
  exact this e h
end Jvm.OwnNum
namespace Jvm.Pilot.@@N@@
open Jvm Jvm.ClassFile Sem Op Lib Jvm.Free Jvm.Stand Jvm.LawKit Jvm.RoadKit Bundle Jvm.OwnGo Jvm.OwnFp Jvm.Pilot.@@N@@.Jvm.D
open Jvm.OwnNum Jvm.FP Jvm.Free.Fl
theorem d2_0 : decode jdk_30_method_1_code 0 = .ok (.aload_n 0, 1) := by decide +kernel
theorem d2_1 : decode jdk_30_method_1_code 1 = .ok (.invokespecial 1, 3) := by decide +kernel
theorem d2_4 : decode jdk_30_method_1_code 4 = .ok (.return_, 1) := by decide +kernel
theorem pn_0 : plainName "java/lang/Record" = true := by first | (simp [plainName, overriddenIn]; done) | decide +kernel
theorem ef_2 (m : MethodId) (x0 : Addr) : entryFrame m #[(.ref x0)] 1 = mkF m 0 #[.val (.ref x0)] [] := by first | (simp [entryFrame, mkF, argsToLocals, Value.category]; done) | rfl
def Q2 (Z : State) (a1 : Addr)  (h0 : Heap) (n0 : Nat) (v : Option Value) (h : Heap) (L : List Loc) : Prop := v = none ∧ Fr n0 L ∧ h = h0
set_option maxRecDepth 65536 in
set_option maxHeartbeats 40000000 in
theorem rm2 (l : Launch) (Z : State) (a0 : Array Value) (hw : ∀ d ∈ tables_1, d.before a0 Z = true) (ws : List Jvm.Cond) (a1 : Addr)  (h0 : Heap) (n0 : Nat) (Z0 : n0 ≤ h0.size)  :
    MetFree l (⟨"java/lang/Record", "<init>", "()V"⟩ : MethodName) (head1 (Jvm.Cond.code (⟨"java/lang/Record", "<init>", "()V"⟩ : MethodName) jdk_30_method_1_code 1 none :: ws) ({ frames := 1, cells := 0, slots := 0, locals := 12 } : Room)) (fun a U => a = #[(.ref a1)] ∧ Z.Warmed39 U.vm ∧ U.heap = h0) (fun _ _ _ _ _ => True) (fun _ U o U' => ∃ v L, o = .returned v ∧ Q2 Z a1 h0 n0 v U'.heap L ∧ FrameEnd U o U' L ({ frames := 1, cells := 0, slots := 0, locals := 12 } : Room).cells ({ frames := 1, cells := 0, slots := 0, locals := 12 } : Room).slots) := by
  refine MetFree.of_bodySF (plainFor_of_name pn_0) hisR ?_
  intro p e s m args below meth c s₁ Bd hml0 hP hK
  obtain ⟨rfl, hZ, hh⟩ := hP
  have hx := Bd.exec
  have hby := Bd.bytes
  have hml : c.maxLocals = 1 := hml0
  have hown : s.vm.findClass "java/lang/Record" = some m.cls := findClass_of_methodNamed Bd.named
  have hnm := (name_of_methodNamed Bd.named Bd.method).1
  have X : Stand p l e ({ frames := 1, cells := 0, slots := 0, locals := 12 } : Room) s m #[(.ref a1)] below meth c s₁ [] 0 0 := Stand.of_body Bd
  have eT : s₁.heap = h0 := by rw [← hh, Bd.state]; rfl
  have N := Fr.nil n0
  have K := Keep.refl h0 []
  refine Go.out ?_
  obtain ⟨T, eTT⟩ : ∃ z, z = s₁ := ⟨_, rfl⟩
  rw [← eTT] at X eT ⊢
  refine Go.by (fun tt_ kk_ => castTop (ef_2 m a1) kk_) ?_
  show Go p.tables e below (T.setTop (mkF m 0 #[.val (.ref a1)] [])) _
  refine Go.by (fun tt_ kk_ => XS.aloadN X.here hx rfl (hb hby d2_0) rfl rfl kk_) ?_
  show Go p.tables e below (T.setTop (mkF m 1 #[.val (.ref a1)] [(.ref a1)])) _
  obtain ⟨T, X, eT, st⟩ := initO X hx hZ hown (hw _ (List.mem_of_getElem? (i := 22) rfl)) (hw _ (List.mem_of_getElem? (i := 23) rfl)) (hw _ (List.mem_of_getElem? (i := 24) rfl)) eT (g := (mkF m 1 #[.val (.ref a1)] [(.ref a1)])) rfl (by rw [hml]; rfl) rfl (hb hby d2_1) (by decide) (W := 0) (by show 2 * 0 + _ ≤ _; exact Nat.le_of_eq rfl) (by decide)
  refine Go.by st ?_
  show Go p.tables e below (T.setTop (mkF m 4 #[.val (.ref a1)] [])) _
  exact Go.done X  (v := none) (fun _ => rfl) Bd.notSynchronized (fun fs hr => X.returnOut hx Bd.returns (hb hby d2_4) hr) (by rw [eT]; exact ⟨rfl, N, rfl⟩) (by decide) (by decide)
theorem d1_0 : decode prog_7_method_2_code 0 = .ok (.aload_n 0, 1) := by decide +kernel
theorem d1_1 : decode prog_7_method_2_code 1 = .ok (.invokespecial 1, 3) := by decide +kernel
theorem d1_4 : decode prog_7_method_2_code 4 = .ok (.aload_n 0, 1) := by decide +kernel
theorem d1_5 : decode prog_7_method_2_code 5 = .ok (.aload_n 1, 1) := by decide +kernel
theorem d1_6 : decode prog_7_method_2_code 6 = .ok (.putfield 7, 3) := by decide +kernel
theorem d1_9 : decode prog_7_method_2_code 9 = .ok (.aload_n 0, 1) := by decide +kernel
theorem d1_10 : decode prog_7_method_2_code 10 = .ok (.dload_n 2, 1) := by decide +kernel
theorem d1_11 : decode prog_7_method_2_code 11 = .ok (.putfield 13, 3) := by decide +kernel
theorem d1_14 : decode prog_7_method_2_code 14 = .ok (.aload_n 0, 1) := by decide +kernel
theorem d1_15 : decode prog_7_method_2_code 15 = .ok (.dload 4, 2) := by decide +kernel
theorem d1_17 : decode prog_7_method_2_code 17 = .ok (.putfield 17, 3) := by decide +kernel
theorem d1_20 : decode prog_7_method_2_code 20 = .ok (.aload_n 0, 1) := by decide +kernel
theorem d1_21 : decode prog_7_method_2_code 21 = .ok (.aload 6, 2) := by decide +kernel
theorem d1_23 : decode prog_7_method_2_code 23 = .ok (.putfield 20, 3) := by decide +kernel
theorem d1_26 : decode prog_7_method_2_code 26 = .ok (.aload_n 0, 1) := by decide +kernel
theorem d1_27 : decode prog_7_method_2_code 27 = .ok (.dload 7, 2) := by decide +kernel
theorem d1_29 : decode prog_7_method_2_code 29 = .ok (.putfield 24, 3) := by decide +kernel
theorem d1_32 : decode prog_7_method_2_code 32 = .ok (.return_, 1) := by decide +kernel
theorem pn_1 : plainName "openum/benchmarks/Target" = true := by first | (simp [plainName, overriddenIn]; done) | decide +kernel
theorem pd_0 : parseMethodDescriptor "()V" = some ⟨[], none⟩ := by decide +kernel
theorem ef_1 (m : MethodId) (x0 : Addr) (x1 : Addr) (x2 : UInt64) (x3 : UInt64) (x4 : Addr) (x5 : UInt64) : entryFrame m #[(.ref x0), (.ref x1), (.double x2), (.double x3), (.ref x4), (.double x5)] 9 = mkF m 0 #[.val (.ref x0), .val (.ref x1), .val (.double x2), .second, .val (.double x3), .second, .val (.ref x4), .val (.double x5), .second] [] := by first | (simp [entryFrame, mkF, argsToLocals, Value.category]; done) | rfl
def Q1 (Z : State) (a1 : Addr) (a2 : Addr) (x3 : UInt64) (x4 : UInt64) (a5 : Addr) (x6 : UInt64)  (h0 : Heap) (n0 : Nat) (v : Option Value) (h : Heap) (L : List Loc) : Prop := v = none ∧ Fr n0 L ∧ Keep h0 h [a1] ∧ Exa Z h a1 "openum/benchmarks/Target" ∧ Fld Z h a1 "openum/benchmarks/Target" "least" "D" (.double x4) ∧ Fld Z h a1 "openum/benchmarks/Target" "bound" "Lopenum/benchmarks/Target$Bound;" (.ref a5) ∧ Fld Z h a1 "openum/benchmarks/Target" "limit" "D" (.double x6)
set_option maxRecDepth 65536 in
set_option maxHeartbeats 40000000 in
theorem rm1 (l : Launch) (Z : State) (a0 : Array Value) (hw : ∀ d ∈ tables_1, d.before a0 Z = true) (ws : List Jvm.Cond) (a1 : Addr) (a2 : Addr) (x3 : UInt64) (x4 : UInt64) (a5 : Addr) (x6 : UInt64)  (h0 : Heap) (n0 : Nat) (Z0 : n0 ≤ h0.size) (E_a1 : Exa Z h0 a1 "openum/benchmarks/Target") (g_a1 : n0 ≤ a1) (F_figure_a1 : Fld Z h0 a1 "openum/benchmarks/Target" "figure" "Ljava/lang/String;" .null) (F_measured_a1 : Fld Z h0 a1 "openum/benchmarks/Target" "measured" "D" (.double (0 : UInt64))) (F_least_a1 : Fld Z h0 a1 "openum/benchmarks/Target" "least" "D" (.double (0 : UInt64))) (F_bound_a1 : Fld Z h0 a1 "openum/benchmarks/Target" "bound" "Lopenum/benchmarks/Target$Bound;" .null) (F_limit_a1 : Fld Z h0 a1 "openum/benchmarks/Target" "limit" "D" (.double (0 : UInt64))) :
    MetFree l (⟨"openum/benchmarks/Target", "<init>", "(Ljava/lang/String;DDLopenum/benchmarks/Target$Bound;D)V"⟩ : MethodName) (head1 (Jvm.Cond.code (⟨"openum/benchmarks/Target", "<init>", "(Ljava/lang/String;DDLopenum/benchmarks/Target$Bound;D)V"⟩ : MethodName) prog_7_method_2_code 9 none :: ws) ({ frames := 2, cells := 0, slots := 0, locals := 24 } : Room)) (fun a U => a = #[(.ref a1), (.ref a2), (.double x3), (.double x4), (.ref a5), (.double x6)] ∧ Z.Warmed39 U.vm ∧ U.heap = h0) (fun _ _ _ _ _ => True) (fun _ U o U' => ∃ v L, o = .returned v ∧ Q1 Z a1 a2 x3 x4 a5 x6 h0 n0 v U'.heap L ∧ FrameEnd U o U' L ({ frames := 2, cells := 0, slots := 0, locals := 24 } : Room).cells ({ frames := 2, cells := 0, slots := 0, locals := 24 } : Room).slots) := by
  refine MetFree.of_bodySF (plainFor_of_name pn_1) hisR ?_
  intro p e s m args below meth c s₁ Bd hml0 hP hK
  obtain ⟨rfl, hZ, hh⟩ := hP
  have hx := Bd.exec
  have hby := Bd.bytes
  have hml : c.maxLocals = 9 := hml0
  have hown : s.vm.findClass "openum/benchmarks/Target" = some m.cls := findClass_of_methodNamed Bd.named
  have hnm := (name_of_methodNamed Bd.named Bd.method).1
  have X : Stand p l e ({ frames := 2, cells := 0, slots := 0, locals := 24 } : Room) s m #[(.ref a1), (.ref a2), (.double x3), (.double x4), (.ref a5), (.double x6)] below meth c s₁ [] 0 0 := Stand.of_body Bd
  have eT : s₁.heap = h0 := by rw [← hh, Bd.state]; rfl
  have N := Fr.nil n0
  have K := Keep.refl h0 [a1]
  refine Go.out ?_
  obtain ⟨T, eTT⟩ : ∃ z, z = s₁ := ⟨_, rfl⟩
  rw [← eTT] at X eT ⊢
  refine Go.by (fun tt_ kk_ => castTop (ef_1 m a1 a2 x3 x4 a5 x6) kk_) ?_
  show Go p.tables e below (T.setTop (mkF m 0 #[.val (.ref a1), .val (.ref a2), .val (.double x3), .second, .val (.double x4), .second, .val (.ref a5), .val (.double x6), .second] [])) _
  refine Go.by (fun tt_ kk_ => XS.aloadN X.here hx rfl (hb hby d1_0) rfl rfl kk_) ?_
  show Go p.tables e below (T.setTop (mkF m 1 #[.val (.ref a1), .val (.ref a2), .val (.double x3), .second, .val (.double x4), .second, .val (.ref a5), .val (.double x6), .second] [(.ref a1)])) _
  obtain ⟨_, _, ⟨T, L_, k_, n_⟩, -, X, ⟨Lc_, hQ, l_, y_, z_⟩, st⟩ := X.specialBack hx (y := (⟨"java/lang/Record", "<init>", "()V"⟩ : MethodName)) rfl hown (mvT hZ (hw _ (List.mem_of_getElem? (i := 17) rfl))) (mvT hZ (hw _ (List.mem_of_getElem? (i := 18) rfl))) (mvT hZ (hw _ (List.mem_of_getElem? (i := 21) rfl))) (by decide) (backOf (W := 0) (rm2 l Z a0 hw [] a1 h0 n0 (Nat.le_trans Z0 K.1) ) hZ (hw _ (List.mem_of_getElem? (i := 21) rfl)) (hw _ (List.mem_of_getElem? (i := 20) rfl)) (by decide) (by decide)) (g := (mkF m 1 #[.val (.ref a1), .val (.ref a2), .val (.double x3), .second, .val (.double x4), .second, .val (.ref a5), .val (.double x6), .second] [(.ref a1)])) rfl (by rw [hml]; rfl) (Steps.refl _) (a := a1) (argsL := []) (rest := []) (lenOf pd_0 rfl) rfl (by show 2 * 0 + _ ≤ _; exact Nat.le_of_eq rfl) (hb hby d1_1) (fun _ _ => ⟨rfl, eT, (by decide : 0 + 0 ≤ _), (by decide : 0 + 0 ≤ _)⟩)
  dsimp only [Pt.U, Pt.locs, Pt.cells, Pt.slots] at X l_ y_ z_ st hQ
  subst l_ y_ z_
  obtain ⟨rfl, Nq, eh⟩ := hQ
  have N := Fr.app N Nq
  have eT := eh
  refine Go.tr st ?_
  show Go p.tables e below (T.setTop (mkF m 4 #[.val (.ref a1), .val (.ref a2), .val (.double x3), .second, .val (.double x4), .second, .val (.ref a5), .val (.double x6), .second] [])) _
  refine Go.by (fun tt_ kk_ => XS.aloadN X.here hx rfl (hb hby d1_4) rfl rfl kk_) ?_
  show Go p.tables e below (T.setTop (mkF m 5 #[.val (.ref a1), .val (.ref a2), .val (.double x3), .second, .val (.double x4), .second, .val (.ref a5), .val (.double x6), .second] [(.ref a1)])) _
  refine Go.by (fun tt_ kk_ => XS.aloadN X.here hx rfl (hb hby d1_5) rfl rfl kk_) ?_
  show Go p.tables e below (T.setTop (mkF m 6 #[.val (.ref a1), .val (.ref a2), .val (.double x3), .second, .val (.double x4), .second, .val (.ref a5), .val (.double x6), .second] [(.ref a2), (.ref a1)])) _
  obtain ⟨T, h2, X, eT, Wh2, st⟩ := putF X hx hZ hown (host := "") (Or.inl (hw _ (List.mem_of_getElem? (i := 25) rfl))) Via.refl eT F_figure_a1 E_a1 (Or.inr ⟨(hw _ (List.mem_of_getElem? (i := 26) rfl)), rfl, hnm⟩) (hw _ (List.mem_of_getElem? (i := 4) rfl)) (ty := (.object "java/lang/String")) (by decide) rfl rfl (g := (mkF m 6 #[.val (.ref a1), .val (.ref a2), .val (.double x3), .second, .val (.double x4), .second, .val (.ref a5), .val (.double x6), .second] [(.ref a2), (.ref a1)])) rfl rfl (hb hby d1_6)
  have F_figure_a1 := Fld.same Wh2 F_figure_a1
  have E_a1 := Exa.wr Wh2 E_a1
  have F_measured_a1 := Fld.other Wh2 F_measured_a1 (Or.inr (slot_ne (Or.inr (hw _ (List.mem_of_getElem? (i := 28) rfl))) (Or.inr (hw _ (List.mem_of_getElem? (i := 26) rfl))) (by decide) (t := .double) (t' := (.object "java/lang/String")) (by decide) (by decide)))
  have F_least_a1 := Fld.other Wh2 F_least_a1 (Or.inr (slot_ne (Or.inr (hw _ (List.mem_of_getElem? (i := 30) rfl))) (Or.inr (hw _ (List.mem_of_getElem? (i := 26) rfl))) (by decide) (t := .double) (t' := (.object "java/lang/String")) (by decide) (by decide)))
  have F_bound_a1 := Fld.other Wh2 F_bound_a1 (Or.inr (slot_ne (Or.inr (hw _ (List.mem_of_getElem? (i := 32) rfl))) (Or.inr (hw _ (List.mem_of_getElem? (i := 26) rfl))) (by decide) (t := (.object "openum/benchmarks/Target$Bound")) (t' := (.object "java/lang/String")) (by decide) (by decide)))
  have F_limit_a1 := Fld.other Wh2 F_limit_a1 (Or.inr (slot_ne (Or.inr (hw _ (List.mem_of_getElem? (i := 34) rfl))) (Or.inr (hw _ (List.mem_of_getElem? (i := 26) rfl))) (by decide) (t := .double) (t' := (.object "java/lang/String")) (by decide) (by decide)))
  have N := Fr.snoc X N g_a1
  have K := K.wr Wh2 (Or.inl (List.mem_of_getElem? (i := 0) rfl))
  refine Go.by st ?_
  show Go p.tables e below (T.setTop (mkF m 9 #[.val (.ref a1), .val (.ref a2), .val (.double x3), .second, .val (.double x4), .second, .val (.ref a5), .val (.double x6), .second] [])) _
  refine Go.by (fun tt_ kk_ => XS.aloadN X.here hx rfl (hb hby d1_9) rfl rfl kk_) ?_
  show Go p.tables e below (T.setTop (mkF m 10 #[.val (.ref a1), .val (.ref a2), .val (.double x3), .second, .val (.double x4), .second, .val (.ref a5), .val (.double x6), .second] [(.ref a1)])) _
  refine Go.by (fun tt_ kk_ => XS.dloadN X.here hx rfl (hb hby d1_10) rfl kk_) ?_
  show Go p.tables e below (T.setTop (mkF m 11 #[.val (.ref a1), .val (.ref a2), .val (.double x3), .second, .val (.double x4), .second, .val (.ref a5), .val (.double x6), .second] [(.double x3), (.ref a1)])) _
  obtain ⟨T, h3, X, eT, Wh3, st⟩ := putF X hx hZ hown (host := "") (Or.inl (hw _ (List.mem_of_getElem? (i := 27) rfl))) Via.refl eT F_measured_a1 E_a1 (Or.inr ⟨(hw _ (List.mem_of_getElem? (i := 28) rfl)), rfl, hnm⟩) (hw _ (List.mem_of_getElem? (i := 4) rfl)) (ty := .double) (by decide) rfl rfl (g := (mkF m 11 #[.val (.ref a1), .val (.ref a2), .val (.double x3), .second, .val (.double x4), .second, .val (.ref a5), .val (.double x6), .second] [(.double x3), (.ref a1)])) rfl rfl (hb hby d1_11)
  have F_measured_a1 := Fld.same Wh3 F_measured_a1
  have E_a1 := Exa.wr Wh3 E_a1
  have F_figure_a1 := Fld.other Wh3 F_figure_a1 (Or.inr (slot_ne (Or.inr (hw _ (List.mem_of_getElem? (i := 26) rfl))) (Or.inr (hw _ (List.mem_of_getElem? (i := 28) rfl))) (by decide) (t := (.object "java/lang/String")) (t' := .double) (by decide) (by decide)))
  have F_least_a1 := Fld.other Wh3 F_least_a1 (Or.inr (slot_ne (Or.inr (hw _ (List.mem_of_getElem? (i := 30) rfl))) (Or.inr (hw _ (List.mem_of_getElem? (i := 28) rfl))) (by decide) (t := .double) (t' := .double) (by decide) (by decide)))
  have F_bound_a1 := Fld.other Wh3 F_bound_a1 (Or.inr (slot_ne (Or.inr (hw _ (List.mem_of_getElem? (i := 32) rfl))) (Or.inr (hw _ (List.mem_of_getElem? (i := 28) rfl))) (by decide) (t := (.object "openum/benchmarks/Target$Bound")) (t' := .double) (by decide) (by decide)))
  have F_limit_a1 := Fld.other Wh3 F_limit_a1 (Or.inr (slot_ne (Or.inr (hw _ (List.mem_of_getElem? (i := 34) rfl))) (Or.inr (hw _ (List.mem_of_getElem? (i := 28) rfl))) (by decide) (t := .double) (t' := .double) (by decide) (by decide)))
  have N := Fr.snoc X N g_a1
  have K := K.wr Wh3 (Or.inl (List.mem_of_getElem? (i := 0) rfl))
  refine Go.by st ?_
  show Go p.tables e below (T.setTop (mkF m 14 #[.val (.ref a1), .val (.ref a2), .val (.double x3), .second, .val (.double x4), .second, .val (.ref a5), .val (.double x6), .second] [])) _
  refine Go.by (fun tt_ kk_ => XS.aloadN X.here hx rfl (hb hby d1_14) rfl rfl kk_) ?_
  show Go p.tables e below (T.setTop (mkF m 15 #[.val (.ref a1), .val (.ref a2), .val (.double x3), .second, .val (.double x4), .second, .val (.ref a5), .val (.double x6), .second] [(.ref a1)])) _
  refine Go.by (fun tt_ kk_ => XS.dload X.here hx rfl (hb hby d1_15) rfl kk_) ?_
  show Go p.tables e below (T.setTop (mkF m 17 #[.val (.ref a1), .val (.ref a2), .val (.double x3), .second, .val (.double x4), .second, .val (.ref a5), .val (.double x6), .second] [(.double x4), (.ref a1)])) _
  obtain ⟨T, h4, X, eT, Wh4, st⟩ := putF X hx hZ hown (host := "") (Or.inl (hw _ (List.mem_of_getElem? (i := 29) rfl))) Via.refl eT F_least_a1 E_a1 (Or.inr ⟨(hw _ (List.mem_of_getElem? (i := 30) rfl)), rfl, hnm⟩) (hw _ (List.mem_of_getElem? (i := 4) rfl)) (ty := .double) (by decide) rfl rfl (g := (mkF m 17 #[.val (.ref a1), .val (.ref a2), .val (.double x3), .second, .val (.double x4), .second, .val (.ref a5), .val (.double x6), .second] [(.double x4), (.ref a1)])) rfl rfl (hb hby d1_17)
  have F_least_a1 := Fld.same Wh4 F_least_a1
  have E_a1 := Exa.wr Wh4 E_a1
  have F_figure_a1 := Fld.other Wh4 F_figure_a1 (Or.inr (slot_ne (Or.inr (hw _ (List.mem_of_getElem? (i := 26) rfl))) (Or.inr (hw _ (List.mem_of_getElem? (i := 30) rfl))) (by decide) (t := (.object "java/lang/String")) (t' := .double) (by decide) (by decide)))
  have F_measured_a1 := Fld.other Wh4 F_measured_a1 (Or.inr (slot_ne (Or.inr (hw _ (List.mem_of_getElem? (i := 28) rfl))) (Or.inr (hw _ (List.mem_of_getElem? (i := 30) rfl))) (by decide) (t := .double) (t' := .double) (by decide) (by decide)))
  have F_bound_a1 := Fld.other Wh4 F_bound_a1 (Or.inr (slot_ne (Or.inr (hw _ (List.mem_of_getElem? (i := 32) rfl))) (Or.inr (hw _ (List.mem_of_getElem? (i := 30) rfl))) (by decide) (t := (.object "openum/benchmarks/Target$Bound")) (t' := .double) (by decide) (by decide)))
  have F_limit_a1 := Fld.other Wh4 F_limit_a1 (Or.inr (slot_ne (Or.inr (hw _ (List.mem_of_getElem? (i := 34) rfl))) (Or.inr (hw _ (List.mem_of_getElem? (i := 30) rfl))) (by decide) (t := .double) (t' := .double) (by decide) (by decide)))
  have N := Fr.snoc X N g_a1
  have K := K.wr Wh4 (Or.inl (List.mem_of_getElem? (i := 0) rfl))
  refine Go.by st ?_
  show Go p.tables e below (T.setTop (mkF m 20 #[.val (.ref a1), .val (.ref a2), .val (.double x3), .second, .val (.double x4), .second, .val (.ref a5), .val (.double x6), .second] [])) _
  refine Go.by (fun tt_ kk_ => XS.aloadN X.here hx rfl (hb hby d1_20) rfl rfl kk_) ?_
  show Go p.tables e below (T.setTop (mkF m 21 #[.val (.ref a1), .val (.ref a2), .val (.double x3), .second, .val (.double x4), .second, .val (.ref a5), .val (.double x6), .second] [(.ref a1)])) _
  refine Go.by (fun tt_ kk_ => XS.aload X.here hx rfl (hb hby d1_21) rfl rfl kk_) ?_
  show Go p.tables e below (T.setTop (mkF m 23 #[.val (.ref a1), .val (.ref a2), .val (.double x3), .second, .val (.double x4), .second, .val (.ref a5), .val (.double x6), .second] [(.ref a5), (.ref a1)])) _
  obtain ⟨T, h5, X, eT, Wh5, st⟩ := putF X hx hZ hown (host := "") (Or.inl (hw _ (List.mem_of_getElem? (i := 31) rfl))) Via.refl eT F_bound_a1 E_a1 (Or.inr ⟨(hw _ (List.mem_of_getElem? (i := 32) rfl)), rfl, hnm⟩) (hw _ (List.mem_of_getElem? (i := 4) rfl)) (ty := (.object "openum/benchmarks/Target$Bound")) (by decide) rfl rfl (g := (mkF m 23 #[.val (.ref a1), .val (.ref a2), .val (.double x3), .second, .val (.double x4), .second, .val (.ref a5), .val (.double x6), .second] [(.ref a5), (.ref a1)])) rfl rfl (hb hby d1_23)
  have F_bound_a1 := Fld.same Wh5 F_bound_a1
  have E_a1 := Exa.wr Wh5 E_a1
  have F_figure_a1 := Fld.other Wh5 F_figure_a1 (Or.inr (slot_ne (Or.inr (hw _ (List.mem_of_getElem? (i := 26) rfl))) (Or.inr (hw _ (List.mem_of_getElem? (i := 32) rfl))) (by decide) (t := (.object "java/lang/String")) (t' := (.object "openum/benchmarks/Target$Bound")) (by decide) (by decide)))
  have F_measured_a1 := Fld.other Wh5 F_measured_a1 (Or.inr (slot_ne (Or.inr (hw _ (List.mem_of_getElem? (i := 28) rfl))) (Or.inr (hw _ (List.mem_of_getElem? (i := 32) rfl))) (by decide) (t := .double) (t' := (.object "openum/benchmarks/Target$Bound")) (by decide) (by decide)))
  have F_least_a1 := Fld.other Wh5 F_least_a1 (Or.inr (slot_ne (Or.inr (hw _ (List.mem_of_getElem? (i := 30) rfl))) (Or.inr (hw _ (List.mem_of_getElem? (i := 32) rfl))) (by decide) (t := .double) (t' := (.object "openum/benchmarks/Target$Bound")) (by decide) (by decide)))
  have F_limit_a1 := Fld.other Wh5 F_limit_a1 (Or.inr (slot_ne (Or.inr (hw _ (List.mem_of_getElem? (i := 34) rfl))) (Or.inr (hw _ (List.mem_of_getElem? (i := 32) rfl))) (by decide) (t := .double) (t' := (.object "openum/benchmarks/Target$Bound")) (by decide) (by decide)))
  have N := Fr.snoc X N g_a1
  have K := K.wr Wh5 (Or.inl (List.mem_of_getElem? (i := 0) rfl))
  refine Go.by st ?_
  show Go p.tables e below (T.setTop (mkF m 26 #[.val (.ref a1), .val (.ref a2), .val (.double x3), .second, .val (.double x4), .second, .val (.ref a5), .val (.double x6), .second] [])) _
  refine Go.by (fun tt_ kk_ => XS.aloadN X.here hx rfl (hb hby d1_26) rfl rfl kk_) ?_
  show Go p.tables e below (T.setTop (mkF m 27 #[.val (.ref a1), .val (.ref a2), .val (.double x3), .second, .val (.double x4), .second, .val (.ref a5), .val (.double x6), .second] [(.ref a1)])) _
  refine Go.by (fun tt_ kk_ => XS.dload X.here hx rfl (hb hby d1_27) rfl kk_) ?_
  show Go p.tables e below (T.setTop (mkF m 29 #[.val (.ref a1), .val (.ref a2), .val (.double x3), .second, .val (.double x4), .second, .val (.ref a5), .val (.double x6), .second] [(.double x6), (.ref a1)])) _
  obtain ⟨T, h6, X, eT, Wh6, st⟩ := putF X hx hZ hown (host := "") (Or.inl (hw _ (List.mem_of_getElem? (i := 33) rfl))) Via.refl eT F_limit_a1 E_a1 (Or.inr ⟨(hw _ (List.mem_of_getElem? (i := 34) rfl)), rfl, hnm⟩) (hw _ (List.mem_of_getElem? (i := 4) rfl)) (ty := .double) (by decide) rfl rfl (g := (mkF m 29 #[.val (.ref a1), .val (.ref a2), .val (.double x3), .second, .val (.double x4), .second, .val (.ref a5), .val (.double x6), .second] [(.double x6), (.ref a1)])) rfl rfl (hb hby d1_29)
  have F_limit_a1 := Fld.same Wh6 F_limit_a1
  have E_a1 := Exa.wr Wh6 E_a1
  have F_figure_a1 := Fld.other Wh6 F_figure_a1 (Or.inr (slot_ne (Or.inr (hw _ (List.mem_of_getElem? (i := 26) rfl))) (Or.inr (hw _ (List.mem_of_getElem? (i := 34) rfl))) (by decide) (t := (.object "java/lang/String")) (t' := .double) (by decide) (by decide)))
  have F_measured_a1 := Fld.other Wh6 F_measured_a1 (Or.inr (slot_ne (Or.inr (hw _ (List.mem_of_getElem? (i := 28) rfl))) (Or.inr (hw _ (List.mem_of_getElem? (i := 34) rfl))) (by decide) (t := .double) (t' := .double) (by decide) (by decide)))
  have F_least_a1 := Fld.other Wh6 F_least_a1 (Or.inr (slot_ne (Or.inr (hw _ (List.mem_of_getElem? (i := 30) rfl))) (Or.inr (hw _ (List.mem_of_getElem? (i := 34) rfl))) (by decide) (t := .double) (t' := .double) (by decide) (by decide)))
  have F_bound_a1 := Fld.other Wh6 F_bound_a1 (Or.inr (slot_ne (Or.inr (hw _ (List.mem_of_getElem? (i := 32) rfl))) (Or.inr (hw _ (List.mem_of_getElem? (i := 34) rfl))) (by decide) (t := (.object "openum/benchmarks/Target$Bound")) (t' := .double) (by decide) (by decide)))
  have N := Fr.snoc X N g_a1
  have K := K.wr Wh6 (Or.inl (List.mem_of_getElem? (i := 0) rfl))
  refine Go.by st ?_
  show Go p.tables e below (T.setTop (mkF m 32 #[.val (.ref a1), .val (.ref a2), .val (.double x3), .second, .val (.double x4), .second, .val (.ref a5), .val (.double x6), .second] [])) _
  exact Go.done X  (v := none) (fun _ => rfl) Bd.notSynchronized (fun fs hr => X.returnOut hx Bd.returns (hb hby d1_32) hr) (by rw [eT]; exact ⟨rfl, N, K, E_a1, F_least_a1, F_bound_a1, F_limit_a1⟩) (by decide) (by decide)
theorem d4_0 : decode prog_7_method_3_code 0 = .ok (.aload_n 0, 1) := by decide +kernel
theorem d4_1 : decode prog_7_method_3_code 1 = .ok (.getfield 20, 3) := by decide +kernel
theorem d4_4 : decode prog_7_method_3_code 4 = .ok (.getstatic 30, 3) := by decide +kernel
theorem d4_7 : decode prog_7_method_3_code 7 = .ok (.if_acmp .ne 23, 3) := by decide +kernel
theorem d4_10 : decode prog_7_method_3_code 10 = .ok (.aload_n 0, 1) := by decide +kernel
theorem d4_11 : decode prog_7_method_3_code 11 = .ok (.getfield 17, 3) := by decide +kernel
theorem d4_14 : decode prog_7_method_3_code 14 = .ok (.aload_n 0, 1) := by decide +kernel
theorem d4_15 : decode prog_7_method_3_code 15 = .ok (.getfield 24, 3) := by decide +kernel
theorem d4_18 : decode prog_7_method_3_code 18 = .ok (.dcmp .g, 1) := by decide +kernel
theorem d4_19 : decode prog_7_method_3_code 19 = .ok (.ifCond .gt 7, 3) := by decide +kernel
theorem d4_22 : decode prog_7_method_3_code 22 = .ok (.iconst 1, 1) := by decide +kernel
theorem d4_23 : decode prog_7_method_3_code 23 = .ok (.goto 24, 3) := by decide +kernel
theorem d4_26 : decode prog_7_method_3_code 26 = .ok (.iconst 0, 1) := by decide +kernel
theorem d4_27 : decode prog_7_method_3_code 27 = .ok (.goto 20, 3) := by decide +kernel
theorem d4_30 : decode prog_7_method_3_code 30 = .ok (.aload_n 0, 1) := by decide +kernel
theorem d4_31 : decode prog_7_method_3_code 31 = .ok (.getfield 17, 3) := by decide +kernel
theorem d4_34 : decode prog_7_method_3_code 34 = .ok (.aload_n 0, 1) := by decide +kernel
theorem d4_35 : decode prog_7_method_3_code 35 = .ok (.getfield 24, 3) := by decide +kernel
theorem d4_38 : decode prog_7_method_3_code 38 = .ok (.dcmp .g, 1) := by decide +kernel
theorem d4_39 : decode prog_7_method_3_code 39 = .ok (.ifCond .ge 7, 3) := by decide +kernel
theorem d4_42 : decode prog_7_method_3_code 42 = .ok (.iconst 1, 1) := by decide +kernel
theorem d4_43 : decode prog_7_method_3_code 43 = .ok (.goto 4, 3) := by decide +kernel
theorem d4_46 : decode prog_7_method_3_code 46 = .ok (.iconst 0, 1) := by decide +kernel
theorem d4_47 : decode prog_7_method_3_code 47 = .ok (.ireturn, 1) := by decide +kernel
theorem ef_4 (m : MethodId) (x0 : Addr) : entryFrame m #[(.ref x0)] 1 = mkF m 0 #[.val (.ref x0)] [] := by first | (simp [entryFrame, mkF, argsToLocals, Value.category]; done) | rfl
def Q4a (Z : State) (a1 : Addr) (x : UInt64) (y : UInt64) (i : Int) (j : Int) (w1 : Addr) (h0 : Heap) (n0 : Nat) (v : Option Value) (h : Heap) (L : List Loc) : Prop := v = some (.int (if i ≤ j then 1 else 0)) ∧ Fr n0 L ∧ h = h0
set_option maxRecDepth 65536 in
set_option maxHeartbeats 40000000 in
theorem rm4a (l : Launch) (Z : State) (a0 : Array Value) (hw : ∀ d ∈ tables_1, d.before a0 Z = true) (ws : List Jvm.Cond) (a1 : Addr) (x : UInt64) (y : UInt64) (i : Int) (j : Int) (w1 : Addr) (h0 : Heap) (n0 : Nat) (Z0 : n0 ≤ h0.size) (F_least_a1 : Fld Z h0 a1 "openum/benchmarks/Target" "least" "D" (.double x)) (F_bound_a1 : Fld Z h0 a1 "openum/benchmarks/Target" "bound" "Lopenum/benchmarks/Target$Bound;" (.ref w1)) (F_limit_a1 : Fld Z h0 a1 "openum/benchmarks/Target" "limit" "D" (.double y)) (S_w1 : Sta Z h0 "openum/benchmarks/Target$Bound" "AT_MOST" "Lopenum/benchmarks/Target$Bound;" (.ref w1)) (d1 : Dy i 0 x) (d2 : Dy j 0 y) :
    MetFree l (⟨"openum/benchmarks/Target", "met", "()Z"⟩ : MethodName) (head1 (Jvm.Cond.code (⟨"openum/benchmarks/Target", "met", "()Z"⟩ : MethodName) prog_7_method_3_code 1 (some .boolean) :: ws) ({ frames := 0, cells := 0, slots := 0, locals := 0 } : Room)) (fun a U => a = #[(.ref a1)] ∧ Z.Warmed39 U.vm ∧ U.heap = h0) (fun _ _ _ _ _ => True) (fun _ U o U' => ∃ v L, o = .returned v ∧ Q4a Z a1 x y i j w1 h0 n0 v U'.heap L ∧ FrameEnd U o U' L ({ frames := 0, cells := 0, slots := 0, locals := 0 } : Room).cells ({ frames := 0, cells := 0, slots := 0, locals := 0 } : Room).slots) := by
  refine MetFree.of_bodySF (plainFor_of_name pn_1) hisR ?_
  intro p e s m args below meth c s₁ Bd hml0 hP hK
  obtain ⟨rfl, hZ, hh⟩ := hP
  have hx := Bd.exec
  have hby := Bd.bytes
  have hml : c.maxLocals = 1 := hml0
  have hown : s.vm.findClass "openum/benchmarks/Target" = some m.cls := findClass_of_methodNamed Bd.named
  have hnm := (name_of_methodNamed Bd.named Bd.method).1
  have X : Stand p l e ({ frames := 0, cells := 0, slots := 0, locals := 0 } : Room) s m #[(.ref a1)] below meth c s₁ [] 0 0 := Stand.of_body Bd
  have eT : s₁.heap = h0 := by rw [← hh, Bd.state]; rfl
  have N := Fr.nil n0
  have K := Keep.refl h0 []
  refine Go.out ?_
  obtain ⟨T, eTT⟩ : ∃ z, z = s₁ := ⟨_, rfl⟩
  rw [← eTT] at X eT ⊢
  refine Go.by (fun tt_ kk_ => castTop (ef_4 m a1) kk_) ?_
  show Go p.tables e below (T.setTop (mkF m 0 #[.val (.ref a1)] [])) _
  refine Go.by (fun tt_ kk_ => XS.aloadN X.here hx rfl (hb hby d4_0) rfl rfl kk_) ?_
  show Go p.tables e below (T.setTop (mkF m 1 #[.val (.ref a1)] [(.ref a1)])) _
  obtain ⟨T, X, eT, st⟩ := getF X hx hZ hown (host := "") (Or.inl (hw _ (List.mem_of_getElem? (i := 31) rfl))) Via.refl eT F_bound_a1 (g := (mkF m 1 #[.val (.ref a1)] [(.ref a1)])) rfl rfl (hb hby d4_1)
  refine Go.by st ?_
  show Go p.tables e below (T.setTop (mkF m 4 #[.val (.ref a1)] [(.ref w1)])) _
  obtain ⟨T, X, eT, st⟩ := getS2 X hx hZ hown (host := "") (Or.inl (hw _ (List.mem_of_getElem? (i := 40) rfl))) Via.refl eT S_w1 (g := (mkF m 4 #[.val (.ref a1)] [(.ref w1)])) rfl (hb hby d4_4)
  refine Go.by st ?_
  show Go p.tables e below (T.setTop (mkF m 7 #[.val (.ref a1)] [(.ref w1), (.ref w1)])) _
  refine Go.by (fun tt_ kk_ => Jvm.RoadKit.acmp (g := (mkF m 7 #[.val (.ref a1)] [(.ref w1), (.ref w1)])) X hx rfl rfl rfl (pc0 := 7) (pc' := 10) (same := true) rfl (hb hby d4_7) rfl (decide_eq_true rfl) (by decide) (by decide) kk_) ?_
  show Go p.tables e below (T.setTop (mkF m 10 #[.val (.ref a1)] [])) _
  refine Go.by (fun tt_ kk_ => XS.aloadN X.here hx rfl (hb hby d4_10) rfl rfl kk_) ?_
  show Go p.tables e below (T.setTop (mkF m 11 #[.val (.ref a1)] [(.ref a1)])) _
  obtain ⟨T, X, eT, st⟩ := getF X hx hZ hown (host := "") (Or.inl (hw _ (List.mem_of_getElem? (i := 29) rfl))) Via.refl eT F_least_a1 (g := (mkF m 11 #[.val (.ref a1)] [(.ref a1)])) rfl rfl (hb hby d4_11)
  refine Go.by st ?_
  show Go p.tables e below (T.setTop (mkF m 14 #[.val (.ref a1)] [(.double x)])) _
  refine Go.by (fun tt_ kk_ => XS.aloadN X.here hx rfl (hb hby d4_14) rfl rfl kk_) ?_
  show Go p.tables e below (T.setTop (mkF m 15 #[.val (.ref a1)] [(.ref a1), (.double x)])) _
  obtain ⟨T, X, eT, st⟩ := getF X hx hZ hown (host := "") (Or.inl (hw _ (List.mem_of_getElem? (i := 33) rfl))) Via.refl eT F_limit_a1 (g := (mkF m 15 #[.val (.ref a1)] [(.ref a1), (.double x)])) rfl rfl (hb hby d4_15)
  refine Go.by st ?_
  show Go p.tables e below (T.setTop (mkF m 18 #[.val (.ref a1)] [(.double y), (.double x)])) _
  refine Go.by (fun tt_ kk_ => XS.dcmpS X.here hx rfl (hb hby d4_18) rfl (d1.cmpV d2 .g) kk_) ?_
  show Go p.tables e below (T.setTop (mkF m 19 #[.val (.ref a1)] [(.int (own_ci i j))])) _
  by_cases hc19 : (0 : Int32) < (own_ci i j)
  · refine Go.by (fun tt_ kk_ => XS.ifYes X.here hx rfl (pc0 := 19) (pc' := 26) rfl (hb hby d4_19) rfl ((if0 _ _).trans (tlt hc19).2.2.1) (by decide) (by decide) kk_) ?_
    show Go p.tables e below (T.setTop (mkF m 26 #[.val (.ref a1)] [])) _
    refine Go.by (fun tt_ kk_ => XS.iconst X.here hx rfl (hb hby d4_26) kk_) ?_
    show Go p.tables e below (T.setTop (mkF m 27 #[.val (.ref a1)] [(.int (0 : Int32))])) _
    refine Go.by (fun tt_ kk_ => XS.goto X.here hx rfl (pc0 := 27) (pc' := 47) rfl (hb hby d4_27) (by decide) (by decide) kk_) ?_
    show Go p.tables e below (T.setTop (mkF m 47 #[.val (.ref a1)] [(.int (0 : Int32))])) _
    exact Go.done X  (v := some (.int (0 : Int32))) (fun h => by rw [Bd.returns] at h; cases h) Bd.notSynchronized (fun fs hr => retN X hx (z := (0 : Int32)) (t := .boolean) Bd.returns (by simp) (hb hby d4_47) hr) (by rw [eT]; exact ⟨by rw [if_neg (Int.not_le.mpr (own_ci_gt.mp hc19))], N, rfl⟩) (by decide) (by decide)
  · refine Go.by (fun tt_ kk_ => XS.ifNo X.here hx rfl (hb hby d4_19) rfl ((if0 _ _).trans (flt hc19).2.2.1) kk_) ?_
    show Go p.tables e below (T.setTop (mkF m 22 #[.val (.ref a1)] [])) _
    refine Go.by (fun tt_ kk_ => XS.iconst X.here hx rfl (hb hby d4_22) kk_) ?_
    show Go p.tables e below (T.setTop (mkF m 23 #[.val (.ref a1)] [(.int (1 : Int32))])) _
    refine Go.by (fun tt_ kk_ => XS.goto X.here hx rfl (pc0 := 23) (pc' := 47) rfl (hb hby d4_23) (by decide) (by decide) kk_) ?_
    show Go p.tables e below (T.setTop (mkF m 47 #[.val (.ref a1)] [(.int (1 : Int32))])) _
    exact Go.done X  (v := some (.int (1 : Int32))) (fun h => by rw [Bd.returns] at h; cases h) Bd.notSynchronized (fun fs hr => retN X hx (z := (1 : Int32)) (t := .boolean) Bd.returns (by simp) (hb hby d4_47) hr) (by rw [eT]; exact ⟨by rw [if_pos (Int.not_lt.mp fun q => hc19 (own_ci_gt.mpr q))], N, rfl⟩) (by decide) (by decide)
def Q4b (Z : State) (a1 : Addr) (x : UInt64) (y : UInt64) (i : Int) (j : Int) (w1 : Addr) (wb : Addr) (h0 : Heap) (n0 : Nat) (v : Option Value) (h : Heap) (L : List Loc) : Prop := v = some (.int (if i < j then 1 else 0)) ∧ Fr n0 L ∧ h = h0
set_option maxRecDepth 65536 in
set_option maxHeartbeats 40000000 in
theorem rm4b (l : Launch) (Z : State) (a0 : Array Value) (hw : ∀ d ∈ tables_1, d.before a0 Z = true) (ws : List Jvm.Cond) (a1 : Addr) (x : UInt64) (y : UInt64) (i : Int) (j : Int) (w1 : Addr) (wb : Addr) (h0 : Heap) (n0 : Nat) (Z0 : n0 ≤ h0.size) (F_least_a1 : Fld Z h0 a1 "openum/benchmarks/Target" "least" "D" (.double x)) (F_bound_a1 : Fld Z h0 a1 "openum/benchmarks/Target" "bound" "Lopenum/benchmarks/Target$Bound;" (.ref wb)) (F_limit_a1 : Fld Z h0 a1 "openum/benchmarks/Target" "limit" "D" (.double y)) (S_w1 : Sta Z h0 "openum/benchmarks/Target$Bound" "AT_MOST" "Lopenum/benchmarks/Target$Bound;" (.ref w1)) (d1 : Dy i 0 x) (d2 : Dy j 0 y) (hne : wb ≠ w1) :
    MetFree l (⟨"openum/benchmarks/Target", "met", "()Z"⟩ : MethodName) (head1 (Jvm.Cond.code (⟨"openum/benchmarks/Target", "met", "()Z"⟩ : MethodName) prog_7_method_3_code 1 (some .boolean) :: ws) ({ frames := 0, cells := 0, slots := 0, locals := 0 } : Room)) (fun a U => a = #[(.ref a1)] ∧ Z.Warmed39 U.vm ∧ U.heap = h0) (fun _ _ _ _ _ => True) (fun _ U o U' => ∃ v L, o = .returned v ∧ Q4b Z a1 x y i j w1 wb h0 n0 v U'.heap L ∧ FrameEnd U o U' L ({ frames := 0, cells := 0, slots := 0, locals := 0 } : Room).cells ({ frames := 0, cells := 0, slots := 0, locals := 0 } : Room).slots) := by
  refine MetFree.of_bodySF (plainFor_of_name pn_1) hisR ?_
  intro p e s m args below meth c s₁ Bd hml0 hP hK
  obtain ⟨rfl, hZ, hh⟩ := hP
  have hx := Bd.exec
  have hby := Bd.bytes
  have hml : c.maxLocals = 1 := hml0
  have hown : s.vm.findClass "openum/benchmarks/Target" = some m.cls := findClass_of_methodNamed Bd.named
  have hnm := (name_of_methodNamed Bd.named Bd.method).1
  have X : Stand p l e ({ frames := 0, cells := 0, slots := 0, locals := 0 } : Room) s m #[(.ref a1)] below meth c s₁ [] 0 0 := Stand.of_body Bd
  have eT : s₁.heap = h0 := by rw [← hh, Bd.state]; rfl
  have N := Fr.nil n0
  have K := Keep.refl h0 []
  refine Go.out ?_
  obtain ⟨T, eTT⟩ : ∃ z, z = s₁ := ⟨_, rfl⟩
  rw [← eTT] at X eT ⊢
  refine Go.by (fun tt_ kk_ => castTop (ef_4 m a1) kk_) ?_
  show Go p.tables e below (T.setTop (mkF m 0 #[.val (.ref a1)] [])) _
  refine Go.by (fun tt_ kk_ => XS.aloadN X.here hx rfl (hb hby d4_0) rfl rfl kk_) ?_
  show Go p.tables e below (T.setTop (mkF m 1 #[.val (.ref a1)] [(.ref a1)])) _
  obtain ⟨T, X, eT, st⟩ := getF X hx hZ hown (host := "") (Or.inl (hw _ (List.mem_of_getElem? (i := 31) rfl))) Via.refl eT F_bound_a1 (g := (mkF m 1 #[.val (.ref a1)] [(.ref a1)])) rfl rfl (hb hby d4_1)
  refine Go.by st ?_
  show Go p.tables e below (T.setTop (mkF m 4 #[.val (.ref a1)] [(.ref wb)])) _
  obtain ⟨T, X, eT, st⟩ := getS2 X hx hZ hown (host := "") (Or.inl (hw _ (List.mem_of_getElem? (i := 40) rfl))) Via.refl eT S_w1 (g := (mkF m 4 #[.val (.ref a1)] [(.ref wb)])) rfl (hb hby d4_4)
  refine Go.by st ?_
  show Go p.tables e below (T.setTop (mkF m 7 #[.val (.ref a1)] [(.ref w1), (.ref wb)])) _
  refine Go.by (fun tt_ kk_ => Jvm.RoadKit.acmp (g := (mkF m 7 #[.val (.ref a1)] [(.ref w1), (.ref wb)])) X hx rfl rfl rfl (pc0 := 7) (pc' := 30) (same := false) rfl (hb hby d4_7) rfl (decide_eq_false fun q => hne (Value.ref.inj q)) (by decide) (by decide) kk_) ?_
  show Go p.tables e below (T.setTop (mkF m 30 #[.val (.ref a1)] [])) _
  refine Go.by (fun tt_ kk_ => XS.aloadN X.here hx rfl (hb hby d4_30) rfl rfl kk_) ?_
  show Go p.tables e below (T.setTop (mkF m 31 #[.val (.ref a1)] [(.ref a1)])) _
  obtain ⟨T, X, eT, st⟩ := getF X hx hZ hown (host := "") (Or.inl (hw _ (List.mem_of_getElem? (i := 29) rfl))) Via.refl eT F_least_a1 (g := (mkF m 31 #[.val (.ref a1)] [(.ref a1)])) rfl rfl (hb hby d4_31)
  refine Go.by st ?_
  show Go p.tables e below (T.setTop (mkF m 34 #[.val (.ref a1)] [(.double x)])) _
  refine Go.by (fun tt_ kk_ => XS.aloadN X.here hx rfl (hb hby d4_34) rfl rfl kk_) ?_
  show Go p.tables e below (T.setTop (mkF m 35 #[.val (.ref a1)] [(.ref a1), (.double x)])) _
  obtain ⟨T, X, eT, st⟩ := getF X hx hZ hown (host := "") (Or.inl (hw _ (List.mem_of_getElem? (i := 33) rfl))) Via.refl eT F_limit_a1 (g := (mkF m 35 #[.val (.ref a1)] [(.ref a1), (.double x)])) rfl rfl (hb hby d4_35)
  refine Go.by st ?_
  show Go p.tables e below (T.setTop (mkF m 38 #[.val (.ref a1)] [(.double y), (.double x)])) _
  refine Go.by (fun tt_ kk_ => XS.dcmpS X.here hx rfl (hb hby d4_38) rfl (d1.cmpV d2 .g) kk_) ?_
  show Go p.tables e below (T.setTop (mkF m 39 #[.val (.ref a1)] [(.int (own_ci i j))])) _
  by_cases hc39 : (own_ci i j) < (0 : Int32)
  · refine Go.by (fun tt_ kk_ => XS.ifNo X.here hx rfl (hb hby d4_39) rfl ((if0 _ _).trans (tlt hc39).2.1) kk_) ?_
    show Go p.tables e below (T.setTop (mkF m 42 #[.val (.ref a1)] [])) _
    refine Go.by (fun tt_ kk_ => XS.iconst X.here hx rfl (hb hby d4_42) kk_) ?_
    show Go p.tables e below (T.setTop (mkF m 43 #[.val (.ref a1)] [(.int (1 : Int32))])) _
    refine Go.by (fun tt_ kk_ => XS.goto X.here hx rfl (pc0 := 43) (pc' := 47) rfl (hb hby d4_43) (by decide) (by decide) kk_) ?_
    show Go p.tables e below (T.setTop (mkF m 47 #[.val (.ref a1)] [(.int (1 : Int32))])) _
    exact Go.done X  (v := some (.int (1 : Int32))) (fun h => by rw [Bd.returns] at h; cases h) Bd.notSynchronized (fun fs hr => retN X hx (z := (1 : Int32)) (t := .boolean) Bd.returns (by simp) (hb hby d4_47) hr) (by rw [eT]; exact ⟨by rw [if_pos (own_ci_lt.mp hc39)], N, rfl⟩) (by decide) (by decide)
  · refine Go.by (fun tt_ kk_ => XS.ifYes X.here hx rfl (pc0 := 39) (pc' := 46) rfl (hb hby d4_39) rfl ((if0 _ _).trans (flt hc39).2.1) (by decide) (by decide) kk_) ?_
    show Go p.tables e below (T.setTop (mkF m 46 #[.val (.ref a1)] [])) _
    refine Go.by (fun tt_ kk_ => XS.iconst X.here hx rfl (hb hby d4_46) kk_) ?_
    show Go p.tables e below (T.setTop (mkF m 47 #[.val (.ref a1)] [(.int (0 : Int32))])) _
    exact Go.done X  (v := some (.int (0 : Int32))) (fun h => by rw [Bd.returns] at h; cases h) Bd.notSynchronized (fun fs hr => retN X hx (z := (0 : Int32)) (t := .boolean) Bd.returns (by simp) (hb hby d4_47) hr) (by rw [eT]; exact ⟨by rw [if_neg (fun q => hc39 (own_ci_lt.mpr q))], N, rfl⟩) (by decide) (by decide)
theorem own_staK {Z : State} {h h' : Heap} {C n d : String} {v : Value} {ws : List Addr} (S : Sta Z h C n d v) (K : Keep h h' ws) (q : ∀ x ∈ ws, ∀ cell : Cell, h[x]? = some cell → cell.vm.isStatics = false) : Sta Z h' C n d v := by
  obtain ⟨cf, i, k, f, st, cell, h1, h2, h3, h4, h5, h6, h7⟩ := S
  exact ⟨cf, i, k, f, st, cell, h1, h2, h3, h4, K.2.1 st cell h5 (fun z => by rw [q st z cell h5] at h6; cases h6), h6, h7⟩
theorem pn_2 : plainName "openum/benchmarks/TargetMetPinLaw" = true := by first | (simp [plainName, overriddenIn]; done) | decide +kernel
theorem pd_1 : parseMethodDescriptor "(Ljava/lang/String;DDLopenum/benchmarks/Target$Bound;D)V" = some ⟨[(.object "java/lang/String"), .double, .double, (.object "openum/benchmarks/Target$Bound"), .double], none⟩ := by decide +kernel
theorem pd_2 : parseMethodDescriptor "()Z" = some ⟨[], some .boolean⟩ := by decide +kernel
theorem ef_0 (m : MethodId) (x0 : Int32) (x1 : Int32) (x2 : Int32) (x3 : Int32) : entryFrame m #[(.int x0), (.int x1), (.int x2), (.int x3)] maxLocals = mkF m 0 #[.val (.int x0), .val (.int x1), .val (.int x2), .val (.int x3), .unset, .unset, .unset, .unset, .unset] [] := by first | (simp [entryFrame, mkF, argsToLocals, Value.category, maxLocals]; done) | rfl
def Q0 (Z : State) (p0 : Int32) (p1 : Int32) (p2 : Int32) (p3 : Int32) (w1 : Addr) (w2 : Addr) (h0 : Heap) (n0 : Nat) (v : Option Value) (h : Heap) (L : List Loc) : Prop := v = some (.int 1) ∧ Fr n0 L
set_option maxRecDepth 65536 in
set_option maxHeartbeats 40000000 in
theorem rm0 (l : Launch) (Z : State) (a0 : Array Value) (hw : ∀ d ∈ tables_1, d.before a0 Z = true) (ws : List Jvm.Cond) (p0 : Int32) (p1 : Int32) (p2 : Int32) (p3 : Int32) (w1 : Addr) (w2 : Addr) (h0 : Heap) (n0 : Nat) (Z0 : n0 ≤ h0.size) (S_w1 : Sta Z h0 "openum/benchmarks/Target$Bound" "AT_MOST" "Lopenum/benchmarks/Target$Bound;" (.ref w1)) (S_w2 : Sta Z h0 "openum/benchmarks/Target$Bound" "BELOW" "Lopenum/benchmarks/Target$Bound;" (.ref w2)) (hne : w2 ≠ w1) :
    MetFree l x (head1 (Jvm.Cond.code x code maxLocals ret :: ws) room_1) (fun a U => a = #[(.int p0), (.int p1), (.int p2), (.int p3)] ∧ Z.Warmed39 U.vm ∧ U.heap = h0) (fun _ _ _ _ _ => True) (fun _ U o U' => ∃ v L, o = .returned v ∧ Q0 Z p0 p1 p2 p3 w1 w2 h0 n0 v U'.heap L ∧ ReturnedEndW U o U' L 16 1152) := by
  refine MetFree.of_bodySF (plainFor_of_name pn_2) hisR ?_
  intro p e s m args below meth c s₁ Bd hml0 hP hK
  obtain ⟨rfl, hZ, hh⟩ := hP
  have hx := Bd.exec
  have hby := Bd.bytes
  have hml : c.maxLocals = 9 := hml0
  have hown : s.vm.findClass "openum/benchmarks/TargetMetPinLaw" = some m.cls := findClass_of_methodNamed Bd.named
  have hnm := (name_of_methodNamed Bd.named Bd.method).1
  have X : Stand p l e room_1 s m #[(.int p0), (.int p1), (.int p2), (.int p3)] below meth c s₁ [] 0 0 := Stand.of_body Bd
  have eT : s₁.heap = h0 := by rw [← hh, Bd.state]; rfl
  have N := Fr.nil n0
  have K := Keep.refl h0 []
  have X : Stand p l e room_1 (s.setVm s.vm) m #[(.int p0), (.int p1), (.int p2), (.int p3)] below meth c s₁ [] 0 0 := X
  have hS : s.Since s.vm h0.size := (State.WarmedH.refl s).since _
  have hk : h0.size ≤ h0.size := Nat.le_refl _
  have hZ : Z.Warmed39 (s.setVm s.vm).vm := hZ
  have hown : (s.setVm s.vm).vm.findClass "openum/benchmarks/TargetMetPinLaw" = some m.cls := hown
  have wS : ∀ a ∈ Bundle.stringAtoms, a.before a0 Z = true := fun a ha => by
    simp only [Bundle.stringAtoms, List.mem_cons, List.not_mem_nil, or_false] at ha
    rcases ha with rfl | rfl | rfl | rfl | rfl | rfl | rfl
    · exact (hw _ (List.mem_of_getElem? (i := 7) rfl))
    · exact (hw _ (List.mem_of_getElem? (i := 8) rfl))
    · exact (hw _ (List.mem_of_getElem? (i := 9) rfl))
    · exact (hw _ (List.mem_of_getElem? (i := 10) rfl))
    · exact (hw _ (List.mem_of_getElem? (i := 11) rfl))
    · exact (hw _ (List.mem_of_getElem? (i := 12) rfl))
    · exact (hw _ (List.mem_of_getElem? (i := 13) rfl))
  refine Go.out ?_
  obtain ⟨T, eTT⟩ : ∃ z, z = s₁ := ⟨_, rfl⟩
  rw [← eTT] at X eT ⊢
  refine Go.by (fun tt_ kk_ => castTop (ef_0 m p0 p1 p2 p3) kk_) ?_
  show Go p.tables e below (T.setTop (mkF m 0 #[.val (.int p0), .val (.int p1), .val (.int p2), .val (.int p3), .unset, .unset, .unset, .unset, .unset] [])) _
  refine Go.by (fun tt_ kk_ => XS.iloadN X.here hx rfl (hb hby at_0) rfl kk_) ?_
  show Go p.tables e below (T.setTop (mkF m 1 #[.val (.int p0), .val (.int p1), .val (.int p2), .val (.int p3), .unset, .unset, .unset, .unset, .unset] [(.int p3)])) _
  refine Go.by (fun tt_ kk_ => XS.iconst X.here hx rfl (hb hby at_1) kk_) ?_
  show Go p.tables e below (T.setTop (mkF m 2 #[.val (.int p0), .val (.int p1), .val (.int p2), .val (.int p3), .unset, .unset, .unset, .unset, .unset] [(.int (1 : Int32)), (.int p3)])) _
  refine Go.by (fun tt_ kk_ => XS.iand X.here hx rfl (hb hby at_2) rfl kk_) ?_
  show Go p.tables e below (T.setTop (mkF m 3 #[.val (.int p0), .val (.int p1), .val (.int p2), .val (.int p3), .unset, .unset, .unset, .unset, .unset] [(.int (p3 &&& (1 : Int32)))])) _
  by_cases hc3 : (p3 &&& (1 : Int32)) = (0 : Int32)
  · refine Go.by (fun tt_ kk_ => XS.ifYes X.here hx rfl (pc0 := 3) (pc' := 10) rfl (hb hby at_3) rfl ((if0 _ _).trans (teq hc3).1) (by decide) (by decide) kk_) ?_
    show Go p.tables e below (T.setTop (mkF m 10 #[.val (.int p0), .val (.int p1), .val (.int p2), .val (.int p3), .unset, .unset, .unset, .unset, .unset] [])) _
    refine Go.by (fun tt_ kk_ => XS.iconst X.here hx rfl (hb hby at_10) kk_) ?_
    show Go p.tables e below (T.setTop (mkF m 11 #[.val (.int p0), .val (.int p1), .val (.int p2), .val (.int p3), .unset, .unset, .unset, .unset, .unset] [(.int (0 : Int32))])) _
    refine Go.by (fun tt_ kk_ => XS.istore X.here hx rfl (hb hby at_11) rfl (l' := #[.val (.int p0), .val (.int p1), .val (.int p2), .val (.int p3), .val (.int (0 : Int32)), .unset, .unset, .unset, .unset]) rfl kk_) ?_
    show Go p.tables e below (T.setTop (mkF m 13 #[.val (.int p0), .val (.int p1), .val (.int p2), .val (.int p3), .val (.int (0 : Int32)), .unset, .unset, .unset, .unset] [])) _
    refine Go.by (fun tt_ kk_ => XS.iloadN X.here hx rfl (hb hby at_13) rfl kk_) ?_
    show Go p.tables e below (T.setTop (mkF m 14 #[.val (.int p0), .val (.int p1), .val (.int p2), .val (.int p3), .val (.int (0 : Int32)), .unset, .unset, .unset, .unset] [(.int p3)])) _
    refine Go.by (fun tt_ kk_ => XS.iconst X.here hx rfl (hb hby at_14) kk_) ?_
    show Go p.tables e below (T.setTop (mkF m 15 #[.val (.int p0), .val (.int p1), .val (.int p2), .val (.int p3), .val (.int (0 : Int32)), .unset, .unset, .unset, .unset] [(.int (2 : Int32)), (.int p3)])) _
    refine Go.by (fun tt_ kk_ => XS.iand X.here hx rfl (hb hby at_15) rfl kk_) ?_
    show Go p.tables e below (T.setTop (mkF m 16 #[.val (.int p0), .val (.int p1), .val (.int p2), .val (.int p3), .val (.int (0 : Int32)), .unset, .unset, .unset, .unset] [(.int (p3 &&& (2 : Int32)))])) _
    by_cases hc16 : (p3 &&& (2 : Int32)) = (0 : Int32)
    · refine Go.by (fun tt_ kk_ => XS.ifYes X.here hx rfl (pc0 := 16) (pc' := 23) rfl (hb hby at_16) rfl ((if0 _ _).trans (teq hc16).1) (by decide) (by decide) kk_) ?_
      show Go p.tables e below (T.setTop (mkF m 23 #[.val (.int p0), .val (.int p1), .val (.int p2), .val (.int p3), .val (.int (0 : Int32)), .unset, .unset, .unset, .unset] [])) _
      refine Go.by (fun tt_ kk_ => XS.iloadN X.here hx rfl (hb hby at_23) rfl kk_) ?_
      show Go p.tables e below (T.setTop (mkF m 24 #[.val (.int p0), .val (.int p1), .val (.int p2), .val (.int p3), .val (.int (0 : Int32)), .unset, .unset, .unset, .unset] [(.int p1)])) _
      refine Go.by (fun tt_ kk_ => XS.istore X.here hx rfl (hb hby at_24) rfl (l' := #[.val (.int p0), .val (.int p1), .val (.int p2), .val (.int p3), .val (.int (0 : Int32)), .val (.int p1), .unset, .unset, .unset]) rfl kk_) ?_
      show Go p.tables e below (T.setTop (mkF m 26 #[.val (.int p0), .val (.int p1), .val (.int p2), .val (.int p3), .val (.int (0 : Int32)), .val (.int p1), .unset, .unset, .unset] [])) _
      refine Go.by (fun tt_ kk_ => XS.iload X.here hx rfl (hb hby at_26) rfl kk_) ?_
      show Go p.tables e below (T.setTop (mkF m 28 #[.val (.int p0), .val (.int p1), .val (.int p2), .val (.int p3), .val (.int (0 : Int32)), .val (.int p1), .unset, .unset, .unset] [(.int (0 : Int32))])) _
      refine Go.by (fun tt_ kk_ => XS.ifYes X.here hx rfl (pc0 := 28) (pc' := 37) rfl (hb hby at_28) rfl ((if0 _ _).trans (teq (rfl : (0 : Int32) = (0 : Int32))).1) (by decide) (by decide) kk_) ?_
      show Go p.tables e below (T.setTop (mkF m 37 #[.val (.int p0), .val (.int p1), .val (.int p2), .val (.int p3), .val (.int (0 : Int32)), .val (.int p1), .unset, .unset, .unset] [])) _
      obtain ⟨T, X, eT, st⟩ := getS2 X hx hZ hown (host := "") (Or.inl (hw _ (List.mem_of_getElem? (i := 41) rfl))) Via.refl eT S_w2 (g := (mkF m 37 #[.val (.int p0), .val (.int p1), .val (.int p2), .val (.int p3), .val (.int (0 : Int32)), .val (.int p1), .unset, .unset, .unset] [])) rfl (hb hby at_37)
      refine Go.by st ?_
      show Go p.tables e below (T.setTop (mkF m 40 #[.val (.int p0), .val (.int p1), .val (.int p2), .val (.int p3), .val (.int (0 : Int32)), .val (.int p1), .unset, .unset, .unset] [(.ref w2)])) _
      refine Go.by (fun tt_ kk_ => XS.astore X.here hx rfl (hb hby at_40) rfl rfl (l' := #[.val (.int p0), .val (.int p1), .val (.int p2), .val (.int p3), .val (.int (0 : Int32)), .val (.int p1), .val (.ref w2), .unset, .unset]) rfl kk_) ?_
      show Go p.tables e below (T.setTop (mkF m 42 #[.val (.int p0), .val (.int p1), .val (.int p2), .val (.int p3), .val (.int (0 : Int32)), .val (.int p1), .val (.ref w2), .unset, .unset] [])) _
      obtain ⟨T, h1, X, eT, E_, A_, D_, -, st⟩ := newO X hx hZ hown (hw _ (List.mem_of_getElem? (i := 3) rfl)) (hw _ (List.mem_of_getElem? (i := 4) rfl)) (hw _ (List.mem_of_getElem? (i := 5) rfl)) eT (g := (mkF m 42 #[.val (.int p0), .val (.int p1), .val (.int p2), .val (.int p3), .val (.int (0 : Int32)), .val (.int p1), .val (.ref w2), .unset, .unset] [])) rfl (hb hby at_42) (by decide) (by decide)
      obtain ⟨b1, g_b1'⟩ : ∃ z, z = h0.size := ⟨_, rfl⟩
      rw [← g_b1'] at A_ D_ st
      have g_b1 : n0 ≤ b1 := Nat.le_trans Z0 (Nat.le_trans K.1 (Nat.le_of_eq g_b1'.symm))
      have sz_b1 : h0.size ≤ b1 := Nat.le_trans K.1 (Nat.le_of_eq g_b1'.symm)
      have K := K.ext E_
      have hk := Nat.le_trans hk E_.1
      have S_w1 := Sta.ext E_ S_w1
      have S_w2 := Sta.ext E_ S_w2
      have E_b1 := A_
      have F_figure_b1 : Fld Z h1 b1 "openum/benchmarks/Target" "figure" "Ljava/lang/String;" .null := D_ (Or.inr (hw _ (List.mem_of_getElem? (i := 26) rfl))) (ty := (.object "java/lang/String")) (by decide)
      have F_measured_b1 : Fld Z h1 b1 "openum/benchmarks/Target" "measured" "D" (.double (0 : UInt64)) := D_ (Or.inr (hw _ (List.mem_of_getElem? (i := 28) rfl))) (ty := .double) (by decide)
      have F_least_b1 : Fld Z h1 b1 "openum/benchmarks/Target" "least" "D" (.double (0 : UInt64)) := D_ (Or.inr (hw _ (List.mem_of_getElem? (i := 30) rfl))) (ty := .double) (by decide)
      have F_bound_b1 : Fld Z h1 b1 "openum/benchmarks/Target" "bound" "Lopenum/benchmarks/Target$Bound;" .null := D_ (Or.inr (hw _ (List.mem_of_getElem? (i := 32) rfl))) (ty := (.object "openum/benchmarks/Target$Bound")) (by decide)
      have F_limit_b1 : Fld Z h1 b1 "openum/benchmarks/Target" "limit" "D" (.double (0 : UInt64)) := D_ (Or.inr (hw _ (List.mem_of_getElem? (i := 34) rfl))) (ty := .double) (by decide)
      refine Go.by st ?_
      show Go p.tables e below (T.setTop (mkF m 45 #[.val (.int p0), .val (.int p1), .val (.int p2), .val (.int p3), .val (.int (0 : Int32)), .val (.int p1), .val (.ref w2), .unset, .unset] [(.ref b1)])) _
      refine Go.by (fun tt_ kk_ => XS.dup X.here hx rfl (hb hby at_45) rfl rfl kk_) ?_
      show Go p.tables e below (T.setTop (mkF m 46 #[.val (.int p0), .val (.int p1), .val (.int p2), .val (.int p3), .val (.int (0 : Int32)), .val (.int p1), .val (.ref w2), .unset, .unset] [(.ref b1), (.ref b1)])) _
      obtain ⟨a3, T, h2, k1_, X, eT, E_, hS, hk, hZ, hown, st⟩ := ldcS X hx hZ hown (hw _ (List.mem_of_getElem? (i := 6) rfl)) wS eT hS hk (g := (mkF m 46 #[.val (.int p0), .val (.int p1), .val (.int p2), .val (.int p3), .val (.int (0 : Int32)), .val (.int p1), .val (.ref w2), .unset, .unset] [(.ref b1), (.ref b1)])) rfl (hb hby at_46) (n := 4) (by decide) (by decide) (by decide) (by decide)
      have S_w1 := Sta.ext E_ S_w1
      have S_w2 := Sta.ext E_ S_w2
      have E_b1 := Exa.ext E_ E_b1
      have F_figure_b1 := Fld.ext E_ F_figure_b1
      have F_measured_b1 := Fld.ext E_ F_measured_b1
      have F_least_b1 := Fld.ext E_ F_least_b1
      have F_bound_b1 := Fld.ext E_ F_bound_b1
      have F_limit_b1 := Fld.ext E_ F_limit_b1
      have K := K.ext E_
      refine Go.by st ?_
      show Go p.tables e below (T.setTop (mkF m 48 #[.val (.int p0), .val (.int p1), .val (.int p2), .val (.int p3), .val (.int (0 : Int32)), .val (.int p1), .val (.ref w2), .unset, .unset] [(.ref a3), (.ref b1), (.ref b1)])) _
      refine Go.by (fun tt_ kk_ => XS.iloadN X.here hx rfl (hb hby at_48) rfl kk_) ?_
      show Go p.tables e below (T.setTop (mkF m 49 #[.val (.int p0), .val (.int p1), .val (.int p2), .val (.int p3), .val (.int (0 : Int32)), .val (.int p1), .val (.ref w2), .unset, .unset] [(.int p2), (.ref a3), (.ref b1), (.ref b1)])) _
      refine Go.by (fun tt_ kk_ => XS.i2dS X.here hx rfl (hb hby at_49) rfl rfl kk_) ?_
      show Go p.tables e below (T.setTop (mkF m 50 #[.val (.int p0), .val (.int p1), .val (.int p2), .val (.int p3), .val (.int (0 : Int32)), .val (.int p1), .val (.ref w2), .unset, .unset] [(.double (FP.i2d p2)), (.ref a3), (.ref b1), (.ref b1)])) _
      refine Go.by (fun tt_ kk_ => XS.iloadN X.here hx rfl (hb hby at_50) rfl kk_) ?_
      show Go p.tables e below (T.setTop (mkF m 51 #[.val (.int p0), .val (.int p1), .val (.int p2), .val (.int p3), .val (.int (0 : Int32)), .val (.int p1), .val (.ref w2), .unset, .unset] [(.int p0), (.double (FP.i2d p2)), (.ref a3), (.ref b1), (.ref b1)])) _
      refine Go.by (fun tt_ kk_ => XS.i2dS X.here hx rfl (hb hby at_51) rfl rfl kk_) ?_
      show Go p.tables e below (T.setTop (mkF m 52 #[.val (.int p0), .val (.int p1), .val (.int p2), .val (.int p3), .val (.int (0 : Int32)), .val (.int p1), .val (.ref w2), .unset, .unset] [(.double (FP.i2d p0)), (.double (FP.i2d p2)), (.ref a3), (.ref b1), (.ref b1)])) _
      refine Go.by (fun tt_ kk_ => XS.aload X.here hx rfl (hb hby at_52) rfl rfl kk_) ?_
      show Go p.tables e below (T.setTop (mkF m 54 #[.val (.int p0), .val (.int p1), .val (.int p2), .val (.int p3), .val (.int (0 : Int32)), .val (.int p1), .val (.ref w2), .unset, .unset] [(.ref w2), (.double (FP.i2d p0)), (.double (FP.i2d p2)), (.ref a3), (.ref b1), (.ref b1)])) _
      refine Go.by (fun tt_ kk_ => XS.iload X.here hx rfl (hb hby at_54) rfl kk_) ?_
      show Go p.tables e below (T.setTop (mkF m 56 #[.val (.int p0), .val (.int p1), .val (.int p2), .val (.int p3), .val (.int (0 : Int32)), .val (.int p1), .val (.ref w2), .unset, .unset] [(.int p1), (.ref w2), (.double (FP.i2d p0)), (.double (FP.i2d p2)), (.ref a3), (.ref b1), (.ref b1)])) _
      refine Go.by (fun tt_ kk_ => XS.i2dS X.here hx rfl (hb hby at_56) rfl rfl kk_) ?_
      show Go p.tables e below (T.setTop (mkF m 57 #[.val (.int p0), .val (.int p1), .val (.int p2), .val (.int p3), .val (.int (0 : Int32)), .val (.int p1), .val (.ref w2), .unset, .unset] [(.double (FP.i2d p1)), (.ref w2), (.double (FP.i2d p0)), (.double (FP.i2d p2)), (.ref a3), (.ref b1), (.ref b1)])) _
      obtain ⟨_, _, ⟨T, L_, k_, n_⟩, -, X, ⟨Lc_, hQ, l_, y_, z_⟩, st⟩ := X.specialBack hx (y := (⟨"openum/benchmarks/Target", "<init>", "(Ljava/lang/String;DDLopenum/benchmarks/Target$Bound;D)V"⟩ : MethodName)) rfl hown (mvT hZ (hw _ (List.mem_of_getElem? (i := 14) rfl))) (mvT hZ (hw _ (List.mem_of_getElem? (i := 15) rfl))) (mvT hZ (hw _ (List.mem_of_getElem? (i := 16) rfl))) (by decide) (backOf (W := 1) (rm1 l Z a0 hw [] b1 a3 (FP.i2d p2) (FP.i2d p0) w2 (FP.i2d p1) h2 n0 (Nat.le_trans Z0 K.1) E_b1 g_b1 F_figure_b1 F_measured_b1 F_least_b1 F_bound_b1 F_limit_b1) hZ (hw _ (List.mem_of_getElem? (i := 16) rfl)) (hw _ (List.mem_of_getElem? (i := 5) rfl)) (by decide) (by decide)) (g := (mkF m 57 #[.val (.int p0), .val (.int p1), .val (.int p2), .val (.int p3), .val (.int (0 : Int32)), .val (.int p1), .val (.ref w2), .unset, .unset] [(.double (FP.i2d p1)), (.ref w2), (.double (FP.i2d p0)), (.double (FP.i2d p2)), (.ref a3), (.ref b1), (.ref b1)])) rfl (by rw [hml]; rfl) (Steps.refl _) (a := b1) (argsL := [(.ref a3), (.double (FP.i2d p2)), (.double (FP.i2d p0)), (.ref w2), (.double (FP.i2d p1))]) (rest := [(.ref b1)]) (lenOf pd_1 rfl) rfl (by show 2 * 0 + _ ≤ _; exact Nat.le_of_eq rfl) (hb hby at_57) (fun _ _ => ⟨rfl, eT, (by decide : 3 + 0 ≤ _), (by decide : 13 + 0 ≤ _)⟩)
      dsimp only [Pt.U, Pt.locs, Pt.cells, Pt.slots] at X l_ y_ z_ st hQ
      subst l_ y_ z_
      obtain ⟨h4, eT⟩ : ∃ z, T.heap = z := ⟨_, rfl⟩
      rw [eT] at hQ
      obtain ⟨rfl, Nq, Kq, Eq_, Fq1, Fq2, Fq3⟩ := hQ
      have N := Fr.app N Nq
      have S_w1 := own_staK S_w1 Kq (allS (fun cell hc => old_plain F_least_b1 cell hc) all0)
      have S_w2 := own_staK S_w2 Kq (allS (fun cell hc => old_plain F_least_b1 cell hc) all0)
      have E_b1 := Eq_
      have F_least_b1 := Fq1
      have F_bound_b1 := Fq2
      have F_limit_b1 := Fq3
      have K := K.trans Kq (allS (Or.inr sz_b1) all0)
      have hk := Nat.le_trans hk Kq.1
      refine Go.tr st ?_
      show Go p.tables e below (T.setTop (mkF m 60 #[.val (.int p0), .val (.int p1), .val (.int p2), .val (.int p3), .val (.int (0 : Int32)), .val (.int p1), .val (.ref w2), .unset, .unset] [(.ref b1)])) _
      refine Go.by (fun tt_ kk_ => XS.astore X.here hx rfl (hb hby at_60) rfl rfl (l' := #[.val (.int p0), .val (.int p1), .val (.int p2), .val (.int p3), .val (.int (0 : Int32)), .val (.int p1), .val (.ref w2), .val (.ref b1), .unset]) rfl kk_) ?_
      show Go p.tables e below (T.setTop (mkF m 62 #[.val (.int p0), .val (.int p1), .val (.int p2), .val (.int p3), .val (.int (0 : Int32)), .val (.int p1), .val (.ref w2), .val (.ref b1), .unset] [])) _
      refine Go.by (fun tt_ kk_ => XS.iload X.here hx rfl (hb hby at_62) rfl kk_) ?_
      show Go p.tables e below (T.setTop (mkF m 64 #[.val (.int p0), .val (.int p1), .val (.int p2), .val (.int p3), .val (.int (0 : Int32)), .val (.int p1), .val (.ref w2), .val (.ref b1), .unset] [(.int (0 : Int32))])) _
      refine Go.by (fun tt_ kk_ => XS.ifYes X.here hx rfl (pc0 := 64) (pc' := 81) rfl (hb hby at_64) rfl ((if0 _ _).trans (teq (rfl : (0 : Int32) = (0 : Int32))).1) (by decide) (by decide) kk_) ?_
      show Go p.tables e below (T.setTop (mkF m 81 #[.val (.int p0), .val (.int p1), .val (.int p2), .val (.int p3), .val (.int (0 : Int32)), .val (.int p1), .val (.ref w2), .val (.ref b1), .unset] [])) _
      refine Go.by (fun tt_ kk_ => XS.iloadN X.here hx rfl (hb hby at_81) rfl kk_) ?_
      show Go p.tables e below (T.setTop (mkF m 82 #[.val (.int p0), .val (.int p1), .val (.int p2), .val (.int p3), .val (.int (0 : Int32)), .val (.int p1), .val (.ref w2), .val (.ref b1), .unset] [(.int p0)])) _
      refine Go.by (fun tt_ kk_ => XS.iload X.here hx rfl (hb hby at_82) rfl kk_) ?_
      show Go p.tables e below (T.setTop (mkF m 84 #[.val (.int p0), .val (.int p1), .val (.int p2), .val (.int p3), .val (.int (0 : Int32)), .val (.int p1), .val (.ref w2), .val (.ref b1), .unset] [(.int p1), (.int p0)])) _
      by_cases hc84 : p0 < p1
      · refine Go.by (fun tt_ kk_ => XS.icmpNo X.here hx rfl (hb hby at_84) rfl (tlt hc84).2.1 kk_) ?_
        show Go p.tables e below (T.setTop (mkF m 87 #[.val (.int p0), .val (.int p1), .val (.int p2), .val (.int p3), .val (.int (0 : Int32)), .val (.int p1), .val (.ref w2), .val (.ref b1), .unset] [])) _
        refine Go.by (fun tt_ kk_ => XS.iconst X.here hx rfl (hb hby at_87) kk_) ?_
        show Go p.tables e below (T.setTop (mkF m 88 #[.val (.int p0), .val (.int p1), .val (.int p2), .val (.int p3), .val (.int (0 : Int32)), .val (.int p1), .val (.ref w2), .val (.ref b1), .unset] [(.int (1 : Int32))])) _
        refine Go.by (fun tt_ kk_ => XS.goto X.here hx rfl (pc0 := 88) (pc' := 92) rfl (hb hby at_88) (by decide) (by decide) kk_) ?_
        show Go p.tables e below (T.setTop (mkF m 92 #[.val (.int p0), .val (.int p1), .val (.int p2), .val (.int p3), .val (.int (0 : Int32)), .val (.int p1), .val (.ref w2), .val (.ref b1), .unset] [(.int (1 : Int32))])) _
        refine Go.by (fun tt_ kk_ => XS.istore X.here hx rfl (hb hby at_92) rfl (l' := #[.val (.int p0), .val (.int p1), .val (.int p2), .val (.int p3), .val (.int (0 : Int32)), .val (.int p1), .val (.ref w2), .val (.ref b1), .val (.int (1 : Int32))]) rfl kk_) ?_
        show Go p.tables e below (T.setTop (mkF m 94 #[.val (.int p0), .val (.int p1), .val (.int p2), .val (.int p3), .val (.int (0 : Int32)), .val (.int p1), .val (.ref w2), .val (.ref b1), .val (.int (1 : Int32))] [])) _
        refine Go.by (fun tt_ kk_ => XS.aload X.here hx rfl (hb hby at_94) rfl rfl kk_) ?_
        show Go p.tables e below (T.setTop (mkF m 96 #[.val (.int p0), .val (.int p1), .val (.int p2), .val (.int p3), .val (.int (0 : Int32)), .val (.int p1), .val (.ref w2), .val (.ref b1), .val (.int (1 : Int32))] [(.ref b1)])) _
        have hz : (if p0.toInt < p1.toInt then (1 : Int32) else 0) = (1 : Int32) := if_pos (Int32.lt_iff_toInt_lt.mp hc84)
        obtain ⟨cq_, kq_, qa_, qb_, qc_⟩ := isOf hZ eT E_b1
        obtain ⟨_, _, ⟨T, L_, k_, n_⟩, -, X, ⟨Lc_, hQ, l_, y_, z_⟩, st⟩ := X.virtualBack hx (y := (⟨"openum/benchmarks/Target", "met", "()Z"⟩ : MethodName)) (z := (⟨"openum/benchmarks/Target", "met", "()Z"⟩ : MethodName)) hown (mvT hZ (hw _ (List.mem_of_getElem? (i := 35) rfl))) (mvT hZ (hw _ (List.mem_of_getElem? (i := 36) rfl))) (notFace_of_selects (args := #[]) (mvT hZ (hw _ (List.mem_of_getElem? (i := 38) rfl)))) (mvT hZ (hw _ (List.mem_of_getElem? (i := 38) rfl))) (mvT hZ (hw _ (List.mem_of_getElem? (i := 37) rfl))) (by decide) (backOf (W := 0) (rm4b l Z a0 hw [] b1 (FP.i2d p0) (FP.i2d p1) p0.toInt p1.toInt w1 w2 h4 n0 (Nat.le_trans Z0 K.1) F_least_b1 F_bound_b1 F_limit_b1 S_w1 (Dy.i2d p0) (Dy.i2d p1) hne) hZ (hw _ (List.mem_of_getElem? (i := 39) rfl)) (hw _ (List.mem_of_getElem? (i := 5) rfl)) (by decide) (by decide)) qa_ qc_ (g := (mkF m 96 #[.val (.int p0), .val (.int p1), .val (.int p2), .val (.int p3), .val (.int (0 : Int32)), .val (.int p1), .val (.ref w2), .val (.ref b1), .val (.int (1 : Int32))] [(.ref b1)])) rfl (by rw [hml]; rfl) (Steps.refl _) (argsL := []) (rest := []) (lenOf pd_2 rfl) rfl (by show 2 * 0 + _ ≤ _; exact Nat.le_of_eq rfl) (hb hby at_96) (fun _ _ => ⟨rfl, eT, (by decide : 3 + 0 ≤ _), (by decide : 13 + 0 ≤ _)⟩)
        dsimp only [Pt.U, Pt.locs, Pt.cells, Pt.slots] at X l_ y_ z_ st hQ
        subst l_ y_ z_
        obtain ⟨e_v, Nq, eh⟩ := hQ
        rw [hz] at e_v
        subst e_v
        have N := Fr.app N Nq
        have eT := eh
        refine Go.tr st ?_
        show Go p.tables e below (T.setTop (mkF m 99 #[.val (.int p0), .val (.int p1), .val (.int p2), .val (.int p3), .val (.int (0 : Int32)), .val (.int p1), .val (.ref w2), .val (.ref b1), .val (.int (1 : Int32))] [(.int (1 : Int32))])) _
        refine Go.by (fun tt_ kk_ => XS.iload X.here hx rfl (hb hby at_99) rfl kk_) ?_
        show Go p.tables e below (T.setTop (mkF m 101 #[.val (.int p0), .val (.int p1), .val (.int p2), .val (.int p3), .val (.int (0 : Int32)), .val (.int p1), .val (.ref w2), .val (.ref b1), .val (.int (1 : Int32))] [(.int (1 : Int32)), (.int (1 : Int32))])) _
        refine Go.by (fun tt_ kk_ => XS.icmpNo X.here hx rfl (hb hby at_101) rfl (teq (rfl : (1 : Int32) = (1 : Int32))).2 kk_) ?_
        show Go p.tables e below (T.setTop (mkF m 104 #[.val (.int p0), .val (.int p1), .val (.int p2), .val (.int p3), .val (.int (0 : Int32)), .val (.int p1), .val (.ref w2), .val (.ref b1), .val (.int (1 : Int32))] [])) _
        refine Go.by (fun tt_ kk_ => XS.iconst X.here hx rfl (hb hby at_104) kk_) ?_
        show Go p.tables e below (T.setTop (mkF m 105 #[.val (.int p0), .val (.int p1), .val (.int p2), .val (.int p3), .val (.int (0 : Int32)), .val (.int p1), .val (.ref w2), .val (.ref b1), .val (.int (1 : Int32))] [(.int (1 : Int32))])) _
        refine Go.by (fun tt_ kk_ => XS.goto X.here hx rfl (pc0 := 105) (pc' := 109) rfl (hb hby at_105) (by decide) (by decide) kk_) ?_
        show Go p.tables e below (T.setTop (mkF m 109 #[.val (.int p0), .val (.int p1), .val (.int p2), .val (.int p3), .val (.int (0 : Int32)), .val (.int p1), .val (.ref w2), .val (.ref b1), .val (.int (1 : Int32))] [(.int (1 : Int32))])) _
        exact Go.doneW X hS (by rw [eT]; exact hk) (v := some (.int (1 : Int32))) (fun h => by rw [Bd.returns] at h; cases h) Bd.notSynchronized (fun fs hr => retN X hx (z := (1 : Int32)) (t := .boolean) Bd.returns (by simp) (hb hby at_109) hr) (by rw [eT]; exact ⟨rfl, N⟩) (by decide) (by decide)
      · refine Go.by (fun tt_ kk_ => XS.icmpYes X.here hx rfl (pc0 := 84) (pc' := 91) rfl (hb hby at_84) rfl (flt hc84).2.1 (by decide) (by decide) kk_) ?_
        show Go p.tables e below (T.setTop (mkF m 91 #[.val (.int p0), .val (.int p1), .val (.int p2), .val (.int p3), .val (.int (0 : Int32)), .val (.int p1), .val (.ref w2), .val (.ref b1), .unset] [])) _
        refine Go.by (fun tt_ kk_ => XS.iconst X.here hx rfl (hb hby at_91) kk_) ?_
        show Go p.tables e below (T.setTop (mkF m 92 #[.val (.int p0), .val (.int p1), .val (.int p2), .val (.int p3), .val (.int (0 : Int32)), .val (.int p1), .val (.ref w2), .val (.ref b1), .unset] [(.int (0 : Int32))])) _
        refine Go.by (fun tt_ kk_ => XS.istore X.here hx rfl (hb hby at_92) rfl (l' := #[.val (.int p0), .val (.int p1), .val (.int p2), .val (.int p3), .val (.int (0 : Int32)), .val (.int p1), .val (.ref w2), .val (.ref b1), .val (.int (0 : Int32))]) rfl kk_) ?_
        show Go p.tables e below (T.setTop (mkF m 94 #[.val (.int p0), .val (.int p1), .val (.int p2), .val (.int p3), .val (.int (0 : Int32)), .val (.int p1), .val (.ref w2), .val (.ref b1), .val (.int (0 : Int32))] [])) _
        refine Go.by (fun tt_ kk_ => XS.aload X.here hx rfl (hb hby at_94) rfl rfl kk_) ?_
        show Go p.tables e below (T.setTop (mkF m 96 #[.val (.int p0), .val (.int p1), .val (.int p2), .val (.int p3), .val (.int (0 : Int32)), .val (.int p1), .val (.ref w2), .val (.ref b1), .val (.int (0 : Int32))] [(.ref b1)])) _
        have hz : (if p0.toInt < p1.toInt then (1 : Int32) else 0) = (0 : Int32) := if_neg (fun q => hc84 (Int32.lt_iff_toInt_lt.mpr q))
        obtain ⟨cq_, kq_, qa_, qb_, qc_⟩ := isOf hZ eT E_b1
        obtain ⟨_, _, ⟨T, L_, k_, n_⟩, -, X, ⟨Lc_, hQ, l_, y_, z_⟩, st⟩ := X.virtualBack hx (y := (⟨"openum/benchmarks/Target", "met", "()Z"⟩ : MethodName)) (z := (⟨"openum/benchmarks/Target", "met", "()Z"⟩ : MethodName)) hown (mvT hZ (hw _ (List.mem_of_getElem? (i := 35) rfl))) (mvT hZ (hw _ (List.mem_of_getElem? (i := 36) rfl))) (notFace_of_selects (args := #[]) (mvT hZ (hw _ (List.mem_of_getElem? (i := 38) rfl)))) (mvT hZ (hw _ (List.mem_of_getElem? (i := 38) rfl))) (mvT hZ (hw _ (List.mem_of_getElem? (i := 37) rfl))) (by decide) (backOf (W := 0) (rm4b l Z a0 hw [] b1 (FP.i2d p0) (FP.i2d p1) p0.toInt p1.toInt w1 w2 h4 n0 (Nat.le_trans Z0 K.1) F_least_b1 F_bound_b1 F_limit_b1 S_w1 (Dy.i2d p0) (Dy.i2d p1) hne) hZ (hw _ (List.mem_of_getElem? (i := 39) rfl)) (hw _ (List.mem_of_getElem? (i := 5) rfl)) (by decide) (by decide)) qa_ qc_ (g := (mkF m 96 #[.val (.int p0), .val (.int p1), .val (.int p2), .val (.int p3), .val (.int (0 : Int32)), .val (.int p1), .val (.ref w2), .val (.ref b1), .val (.int (0 : Int32))] [(.ref b1)])) rfl (by rw [hml]; rfl) (Steps.refl _) (argsL := []) (rest := []) (lenOf pd_2 rfl) rfl (by show 2 * 0 + _ ≤ _; exact Nat.le_of_eq rfl) (hb hby at_96) (fun _ _ => ⟨rfl, eT, (by decide : 3 + 0 ≤ _), (by decide : 13 + 0 ≤ _)⟩)
        dsimp only [Pt.U, Pt.locs, Pt.cells, Pt.slots] at X l_ y_ z_ st hQ
        subst l_ y_ z_
        obtain ⟨e_v, Nq, eh⟩ := hQ
        rw [hz] at e_v
        subst e_v
        have N := Fr.app N Nq
        have eT := eh
        refine Go.tr st ?_
        show Go p.tables e below (T.setTop (mkF m 99 #[.val (.int p0), .val (.int p1), .val (.int p2), .val (.int p3), .val (.int (0 : Int32)), .val (.int p1), .val (.ref w2), .val (.ref b1), .val (.int (0 : Int32))] [(.int (0 : Int32))])) _
        refine Go.by (fun tt_ kk_ => XS.iload X.here hx rfl (hb hby at_99) rfl kk_) ?_
        show Go p.tables e below (T.setTop (mkF m 101 #[.val (.int p0), .val (.int p1), .val (.int p2), .val (.int p3), .val (.int (0 : Int32)), .val (.int p1), .val (.ref w2), .val (.ref b1), .val (.int (0 : Int32))] [(.int (0 : Int32)), (.int (0 : Int32))])) _
        refine Go.by (fun tt_ kk_ => XS.icmpNo X.here hx rfl (hb hby at_101) rfl (teq (rfl : (0 : Int32) = (0 : Int32))).2 kk_) ?_
        show Go p.tables e below (T.setTop (mkF m 104 #[.val (.int p0), .val (.int p1), .val (.int p2), .val (.int p3), .val (.int (0 : Int32)), .val (.int p1), .val (.ref w2), .val (.ref b1), .val (.int (0 : Int32))] [])) _
        refine Go.by (fun tt_ kk_ => XS.iconst X.here hx rfl (hb hby at_104) kk_) ?_
        show Go p.tables e below (T.setTop (mkF m 105 #[.val (.int p0), .val (.int p1), .val (.int p2), .val (.int p3), .val (.int (0 : Int32)), .val (.int p1), .val (.ref w2), .val (.ref b1), .val (.int (0 : Int32))] [(.int (1 : Int32))])) _
        refine Go.by (fun tt_ kk_ => XS.goto X.here hx rfl (pc0 := 105) (pc' := 109) rfl (hb hby at_105) (by decide) (by decide) kk_) ?_
        show Go p.tables e below (T.setTop (mkF m 109 #[.val (.int p0), .val (.int p1), .val (.int p2), .val (.int p3), .val (.int (0 : Int32)), .val (.int p1), .val (.ref w2), .val (.ref b1), .val (.int (0 : Int32))] [(.int (1 : Int32))])) _
        exact Go.doneW X hS (by rw [eT]; exact hk) (v := some (.int (1 : Int32))) (fun h => by rw [Bd.returns] at h; cases h) Bd.notSynchronized (fun fs hr => retN X hx (z := (1 : Int32)) (t := .boolean) Bd.returns (by simp) (hb hby at_109) hr) (by rw [eT]; exact ⟨rfl, N⟩) (by decide) (by decide)
    · refine Go.by (fun tt_ kk_ => XS.ifNo X.here hx rfl (hb hby at_16) rfl ((if0 _ _).trans (feq hc16).1) kk_) ?_
      show Go p.tables e below (T.setTop (mkF m 19 #[.val (.int p0), .val (.int p1), .val (.int p2), .val (.int p3), .val (.int (0 : Int32)), .unset, .unset, .unset, .unset] [])) _
      refine Go.by (fun tt_ kk_ => XS.iloadN X.here hx rfl (hb hby at_19) rfl kk_) ?_
      show Go p.tables e below (T.setTop (mkF m 20 #[.val (.int p0), .val (.int p1), .val (.int p2), .val (.int p3), .val (.int (0 : Int32)), .unset, .unset, .unset, .unset] [(.int p0)])) _
      refine Go.by (fun tt_ kk_ => XS.goto X.here hx rfl (pc0 := 20) (pc' := 24) rfl (hb hby at_20) (by decide) (by decide) kk_) ?_
      show Go p.tables e below (T.setTop (mkF m 24 #[.val (.int p0), .val (.int p1), .val (.int p2), .val (.int p3), .val (.int (0 : Int32)), .unset, .unset, .unset, .unset] [(.int p0)])) _
      refine Go.by (fun tt_ kk_ => XS.istore X.here hx rfl (hb hby at_24) rfl (l' := #[.val (.int p0), .val (.int p1), .val (.int p2), .val (.int p3), .val (.int (0 : Int32)), .val (.int p0), .unset, .unset, .unset]) rfl kk_) ?_
      show Go p.tables e below (T.setTop (mkF m 26 #[.val (.int p0), .val (.int p1), .val (.int p2), .val (.int p3), .val (.int (0 : Int32)), .val (.int p0), .unset, .unset, .unset] [])) _
      refine Go.by (fun tt_ kk_ => XS.iload X.here hx rfl (hb hby at_26) rfl kk_) ?_
      show Go p.tables e below (T.setTop (mkF m 28 #[.val (.int p0), .val (.int p1), .val (.int p2), .val (.int p3), .val (.int (0 : Int32)), .val (.int p0), .unset, .unset, .unset] [(.int (0 : Int32))])) _
      refine Go.by (fun tt_ kk_ => XS.ifYes X.here hx rfl (pc0 := 28) (pc' := 37) rfl (hb hby at_28) rfl ((if0 _ _).trans (teq (rfl : (0 : Int32) = (0 : Int32))).1) (by decide) (by decide) kk_) ?_
      show Go p.tables e below (T.setTop (mkF m 37 #[.val (.int p0), .val (.int p1), .val (.int p2), .val (.int p3), .val (.int (0 : Int32)), .val (.int p0), .unset, .unset, .unset] [])) _
      obtain ⟨T, X, eT, st⟩ := getS2 X hx hZ hown (host := "") (Or.inl (hw _ (List.mem_of_getElem? (i := 41) rfl))) Via.refl eT S_w2 (g := (mkF m 37 #[.val (.int p0), .val (.int p1), .val (.int p2), .val (.int p3), .val (.int (0 : Int32)), .val (.int p0), .unset, .unset, .unset] [])) rfl (hb hby at_37)
      refine Go.by st ?_
      show Go p.tables e below (T.setTop (mkF m 40 #[.val (.int p0), .val (.int p1), .val (.int p2), .val (.int p3), .val (.int (0 : Int32)), .val (.int p0), .unset, .unset, .unset] [(.ref w2)])) _
      refine Go.by (fun tt_ kk_ => XS.astore X.here hx rfl (hb hby at_40) rfl rfl (l' := #[.val (.int p0), .val (.int p1), .val (.int p2), .val (.int p3), .val (.int (0 : Int32)), .val (.int p0), .val (.ref w2), .unset, .unset]) rfl kk_) ?_
      show Go p.tables e below (T.setTop (mkF m 42 #[.val (.int p0), .val (.int p1), .val (.int p2), .val (.int p3), .val (.int (0 : Int32)), .val (.int p0), .val (.ref w2), .unset, .unset] [])) _
      obtain ⟨T, h7, X, eT, E_, A_, D_, -, st⟩ := newO X hx hZ hown (hw _ (List.mem_of_getElem? (i := 3) rfl)) (hw _ (List.mem_of_getElem? (i := 4) rfl)) (hw _ (List.mem_of_getElem? (i := 5) rfl)) eT (g := (mkF m 42 #[.val (.int p0), .val (.int p1), .val (.int p2), .val (.int p3), .val (.int (0 : Int32)), .val (.int p0), .val (.ref w2), .unset, .unset] [])) rfl (hb hby at_42) (by decide) (by decide)
      obtain ⟨b7, g_b7'⟩ : ∃ z, z = h0.size := ⟨_, rfl⟩
      rw [← g_b7'] at A_ D_ st
      have g_b7 : n0 ≤ b7 := Nat.le_trans Z0 (Nat.le_trans K.1 (Nat.le_of_eq g_b7'.symm))
      have sz_b7 : h0.size ≤ b7 := Nat.le_trans K.1 (Nat.le_of_eq g_b7'.symm)
      have K := K.ext E_
      have hk := Nat.le_trans hk E_.1
      have S_w1 := Sta.ext E_ S_w1
      have S_w2 := Sta.ext E_ S_w2
      have E_b7 := A_
      have F_figure_b7 : Fld Z h7 b7 "openum/benchmarks/Target" "figure" "Ljava/lang/String;" .null := D_ (Or.inr (hw _ (List.mem_of_getElem? (i := 26) rfl))) (ty := (.object "java/lang/String")) (by decide)
      have F_measured_b7 : Fld Z h7 b7 "openum/benchmarks/Target" "measured" "D" (.double (0 : UInt64)) := D_ (Or.inr (hw _ (List.mem_of_getElem? (i := 28) rfl))) (ty := .double) (by decide)
      have F_least_b7 : Fld Z h7 b7 "openum/benchmarks/Target" "least" "D" (.double (0 : UInt64)) := D_ (Or.inr (hw _ (List.mem_of_getElem? (i := 30) rfl))) (ty := .double) (by decide)
      have F_bound_b7 : Fld Z h7 b7 "openum/benchmarks/Target" "bound" "Lopenum/benchmarks/Target$Bound;" .null := D_ (Or.inr (hw _ (List.mem_of_getElem? (i := 32) rfl))) (ty := (.object "openum/benchmarks/Target$Bound")) (by decide)
      have F_limit_b7 : Fld Z h7 b7 "openum/benchmarks/Target" "limit" "D" (.double (0 : UInt64)) := D_ (Or.inr (hw _ (List.mem_of_getElem? (i := 34) rfl))) (ty := .double) (by decide)
      refine Go.by st ?_
      show Go p.tables e below (T.setTop (mkF m 45 #[.val (.int p0), .val (.int p1), .val (.int p2), .val (.int p3), .val (.int (0 : Int32)), .val (.int p0), .val (.ref w2), .unset, .unset] [(.ref b7)])) _
      refine Go.by (fun tt_ kk_ => XS.dup X.here hx rfl (hb hby at_45) rfl rfl kk_) ?_
      show Go p.tables e below (T.setTop (mkF m 46 #[.val (.int p0), .val (.int p1), .val (.int p2), .val (.int p3), .val (.int (0 : Int32)), .val (.int p0), .val (.ref w2), .unset, .unset] [(.ref b7), (.ref b7)])) _
      obtain ⟨a9, T, h8, k1_, X, eT, E_, hS, hk, hZ, hown, st⟩ := ldcS X hx hZ hown (hw _ (List.mem_of_getElem? (i := 6) rfl)) wS eT hS hk (g := (mkF m 46 #[.val (.int p0), .val (.int p1), .val (.int p2), .val (.int p3), .val (.int (0 : Int32)), .val (.int p0), .val (.ref w2), .unset, .unset] [(.ref b7), (.ref b7)])) rfl (hb hby at_46) (n := 4) (by decide) (by decide) (by decide) (by decide)
      have S_w1 := Sta.ext E_ S_w1
      have S_w2 := Sta.ext E_ S_w2
      have E_b7 := Exa.ext E_ E_b7
      have F_figure_b7 := Fld.ext E_ F_figure_b7
      have F_measured_b7 := Fld.ext E_ F_measured_b7
      have F_least_b7 := Fld.ext E_ F_least_b7
      have F_bound_b7 := Fld.ext E_ F_bound_b7
      have F_limit_b7 := Fld.ext E_ F_limit_b7
      have K := K.ext E_
      refine Go.by st ?_
      show Go p.tables e below (T.setTop (mkF m 48 #[.val (.int p0), .val (.int p1), .val (.int p2), .val (.int p3), .val (.int (0 : Int32)), .val (.int p0), .val (.ref w2), .unset, .unset] [(.ref a9), (.ref b7), (.ref b7)])) _
      refine Go.by (fun tt_ kk_ => XS.iloadN X.here hx rfl (hb hby at_48) rfl kk_) ?_
      show Go p.tables e below (T.setTop (mkF m 49 #[.val (.int p0), .val (.int p1), .val (.int p2), .val (.int p3), .val (.int (0 : Int32)), .val (.int p0), .val (.ref w2), .unset, .unset] [(.int p2), (.ref a9), (.ref b7), (.ref b7)])) _
      refine Go.by (fun tt_ kk_ => XS.i2dS X.here hx rfl (hb hby at_49) rfl rfl kk_) ?_
      show Go p.tables e below (T.setTop (mkF m 50 #[.val (.int p0), .val (.int p1), .val (.int p2), .val (.int p3), .val (.int (0 : Int32)), .val (.int p0), .val (.ref w2), .unset, .unset] [(.double (FP.i2d p2)), (.ref a9), (.ref b7), (.ref b7)])) _
      refine Go.by (fun tt_ kk_ => XS.iloadN X.here hx rfl (hb hby at_50) rfl kk_) ?_
      show Go p.tables e below (T.setTop (mkF m 51 #[.val (.int p0), .val (.int p1), .val (.int p2), .val (.int p3), .val (.int (0 : Int32)), .val (.int p0), .val (.ref w2), .unset, .unset] [(.int p0), (.double (FP.i2d p2)), (.ref a9), (.ref b7), (.ref b7)])) _
      refine Go.by (fun tt_ kk_ => XS.i2dS X.here hx rfl (hb hby at_51) rfl rfl kk_) ?_
      show Go p.tables e below (T.setTop (mkF m 52 #[.val (.int p0), .val (.int p1), .val (.int p2), .val (.int p3), .val (.int (0 : Int32)), .val (.int p0), .val (.ref w2), .unset, .unset] [(.double (FP.i2d p0)), (.double (FP.i2d p2)), (.ref a9), (.ref b7), (.ref b7)])) _
      refine Go.by (fun tt_ kk_ => XS.aload X.here hx rfl (hb hby at_52) rfl rfl kk_) ?_
      show Go p.tables e below (T.setTop (mkF m 54 #[.val (.int p0), .val (.int p1), .val (.int p2), .val (.int p3), .val (.int (0 : Int32)), .val (.int p0), .val (.ref w2), .unset, .unset] [(.ref w2), (.double (FP.i2d p0)), (.double (FP.i2d p2)), (.ref a9), (.ref b7), (.ref b7)])) _
      refine Go.by (fun tt_ kk_ => XS.iload X.here hx rfl (hb hby at_54) rfl kk_) ?_
      show Go p.tables e below (T.setTop (mkF m 56 #[.val (.int p0), .val (.int p1), .val (.int p2), .val (.int p3), .val (.int (0 : Int32)), .val (.int p0), .val (.ref w2), .unset, .unset] [(.int p0), (.ref w2), (.double (FP.i2d p0)), (.double (FP.i2d p2)), (.ref a9), (.ref b7), (.ref b7)])) _
      refine Go.by (fun tt_ kk_ => XS.i2dS X.here hx rfl (hb hby at_56) rfl rfl kk_) ?_
      show Go p.tables e below (T.setTop (mkF m 57 #[.val (.int p0), .val (.int p1), .val (.int p2), .val (.int p3), .val (.int (0 : Int32)), .val (.int p0), .val (.ref w2), .unset, .unset] [(.double (FP.i2d p0)), (.ref w2), (.double (FP.i2d p0)), (.double (FP.i2d p2)), (.ref a9), (.ref b7), (.ref b7)])) _
      obtain ⟨_, _, ⟨T, L_, k_, n_⟩, -, X, ⟨Lc_, hQ, l_, y_, z_⟩, st⟩ := X.specialBack hx (y := (⟨"openum/benchmarks/Target", "<init>", "(Ljava/lang/String;DDLopenum/benchmarks/Target$Bound;D)V"⟩ : MethodName)) rfl hown (mvT hZ (hw _ (List.mem_of_getElem? (i := 14) rfl))) (mvT hZ (hw _ (List.mem_of_getElem? (i := 15) rfl))) (mvT hZ (hw _ (List.mem_of_getElem? (i := 16) rfl))) (by decide) (backOf (W := 1) (rm1 l Z a0 hw [] b7 a9 (FP.i2d p2) (FP.i2d p0) w2 (FP.i2d p0) h8 n0 (Nat.le_trans Z0 K.1) E_b7 g_b7 F_figure_b7 F_measured_b7 F_least_b7 F_bound_b7 F_limit_b7) hZ (hw _ (List.mem_of_getElem? (i := 16) rfl)) (hw _ (List.mem_of_getElem? (i := 5) rfl)) (by decide) (by decide)) (g := (mkF m 57 #[.val (.int p0), .val (.int p1), .val (.int p2), .val (.int p3), .val (.int (0 : Int32)), .val (.int p0), .val (.ref w2), .unset, .unset] [(.double (FP.i2d p0)), (.ref w2), (.double (FP.i2d p0)), (.double (FP.i2d p2)), (.ref a9), (.ref b7), (.ref b7)])) rfl (by rw [hml]; rfl) (Steps.refl _) (a := b7) (argsL := [(.ref a9), (.double (FP.i2d p2)), (.double (FP.i2d p0)), (.ref w2), (.double (FP.i2d p0))]) (rest := [(.ref b7)]) (lenOf pd_1 rfl) rfl (by show 2 * 0 + _ ≤ _; exact Nat.le_of_eq rfl) (hb hby at_57) (fun _ _ => ⟨rfl, eT, (by decide : 3 + 0 ≤ _), (by decide : 13 + 0 ≤ _)⟩)
      dsimp only [Pt.U, Pt.locs, Pt.cells, Pt.slots] at X l_ y_ z_ st hQ
      subst l_ y_ z_
      obtain ⟨h10, eT⟩ : ∃ z, T.heap = z := ⟨_, rfl⟩
      rw [eT] at hQ
      obtain ⟨rfl, Nq, Kq, Eq_, Fq1, Fq2, Fq3⟩ := hQ
      have N := Fr.app N Nq
      have S_w1 := own_staK S_w1 Kq (allS (fun cell hc => old_plain F_least_b7 cell hc) all0)
      have S_w2 := own_staK S_w2 Kq (allS (fun cell hc => old_plain F_least_b7 cell hc) all0)
      have E_b7 := Eq_
      have F_least_b7 := Fq1
      have F_bound_b7 := Fq2
      have F_limit_b7 := Fq3
      have K := K.trans Kq (allS (Or.inr sz_b7) all0)
      have hk := Nat.le_trans hk Kq.1
      refine Go.tr st ?_
      show Go p.tables e below (T.setTop (mkF m 60 #[.val (.int p0), .val (.int p1), .val (.int p2), .val (.int p3), .val (.int (0 : Int32)), .val (.int p0), .val (.ref w2), .unset, .unset] [(.ref b7)])) _
      refine Go.by (fun tt_ kk_ => XS.astore X.here hx rfl (hb hby at_60) rfl rfl (l' := #[.val (.int p0), .val (.int p1), .val (.int p2), .val (.int p3), .val (.int (0 : Int32)), .val (.int p0), .val (.ref w2), .val (.ref b7), .unset]) rfl kk_) ?_
      show Go p.tables e below (T.setTop (mkF m 62 #[.val (.int p0), .val (.int p1), .val (.int p2), .val (.int p3), .val (.int (0 : Int32)), .val (.int p0), .val (.ref w2), .val (.ref b7), .unset] [])) _
      refine Go.by (fun tt_ kk_ => XS.iload X.here hx rfl (hb hby at_62) rfl kk_) ?_
      show Go p.tables e below (T.setTop (mkF m 64 #[.val (.int p0), .val (.int p1), .val (.int p2), .val (.int p3), .val (.int (0 : Int32)), .val (.int p0), .val (.ref w2), .val (.ref b7), .unset] [(.int (0 : Int32))])) _
      refine Go.by (fun tt_ kk_ => XS.ifYes X.here hx rfl (pc0 := 64) (pc' := 81) rfl (hb hby at_64) rfl ((if0 _ _).trans (teq (rfl : (0 : Int32) = (0 : Int32))).1) (by decide) (by decide) kk_) ?_
      show Go p.tables e below (T.setTop (mkF m 81 #[.val (.int p0), .val (.int p1), .val (.int p2), .val (.int p3), .val (.int (0 : Int32)), .val (.int p0), .val (.ref w2), .val (.ref b7), .unset] [])) _
      refine Go.by (fun tt_ kk_ => XS.iloadN X.here hx rfl (hb hby at_81) rfl kk_) ?_
      show Go p.tables e below (T.setTop (mkF m 82 #[.val (.int p0), .val (.int p1), .val (.int p2), .val (.int p3), .val (.int (0 : Int32)), .val (.int p0), .val (.ref w2), .val (.ref b7), .unset] [(.int p0)])) _
      refine Go.by (fun tt_ kk_ => XS.iload X.here hx rfl (hb hby at_82) rfl kk_) ?_
      show Go p.tables e below (T.setTop (mkF m 84 #[.val (.int p0), .val (.int p1), .val (.int p2), .val (.int p3), .val (.int (0 : Int32)), .val (.int p0), .val (.ref w2), .val (.ref b7), .unset] [(.int p0), (.int p0)])) _
      by_cases hc84 : p0 < p0
      · refine Go.by (fun tt_ kk_ => XS.icmpNo X.here hx rfl (hb hby at_84) rfl (tlt hc84).2.1 kk_) ?_
        show Go p.tables e below (T.setTop (mkF m 87 #[.val (.int p0), .val (.int p1), .val (.int p2), .val (.int p3), .val (.int (0 : Int32)), .val (.int p0), .val (.ref w2), .val (.ref b7), .unset] [])) _
        refine Go.by (fun tt_ kk_ => XS.iconst X.here hx rfl (hb hby at_87) kk_) ?_
        show Go p.tables e below (T.setTop (mkF m 88 #[.val (.int p0), .val (.int p1), .val (.int p2), .val (.int p3), .val (.int (0 : Int32)), .val (.int p0), .val (.ref w2), .val (.ref b7), .unset] [(.int (1 : Int32))])) _
        refine Go.by (fun tt_ kk_ => XS.goto X.here hx rfl (pc0 := 88) (pc' := 92) rfl (hb hby at_88) (by decide) (by decide) kk_) ?_
        show Go p.tables e below (T.setTop (mkF m 92 #[.val (.int p0), .val (.int p1), .val (.int p2), .val (.int p3), .val (.int (0 : Int32)), .val (.int p0), .val (.ref w2), .val (.ref b7), .unset] [(.int (1 : Int32))])) _
        refine Go.by (fun tt_ kk_ => XS.istore X.here hx rfl (hb hby at_92) rfl (l' := #[.val (.int p0), .val (.int p1), .val (.int p2), .val (.int p3), .val (.int (0 : Int32)), .val (.int p0), .val (.ref w2), .val (.ref b7), .val (.int (1 : Int32))]) rfl kk_) ?_
        show Go p.tables e below (T.setTop (mkF m 94 #[.val (.int p0), .val (.int p1), .val (.int p2), .val (.int p3), .val (.int (0 : Int32)), .val (.int p0), .val (.ref w2), .val (.ref b7), .val (.int (1 : Int32))] [])) _
        refine Go.by (fun tt_ kk_ => XS.aload X.here hx rfl (hb hby at_94) rfl rfl kk_) ?_
        show Go p.tables e below (T.setTop (mkF m 96 #[.val (.int p0), .val (.int p1), .val (.int p2), .val (.int p3), .val (.int (0 : Int32)), .val (.int p0), .val (.ref w2), .val (.ref b7), .val (.int (1 : Int32))] [(.ref b7)])) _
        have hz : (if p0.toInt < p0.toInt then (1 : Int32) else 0) = (1 : Int32) := if_pos (Int32.lt_iff_toInt_lt.mp hc84)
        obtain ⟨cq_, kq_, qa_, qb_, qc_⟩ := isOf hZ eT E_b7
        obtain ⟨_, _, ⟨T, L_, k_, n_⟩, -, X, ⟨Lc_, hQ, l_, y_, z_⟩, st⟩ := X.virtualBack hx (y := (⟨"openum/benchmarks/Target", "met", "()Z"⟩ : MethodName)) (z := (⟨"openum/benchmarks/Target", "met", "()Z"⟩ : MethodName)) hown (mvT hZ (hw _ (List.mem_of_getElem? (i := 35) rfl))) (mvT hZ (hw _ (List.mem_of_getElem? (i := 36) rfl))) (notFace_of_selects (args := #[]) (mvT hZ (hw _ (List.mem_of_getElem? (i := 38) rfl)))) (mvT hZ (hw _ (List.mem_of_getElem? (i := 38) rfl))) (mvT hZ (hw _ (List.mem_of_getElem? (i := 37) rfl))) (by decide) (backOf (W := 0) (rm4b l Z a0 hw [] b7 (FP.i2d p0) (FP.i2d p0) p0.toInt p0.toInt w1 w2 h10 n0 (Nat.le_trans Z0 K.1) F_least_b7 F_bound_b7 F_limit_b7 S_w1 (Dy.i2d p0) (Dy.i2d p0) hne) hZ (hw _ (List.mem_of_getElem? (i := 39) rfl)) (hw _ (List.mem_of_getElem? (i := 5) rfl)) (by decide) (by decide)) qa_ qc_ (g := (mkF m 96 #[.val (.int p0), .val (.int p1), .val (.int p2), .val (.int p3), .val (.int (0 : Int32)), .val (.int p0), .val (.ref w2), .val (.ref b7), .val (.int (1 : Int32))] [(.ref b7)])) rfl (by rw [hml]; rfl) (Steps.refl _) (argsL := []) (rest := []) (lenOf pd_2 rfl) rfl (by show 2 * 0 + _ ≤ _; exact Nat.le_of_eq rfl) (hb hby at_96) (fun _ _ => ⟨rfl, eT, (by decide : 3 + 0 ≤ _), (by decide : 13 + 0 ≤ _)⟩)
        dsimp only [Pt.U, Pt.locs, Pt.cells, Pt.slots] at X l_ y_ z_ st hQ
        subst l_ y_ z_
        obtain ⟨e_v, Nq, eh⟩ := hQ
        rw [hz] at e_v
        subst e_v
        have N := Fr.app N Nq
        have eT := eh
        refine Go.tr st ?_
        show Go p.tables e below (T.setTop (mkF m 99 #[.val (.int p0), .val (.int p1), .val (.int p2), .val (.int p3), .val (.int (0 : Int32)), .val (.int p0), .val (.ref w2), .val (.ref b7), .val (.int (1 : Int32))] [(.int (1 : Int32))])) _
        refine Go.by (fun tt_ kk_ => XS.iload X.here hx rfl (hb hby at_99) rfl kk_) ?_
        show Go p.tables e below (T.setTop (mkF m 101 #[.val (.int p0), .val (.int p1), .val (.int p2), .val (.int p3), .val (.int (0 : Int32)), .val (.int p0), .val (.ref w2), .val (.ref b7), .val (.int (1 : Int32))] [(.int (1 : Int32)), (.int (1 : Int32))])) _
        refine Go.by (fun tt_ kk_ => XS.icmpNo X.here hx rfl (hb hby at_101) rfl (teq (rfl : (1 : Int32) = (1 : Int32))).2 kk_) ?_
        show Go p.tables e below (T.setTop (mkF m 104 #[.val (.int p0), .val (.int p1), .val (.int p2), .val (.int p3), .val (.int (0 : Int32)), .val (.int p0), .val (.ref w2), .val (.ref b7), .val (.int (1 : Int32))] [])) _
        refine Go.by (fun tt_ kk_ => XS.iconst X.here hx rfl (hb hby at_104) kk_) ?_
        show Go p.tables e below (T.setTop (mkF m 105 #[.val (.int p0), .val (.int p1), .val (.int p2), .val (.int p3), .val (.int (0 : Int32)), .val (.int p0), .val (.ref w2), .val (.ref b7), .val (.int (1 : Int32))] [(.int (1 : Int32))])) _
        refine Go.by (fun tt_ kk_ => XS.goto X.here hx rfl (pc0 := 105) (pc' := 109) rfl (hb hby at_105) (by decide) (by decide) kk_) ?_
        show Go p.tables e below (T.setTop (mkF m 109 #[.val (.int p0), .val (.int p1), .val (.int p2), .val (.int p3), .val (.int (0 : Int32)), .val (.int p0), .val (.ref w2), .val (.ref b7), .val (.int (1 : Int32))] [(.int (1 : Int32))])) _
        exact Go.doneW X hS (by rw [eT]; exact hk) (v := some (.int (1 : Int32))) (fun h => by rw [Bd.returns] at h; cases h) Bd.notSynchronized (fun fs hr => retN X hx (z := (1 : Int32)) (t := .boolean) Bd.returns (by simp) (hb hby at_109) hr) (by rw [eT]; exact ⟨rfl, N⟩) (by decide) (by decide)
      · refine Go.by (fun tt_ kk_ => XS.icmpYes X.here hx rfl (pc0 := 84) (pc' := 91) rfl (hb hby at_84) rfl (flt hc84).2.1 (by decide) (by decide) kk_) ?_
        show Go p.tables e below (T.setTop (mkF m 91 #[.val (.int p0), .val (.int p1), .val (.int p2), .val (.int p3), .val (.int (0 : Int32)), .val (.int p0), .val (.ref w2), .val (.ref b7), .unset] [])) _
        refine Go.by (fun tt_ kk_ => XS.iconst X.here hx rfl (hb hby at_91) kk_) ?_
        show Go p.tables e below (T.setTop (mkF m 92 #[.val (.int p0), .val (.int p1), .val (.int p2), .val (.int p3), .val (.int (0 : Int32)), .val (.int p0), .val (.ref w2), .val (.ref b7), .unset] [(.int (0 : Int32))])) _
        refine Go.by (fun tt_ kk_ => XS.istore X.here hx rfl (hb hby at_92) rfl (l' := #[.val (.int p0), .val (.int p1), .val (.int p2), .val (.int p3), .val (.int (0 : Int32)), .val (.int p0), .val (.ref w2), .val (.ref b7), .val (.int (0 : Int32))]) rfl kk_) ?_
        show Go p.tables e below (T.setTop (mkF m 94 #[.val (.int p0), .val (.int p1), .val (.int p2), .val (.int p3), .val (.int (0 : Int32)), .val (.int p0), .val (.ref w2), .val (.ref b7), .val (.int (0 : Int32))] [])) _
        refine Go.by (fun tt_ kk_ => XS.aload X.here hx rfl (hb hby at_94) rfl rfl kk_) ?_
        show Go p.tables e below (T.setTop (mkF m 96 #[.val (.int p0), .val (.int p1), .val (.int p2), .val (.int p3), .val (.int (0 : Int32)), .val (.int p0), .val (.ref w2), .val (.ref b7), .val (.int (0 : Int32))] [(.ref b7)])) _
        have hz : (if p0.toInt < p0.toInt then (1 : Int32) else 0) = (0 : Int32) := if_neg (fun q => hc84 (Int32.lt_iff_toInt_lt.mpr q))
        obtain ⟨cq_, kq_, qa_, qb_, qc_⟩ := isOf hZ eT E_b7
        obtain ⟨_, _, ⟨T, L_, k_, n_⟩, -, X, ⟨Lc_, hQ, l_, y_, z_⟩, st⟩ := X.virtualBack hx (y := (⟨"openum/benchmarks/Target", "met", "()Z"⟩ : MethodName)) (z := (⟨"openum/benchmarks/Target", "met", "()Z"⟩ : MethodName)) hown (mvT hZ (hw _ (List.mem_of_getElem? (i := 35) rfl))) (mvT hZ (hw _ (List.mem_of_getElem? (i := 36) rfl))) (notFace_of_selects (args := #[]) (mvT hZ (hw _ (List.mem_of_getElem? (i := 38) rfl)))) (mvT hZ (hw _ (List.mem_of_getElem? (i := 38) rfl))) (mvT hZ (hw _ (List.mem_of_getElem? (i := 37) rfl))) (by decide) (backOf (W := 0) (rm4b l Z a0 hw [] b7 (FP.i2d p0) (FP.i2d p0) p0.toInt p0.toInt w1 w2 h10 n0 (Nat.le_trans Z0 K.1) F_least_b7 F_bound_b7 F_limit_b7 S_w1 (Dy.i2d p0) (Dy.i2d p0) hne) hZ (hw _ (List.mem_of_getElem? (i := 39) rfl)) (hw _ (List.mem_of_getElem? (i := 5) rfl)) (by decide) (by decide)) qa_ qc_ (g := (mkF m 96 #[.val (.int p0), .val (.int p1), .val (.int p2), .val (.int p3), .val (.int (0 : Int32)), .val (.int p0), .val (.ref w2), .val (.ref b7), .val (.int (0 : Int32))] [(.ref b7)])) rfl (by rw [hml]; rfl) (Steps.refl _) (argsL := []) (rest := []) (lenOf pd_2 rfl) rfl (by show 2 * 0 + _ ≤ _; exact Nat.le_of_eq rfl) (hb hby at_96) (fun _ _ => ⟨rfl, eT, (by decide : 3 + 0 ≤ _), (by decide : 13 + 0 ≤ _)⟩)
        dsimp only [Pt.U, Pt.locs, Pt.cells, Pt.slots] at X l_ y_ z_ st hQ
        subst l_ y_ z_
        obtain ⟨e_v, Nq, eh⟩ := hQ
        rw [hz] at e_v
        subst e_v
        have N := Fr.app N Nq
        have eT := eh
        refine Go.tr st ?_
        show Go p.tables e below (T.setTop (mkF m 99 #[.val (.int p0), .val (.int p1), .val (.int p2), .val (.int p3), .val (.int (0 : Int32)), .val (.int p0), .val (.ref w2), .val (.ref b7), .val (.int (0 : Int32))] [(.int (0 : Int32))])) _
        refine Go.by (fun tt_ kk_ => XS.iload X.here hx rfl (hb hby at_99) rfl kk_) ?_
        show Go p.tables e below (T.setTop (mkF m 101 #[.val (.int p0), .val (.int p1), .val (.int p2), .val (.int p3), .val (.int (0 : Int32)), .val (.int p0), .val (.ref w2), .val (.ref b7), .val (.int (0 : Int32))] [(.int (0 : Int32)), (.int (0 : Int32))])) _
        refine Go.by (fun tt_ kk_ => XS.icmpNo X.here hx rfl (hb hby at_101) rfl (teq (rfl : (0 : Int32) = (0 : Int32))).2 kk_) ?_
        show Go p.tables e below (T.setTop (mkF m 104 #[.val (.int p0), .val (.int p1), .val (.int p2), .val (.int p3), .val (.int (0 : Int32)), .val (.int p0), .val (.ref w2), .val (.ref b7), .val (.int (0 : Int32))] [])) _
        refine Go.by (fun tt_ kk_ => XS.iconst X.here hx rfl (hb hby at_104) kk_) ?_
        show Go p.tables e below (T.setTop (mkF m 105 #[.val (.int p0), .val (.int p1), .val (.int p2), .val (.int p3), .val (.int (0 : Int32)), .val (.int p0), .val (.ref w2), .val (.ref b7), .val (.int (0 : Int32))] [(.int (1 : Int32))])) _
        refine Go.by (fun tt_ kk_ => XS.goto X.here hx rfl (pc0 := 105) (pc' := 109) rfl (hb hby at_105) (by decide) (by decide) kk_) ?_
        show Go p.tables e below (T.setTop (mkF m 109 #[.val (.int p0), .val (.int p1), .val (.int p2), .val (.int p3), .val (.int (0 : Int32)), .val (.int p0), .val (.ref w2), .val (.ref b7), .val (.int (0 : Int32))] [(.int (1 : Int32))])) _
        exact Go.doneW X hS (by rw [eT]; exact hk) (v := some (.int (1 : Int32))) (fun h => by rw [Bd.returns] at h; cases h) Bd.notSynchronized (fun fs hr => retN X hx (z := (1 : Int32)) (t := .boolean) Bd.returns (by simp) (hb hby at_109) hr) (by rw [eT]; exact ⟨rfl, N⟩) (by decide) (by decide)
  · refine Go.by (fun tt_ kk_ => XS.ifNo X.here hx rfl (hb hby at_3) rfl ((if0 _ _).trans (feq hc3).1) kk_) ?_
    show Go p.tables e below (T.setTop (mkF m 6 #[.val (.int p0), .val (.int p1), .val (.int p2), .val (.int p3), .unset, .unset, .unset, .unset, .unset] [])) _
    refine Go.by (fun tt_ kk_ => XS.iconst X.here hx rfl (hb hby at_6) kk_) ?_
    show Go p.tables e below (T.setTop (mkF m 7 #[.val (.int p0), .val (.int p1), .val (.int p2), .val (.int p3), .unset, .unset, .unset, .unset, .unset] [(.int (1 : Int32))])) _
    refine Go.by (fun tt_ kk_ => XS.goto X.here hx rfl (pc0 := 7) (pc' := 11) rfl (hb hby at_7) (by decide) (by decide) kk_) ?_
    show Go p.tables e below (T.setTop (mkF m 11 #[.val (.int p0), .val (.int p1), .val (.int p2), .val (.int p3), .unset, .unset, .unset, .unset, .unset] [(.int (1 : Int32))])) _
    refine Go.by (fun tt_ kk_ => XS.istore X.here hx rfl (hb hby at_11) rfl (l' := #[.val (.int p0), .val (.int p1), .val (.int p2), .val (.int p3), .val (.int (1 : Int32)), .unset, .unset, .unset, .unset]) rfl kk_) ?_
    show Go p.tables e below (T.setTop (mkF m 13 #[.val (.int p0), .val (.int p1), .val (.int p2), .val (.int p3), .val (.int (1 : Int32)), .unset, .unset, .unset, .unset] [])) _
    refine Go.by (fun tt_ kk_ => XS.iloadN X.here hx rfl (hb hby at_13) rfl kk_) ?_
    show Go p.tables e below (T.setTop (mkF m 14 #[.val (.int p0), .val (.int p1), .val (.int p2), .val (.int p3), .val (.int (1 : Int32)), .unset, .unset, .unset, .unset] [(.int p3)])) _
    refine Go.by (fun tt_ kk_ => XS.iconst X.here hx rfl (hb hby at_14) kk_) ?_
    show Go p.tables e below (T.setTop (mkF m 15 #[.val (.int p0), .val (.int p1), .val (.int p2), .val (.int p3), .val (.int (1 : Int32)), .unset, .unset, .unset, .unset] [(.int (2 : Int32)), (.int p3)])) _
    refine Go.by (fun tt_ kk_ => XS.iand X.here hx rfl (hb hby at_15) rfl kk_) ?_
    show Go p.tables e below (T.setTop (mkF m 16 #[.val (.int p0), .val (.int p1), .val (.int p2), .val (.int p3), .val (.int (1 : Int32)), .unset, .unset, .unset, .unset] [(.int (p3 &&& (2 : Int32)))])) _
    by_cases hc16 : (p3 &&& (2 : Int32)) = (0 : Int32)
    · refine Go.by (fun tt_ kk_ => XS.ifYes X.here hx rfl (pc0 := 16) (pc' := 23) rfl (hb hby at_16) rfl ((if0 _ _).trans (teq hc16).1) (by decide) (by decide) kk_) ?_
      show Go p.tables e below (T.setTop (mkF m 23 #[.val (.int p0), .val (.int p1), .val (.int p2), .val (.int p3), .val (.int (1 : Int32)), .unset, .unset, .unset, .unset] [])) _
      refine Go.by (fun tt_ kk_ => XS.iloadN X.here hx rfl (hb hby at_23) rfl kk_) ?_
      show Go p.tables e below (T.setTop (mkF m 24 #[.val (.int p0), .val (.int p1), .val (.int p2), .val (.int p3), .val (.int (1 : Int32)), .unset, .unset, .unset, .unset] [(.int p1)])) _
      refine Go.by (fun tt_ kk_ => XS.istore X.here hx rfl (hb hby at_24) rfl (l' := #[.val (.int p0), .val (.int p1), .val (.int p2), .val (.int p3), .val (.int (1 : Int32)), .val (.int p1), .unset, .unset, .unset]) rfl kk_) ?_
      show Go p.tables e below (T.setTop (mkF m 26 #[.val (.int p0), .val (.int p1), .val (.int p2), .val (.int p3), .val (.int (1 : Int32)), .val (.int p1), .unset, .unset, .unset] [])) _
      refine Go.by (fun tt_ kk_ => XS.iload X.here hx rfl (hb hby at_26) rfl kk_) ?_
      show Go p.tables e below (T.setTop (mkF m 28 #[.val (.int p0), .val (.int p1), .val (.int p2), .val (.int p3), .val (.int (1 : Int32)), .val (.int p1), .unset, .unset, .unset] [(.int (1 : Int32))])) _
      refine Go.by (fun tt_ kk_ => XS.ifNo X.here hx rfl (hb hby at_28) rfl ((if0 _ _).trans (feq (by decide : ¬ ((1 : Int32) = (0 : Int32)))).1) kk_) ?_
      show Go p.tables e below (T.setTop (mkF m 31 #[.val (.int p0), .val (.int p1), .val (.int p2), .val (.int p3), .val (.int (1 : Int32)), .val (.int p1), .unset, .unset, .unset] [])) _
      obtain ⟨T, X, eT, st⟩ := getS2 X hx hZ hown (host := "") (Or.inl (hw _ (List.mem_of_getElem? (i := 0) rfl))) Via.refl eT S_w1 (g := (mkF m 31 #[.val (.int p0), .val (.int p1), .val (.int p2), .val (.int p3), .val (.int (1 : Int32)), .val (.int p1), .unset, .unset, .unset] [])) rfl (hb hby at_31)
      refine Go.by st ?_
      show Go p.tables e below (T.setTop (mkF m 34 #[.val (.int p0), .val (.int p1), .val (.int p2), .val (.int p3), .val (.int (1 : Int32)), .val (.int p1), .unset, .unset, .unset] [(.ref w1)])) _
      refine Go.by (fun tt_ kk_ => XS.goto X.here hx rfl (pc0 := 34) (pc' := 40) rfl (hb hby at_34) (by decide) (by decide) kk_) ?_
      show Go p.tables e below (T.setTop (mkF m 40 #[.val (.int p0), .val (.int p1), .val (.int p2), .val (.int p3), .val (.int (1 : Int32)), .val (.int p1), .unset, .unset, .unset] [(.ref w1)])) _
      refine Go.by (fun tt_ kk_ => XS.astore X.here hx rfl (hb hby at_40) rfl rfl (l' := #[.val (.int p0), .val (.int p1), .val (.int p2), .val (.int p3), .val (.int (1 : Int32)), .val (.int p1), .val (.ref w1), .unset, .unset]) rfl kk_) ?_
      show Go p.tables e below (T.setTop (mkF m 42 #[.val (.int p0), .val (.int p1), .val (.int p2), .val (.int p3), .val (.int (1 : Int32)), .val (.int p1), .val (.ref w1), .unset, .unset] [])) _
      obtain ⟨T, h13, X, eT, E_, A_, D_, -, st⟩ := newO X hx hZ hown (hw _ (List.mem_of_getElem? (i := 3) rfl)) (hw _ (List.mem_of_getElem? (i := 4) rfl)) (hw _ (List.mem_of_getElem? (i := 5) rfl)) eT (g := (mkF m 42 #[.val (.int p0), .val (.int p1), .val (.int p2), .val (.int p3), .val (.int (1 : Int32)), .val (.int p1), .val (.ref w1), .unset, .unset] [])) rfl (hb hby at_42) (by decide) (by decide)
      obtain ⟨b13, g_b13'⟩ : ∃ z, z = h0.size := ⟨_, rfl⟩
      rw [← g_b13'] at A_ D_ st
      have g_b13 : n0 ≤ b13 := Nat.le_trans Z0 (Nat.le_trans K.1 (Nat.le_of_eq g_b13'.symm))
      have sz_b13 : h0.size ≤ b13 := Nat.le_trans K.1 (Nat.le_of_eq g_b13'.symm)
      have K := K.ext E_
      have hk := Nat.le_trans hk E_.1
      have S_w1 := Sta.ext E_ S_w1
      have S_w2 := Sta.ext E_ S_w2
      have E_b13 := A_
      have F_figure_b13 : Fld Z h13 b13 "openum/benchmarks/Target" "figure" "Ljava/lang/String;" .null := D_ (Or.inr (hw _ (List.mem_of_getElem? (i := 26) rfl))) (ty := (.object "java/lang/String")) (by decide)
      have F_measured_b13 : Fld Z h13 b13 "openum/benchmarks/Target" "measured" "D" (.double (0 : UInt64)) := D_ (Or.inr (hw _ (List.mem_of_getElem? (i := 28) rfl))) (ty := .double) (by decide)
      have F_least_b13 : Fld Z h13 b13 "openum/benchmarks/Target" "least" "D" (.double (0 : UInt64)) := D_ (Or.inr (hw _ (List.mem_of_getElem? (i := 30) rfl))) (ty := .double) (by decide)
      have F_bound_b13 : Fld Z h13 b13 "openum/benchmarks/Target" "bound" "Lopenum/benchmarks/Target$Bound;" .null := D_ (Or.inr (hw _ (List.mem_of_getElem? (i := 32) rfl))) (ty := (.object "openum/benchmarks/Target$Bound")) (by decide)
      have F_limit_b13 : Fld Z h13 b13 "openum/benchmarks/Target" "limit" "D" (.double (0 : UInt64)) := D_ (Or.inr (hw _ (List.mem_of_getElem? (i := 34) rfl))) (ty := .double) (by decide)
      refine Go.by st ?_
      show Go p.tables e below (T.setTop (mkF m 45 #[.val (.int p0), .val (.int p1), .val (.int p2), .val (.int p3), .val (.int (1 : Int32)), .val (.int p1), .val (.ref w1), .unset, .unset] [(.ref b13)])) _
      refine Go.by (fun tt_ kk_ => XS.dup X.here hx rfl (hb hby at_45) rfl rfl kk_) ?_
      show Go p.tables e below (T.setTop (mkF m 46 #[.val (.int p0), .val (.int p1), .val (.int p2), .val (.int p3), .val (.int (1 : Int32)), .val (.int p1), .val (.ref w1), .unset, .unset] [(.ref b13), (.ref b13)])) _
      obtain ⟨a15, T, h14, k1_, X, eT, E_, hS, hk, hZ, hown, st⟩ := ldcS X hx hZ hown (hw _ (List.mem_of_getElem? (i := 6) rfl)) wS eT hS hk (g := (mkF m 46 #[.val (.int p0), .val (.int p1), .val (.int p2), .val (.int p3), .val (.int (1 : Int32)), .val (.int p1), .val (.ref w1), .unset, .unset] [(.ref b13), (.ref b13)])) rfl (hb hby at_46) (n := 4) (by decide) (by decide) (by decide) (by decide)
      have S_w1 := Sta.ext E_ S_w1
      have S_w2 := Sta.ext E_ S_w2
      have E_b13 := Exa.ext E_ E_b13
      have F_figure_b13 := Fld.ext E_ F_figure_b13
      have F_measured_b13 := Fld.ext E_ F_measured_b13
      have F_least_b13 := Fld.ext E_ F_least_b13
      have F_bound_b13 := Fld.ext E_ F_bound_b13
      have F_limit_b13 := Fld.ext E_ F_limit_b13
      have K := K.ext E_
      refine Go.by st ?_
      show Go p.tables e below (T.setTop (mkF m 48 #[.val (.int p0), .val (.int p1), .val (.int p2), .val (.int p3), .val (.int (1 : Int32)), .val (.int p1), .val (.ref w1), .unset, .unset] [(.ref a15), (.ref b13), (.ref b13)])) _
      refine Go.by (fun tt_ kk_ => XS.iloadN X.here hx rfl (hb hby at_48) rfl kk_) ?_
      show Go p.tables e below (T.setTop (mkF m 49 #[.val (.int p0), .val (.int p1), .val (.int p2), .val (.int p3), .val (.int (1 : Int32)), .val (.int p1), .val (.ref w1), .unset, .unset] [(.int p2), (.ref a15), (.ref b13), (.ref b13)])) _
      refine Go.by (fun tt_ kk_ => XS.i2dS X.here hx rfl (hb hby at_49) rfl rfl kk_) ?_
      show Go p.tables e below (T.setTop (mkF m 50 #[.val (.int p0), .val (.int p1), .val (.int p2), .val (.int p3), .val (.int (1 : Int32)), .val (.int p1), .val (.ref w1), .unset, .unset] [(.double (FP.i2d p2)), (.ref a15), (.ref b13), (.ref b13)])) _
      refine Go.by (fun tt_ kk_ => XS.iloadN X.here hx rfl (hb hby at_50) rfl kk_) ?_
      show Go p.tables e below (T.setTop (mkF m 51 #[.val (.int p0), .val (.int p1), .val (.int p2), .val (.int p3), .val (.int (1 : Int32)), .val (.int p1), .val (.ref w1), .unset, .unset] [(.int p0), (.double (FP.i2d p2)), (.ref a15), (.ref b13), (.ref b13)])) _
      refine Go.by (fun tt_ kk_ => XS.i2dS X.here hx rfl (hb hby at_51) rfl rfl kk_) ?_
      show Go p.tables e below (T.setTop (mkF m 52 #[.val (.int p0), .val (.int p1), .val (.int p2), .val (.int p3), .val (.int (1 : Int32)), .val (.int p1), .val (.ref w1), .unset, .unset] [(.double (FP.i2d p0)), (.double (FP.i2d p2)), (.ref a15), (.ref b13), (.ref b13)])) _
      refine Go.by (fun tt_ kk_ => XS.aload X.here hx rfl (hb hby at_52) rfl rfl kk_) ?_
      show Go p.tables e below (T.setTop (mkF m 54 #[.val (.int p0), .val (.int p1), .val (.int p2), .val (.int p3), .val (.int (1 : Int32)), .val (.int p1), .val (.ref w1), .unset, .unset] [(.ref w1), (.double (FP.i2d p0)), (.double (FP.i2d p2)), (.ref a15), (.ref b13), (.ref b13)])) _
      refine Go.by (fun tt_ kk_ => XS.iload X.here hx rfl (hb hby at_54) rfl kk_) ?_
      show Go p.tables e below (T.setTop (mkF m 56 #[.val (.int p0), .val (.int p1), .val (.int p2), .val (.int p3), .val (.int (1 : Int32)), .val (.int p1), .val (.ref w1), .unset, .unset] [(.int p1), (.ref w1), (.double (FP.i2d p0)), (.double (FP.i2d p2)), (.ref a15), (.ref b13), (.ref b13)])) _
      refine Go.by (fun tt_ kk_ => XS.i2dS X.here hx rfl (hb hby at_56) rfl rfl kk_) ?_
      show Go p.tables e below (T.setTop (mkF m 57 #[.val (.int p0), .val (.int p1), .val (.int p2), .val (.int p3), .val (.int (1 : Int32)), .val (.int p1), .val (.ref w1), .unset, .unset] [(.double (FP.i2d p1)), (.ref w1), (.double (FP.i2d p0)), (.double (FP.i2d p2)), (.ref a15), (.ref b13), (.ref b13)])) _
      obtain ⟨_, _, ⟨T, L_, k_, n_⟩, -, X, ⟨Lc_, hQ, l_, y_, z_⟩, st⟩ := X.specialBack hx (y := (⟨"openum/benchmarks/Target", "<init>", "(Ljava/lang/String;DDLopenum/benchmarks/Target$Bound;D)V"⟩ : MethodName)) rfl hown (mvT hZ (hw _ (List.mem_of_getElem? (i := 14) rfl))) (mvT hZ (hw _ (List.mem_of_getElem? (i := 15) rfl))) (mvT hZ (hw _ (List.mem_of_getElem? (i := 16) rfl))) (by decide) (backOf (W := 1) (rm1 l Z a0 hw [] b13 a15 (FP.i2d p2) (FP.i2d p0) w1 (FP.i2d p1) h14 n0 (Nat.le_trans Z0 K.1) E_b13 g_b13 F_figure_b13 F_measured_b13 F_least_b13 F_bound_b13 F_limit_b13) hZ (hw _ (List.mem_of_getElem? (i := 16) rfl)) (hw _ (List.mem_of_getElem? (i := 5) rfl)) (by decide) (by decide)) (g := (mkF m 57 #[.val (.int p0), .val (.int p1), .val (.int p2), .val (.int p3), .val (.int (1 : Int32)), .val (.int p1), .val (.ref w1), .unset, .unset] [(.double (FP.i2d p1)), (.ref w1), (.double (FP.i2d p0)), (.double (FP.i2d p2)), (.ref a15), (.ref b13), (.ref b13)])) rfl (by rw [hml]; rfl) (Steps.refl _) (a := b13) (argsL := [(.ref a15), (.double (FP.i2d p2)), (.double (FP.i2d p0)), (.ref w1), (.double (FP.i2d p1))]) (rest := [(.ref b13)]) (lenOf pd_1 rfl) rfl (by show 2 * 0 + _ ≤ _; exact Nat.le_of_eq rfl) (hb hby at_57) (fun _ _ => ⟨rfl, eT, (by decide : 3 + 0 ≤ _), (by decide : 13 + 0 ≤ _)⟩)
      dsimp only [Pt.U, Pt.locs, Pt.cells, Pt.slots] at X l_ y_ z_ st hQ
      subst l_ y_ z_
      obtain ⟨h16, eT⟩ : ∃ z, T.heap = z := ⟨_, rfl⟩
      rw [eT] at hQ
      obtain ⟨rfl, Nq, Kq, Eq_, Fq1, Fq2, Fq3⟩ := hQ
      have N := Fr.app N Nq
      have S_w1 := own_staK S_w1 Kq (allS (fun cell hc => old_plain F_least_b13 cell hc) all0)
      have S_w2 := own_staK S_w2 Kq (allS (fun cell hc => old_plain F_least_b13 cell hc) all0)
      have E_b13 := Eq_
      have F_least_b13 := Fq1
      have F_bound_b13 := Fq2
      have F_limit_b13 := Fq3
      have K := K.trans Kq (allS (Or.inr sz_b13) all0)
      have hk := Nat.le_trans hk Kq.1
      refine Go.tr st ?_
      show Go p.tables e below (T.setTop (mkF m 60 #[.val (.int p0), .val (.int p1), .val (.int p2), .val (.int p3), .val (.int (1 : Int32)), .val (.int p1), .val (.ref w1), .unset, .unset] [(.ref b13)])) _
      refine Go.by (fun tt_ kk_ => XS.astore X.here hx rfl (hb hby at_60) rfl rfl (l' := #[.val (.int p0), .val (.int p1), .val (.int p2), .val (.int p3), .val (.int (1 : Int32)), .val (.int p1), .val (.ref w1), .val (.ref b13), .unset]) rfl kk_) ?_
      show Go p.tables e below (T.setTop (mkF m 62 #[.val (.int p0), .val (.int p1), .val (.int p2), .val (.int p3), .val (.int (1 : Int32)), .val (.int p1), .val (.ref w1), .val (.ref b13), .unset] [])) _
      refine Go.by (fun tt_ kk_ => XS.iload X.here hx rfl (hb hby at_62) rfl kk_) ?_
      show Go p.tables e below (T.setTop (mkF m 64 #[.val (.int p0), .val (.int p1), .val (.int p2), .val (.int p3), .val (.int (1 : Int32)), .val (.int p1), .val (.ref w1), .val (.ref b13), .unset] [(.int (1 : Int32))])) _
      refine Go.by (fun tt_ kk_ => XS.ifNo X.here hx rfl (hb hby at_64) rfl ((if0 _ _).trans (feq (by decide : ¬ ((1 : Int32) = (0 : Int32)))).1) kk_) ?_
      show Go p.tables e below (T.setTop (mkF m 67 #[.val (.int p0), .val (.int p1), .val (.int p2), .val (.int p3), .val (.int (1 : Int32)), .val (.int p1), .val (.ref w1), .val (.ref b13), .unset] [])) _
      refine Go.by (fun tt_ kk_ => XS.iloadN X.here hx rfl (hb hby at_67) rfl kk_) ?_
      show Go p.tables e below (T.setTop (mkF m 68 #[.val (.int p0), .val (.int p1), .val (.int p2), .val (.int p3), .val (.int (1 : Int32)), .val (.int p1), .val (.ref w1), .val (.ref b13), .unset] [(.int p0)])) _
      refine Go.by (fun tt_ kk_ => XS.iload X.here hx rfl (hb hby at_68) rfl kk_) ?_
      show Go p.tables e below (T.setTop (mkF m 70 #[.val (.int p0), .val (.int p1), .val (.int p2), .val (.int p3), .val (.int (1 : Int32)), .val (.int p1), .val (.ref w1), .val (.ref b13), .unset] [(.int p1), (.int p0)])) _
      by_cases hc70 : p1 < p0
      · refine Go.by (fun tt_ kk_ => XS.icmpYes X.here hx rfl (pc0 := 70) (pc' := 77) rfl (hb hby at_70) rfl (tlt hc70).2.2.1 (by decide) (by decide) kk_) ?_
        show Go p.tables e below (T.setTop (mkF m 77 #[.val (.int p0), .val (.int p1), .val (.int p2), .val (.int p3), .val (.int (1 : Int32)), .val (.int p1), .val (.ref w1), .val (.ref b13), .unset] [])) _
        refine Go.by (fun tt_ kk_ => XS.iconst X.here hx rfl (hb hby at_77) kk_) ?_
        show Go p.tables e below (T.setTop (mkF m 78 #[.val (.int p0), .val (.int p1), .val (.int p2), .val (.int p3), .val (.int (1 : Int32)), .val (.int p1), .val (.ref w1), .val (.ref b13), .unset] [(.int (0 : Int32))])) _
        refine Go.by (fun tt_ kk_ => XS.goto X.here hx rfl (pc0 := 78) (pc' := 92) rfl (hb hby at_78) (by decide) (by decide) kk_) ?_
        show Go p.tables e below (T.setTop (mkF m 92 #[.val (.int p0), .val (.int p1), .val (.int p2), .val (.int p3), .val (.int (1 : Int32)), .val (.int p1), .val (.ref w1), .val (.ref b13), .unset] [(.int (0 : Int32))])) _
        refine Go.by (fun tt_ kk_ => XS.istore X.here hx rfl (hb hby at_92) rfl (l' := #[.val (.int p0), .val (.int p1), .val (.int p2), .val (.int p3), .val (.int (1 : Int32)), .val (.int p1), .val (.ref w1), .val (.ref b13), .val (.int (0 : Int32))]) rfl kk_) ?_
        show Go p.tables e below (T.setTop (mkF m 94 #[.val (.int p0), .val (.int p1), .val (.int p2), .val (.int p3), .val (.int (1 : Int32)), .val (.int p1), .val (.ref w1), .val (.ref b13), .val (.int (0 : Int32))] [])) _
        refine Go.by (fun tt_ kk_ => XS.aload X.here hx rfl (hb hby at_94) rfl rfl kk_) ?_
        show Go p.tables e below (T.setTop (mkF m 96 #[.val (.int p0), .val (.int p1), .val (.int p2), .val (.int p3), .val (.int (1 : Int32)), .val (.int p1), .val (.ref w1), .val (.ref b13), .val (.int (0 : Int32))] [(.ref b13)])) _
        have hz : (if p0.toInt ≤ p1.toInt then (1 : Int32) else 0) = (0 : Int32) := if_neg (Int.not_le.mpr (Int32.lt_iff_toInt_lt.mp hc70))
        obtain ⟨cq_, kq_, qa_, qb_, qc_⟩ := isOf hZ eT E_b13
        obtain ⟨_, _, ⟨T, L_, k_, n_⟩, -, X, ⟨Lc_, hQ, l_, y_, z_⟩, st⟩ := X.virtualBack hx (y := (⟨"openum/benchmarks/Target", "met", "()Z"⟩ : MethodName)) (z := (⟨"openum/benchmarks/Target", "met", "()Z"⟩ : MethodName)) hown (mvT hZ (hw _ (List.mem_of_getElem? (i := 35) rfl))) (mvT hZ (hw _ (List.mem_of_getElem? (i := 36) rfl))) (notFace_of_selects (args := #[]) (mvT hZ (hw _ (List.mem_of_getElem? (i := 38) rfl)))) (mvT hZ (hw _ (List.mem_of_getElem? (i := 38) rfl))) (mvT hZ (hw _ (List.mem_of_getElem? (i := 37) rfl))) (by decide) (backOf (W := 0) (rm4a l Z a0 hw [] b13 (FP.i2d p0) (FP.i2d p1) p0.toInt p1.toInt w1 h16 n0 (Nat.le_trans Z0 K.1) F_least_b13 F_bound_b13 F_limit_b13 S_w1 (Dy.i2d p0) (Dy.i2d p1)) hZ (hw _ (List.mem_of_getElem? (i := 39) rfl)) (hw _ (List.mem_of_getElem? (i := 5) rfl)) (by decide) (by decide)) qa_ qc_ (g := (mkF m 96 #[.val (.int p0), .val (.int p1), .val (.int p2), .val (.int p3), .val (.int (1 : Int32)), .val (.int p1), .val (.ref w1), .val (.ref b13), .val (.int (0 : Int32))] [(.ref b13)])) rfl (by rw [hml]; rfl) (Steps.refl _) (argsL := []) (rest := []) (lenOf pd_2 rfl) rfl (by show 2 * 0 + _ ≤ _; exact Nat.le_of_eq rfl) (hb hby at_96) (fun _ _ => ⟨rfl, eT, (by decide : 3 + 0 ≤ _), (by decide : 13 + 0 ≤ _)⟩)
        dsimp only [Pt.U, Pt.locs, Pt.cells, Pt.slots] at X l_ y_ z_ st hQ
        subst l_ y_ z_
        obtain ⟨e_v, Nq, eh⟩ := hQ
        rw [hz] at e_v
        subst e_v
        have N := Fr.app N Nq
        have eT := eh
        refine Go.tr st ?_
        show Go p.tables e below (T.setTop (mkF m 99 #[.val (.int p0), .val (.int p1), .val (.int p2), .val (.int p3), .val (.int (1 : Int32)), .val (.int p1), .val (.ref w1), .val (.ref b13), .val (.int (0 : Int32))] [(.int (0 : Int32))])) _
        refine Go.by (fun tt_ kk_ => XS.iload X.here hx rfl (hb hby at_99) rfl kk_) ?_
        show Go p.tables e below (T.setTop (mkF m 101 #[.val (.int p0), .val (.int p1), .val (.int p2), .val (.int p3), .val (.int (1 : Int32)), .val (.int p1), .val (.ref w1), .val (.ref b13), .val (.int (0 : Int32))] [(.int (0 : Int32)), (.int (0 : Int32))])) _
        refine Go.by (fun tt_ kk_ => XS.icmpNo X.here hx rfl (hb hby at_101) rfl (teq (rfl : (0 : Int32) = (0 : Int32))).2 kk_) ?_
        show Go p.tables e below (T.setTop (mkF m 104 #[.val (.int p0), .val (.int p1), .val (.int p2), .val (.int p3), .val (.int (1 : Int32)), .val (.int p1), .val (.ref w1), .val (.ref b13), .val (.int (0 : Int32))] [])) _
        refine Go.by (fun tt_ kk_ => XS.iconst X.here hx rfl (hb hby at_104) kk_) ?_
        show Go p.tables e below (T.setTop (mkF m 105 #[.val (.int p0), .val (.int p1), .val (.int p2), .val (.int p3), .val (.int (1 : Int32)), .val (.int p1), .val (.ref w1), .val (.ref b13), .val (.int (0 : Int32))] [(.int (1 : Int32))])) _
        refine Go.by (fun tt_ kk_ => XS.goto X.here hx rfl (pc0 := 105) (pc' := 109) rfl (hb hby at_105) (by decide) (by decide) kk_) ?_
        show Go p.tables e below (T.setTop (mkF m 109 #[.val (.int p0), .val (.int p1), .val (.int p2), .val (.int p3), .val (.int (1 : Int32)), .val (.int p1), .val (.ref w1), .val (.ref b13), .val (.int (0 : Int32))] [(.int (1 : Int32))])) _
        exact Go.doneW X hS (by rw [eT]; exact hk) (v := some (.int (1 : Int32))) (fun h => by rw [Bd.returns] at h; cases h) Bd.notSynchronized (fun fs hr => retN X hx (z := (1 : Int32)) (t := .boolean) Bd.returns (by simp) (hb hby at_109) hr) (by rw [eT]; exact ⟨rfl, N⟩) (by decide) (by decide)
      · refine Go.by (fun tt_ kk_ => XS.icmpNo X.here hx rfl (hb hby at_70) rfl (flt hc70).2.2.1 kk_) ?_
        show Go p.tables e below (T.setTop (mkF m 73 #[.val (.int p0), .val (.int p1), .val (.int p2), .val (.int p3), .val (.int (1 : Int32)), .val (.int p1), .val (.ref w1), .val (.ref b13), .unset] [])) _
        refine Go.by (fun tt_ kk_ => XS.iconst X.here hx rfl (hb hby at_73) kk_) ?_
        show Go p.tables e below (T.setTop (mkF m 74 #[.val (.int p0), .val (.int p1), .val (.int p2), .val (.int p3), .val (.int (1 : Int32)), .val (.int p1), .val (.ref w1), .val (.ref b13), .unset] [(.int (1 : Int32))])) _
        refine Go.by (fun tt_ kk_ => XS.goto X.here hx rfl (pc0 := 74) (pc' := 92) rfl (hb hby at_74) (by decide) (by decide) kk_) ?_
        show Go p.tables e below (T.setTop (mkF m 92 #[.val (.int p0), .val (.int p1), .val (.int p2), .val (.int p3), .val (.int (1 : Int32)), .val (.int p1), .val (.ref w1), .val (.ref b13), .unset] [(.int (1 : Int32))])) _
        refine Go.by (fun tt_ kk_ => XS.istore X.here hx rfl (hb hby at_92) rfl (l' := #[.val (.int p0), .val (.int p1), .val (.int p2), .val (.int p3), .val (.int (1 : Int32)), .val (.int p1), .val (.ref w1), .val (.ref b13), .val (.int (1 : Int32))]) rfl kk_) ?_
        show Go p.tables e below (T.setTop (mkF m 94 #[.val (.int p0), .val (.int p1), .val (.int p2), .val (.int p3), .val (.int (1 : Int32)), .val (.int p1), .val (.ref w1), .val (.ref b13), .val (.int (1 : Int32))] [])) _
        refine Go.by (fun tt_ kk_ => XS.aload X.here hx rfl (hb hby at_94) rfl rfl kk_) ?_
        show Go p.tables e below (T.setTop (mkF m 96 #[.val (.int p0), .val (.int p1), .val (.int p2), .val (.int p3), .val (.int (1 : Int32)), .val (.int p1), .val (.ref w1), .val (.ref b13), .val (.int (1 : Int32))] [(.ref b13)])) _
        have hz : (if p0.toInt ≤ p1.toInt then (1 : Int32) else 0) = (1 : Int32) := if_pos (Int.not_lt.mp fun q => hc70 (Int32.lt_iff_toInt_lt.mpr q))
        obtain ⟨cq_, kq_, qa_, qb_, qc_⟩ := isOf hZ eT E_b13
        obtain ⟨_, _, ⟨T, L_, k_, n_⟩, -, X, ⟨Lc_, hQ, l_, y_, z_⟩, st⟩ := X.virtualBack hx (y := (⟨"openum/benchmarks/Target", "met", "()Z"⟩ : MethodName)) (z := (⟨"openum/benchmarks/Target", "met", "()Z"⟩ : MethodName)) hown (mvT hZ (hw _ (List.mem_of_getElem? (i := 35) rfl))) (mvT hZ (hw _ (List.mem_of_getElem? (i := 36) rfl))) (notFace_of_selects (args := #[]) (mvT hZ (hw _ (List.mem_of_getElem? (i := 38) rfl)))) (mvT hZ (hw _ (List.mem_of_getElem? (i := 38) rfl))) (mvT hZ (hw _ (List.mem_of_getElem? (i := 37) rfl))) (by decide) (backOf (W := 0) (rm4a l Z a0 hw [] b13 (FP.i2d p0) (FP.i2d p1) p0.toInt p1.toInt w1 h16 n0 (Nat.le_trans Z0 K.1) F_least_b13 F_bound_b13 F_limit_b13 S_w1 (Dy.i2d p0) (Dy.i2d p1)) hZ (hw _ (List.mem_of_getElem? (i := 39) rfl)) (hw _ (List.mem_of_getElem? (i := 5) rfl)) (by decide) (by decide)) qa_ qc_ (g := (mkF m 96 #[.val (.int p0), .val (.int p1), .val (.int p2), .val (.int p3), .val (.int (1 : Int32)), .val (.int p1), .val (.ref w1), .val (.ref b13), .val (.int (1 : Int32))] [(.ref b13)])) rfl (by rw [hml]; rfl) (Steps.refl _) (argsL := []) (rest := []) (lenOf pd_2 rfl) rfl (by show 2 * 0 + _ ≤ _; exact Nat.le_of_eq rfl) (hb hby at_96) (fun _ _ => ⟨rfl, eT, (by decide : 3 + 0 ≤ _), (by decide : 13 + 0 ≤ _)⟩)
        dsimp only [Pt.U, Pt.locs, Pt.cells, Pt.slots] at X l_ y_ z_ st hQ
        subst l_ y_ z_
        obtain ⟨e_v, Nq, eh⟩ := hQ
        rw [hz] at e_v
        subst e_v
        have N := Fr.app N Nq
        have eT := eh
        refine Go.tr st ?_
        show Go p.tables e below (T.setTop (mkF m 99 #[.val (.int p0), .val (.int p1), .val (.int p2), .val (.int p3), .val (.int (1 : Int32)), .val (.int p1), .val (.ref w1), .val (.ref b13), .val (.int (1 : Int32))] [(.int (1 : Int32))])) _
        refine Go.by (fun tt_ kk_ => XS.iload X.here hx rfl (hb hby at_99) rfl kk_) ?_
        show Go p.tables e below (T.setTop (mkF m 101 #[.val (.int p0), .val (.int p1), .val (.int p2), .val (.int p3), .val (.int (1 : Int32)), .val (.int p1), .val (.ref w1), .val (.ref b13), .val (.int (1 : Int32))] [(.int (1 : Int32)), (.int (1 : Int32))])) _
        refine Go.by (fun tt_ kk_ => XS.icmpNo X.here hx rfl (hb hby at_101) rfl (teq (rfl : (1 : Int32) = (1 : Int32))).2 kk_) ?_
        show Go p.tables e below (T.setTop (mkF m 104 #[.val (.int p0), .val (.int p1), .val (.int p2), .val (.int p3), .val (.int (1 : Int32)), .val (.int p1), .val (.ref w1), .val (.ref b13), .val (.int (1 : Int32))] [])) _
        refine Go.by (fun tt_ kk_ => XS.iconst X.here hx rfl (hb hby at_104) kk_) ?_
        show Go p.tables e below (T.setTop (mkF m 105 #[.val (.int p0), .val (.int p1), .val (.int p2), .val (.int p3), .val (.int (1 : Int32)), .val (.int p1), .val (.ref w1), .val (.ref b13), .val (.int (1 : Int32))] [(.int (1 : Int32))])) _
        refine Go.by (fun tt_ kk_ => XS.goto X.here hx rfl (pc0 := 105) (pc' := 109) rfl (hb hby at_105) (by decide) (by decide) kk_) ?_
        show Go p.tables e below (T.setTop (mkF m 109 #[.val (.int p0), .val (.int p1), .val (.int p2), .val (.int p3), .val (.int (1 : Int32)), .val (.int p1), .val (.ref w1), .val (.ref b13), .val (.int (1 : Int32))] [(.int (1 : Int32))])) _
        exact Go.doneW X hS (by rw [eT]; exact hk) (v := some (.int (1 : Int32))) (fun h => by rw [Bd.returns] at h; cases h) Bd.notSynchronized (fun fs hr => retN X hx (z := (1 : Int32)) (t := .boolean) Bd.returns (by simp) (hb hby at_109) hr) (by rw [eT]; exact ⟨rfl, N⟩) (by decide) (by decide)
    · refine Go.by (fun tt_ kk_ => XS.ifNo X.here hx rfl (hb hby at_16) rfl ((if0 _ _).trans (feq hc16).1) kk_) ?_
      show Go p.tables e below (T.setTop (mkF m 19 #[.val (.int p0), .val (.int p1), .val (.int p2), .val (.int p3), .val (.int (1 : Int32)), .unset, .unset, .unset, .unset] [])) _
      refine Go.by (fun tt_ kk_ => XS.iloadN X.here hx rfl (hb hby at_19) rfl kk_) ?_
      show Go p.tables e below (T.setTop (mkF m 20 #[.val (.int p0), .val (.int p1), .val (.int p2), .val (.int p3), .val (.int (1 : Int32)), .unset, .unset, .unset, .unset] [(.int p0)])) _
      refine Go.by (fun tt_ kk_ => XS.goto X.here hx rfl (pc0 := 20) (pc' := 24) rfl (hb hby at_20) (by decide) (by decide) kk_) ?_
      show Go p.tables e below (T.setTop (mkF m 24 #[.val (.int p0), .val (.int p1), .val (.int p2), .val (.int p3), .val (.int (1 : Int32)), .unset, .unset, .unset, .unset] [(.int p0)])) _
      refine Go.by (fun tt_ kk_ => XS.istore X.here hx rfl (hb hby at_24) rfl (l' := #[.val (.int p0), .val (.int p1), .val (.int p2), .val (.int p3), .val (.int (1 : Int32)), .val (.int p0), .unset, .unset, .unset]) rfl kk_) ?_
      show Go p.tables e below (T.setTop (mkF m 26 #[.val (.int p0), .val (.int p1), .val (.int p2), .val (.int p3), .val (.int (1 : Int32)), .val (.int p0), .unset, .unset, .unset] [])) _
      refine Go.by (fun tt_ kk_ => XS.iload X.here hx rfl (hb hby at_26) rfl kk_) ?_
      show Go p.tables e below (T.setTop (mkF m 28 #[.val (.int p0), .val (.int p1), .val (.int p2), .val (.int p3), .val (.int (1 : Int32)), .val (.int p0), .unset, .unset, .unset] [(.int (1 : Int32))])) _
      refine Go.by (fun tt_ kk_ => XS.ifNo X.here hx rfl (hb hby at_28) rfl ((if0 _ _).trans (feq (by decide : ¬ ((1 : Int32) = (0 : Int32)))).1) kk_) ?_
      show Go p.tables e below (T.setTop (mkF m 31 #[.val (.int p0), .val (.int p1), .val (.int p2), .val (.int p3), .val (.int (1 : Int32)), .val (.int p0), .unset, .unset, .unset] [])) _
      obtain ⟨T, X, eT, st⟩ := getS2 X hx hZ hown (host := "") (Or.inl (hw _ (List.mem_of_getElem? (i := 0) rfl))) Via.refl eT S_w1 (g := (mkF m 31 #[.val (.int p0), .val (.int p1), .val (.int p2), .val (.int p3), .val (.int (1 : Int32)), .val (.int p0), .unset, .unset, .unset] [])) rfl (hb hby at_31)
      refine Go.by st ?_
      show Go p.tables e below (T.setTop (mkF m 34 #[.val (.int p0), .val (.int p1), .val (.int p2), .val (.int p3), .val (.int (1 : Int32)), .val (.int p0), .unset, .unset, .unset] [(.ref w1)])) _
      refine Go.by (fun tt_ kk_ => XS.goto X.here hx rfl (pc0 := 34) (pc' := 40) rfl (hb hby at_34) (by decide) (by decide) kk_) ?_
      show Go p.tables e below (T.setTop (mkF m 40 #[.val (.int p0), .val (.int p1), .val (.int p2), .val (.int p3), .val (.int (1 : Int32)), .val (.int p0), .unset, .unset, .unset] [(.ref w1)])) _
      refine Go.by (fun tt_ kk_ => XS.astore X.here hx rfl (hb hby at_40) rfl rfl (l' := #[.val (.int p0), .val (.int p1), .val (.int p2), .val (.int p3), .val (.int (1 : Int32)), .val (.int p0), .val (.ref w1), .unset, .unset]) rfl kk_) ?_
      show Go p.tables e below (T.setTop (mkF m 42 #[.val (.int p0), .val (.int p1), .val (.int p2), .val (.int p3), .val (.int (1 : Int32)), .val (.int p0), .val (.ref w1), .unset, .unset] [])) _
      obtain ⟨T, h19, X, eT, E_, A_, D_, -, st⟩ := newO X hx hZ hown (hw _ (List.mem_of_getElem? (i := 3) rfl)) (hw _ (List.mem_of_getElem? (i := 4) rfl)) (hw _ (List.mem_of_getElem? (i := 5) rfl)) eT (g := (mkF m 42 #[.val (.int p0), .val (.int p1), .val (.int p2), .val (.int p3), .val (.int (1 : Int32)), .val (.int p0), .val (.ref w1), .unset, .unset] [])) rfl (hb hby at_42) (by decide) (by decide)
      obtain ⟨b19, g_b19'⟩ : ∃ z, z = h0.size := ⟨_, rfl⟩
      rw [← g_b19'] at A_ D_ st
      have g_b19 : n0 ≤ b19 := Nat.le_trans Z0 (Nat.le_trans K.1 (Nat.le_of_eq g_b19'.symm))
      have sz_b19 : h0.size ≤ b19 := Nat.le_trans K.1 (Nat.le_of_eq g_b19'.symm)
      have K := K.ext E_
      have hk := Nat.le_trans hk E_.1
      have S_w1 := Sta.ext E_ S_w1
      have S_w2 := Sta.ext E_ S_w2
      have E_b19 := A_
      have F_figure_b19 : Fld Z h19 b19 "openum/benchmarks/Target" "figure" "Ljava/lang/String;" .null := D_ (Or.inr (hw _ (List.mem_of_getElem? (i := 26) rfl))) (ty := (.object "java/lang/String")) (by decide)
      have F_measured_b19 : Fld Z h19 b19 "openum/benchmarks/Target" "measured" "D" (.double (0 : UInt64)) := D_ (Or.inr (hw _ (List.mem_of_getElem? (i := 28) rfl))) (ty := .double) (by decide)
      have F_least_b19 : Fld Z h19 b19 "openum/benchmarks/Target" "least" "D" (.double (0 : UInt64)) := D_ (Or.inr (hw _ (List.mem_of_getElem? (i := 30) rfl))) (ty := .double) (by decide)
      have F_bound_b19 : Fld Z h19 b19 "openum/benchmarks/Target" "bound" "Lopenum/benchmarks/Target$Bound;" .null := D_ (Or.inr (hw _ (List.mem_of_getElem? (i := 32) rfl))) (ty := (.object "openum/benchmarks/Target$Bound")) (by decide)
      have F_limit_b19 : Fld Z h19 b19 "openum/benchmarks/Target" "limit" "D" (.double (0 : UInt64)) := D_ (Or.inr (hw _ (List.mem_of_getElem? (i := 34) rfl))) (ty := .double) (by decide)
      refine Go.by st ?_
      show Go p.tables e below (T.setTop (mkF m 45 #[.val (.int p0), .val (.int p1), .val (.int p2), .val (.int p3), .val (.int (1 : Int32)), .val (.int p0), .val (.ref w1), .unset, .unset] [(.ref b19)])) _
      refine Go.by (fun tt_ kk_ => XS.dup X.here hx rfl (hb hby at_45) rfl rfl kk_) ?_
      show Go p.tables e below (T.setTop (mkF m 46 #[.val (.int p0), .val (.int p1), .val (.int p2), .val (.int p3), .val (.int (1 : Int32)), .val (.int p0), .val (.ref w1), .unset, .unset] [(.ref b19), (.ref b19)])) _
      obtain ⟨a21, T, h20, k1_, X, eT, E_, hS, hk, hZ, hown, st⟩ := ldcS X hx hZ hown (hw _ (List.mem_of_getElem? (i := 6) rfl)) wS eT hS hk (g := (mkF m 46 #[.val (.int p0), .val (.int p1), .val (.int p2), .val (.int p3), .val (.int (1 : Int32)), .val (.int p0), .val (.ref w1), .unset, .unset] [(.ref b19), (.ref b19)])) rfl (hb hby at_46) (n := 4) (by decide) (by decide) (by decide) (by decide)
      have S_w1 := Sta.ext E_ S_w1
      have S_w2 := Sta.ext E_ S_w2
      have E_b19 := Exa.ext E_ E_b19
      have F_figure_b19 := Fld.ext E_ F_figure_b19
      have F_measured_b19 := Fld.ext E_ F_measured_b19
      have F_least_b19 := Fld.ext E_ F_least_b19
      have F_bound_b19 := Fld.ext E_ F_bound_b19
      have F_limit_b19 := Fld.ext E_ F_limit_b19
      have K := K.ext E_
      refine Go.by st ?_
      show Go p.tables e below (T.setTop (mkF m 48 #[.val (.int p0), .val (.int p1), .val (.int p2), .val (.int p3), .val (.int (1 : Int32)), .val (.int p0), .val (.ref w1), .unset, .unset] [(.ref a21), (.ref b19), (.ref b19)])) _
      refine Go.by (fun tt_ kk_ => XS.iloadN X.here hx rfl (hb hby at_48) rfl kk_) ?_
      show Go p.tables e below (T.setTop (mkF m 49 #[.val (.int p0), .val (.int p1), .val (.int p2), .val (.int p3), .val (.int (1 : Int32)), .val (.int p0), .val (.ref w1), .unset, .unset] [(.int p2), (.ref a21), (.ref b19), (.ref b19)])) _
      refine Go.by (fun tt_ kk_ => XS.i2dS X.here hx rfl (hb hby at_49) rfl rfl kk_) ?_
      show Go p.tables e below (T.setTop (mkF m 50 #[.val (.int p0), .val (.int p1), .val (.int p2), .val (.int p3), .val (.int (1 : Int32)), .val (.int p0), .val (.ref w1), .unset, .unset] [(.double (FP.i2d p2)), (.ref a21), (.ref b19), (.ref b19)])) _
      refine Go.by (fun tt_ kk_ => XS.iloadN X.here hx rfl (hb hby at_50) rfl kk_) ?_
      show Go p.tables e below (T.setTop (mkF m 51 #[.val (.int p0), .val (.int p1), .val (.int p2), .val (.int p3), .val (.int (1 : Int32)), .val (.int p0), .val (.ref w1), .unset, .unset] [(.int p0), (.double (FP.i2d p2)), (.ref a21), (.ref b19), (.ref b19)])) _
      refine Go.by (fun tt_ kk_ => XS.i2dS X.here hx rfl (hb hby at_51) rfl rfl kk_) ?_
      show Go p.tables e below (T.setTop (mkF m 52 #[.val (.int p0), .val (.int p1), .val (.int p2), .val (.int p3), .val (.int (1 : Int32)), .val (.int p0), .val (.ref w1), .unset, .unset] [(.double (FP.i2d p0)), (.double (FP.i2d p2)), (.ref a21), (.ref b19), (.ref b19)])) _
      refine Go.by (fun tt_ kk_ => XS.aload X.here hx rfl (hb hby at_52) rfl rfl kk_) ?_
      show Go p.tables e below (T.setTop (mkF m 54 #[.val (.int p0), .val (.int p1), .val (.int p2), .val (.int p3), .val (.int (1 : Int32)), .val (.int p0), .val (.ref w1), .unset, .unset] [(.ref w1), (.double (FP.i2d p0)), (.double (FP.i2d p2)), (.ref a21), (.ref b19), (.ref b19)])) _
      refine Go.by (fun tt_ kk_ => XS.iload X.here hx rfl (hb hby at_54) rfl kk_) ?_
      show Go p.tables e below (T.setTop (mkF m 56 #[.val (.int p0), .val (.int p1), .val (.int p2), .val (.int p3), .val (.int (1 : Int32)), .val (.int p0), .val (.ref w1), .unset, .unset] [(.int p0), (.ref w1), (.double (FP.i2d p0)), (.double (FP.i2d p2)), (.ref a21), (.ref b19), (.ref b19)])) _
      refine Go.by (fun tt_ kk_ => XS.i2dS X.here hx rfl (hb hby at_56) rfl rfl kk_) ?_
      show Go p.tables e below (T.setTop (mkF m 57 #[.val (.int p0), .val (.int p1), .val (.int p2), .val (.int p3), .val (.int (1 : Int32)), .val (.int p0), .val (.ref w1), .unset, .unset] [(.double (FP.i2d p0)), (.ref w1), (.double (FP.i2d p0)), (.double (FP.i2d p2)), (.ref a21), (.ref b19), (.ref b19)])) _
      obtain ⟨_, _, ⟨T, L_, k_, n_⟩, -, X, ⟨Lc_, hQ, l_, y_, z_⟩, st⟩ := X.specialBack hx (y := (⟨"openum/benchmarks/Target", "<init>", "(Ljava/lang/String;DDLopenum/benchmarks/Target$Bound;D)V"⟩ : MethodName)) rfl hown (mvT hZ (hw _ (List.mem_of_getElem? (i := 14) rfl))) (mvT hZ (hw _ (List.mem_of_getElem? (i := 15) rfl))) (mvT hZ (hw _ (List.mem_of_getElem? (i := 16) rfl))) (by decide) (backOf (W := 1) (rm1 l Z a0 hw [] b19 a21 (FP.i2d p2) (FP.i2d p0) w1 (FP.i2d p0) h20 n0 (Nat.le_trans Z0 K.1) E_b19 g_b19 F_figure_b19 F_measured_b19 F_least_b19 F_bound_b19 F_limit_b19) hZ (hw _ (List.mem_of_getElem? (i := 16) rfl)) (hw _ (List.mem_of_getElem? (i := 5) rfl)) (by decide) (by decide)) (g := (mkF m 57 #[.val (.int p0), .val (.int p1), .val (.int p2), .val (.int p3), .val (.int (1 : Int32)), .val (.int p0), .val (.ref w1), .unset, .unset] [(.double (FP.i2d p0)), (.ref w1), (.double (FP.i2d p0)), (.double (FP.i2d p2)), (.ref a21), (.ref b19), (.ref b19)])) rfl (by rw [hml]; rfl) (Steps.refl _) (a := b19) (argsL := [(.ref a21), (.double (FP.i2d p2)), (.double (FP.i2d p0)), (.ref w1), (.double (FP.i2d p0))]) (rest := [(.ref b19)]) (lenOf pd_1 rfl) rfl (by show 2 * 0 + _ ≤ _; exact Nat.le_of_eq rfl) (hb hby at_57) (fun _ _ => ⟨rfl, eT, (by decide : 3 + 0 ≤ _), (by decide : 13 + 0 ≤ _)⟩)
      dsimp only [Pt.U, Pt.locs, Pt.cells, Pt.slots] at X l_ y_ z_ st hQ
      subst l_ y_ z_
      obtain ⟨h22, eT⟩ : ∃ z, T.heap = z := ⟨_, rfl⟩
      rw [eT] at hQ
      obtain ⟨rfl, Nq, Kq, Eq_, Fq1, Fq2, Fq3⟩ := hQ
      have N := Fr.app N Nq
      have S_w1 := own_staK S_w1 Kq (allS (fun cell hc => old_plain F_least_b19 cell hc) all0)
      have S_w2 := own_staK S_w2 Kq (allS (fun cell hc => old_plain F_least_b19 cell hc) all0)
      have E_b19 := Eq_
      have F_least_b19 := Fq1
      have F_bound_b19 := Fq2
      have F_limit_b19 := Fq3
      have K := K.trans Kq (allS (Or.inr sz_b19) all0)
      have hk := Nat.le_trans hk Kq.1
      refine Go.tr st ?_
      show Go p.tables e below (T.setTop (mkF m 60 #[.val (.int p0), .val (.int p1), .val (.int p2), .val (.int p3), .val (.int (1 : Int32)), .val (.int p0), .val (.ref w1), .unset, .unset] [(.ref b19)])) _
      refine Go.by (fun tt_ kk_ => XS.astore X.here hx rfl (hb hby at_60) rfl rfl (l' := #[.val (.int p0), .val (.int p1), .val (.int p2), .val (.int p3), .val (.int (1 : Int32)), .val (.int p0), .val (.ref w1), .val (.ref b19), .unset]) rfl kk_) ?_
      show Go p.tables e below (T.setTop (mkF m 62 #[.val (.int p0), .val (.int p1), .val (.int p2), .val (.int p3), .val (.int (1 : Int32)), .val (.int p0), .val (.ref w1), .val (.ref b19), .unset] [])) _
      refine Go.by (fun tt_ kk_ => XS.iload X.here hx rfl (hb hby at_62) rfl kk_) ?_
      show Go p.tables e below (T.setTop (mkF m 64 #[.val (.int p0), .val (.int p1), .val (.int p2), .val (.int p3), .val (.int (1 : Int32)), .val (.int p0), .val (.ref w1), .val (.ref b19), .unset] [(.int (1 : Int32))])) _
      refine Go.by (fun tt_ kk_ => XS.ifNo X.here hx rfl (hb hby at_64) rfl ((if0 _ _).trans (feq (by decide : ¬ ((1 : Int32) = (0 : Int32)))).1) kk_) ?_
      show Go p.tables e below (T.setTop (mkF m 67 #[.val (.int p0), .val (.int p1), .val (.int p2), .val (.int p3), .val (.int (1 : Int32)), .val (.int p0), .val (.ref w1), .val (.ref b19), .unset] [])) _
      refine Go.by (fun tt_ kk_ => XS.iloadN X.here hx rfl (hb hby at_67) rfl kk_) ?_
      show Go p.tables e below (T.setTop (mkF m 68 #[.val (.int p0), .val (.int p1), .val (.int p2), .val (.int p3), .val (.int (1 : Int32)), .val (.int p0), .val (.ref w1), .val (.ref b19), .unset] [(.int p0)])) _
      refine Go.by (fun tt_ kk_ => XS.iload X.here hx rfl (hb hby at_68) rfl kk_) ?_
      show Go p.tables e below (T.setTop (mkF m 70 #[.val (.int p0), .val (.int p1), .val (.int p2), .val (.int p3), .val (.int (1 : Int32)), .val (.int p0), .val (.ref w1), .val (.ref b19), .unset] [(.int p0), (.int p0)])) _
      by_cases hc70 : p0 < p0
      · refine Go.by (fun tt_ kk_ => XS.icmpYes X.here hx rfl (pc0 := 70) (pc' := 77) rfl (hb hby at_70) rfl (tlt hc70).2.2.1 (by decide) (by decide) kk_) ?_
        show Go p.tables e below (T.setTop (mkF m 77 #[.val (.int p0), .val (.int p1), .val (.int p2), .val (.int p3), .val (.int (1 : Int32)), .val (.int p0), .val (.ref w1), .val (.ref b19), .unset] [])) _
        refine Go.by (fun tt_ kk_ => XS.iconst X.here hx rfl (hb hby at_77) kk_) ?_
        show Go p.tables e below (T.setTop (mkF m 78 #[.val (.int p0), .val (.int p1), .val (.int p2), .val (.int p3), .val (.int (1 : Int32)), .val (.int p0), .val (.ref w1), .val (.ref b19), .unset] [(.int (0 : Int32))])) _
        refine Go.by (fun tt_ kk_ => XS.goto X.here hx rfl (pc0 := 78) (pc' := 92) rfl (hb hby at_78) (by decide) (by decide) kk_) ?_
        show Go p.tables e below (T.setTop (mkF m 92 #[.val (.int p0), .val (.int p1), .val (.int p2), .val (.int p3), .val (.int (1 : Int32)), .val (.int p0), .val (.ref w1), .val (.ref b19), .unset] [(.int (0 : Int32))])) _
        refine Go.by (fun tt_ kk_ => XS.istore X.here hx rfl (hb hby at_92) rfl (l' := #[.val (.int p0), .val (.int p1), .val (.int p2), .val (.int p3), .val (.int (1 : Int32)), .val (.int p0), .val (.ref w1), .val (.ref b19), .val (.int (0 : Int32))]) rfl kk_) ?_
        show Go p.tables e below (T.setTop (mkF m 94 #[.val (.int p0), .val (.int p1), .val (.int p2), .val (.int p3), .val (.int (1 : Int32)), .val (.int p0), .val (.ref w1), .val (.ref b19), .val (.int (0 : Int32))] [])) _
        refine Go.by (fun tt_ kk_ => XS.aload X.here hx rfl (hb hby at_94) rfl rfl kk_) ?_
        show Go p.tables e below (T.setTop (mkF m 96 #[.val (.int p0), .val (.int p1), .val (.int p2), .val (.int p3), .val (.int (1 : Int32)), .val (.int p0), .val (.ref w1), .val (.ref b19), .val (.int (0 : Int32))] [(.ref b19)])) _
        have hz : (if p0.toInt ≤ p0.toInt then (1 : Int32) else 0) = (0 : Int32) := if_neg (Int.not_le.mpr (Int32.lt_iff_toInt_lt.mp hc70))
        obtain ⟨cq_, kq_, qa_, qb_, qc_⟩ := isOf hZ eT E_b19
        obtain ⟨_, _, ⟨T, L_, k_, n_⟩, -, X, ⟨Lc_, hQ, l_, y_, z_⟩, st⟩ := X.virtualBack hx (y := (⟨"openum/benchmarks/Target", "met", "()Z"⟩ : MethodName)) (z := (⟨"openum/benchmarks/Target", "met", "()Z"⟩ : MethodName)) hown (mvT hZ (hw _ (List.mem_of_getElem? (i := 35) rfl))) (mvT hZ (hw _ (List.mem_of_getElem? (i := 36) rfl))) (notFace_of_selects (args := #[]) (mvT hZ (hw _ (List.mem_of_getElem? (i := 38) rfl)))) (mvT hZ (hw _ (List.mem_of_getElem? (i := 38) rfl))) (mvT hZ (hw _ (List.mem_of_getElem? (i := 37) rfl))) (by decide) (backOf (W := 0) (rm4a l Z a0 hw [] b19 (FP.i2d p0) (FP.i2d p0) p0.toInt p0.toInt w1 h22 n0 (Nat.le_trans Z0 K.1) F_least_b19 F_bound_b19 F_limit_b19 S_w1 (Dy.i2d p0) (Dy.i2d p0)) hZ (hw _ (List.mem_of_getElem? (i := 39) rfl)) (hw _ (List.mem_of_getElem? (i := 5) rfl)) (by decide) (by decide)) qa_ qc_ (g := (mkF m 96 #[.val (.int p0), .val (.int p1), .val (.int p2), .val (.int p3), .val (.int (1 : Int32)), .val (.int p0), .val (.ref w1), .val (.ref b19), .val (.int (0 : Int32))] [(.ref b19)])) rfl (by rw [hml]; rfl) (Steps.refl _) (argsL := []) (rest := []) (lenOf pd_2 rfl) rfl (by show 2 * 0 + _ ≤ _; exact Nat.le_of_eq rfl) (hb hby at_96) (fun _ _ => ⟨rfl, eT, (by decide : 3 + 0 ≤ _), (by decide : 13 + 0 ≤ _)⟩)
        dsimp only [Pt.U, Pt.locs, Pt.cells, Pt.slots] at X l_ y_ z_ st hQ
        subst l_ y_ z_
        obtain ⟨e_v, Nq, eh⟩ := hQ
        rw [hz] at e_v
        subst e_v
        have N := Fr.app N Nq
        have eT := eh
        refine Go.tr st ?_
        show Go p.tables e below (T.setTop (mkF m 99 #[.val (.int p0), .val (.int p1), .val (.int p2), .val (.int p3), .val (.int (1 : Int32)), .val (.int p0), .val (.ref w1), .val (.ref b19), .val (.int (0 : Int32))] [(.int (0 : Int32))])) _
        refine Go.by (fun tt_ kk_ => XS.iload X.here hx rfl (hb hby at_99) rfl kk_) ?_
        show Go p.tables e below (T.setTop (mkF m 101 #[.val (.int p0), .val (.int p1), .val (.int p2), .val (.int p3), .val (.int (1 : Int32)), .val (.int p0), .val (.ref w1), .val (.ref b19), .val (.int (0 : Int32))] [(.int (0 : Int32)), (.int (0 : Int32))])) _
        refine Go.by (fun tt_ kk_ => XS.icmpNo X.here hx rfl (hb hby at_101) rfl (teq (rfl : (0 : Int32) = (0 : Int32))).2 kk_) ?_
        show Go p.tables e below (T.setTop (mkF m 104 #[.val (.int p0), .val (.int p1), .val (.int p2), .val (.int p3), .val (.int (1 : Int32)), .val (.int p0), .val (.ref w1), .val (.ref b19), .val (.int (0 : Int32))] [])) _
        refine Go.by (fun tt_ kk_ => XS.iconst X.here hx rfl (hb hby at_104) kk_) ?_
        show Go p.tables e below (T.setTop (mkF m 105 #[.val (.int p0), .val (.int p1), .val (.int p2), .val (.int p3), .val (.int (1 : Int32)), .val (.int p0), .val (.ref w1), .val (.ref b19), .val (.int (0 : Int32))] [(.int (1 : Int32))])) _
        refine Go.by (fun tt_ kk_ => XS.goto X.here hx rfl (pc0 := 105) (pc' := 109) rfl (hb hby at_105) (by decide) (by decide) kk_) ?_
        show Go p.tables e below (T.setTop (mkF m 109 #[.val (.int p0), .val (.int p1), .val (.int p2), .val (.int p3), .val (.int (1 : Int32)), .val (.int p0), .val (.ref w1), .val (.ref b19), .val (.int (0 : Int32))] [(.int (1 : Int32))])) _
        exact Go.doneW X hS (by rw [eT]; exact hk) (v := some (.int (1 : Int32))) (fun h => by rw [Bd.returns] at h; cases h) Bd.notSynchronized (fun fs hr => retN X hx (z := (1 : Int32)) (t := .boolean) Bd.returns (by simp) (hb hby at_109) hr) (by rw [eT]; exact ⟨rfl, N⟩) (by decide) (by decide)
      · refine Go.by (fun tt_ kk_ => XS.icmpNo X.here hx rfl (hb hby at_70) rfl (flt hc70).2.2.1 kk_) ?_
        show Go p.tables e below (T.setTop (mkF m 73 #[.val (.int p0), .val (.int p1), .val (.int p2), .val (.int p3), .val (.int (1 : Int32)), .val (.int p0), .val (.ref w1), .val (.ref b19), .unset] [])) _
        refine Go.by (fun tt_ kk_ => XS.iconst X.here hx rfl (hb hby at_73) kk_) ?_
        show Go p.tables e below (T.setTop (mkF m 74 #[.val (.int p0), .val (.int p1), .val (.int p2), .val (.int p3), .val (.int (1 : Int32)), .val (.int p0), .val (.ref w1), .val (.ref b19), .unset] [(.int (1 : Int32))])) _
        refine Go.by (fun tt_ kk_ => XS.goto X.here hx rfl (pc0 := 74) (pc' := 92) rfl (hb hby at_74) (by decide) (by decide) kk_) ?_
        show Go p.tables e below (T.setTop (mkF m 92 #[.val (.int p0), .val (.int p1), .val (.int p2), .val (.int p3), .val (.int (1 : Int32)), .val (.int p0), .val (.ref w1), .val (.ref b19), .unset] [(.int (1 : Int32))])) _
        refine Go.by (fun tt_ kk_ => XS.istore X.here hx rfl (hb hby at_92) rfl (l' := #[.val (.int p0), .val (.int p1), .val (.int p2), .val (.int p3), .val (.int (1 : Int32)), .val (.int p0), .val (.ref w1), .val (.ref b19), .val (.int (1 : Int32))]) rfl kk_) ?_
        show Go p.tables e below (T.setTop (mkF m 94 #[.val (.int p0), .val (.int p1), .val (.int p2), .val (.int p3), .val (.int (1 : Int32)), .val (.int p0), .val (.ref w1), .val (.ref b19), .val (.int (1 : Int32))] [])) _
        refine Go.by (fun tt_ kk_ => XS.aload X.here hx rfl (hb hby at_94) rfl rfl kk_) ?_
        show Go p.tables e below (T.setTop (mkF m 96 #[.val (.int p0), .val (.int p1), .val (.int p2), .val (.int p3), .val (.int (1 : Int32)), .val (.int p0), .val (.ref w1), .val (.ref b19), .val (.int (1 : Int32))] [(.ref b19)])) _
        have hz : (if p0.toInt ≤ p0.toInt then (1 : Int32) else 0) = (1 : Int32) := if_pos (Int.not_lt.mp fun q => hc70 (Int32.lt_iff_toInt_lt.mpr q))
        obtain ⟨cq_, kq_, qa_, qb_, qc_⟩ := isOf hZ eT E_b19
        obtain ⟨_, _, ⟨T, L_, k_, n_⟩, -, X, ⟨Lc_, hQ, l_, y_, z_⟩, st⟩ := X.virtualBack hx (y := (⟨"openum/benchmarks/Target", "met", "()Z"⟩ : MethodName)) (z := (⟨"openum/benchmarks/Target", "met", "()Z"⟩ : MethodName)) hown (mvT hZ (hw _ (List.mem_of_getElem? (i := 35) rfl))) (mvT hZ (hw _ (List.mem_of_getElem? (i := 36) rfl))) (notFace_of_selects (args := #[]) (mvT hZ (hw _ (List.mem_of_getElem? (i := 38) rfl)))) (mvT hZ (hw _ (List.mem_of_getElem? (i := 38) rfl))) (mvT hZ (hw _ (List.mem_of_getElem? (i := 37) rfl))) (by decide) (backOf (W := 0) (rm4a l Z a0 hw [] b19 (FP.i2d p0) (FP.i2d p0) p0.toInt p0.toInt w1 h22 n0 (Nat.le_trans Z0 K.1) F_least_b19 F_bound_b19 F_limit_b19 S_w1 (Dy.i2d p0) (Dy.i2d p0)) hZ (hw _ (List.mem_of_getElem? (i := 39) rfl)) (hw _ (List.mem_of_getElem? (i := 5) rfl)) (by decide) (by decide)) qa_ qc_ (g := (mkF m 96 #[.val (.int p0), .val (.int p1), .val (.int p2), .val (.int p3), .val (.int (1 : Int32)), .val (.int p0), .val (.ref w1), .val (.ref b19), .val (.int (1 : Int32))] [(.ref b19)])) rfl (by rw [hml]; rfl) (Steps.refl _) (argsL := []) (rest := []) (lenOf pd_2 rfl) rfl (by show 2 * 0 + _ ≤ _; exact Nat.le_of_eq rfl) (hb hby at_96) (fun _ _ => ⟨rfl, eT, (by decide : 3 + 0 ≤ _), (by decide : 13 + 0 ≤ _)⟩)
        dsimp only [Pt.U, Pt.locs, Pt.cells, Pt.slots] at X l_ y_ z_ st hQ
        subst l_ y_ z_
        obtain ⟨e_v, Nq, eh⟩ := hQ
        rw [hz] at e_v
        subst e_v
        have N := Fr.app N Nq
        have eT := eh
        refine Go.tr st ?_
        show Go p.tables e below (T.setTop (mkF m 99 #[.val (.int p0), .val (.int p1), .val (.int p2), .val (.int p3), .val (.int (1 : Int32)), .val (.int p0), .val (.ref w1), .val (.ref b19), .val (.int (1 : Int32))] [(.int (1 : Int32))])) _
        refine Go.by (fun tt_ kk_ => XS.iload X.here hx rfl (hb hby at_99) rfl kk_) ?_
        show Go p.tables e below (T.setTop (mkF m 101 #[.val (.int p0), .val (.int p1), .val (.int p2), .val (.int p3), .val (.int (1 : Int32)), .val (.int p0), .val (.ref w1), .val (.ref b19), .val (.int (1 : Int32))] [(.int (1 : Int32)), (.int (1 : Int32))])) _
        refine Go.by (fun tt_ kk_ => XS.icmpNo X.here hx rfl (hb hby at_101) rfl (teq (rfl : (1 : Int32) = (1 : Int32))).2 kk_) ?_
        show Go p.tables e below (T.setTop (mkF m 104 #[.val (.int p0), .val (.int p1), .val (.int p2), .val (.int p3), .val (.int (1 : Int32)), .val (.int p0), .val (.ref w1), .val (.ref b19), .val (.int (1 : Int32))] [])) _
        refine Go.by (fun tt_ kk_ => XS.iconst X.here hx rfl (hb hby at_104) kk_) ?_
        show Go p.tables e below (T.setTop (mkF m 105 #[.val (.int p0), .val (.int p1), .val (.int p2), .val (.int p3), .val (.int (1 : Int32)), .val (.int p0), .val (.ref w1), .val (.ref b19), .val (.int (1 : Int32))] [(.int (1 : Int32))])) _
        refine Go.by (fun tt_ kk_ => XS.goto X.here hx rfl (pc0 := 105) (pc' := 109) rfl (hb hby at_105) (by decide) (by decide) kk_) ?_
        show Go p.tables e below (T.setTop (mkF m 109 #[.val (.int p0), .val (.int p1), .val (.int p2), .val (.int p3), .val (.int (1 : Int32)), .val (.int p0), .val (.ref w1), .val (.ref b19), .val (.int (1 : Int32))] [(.int (1 : Int32))])) _
        exact Go.doneW X hS (by rw [eT]; exact hk) (v := some (.int (1 : Int32))) (fun h => by rw [Bd.returns] at h; cases h) Bd.notSynchronized (fun fs hr => retN X hx (z := (1 : Int32)) (t := .boolean) Bd.returns (by simp) (hb hby at_109) hr) (by rw [eT]; exact ⟨rfl, N⟩) (by decide) (by decide)
theorem own_eqi {args : Array Value} {first s : State} {o : Option Outcome} {idx : List Nat} {t : Term} {k : Int32} (h : (Cond.eq t (.int k)).value args first o s idx = some true) : t.eval args first o idx s = some (.int k) := by
  obtain ⟨x, y, h1, h2, h3, -⟩ := cmp_v (Or.inl h)
  cases Option.some.inj (h2.symm.trans (Term.int_eval k))
  simp only [Cond.value, h1, h2] at h
  cases x <;> simp [Kin] at h3 ⊢ <;> simp_all
set_option maxRecDepth 65536 in
set_option maxHeartbeats 40000000 in
theorem comes_1 {Post : Tables → Env → Array Value → State → Outcome → State → Prop} (hpost : ∀ tb e args s v u, (limb_1_1.after args s (.returned v) u = true ∧ limb_1_2.after args s (.returned v) u = true ∧ True) → ReturnedEndW s (.returned v) u (Jvm.fieldLocs frame_1_writes args s ++ Jvm.arrayLocs frame_1_arrays args s ++ Jvm.staticLocs frame_1_statics s) 16 1152 → Post tb e args s (.returned v) u) :
    ArmFor flags0 classFile x code maxLocals ret World_1 tables_1 room_1 Calls_1 rest_1 Pre_1 Post := by
  intro l hfl _ _ p e ha hc hk s m args below hf hA hF happ hP
  obtain ⟨hcalls, hrest, hpre⟩ := hP
  obtain ⟨-, -, -, hnamed, -, -, -, hat⟩ := (Spec.applies_iff hf).mp happ
  obtain ⟨hg, hn⟩ := and_e (Cond.before_iff.mp (show (Jvm.Cond.and given_1 narrow_1).before args s = true from hpre))
  obtain ⟨hcount, hg⟩ := and_e hg
  obtain ⟨hv0, hg⟩ := and_e hg
  obtain ⟨hv1, hg⟩ := and_e hg
  obtain ⟨hv2, hg⟩ := and_e hg
  have hv3 := hg
  obtain ⟨w0, w1, w2, w3, rfl⟩ : ∃ w0 w1 w2 w3 : Value, args = #[w0, w1, w2, w3] := by
    have hs : args.size = 4 := by simpa [Cond.value, given_1] using hcount
    obtain ⟨L⟩ := args
    match L, hs with
    | [w0, w1, w2, w3], _ => exact ⟨w0, w1, w2, w3, rfl⟩
  have hw := fun d (hd : d ∈ tables_1) => atoms_spec (ws := Jvm.Cond.code x code maxLocals ret :: tables_1) hat d (List.mem_cons_of_mem _ hd)
  have hfit : Fit s := fun {y c} hc i hi => by
    obtain ⟨ha, rfl⟩ := Array.getElem?_eq_some_iff.mp hc
    have q := List.all_eq_true.mp ((Array.all_eq_true_iff_forall_mem.mp hF) _ (Array.getElem_mem ha)) i (List.mem_range.mpr hi)
    simpa [Array.getElem?_eq_getElem hi] using q
  obtain ⟨i0, ei0⟩ := is_v hv0
  obtain rfl : w0 = (.int i0) := Option.some.inj ei0
  obtain ⟨i1, ei1⟩ := is_v hv1
  obtain rfl : w1 = (.int i1) := Option.some.inj ei1
  obtain ⟨i2, ei2⟩ := is_v hv2
  obtain rfl : w2 = (.int i2) := Option.some.inj ei2
  obtain ⟨i3, ei3⟩ := is_v hv3
  obtain rfl : w3 = (.int i3) := Option.some.inj ei3
  obtain ⟨hn1, hn⟩ := and_e hn
  obtain ⟨hn2, hn⟩ := and_e hn
  obtain ⟨hn3, hn4⟩ := and_e hn
  obtain ⟨w1, ew1⟩ := exa_v hn1
  obtain ⟨w2, ew2⟩ := exa_v hn2
  have S_w1 := Sta.start ew1 (Or.inr ⟨(hw _ (List.mem_of_getElem? (i := 1) rfl)), (hw _ (List.mem_of_getElem? (i := 2) rfl))⟩)
  have S_w2 := Sta.start ew2 (Or.inr ⟨(hw _ (List.mem_of_getElem? (i := 1) rfl)), (hw _ (List.mem_of_getElem? (i := 42) rfl))⟩)
  have q3 := (fld_at ew2).symm.trans (own_eqi hn3)
  have q4 := (fld_at ew1).symm.trans (own_eqi hn4)
  have hne : w2 ≠ w1 := Fld.ne (Fld.start q3) (Fld.start q4) (by decide)
  obtain ⟨n, o, h1, h2, h3, _, L, rfl, ⟨rfl, N⟩, hq⟩ := rm0 l s _ hw tables_1 i0 i1 i2 i3 w1 w2 s.heap s.heap.size (Nat.le_refl _) S_w1 S_w2 hne p e ha hc hk s m _ below hf ((Spec.applies_iff_loose hf).mp happ).1 ⟨rfl, State.Warmed39.refl s, rfl⟩ trivial
  refine ⟨n, _, h1, h2, h3, hpost _ _ _ _ _ _ ⟨Cond.after_iff.mpr rfl, Cond.after_iff.mpr (eq_i res_at (Term.int_eval (1)) rfl), trivial⟩ ⟨hq.1, hq.2.1, hq.2.2.1, (hq.2.2.2.sift fun y hy => Or.inr (N y hy)).mono (by decide) (by decide)⟩⟩
theorem main_1_1 : Claimed_1_1 := comes_1 fun _ _ _ _ _ _ h hF => ⟨h.1, hF⟩
theorem main_1_2 : Claimed_1_2 := comes_1 fun _ _ _ _ _ _ h hF => ⟨h.2.1, hF⟩
end Jvm.Pilot.@@N@@
namespace Jvm.Pilot.@@N@@
open Jvm Jvm.ClassFile Sem Op Lib Jvm.Free Jvm.Stand Jvm.Pilot.@@N@@.Jvm.D
/-! MADE BY PROGRAM (witnessworld.py) out of the Statement's table words and the real class files: 17 classes; the members and pool entries that the words name. The judged class is class 1, her method 1. -/
namespace start1
open Jvm.ClassFile
def u (s : String) : CpInfo := .utf8 (stringToUtf16 s)
/-- a pool by its gaps: so many unusable entries, then the entry; so many at the end -/
def gap : Nat → List CpInfo → List CpInfo
  | 0, r => r
  | n + 1, r => .unusable :: gap n r
def poolList (es : List (Nat × CpInfo)) (last : Nat) : List CpInfo := es.foldr (fun e r => gap e.1 (e.2 :: r)) (gap last [])
def pool (es : List (Nat × CpInfo)) (last : Nat) : Array CpInfo := ⟨poolList es last⟩
def fileOf (pool : Array CpInfo) (this : Nat) (attrs : Array Attribute := #[]) (ms : Array MethodInfo := #[]) (fl : Nat := 33) (sup : Nat := 0) (ifs : Array Nat := #[]) (fds : Array FieldInfo := #[]) : ClassFile where
  minorVersion := 0
  majorVersion := 65
  constantPool := pool
  accessFlags := fl
  thisClass := this
  superClass := sup
  interfaces := ifs
  fields := fds
  methods := ms
  attributes := attrs
def plain (name : String) (sup : Option ClassId) : Class where
  name := name
  kind := .ordinary
  loader := none
  accessFlags := 33
  super := sup
  interfaces := #[]
  cf := none
  fields := #[]
  methods := #[]
  instanceTypes := #[]
  staticTypes := #[]
  resolved := #[]
  callSites := []
  init := .initialized
  statics := none
  mirror := none

def pool0 : Array CpInfo := pool [(5, u "<init>"), (0, u "()V"), (1, .class_ 10), (1, u "java/lang/Object")] 113

def k0c0 : Code := { maxStack := 0, maxLocals := 1, code := object_method_1_code, exceptionTable := #[], attributes := #[] }
def k0m0 : Method := { name := "<init>", desc := "()V", sig := { parameters := [], returnType := none }, accessFlags := 1, code := some k0c0 }
/-- java/lang/Object -/
def k0 : Class := { plain "java/lang/Object" none with
  accessFlags := 33
  interfaces := #[]
  cf := some (fileOf pool0 8 #[] #[{ accessFlags := 1, nameIndex := 5, descriptorIndex := 6, attributes := #[] }] 33 0 #[] #[])
  fields := #[]
  methods := #[k0m0]
  instanceTypes := #[]
  staticTypes := #[]
  resolved := Array.replicate 124 none
  statics := none }

def pool1 : Array CpInfo := pool [(2, .class_ 4), (1, u "java/lang/Object"), (0, u "<init>"), (0, u "()V"), (0, .fieldref 8 9), (0, .class_ 10), (0, .nameAndType 11 12), (0, u "openum/benchmarks/Target$Bound"), (0, u "AT_MOST"), (0, u "Lopenum/benchmarks/Target$Bound;"), (0, .fieldref 8 14), (0, .nameAndType 15 12), (0, u "BELOW"), (0, .class_ 17), (0, u "openum/benchmarks/Target"), (0, .string 19), (0, u "x"), (0, .methodref 16 21), (0, .nameAndType 5 22), (0, u "(Ljava/lang/String;DDLopenum/benchmarks/Target$Bound;D)V"), (0, .methodref 16 24), (0, .nameAndType 25 26), (0, u "met"), (0, u "()Z"), (0, .class_ 28), (0, u "openum/benchmarks/TargetMetPinLaw"), (2, u "law"), (0, u "(IIII)Z")] 5

def k1m0 : Method := { name := "<init>", desc := "()V", sig := { parameters := [], returnType := none }, accessFlags := 1, code := none }
def k1c1 : Code := { maxStack := 10, maxLocals := 9, code := code, exceptionTable := #[], attributes := #[] }
def k1m1 : Method := { name := "law", desc := "(IIII)Z", sig := { parameters := [.int, .int, .int, .int], returnType := some .boolean }, accessFlags := 9, code := some k1c1 }
/-- openum/benchmarks/TargetMetPinLaw -/
def k1 : Class := { plain "openum/benchmarks/TargetMetPinLaw" (some 0) with
  accessFlags := 49
  interfaces := #[]
  cf := some (fileOf pool1 27 #[] #[{ accessFlags := 1, nameIndex := 5, descriptorIndex := 6, attributes := #[] }, { accessFlags := 9, nameIndex := 31, descriptorIndex := 32, attributes := #[] }] 49 2 #[] #[])
  fields := #[]
  methods := #[k1m0, k1m1]
  instanceTypes := #[]
  staticTypes := #[]
  resolved := Array.replicate 38 none
  statics := none }

def pool2 : Array CpInfo := pool [(1, .class_ 2), (0, u "java/lang/constant/Constable"), (0, .class_ 4), (0, u "java/lang/Object")] 6

/-- java/lang/constant/Constable -/
def k2 : Class := { plain "java/lang/constant/Constable" (some 0) with
  accessFlags := 1537
  interfaces := #[]
  cf := some (fileOf pool2 1 #[] #[] 1537 3 #[] #[])
  fields := #[]
  methods := #[]
  instanceTypes := #[]
  staticTypes := #[]
  resolved := Array.replicate 11 none
  statics := none }

def pool3 : Array CpInfo := pool [(1, .class_ 2), (0, u "java/lang/Comparable"), (0, .class_ 4), (0, u "java/lang/Object")] 7

/-- java/lang/Comparable -/
def k3 : Class := { plain "java/lang/Comparable" (some 0) with
  accessFlags := 1537
  interfaces := #[]
  cf := some (fileOf pool3 1 #[] #[] 1537 3 #[] #[])
  fields := #[]
  methods := #[]
  instanceTypes := #[]
  staticTypes := #[]
  resolved := Array.replicate 12 none
  statics := none }

def pool4 : Array CpInfo := pool [(1, .class_ 2), (0, u "java/io/Serializable"), (0, .class_ 4), (0, u "java/lang/Object")] 2

/-- java/io/Serializable -/
def k4 : Class := { plain "java/io/Serializable" (some 0) with
  accessFlags := 1537
  interfaces := #[]
  cf := some (fileOf pool4 1 #[] #[] 1537 3 #[] #[])
  fields := #[]
  methods := #[]
  instanceTypes := #[]
  staticTypes := #[]
  resolved := Array.replicate 7 none
  statics := none }

def pool5 : Array CpInfo := pool [(2, .class_ 4), (1, u "java/lang/Enum"), (0, u "name"), (0, u "Ljava/lang/String;"), (2, u "ordinal"), (0, u "I"), (1, .class_ 14), (1, u "java/lang/Object"), (4, u "hash"), (86, .class_ 108), (1, u "java/lang/Enum$EnumDesc"), (2, .class_ 112), (0, u "java/lang/constant/Constable"), (0, .class_ 114), (0, u "java/lang/Comparable"), (0, .class_ 116), (0, u "java/io/Serializable")] 87

/-- java/lang/Enum -/
def k5 : Class := { plain "java/lang/Enum" (some 0) with
  accessFlags := 1057
  interfaces := #[2, 3, 4]
  cf := some (fileOf pool5 2 #[.nestMembers #[106]] #[] 1057 12 #[111, 113, 115] #[{ accessFlags := 18, nameIndex := 5, descriptorIndex := 6, attributes := #[] }, { accessFlags := 18, nameIndex := 9, descriptorIndex := 10, attributes := #[] }, { accessFlags := 2, nameIndex := 19, descriptorIndex := 10, attributes := #[] }])
  fields := #[{ name := "name", type := (.object "java/lang/String"), accessFlags := 18, slot := 0, constantValue := 0 }, { name := "ordinal", type := .int, accessFlags := 18, slot := 1, constantValue := 0 }, { name := "hash", type := .int, accessFlags := 2, slot := 2, constantValue := 0 }]
  methods := #[]
  instanceTypes := #[(.object "java/lang/String"), .int, .int]
  staticTypes := #[]
  resolved := Array.replicate 204 none
  statics := none }

def pool6 : Array CpInfo := pool [(1, .class_ 2), (0, u "openum/benchmarks/Target$Bound"), (2, u "AT_MOST"), (0, u "Lopenum/benchmarks/Target$Bound;"), (2, u "BELOW"), (2, u "$VALUES"), (0, u "[Lopenum/benchmarks/Target$Bound;"), (6, .class_ 22), (1, u "java/lang/Enum"), (8, u "text"), (0, u "Ljava/lang/String;"), (26, .class_ 60), (0, u "openum/benchmarks/Target")] 2

/-- openum/benchmarks/Target$Bound -/
def k6 : Class := { plain "openum/benchmarks/Target$Bound" (some 5) with
  accessFlags := 16432
  interfaces := #[]
  cf := some (fileOf pool6 1 #[.nestHost 59] #[] 16432 20 #[] #[{ accessFlags := 16409, nameIndex := 5, descriptorIndex := 6, attributes := #[] }, { accessFlags := 16409, nameIndex := 9, descriptorIndex := 6, attributes := #[] }, { accessFlags := 18, nameIndex := 31, descriptorIndex := 32, attributes := #[] }, { accessFlags := 4122, nameIndex := 12, descriptorIndex := 13, attributes := #[] }])
  fields := #[{ name := "AT_MOST", type := (.object "openum/benchmarks/Target$Bound"), accessFlags := 16409, slot := 0, constantValue := 0 }, { name := "BELOW", type := (.object "openum/benchmarks/Target$Bound"), accessFlags := 16409, slot := 1, constantValue := 0 }, { name := "text", type := (.object "java/lang/String"), accessFlags := 18, slot := 3, constantValue := 0 }, { name := "$VALUES", type := (.array (.object "openum/benchmarks/Target$Bound")), accessFlags := 4122, slot := 2, constantValue := 0 }]
  methods := #[]
  instanceTypes := #[(.object "java/lang/String"), .int, .int, (.object "java/lang/String")]
  staticTypes := #[(.object "openum/benchmarks/Target$Bound"), (.object "openum/benchmarks/Target$Bound"), (.array (.object "openum/benchmarks/Target$Bound"))]
  resolved := Array.replicate 63 none
  statics := some 0 }

def pool7 : Array CpInfo := pool [(1, .methodref 2 3), (0, .class_ 4), (0, .nameAndType 5 6), (0, u "java/lang/Object"), (0, u "<init>"), (0, u "()V"), (0, .class_ 8), (0, u "java/lang/Record")] 13

def k7c0 : Code := { maxStack := 1, maxLocals := 1, code := jdk_30_method_1_code, exceptionTable := #[], attributes := #[] }
def k7m0 : Method := { name := "<init>", desc := "()V", sig := { parameters := [], returnType := none }, accessFlags := 4, code := some k7c0 }
/-- java/lang/Record -/
def k7 : Class := { plain "java/lang/Record" (some 0) with
  accessFlags := 1057
  interfaces := #[]
  cf := some (fileOf pool7 7 #[] #[{ accessFlags := 4, nameIndex := 5, descriptorIndex := 6, attributes := #[] }] 1057 2 #[] #[])
  fields := #[]
  methods := #[k7m0]
  instanceTypes := #[]
  staticTypes := #[]
  resolved := Array.replicate 22 none
  statics := none }

def pool8 : Array CpInfo := pool [(1, .methodref 2 3), (0, .class_ 4), (0, .nameAndType 5 6), (0, u "java/lang/Record"), (0, u "<init>"), (0, u "()V"), (0, .fieldref 8 9), (0, .class_ 10), (0, .nameAndType 11 12), (0, u "openum/benchmarks/Target"), (0, u "figure"), (0, u "Ljava/lang/String;"), (0, .fieldref 8 14), (0, .nameAndType 15 16), (0, u "measured"), (0, u "D"), (0, .fieldref 8 18), (0, .nameAndType 19 16), (0, u "least"), (0, .fieldref 8 21), (0, .nameAndType 22 23), (0, u "bound"), (0, u "Lopenum/benchmarks/Target$Bound;"), (0, .fieldref 8 25), (0, .nameAndType 26 16), (0, u "limit"), (2, u "(Ljava/lang/String;DDLopenum/benchmarks/Target$Bound;D)V"), (0, .fieldref 31 32), (0, .class_ 33), (0, .nameAndType 34 23), (0, u "openum/benchmarks/Target$Bound"), (0, u "AT_MOST"), (45, u "met"), (0, u "()Z")] 33

def k8c0 : Code := { maxStack := 3, maxLocals := 9, code := prog_7_method_2_code, exceptionTable := #[], attributes := #[] }
def k8m0 : Method := { name := "<init>", desc := "(Ljava/lang/String;DDLopenum/benchmarks/Target$Bound;D)V", sig := { parameters := [(.object "java/lang/String"), .double, .double, (.object "openum/benchmarks/Target$Bound"), .double], returnType := none }, accessFlags := 0, code := some k8c0 }
def k8c1 : Code := { maxStack := 4, maxLocals := 1, code := prog_7_method_3_code, exceptionTable := #[], attributes := #[] }
def k8m1 : Method := { name := "met", desc := "()Z", sig := { parameters := [], returnType := some .boolean }, accessFlags := 0, code := some k8c1 }
/-- openum/benchmarks/Target -/
def k8 : Class := { plain "openum/benchmarks/Target" (some 7) with
  accessFlags := 48
  interfaces := #[]
  cf := some (fileOf pool8 8 #[.nestMembers #[31]] #[{ accessFlags := 0, nameIndex := 5, descriptorIndex := 29, attributes := #[] }, { accessFlags := 0, nameIndex := 80, descriptorIndex := 81, attributes := #[] }] 48 2 #[] #[{ accessFlags := 18, nameIndex := 11, descriptorIndex := 12, attributes := #[] }, { accessFlags := 18, nameIndex := 15, descriptorIndex := 16, attributes := #[] }, { accessFlags := 18, nameIndex := 19, descriptorIndex := 16, attributes := #[] }, { accessFlags := 18, nameIndex := 22, descriptorIndex := 23, attributes := #[] }, { accessFlags := 18, nameIndex := 26, descriptorIndex := 16, attributes := #[] }])
  fields := #[{ name := "figure", type := (.object "java/lang/String"), accessFlags := 18, slot := 0, constantValue := 0 }, { name := "measured", type := .double, accessFlags := 18, slot := 1, constantValue := 0 }, { name := "least", type := .double, accessFlags := 18, slot := 2, constantValue := 0 }, { name := "bound", type := (.object "openum/benchmarks/Target$Bound"), accessFlags := 18, slot := 3, constantValue := 0 }, { name := "limit", type := .double, accessFlags := 18, slot := 4, constantValue := 0 }]
  methods := #[k8m0, k8m1]
  instanceTypes := #[(.object "java/lang/String"), .double, .double, (.object "openum/benchmarks/Target$Bound"), .double]
  staticTypes := #[]
  resolved := Array.replicate 115 none
  statics := none }

def pool9 : Array CpInfo := pool [(2, .class_ 4), (1, u "java/lang/CharSequence"), (42, .class_ 48), (0, u "java/lang/CharSequence$1CodePointIterator"), (10, .class_ 60), (0, u "java/lang/CharSequence$1CharIterator"), (5, .class_ 67), (0, u "java/lang/Object")] 63

/-- java/lang/CharSequence -/
def k9 : Class := { plain "java/lang/CharSequence" (some 0) with
  accessFlags := 1537
  interfaces := #[]
  cf := some (fileOf pool9 2 #[.nestMembers #[47, 59]] #[] 1537 66 #[] #[])
  fields := #[]
  methods := #[]
  instanceTypes := #[]
  staticTypes := #[]
  resolved := Array.replicate 131 none
  statics := none }

def pool10 : Array CpInfo := pool [(1, .class_ 2), (0, u "java/lang/constant/ConstantDesc"), (0, .class_ 4), (0, u "java/lang/Object")] 32

/-- java/lang/constant/ConstantDesc -/
def k10 : Class := { plain "java/lang/constant/ConstantDesc" (some 0) with
  accessFlags := 1537
  interfaces := #[]
  cf := some (fileOf pool10 1 #[] #[] 1537 3 #[] #[])
  fields := #[]
  methods := #[]
  instanceTypes := #[]
  staticTypes := #[]
  resolved := Array.replicate 37 none
  statics := none }

def pool11 : Array CpInfo := pool [(2, .class_ 4), (1, u "java/lang/Object"), (0, u "<init>"), (0, u "()V"), (3, .class_ 12), (1, u "java/lang/String"), (0, u "value"), (0, u "[B"), (2, u "coder"), (0, u "B"), (2, u "hash"), (0, u "I"), (2, u "hashIsZero"), (0, u "Z"), (13, u "COMPACT_STRINGS"), (534, .class_ 576), (0, u "java/lang/CharSequence"), (22, u "CASE_INSENSITIVE_ORDER"), (0, u "Ljava/util/Comparator;"), (500, u "serialPersistentFields"), (0, u "[Ljava/io/ObjectStreamField;"), (0, .class_ 1104), (0, u "java/lang/String$CaseInsensitiveComparator"), (1, .class_ 1107), (0, u "java/io/Serializable"), (0, .class_ 1109), (0, u "java/lang/Comparable"), (0, .class_ 1111), (0, u "java/lang/constant/Constable"), (0, .class_ 1113), (0, u "java/lang/constant/ConstantDesc"), (2, u "serialVersionUID"), (0, u "J"), (3, u "REPL"), (0, u "C"), (2, u "LATIN1"), (1, u "UTF16")] 323

def k11m0 : Method := { name := "<init>", desc := "()V", sig := { parameters := [], returnType := none }, accessFlags := 1, code := none }
/-- java/lang/String -/
def k11 : Class := { plain "java/lang/String" (some 0) with
  accessFlags := 49
  interfaces := #[4, 3, 9, 2, 10]
  cf := some (fileOf pool11 10 #[.nestMembers #[1103]] #[{ accessFlags := 1, nameIndex := 5, descriptorIndex := 6, attributes := #[] }] 49 2 #[1106, 1108, 575, 1110, 1112] #[{ accessFlags := 18, nameIndex := 13, descriptorIndex := 14, attributes := #[] }, { accessFlags := 18, nameIndex := 17, descriptorIndex := 18, attributes := #[] }, { accessFlags := 2, nameIndex := 21, descriptorIndex := 22, attributes := #[] }, { accessFlags := 2, nameIndex := 25, descriptorIndex := 26, attributes := #[] }, { accessFlags := 26, nameIndex := 1116, descriptorIndex := 1117, attributes := #[] }, { accessFlags := 24, nameIndex := 40, descriptorIndex := 26, attributes := #[] }, { accessFlags := 26, nameIndex := 1101, descriptorIndex := 1102, attributes := #[] }, { accessFlags := 26, nameIndex := 1121, descriptorIndex := 1122, attributes := #[] }, { accessFlags := 25, nameIndex := 599, descriptorIndex := 600, attributes := #[] }, { accessFlags := 24, nameIndex := 1125, descriptorIndex := 18, attributes := #[] }, { accessFlags := 24, nameIndex := 1127, descriptorIndex := 18, attributes := #[] }])
  fields := #[{ name := "value", type := (.array .byte), accessFlags := 18, slot := 0, constantValue := 0 }, { name := "coder", type := .byte, accessFlags := 18, slot := 1, constantValue := 0 }, { name := "hash", type := .int, accessFlags := 2, slot := 2, constantValue := 0 }, { name := "hashIsZero", type := .boolean, accessFlags := 2, slot := 3, constantValue := 0 }, { name := "serialVersionUID", type := .long, accessFlags := 26, slot := 0, constantValue := 0 }, { name := "COMPACT_STRINGS", type := .boolean, accessFlags := 24, slot := 1, constantValue := 0 }, { name := "serialPersistentFields", type := (.array (.object "java/io/ObjectStreamField")), accessFlags := 26, slot := 2, constantValue := 0 }, { name := "REPL", type := .char, accessFlags := 26, slot := 3, constantValue := 0 }, { name := "CASE_INSENSITIVE_ORDER", type := (.object "java/util/Comparator"), accessFlags := 25, slot := 4, constantValue := 0 }, { name := "LATIN1", type := .byte, accessFlags := 24, slot := 5, constantValue := 0 }, { name := "UTF16", type := .byte, accessFlags := 24, slot := 6, constantValue := 0 }]
  methods := #[k11m0]
  instanceTypes := #[(.array .byte), .byte, .int, .boolean]
  staticTypes := #[.long, .boolean, (.array (.object "java/io/ObjectStreamField")), .char, (.object "java/util/Comparator"), .byte, .byte]
  resolved := Array.replicate 1451 none
  statics := none }

def pool12 : Array CpInfo := pool [(1, u "java/lang/Cloneable"), (0, .class_ 1), (0, u "java/lang/Object"), (0, .class_ 3)] 3

/-- java/lang/Cloneable -/
def k12 : Class := { plain "java/lang/Cloneable" (some 0) with
  accessFlags := 1537
  interfaces := #[]
  cf := some (fileOf pool12 2 #[] #[] 1537 4 #[] #[])
  fields := #[]
  methods := #[]
  instanceTypes := #[]
  staticTypes := #[]
  resolved := Array.replicate 8 none
  statics := none }

/-- the primitive byte -/
def k13 : Class := { plain "byte" none with kind := .primitive 'B', accessFlags := 0x411 }
/-- [B -/
def k14 : Class := { plain "[B" (some 0) with kind := .array 13 .byte, interfaces := #[12, 4], accessFlags := 1041 }

/-- the primitive int -/
def k15 : Class := { plain "int" none with kind := .primitive 'I', accessFlags := 0x411 }
/-- [I -/
def k16 : Class := { plain "[I" (some 0) with kind := .array 15 .int, interfaces := #[12, 4], accessFlags := 1041 }

def heap : Heap := #[{ cls := 6, slots := #[.ref 1, .ref 2, .null], vm := .statics 6 },
  { cls := 6, slots := #[.null, .int 0, .int 0, .null], vm := .none },
  { cls := 6, slots := #[.null, .int 1, .int 0, .null], vm := .none }]
def classes : Array Class := #[k0, k1, k2, k3, k4, k5, k6, k7, k8, k9, k10, k11, k12, k13, k14, k15, k16]
def interned : List (Array UInt16 × Addr) := []
def slotsUsed : Nat := 11
def theMethod : MethodId := ⟨1, 1⟩
def args0 : Array Value := #[.int 1, .int 2, .int 3, .int 4]
def aboutOver (below : List Frame) : State where
  vm := { classes := classes, interned := interned.toArray }
  heap := heap
  slotsUsed := slotsUsed
  threads := #[{ frames := .invoking theMethod args0 :: below }]
def below0 : List Frame := [.native { method := ⟨0, 0⟩, args := #[] }]
def about1 : State := aboutOver below0
def p0 : Program := .bare "" "" ""
def e0 : Env := launch0.env 0 0 0
theorem w_frames : about1.frames = Frame.invoking theMethod args0 :: below0 := rfl
set_option maxRecDepth 65536 in
theorem w_args : argsFit about1.vm theMethod args0 = true := by decide +kernel
set_option maxRecDepth 65536 in
theorem w_heap : heapFits about1 = true := by decide +kernel
set_option maxRecDepth 65536 in
theorem w_runnable : about1.curStatus? = some .runnable := by decide +kernel
set_option maxRecDepth 65536 in
theorem w_alone : about1.alone = true := by decide +kernel
set_option maxRecDepth 65536 in
theorem w_named : about1.methodNamed? x = some theMethod := by decide +kernel
set_option maxRecDepth 65536 in
theorem w_hears : about1.hears theMethod below0 = true := by decide +kernel
set_option maxRecDepth 65536 in
theorem w_ripe : about1.ripe theMethod args0 below0 = true := by decide +kernel
theorem w_running : about1.status = .running := rfl
set_option maxRecDepth 65536 in
theorem w_room : about1.hasRoom e0.platform room_1 = true :=
  launch0.hasRoom_least _ room_1 (by decide +kernel) (by decide +kernel) (by decide +kernel) (by decide +kernel) (by decide +kernel) (by decide +kernel)
theorem allAtoms_all (ts : List Jvm.Cond) (a : Array Jvm.Value) (st : Jvm.State) : (allAtoms ts).before a st = ts.all (fun c => c.before a st) := by
  induction ts with
  | nil => rfl
  | cons c t ih =>
    show (Jvm.Cond.and c (allAtoms t)).before a st = _
    rw [Jvm.Cond.before_and, ih, List.all_cons]
def words1 : List Jvm.Cond := Jvm.Cond.code x code maxLocals ret :: tables_1
/-- a 'code' word, met by the world's own term for the bytes: nothing is compared byte by byte -/
theorem code_word {y : MethodName} {bytes : ByteArray} {mx : Nat} {rt : Option FieldType} {a : Array Value} {s : State} {m : MethodId} {meth : Method} {c : Code} (h1 : s.methodNamed? y = some m) (h2 : s.vm.method? m = some meth) (h3 : meth.code = some c) (h4 : c.code = bytes)
    (h5 : (c.maxLocals == mx && c.exceptionTable.isEmpty && decide (c.maxStack ≤ mostOperands) && decide (meth.sig.returnType = rt) && !meth.locks && decide (parseMethodDescriptor y.desc = some meth.sig)) = true) : (Jvm.Cond.code y bytes mx rt).before a s = true := by
  simp only [Bool.and_eq_true, beq_iff_eq, Bool.not_eq_true', decide_eq_true_eq] at h5
  obtain ⟨⟨⟨⟨⟨g1, g2⟩, g3⟩, g4⟩, g5⟩, g6⟩ := h5
  simp [Cond.before, Cond.holds, Cond.value, h1, h2, h3, h4, g1, g2, g3, g4, g5, g6]
def isCode : Jvm.Cond → Bool
  | .code _ _ _ _ => true
  | _ => false
theorem all_split {L : List Jvm.Cond} {P : Jvm.Cond → Bool} (h1 : L.all (fun c => isCode c || P c) = true) (h2 : ∀ c ∈ L.filter isCode, P c = true) : L.all P = true := by
  refine List.all_eq_true.mpr fun c hc => ?_
  have h := List.all_eq_true.mp h1 c hc
  rcases Bool.eq_false_or_eq_true (isCode c) with hi | hi
  · exact h2 c (List.mem_filter.mpr ⟨hc, hi⟩)
  · simpa [hi] using h
set_option maxRecDepth 65536 in
theorem w_c0 : (Jvm.Cond.code x code maxLocals ret).before args0 about1 = true := code_word (m := ⟨1, 1⟩) (meth := k1m1) (c := k1c1) (by decide +kernel) rfl rfl rfl (by decide +kernel)
set_option maxRecDepth 65536 in
theorem w_c1 : (Jvm.Cond.code ({ cls := "openum/benchmarks/Target", name := "<init>", desc := "(Ljava/lang/String;DDLopenum/benchmarks/Target$Bound;D)V" } : Jvm.MethodName) prog_7_method_2_code (9 : Nat) (Option.none : Option Jvm.ClassFile.FieldType)).before args0 about1 = true := code_word (m := ⟨8, 0⟩) (meth := k8m0) (c := k8c0) (by decide +kernel) rfl rfl rfl (by decide +kernel)
set_option maxRecDepth 65536 in
theorem w_c2 : (Jvm.Cond.code ({ cls := "java/lang/Record", name := "<init>", desc := "()V" } : Jvm.MethodName) jdk_30_method_1_code (1 : Nat) (Option.none : Option Jvm.ClassFile.FieldType)).before args0 about1 = true := code_word (m := ⟨7, 0⟩) (meth := k7m0) (c := k7c0) (by decide +kernel) rfl rfl rfl (by decide +kernel)
set_option maxRecDepth 65536 in
theorem w_c3 : (Jvm.Cond.code ({ cls := "java/lang/Object", name := "<init>", desc := "()V" } : Jvm.MethodName) object_method_1_code (1 : Nat) (Option.none : Option Jvm.ClassFile.FieldType)).before args0 about1 = true := code_word (m := ⟨0, 0⟩) (meth := k0m0) (c := k0c0) (by decide +kernel) rfl rfl rfl (by decide +kernel)
set_option maxRecDepth 65536 in
theorem w_c4 : (Jvm.Cond.code ({ cls := "openum/benchmarks/Target", name := "met", desc := "()Z" } : Jvm.MethodName) prog_7_method_3_code (1 : Nat) (Option.some Jvm.ClassFile.FieldType.boolean)).before args0 about1 = true := code_word (m := ⟨8, 1⟩) (meth := k8m1) (c := k8c1) (by decide +kernel) rfl rfl rfl (by decide +kernel)
def codes1 : List Jvm.Cond := [Jvm.Cond.code x code maxLocals ret, Jvm.Cond.code ({ cls := "openum/benchmarks/Target", name := "<init>", desc := "(Ljava/lang/String;DDLopenum/benchmarks/Target$Bound;D)V" } : Jvm.MethodName) prog_7_method_2_code (9 : Nat) (Option.none : Option Jvm.ClassFile.FieldType), Jvm.Cond.code ({ cls := "java/lang/Record", name := "<init>", desc := "()V" } : Jvm.MethodName) jdk_30_method_1_code (1 : Nat) (Option.none : Option Jvm.ClassFile.FieldType), Jvm.Cond.code ({ cls := "java/lang/Object", name := "<init>", desc := "()V" } : Jvm.MethodName) object_method_1_code (1 : Nat) (Option.none : Option Jvm.ClassFile.FieldType), Jvm.Cond.code ({ cls := "openum/benchmarks/Target", name := "met", desc := "()Z" } : Jvm.MethodName) prog_7_method_3_code (1 : Nat) (Option.some Jvm.ClassFile.FieldType.boolean)]
set_option maxRecDepth 65536 in
theorem codes_eq : words1.filter isCode = codes1 := rfl
theorem w_codes : ∀ c ∈ words1.filter isCode, c.before args0 about1 = true := by
  rw [codes_eq]
  intro c hc
  simp only [codes1, List.mem_cons, List.not_mem_nil, or_false] at hc
  rcases hc with rfl | rfl | rfl | rfl | rfl
  · exact w_c0
  · exact w_c1
  · exact w_c2
  · exact w_c3
  · exact w_c4
set_option maxRecDepth 65536 in
theorem w_t1 : (words1.take 24).all (fun c => isCode c || c.before args0 about1) = true := by decide +kernel
set_option maxRecDepth 65536 in
theorem w_t2 : (words1.drop 24).all (fun c => isCode c || c.before args0 about1) = true := by decide +kernel
theorem w_tables : (allAtoms (Jvm.Cond.code x code maxLocals ret :: tables_1)).before args0 about1 = true := by
  rw [allAtoms_all]
  show words1.all (fun c => c.before args0 about1) = true
  refine all_split ?_ w_codes
  rw [← List.take_append_drop 24 words1, List.all_append, w_t1, w_t2]
  rfl
set_option maxRecDepth 65536 in
theorem w_case : (Jvm.Cond.and given_1 narrow_1).before args0 about1 = true := by decide +kernel
theorem w_applies : (headSpec (Jvm.Cond.code x code maxLocals ret :: tables_1) room_1).applies x e0.platform about1 = true :=
  (Spec.applies_iff w_frames).mpr ⟨w_running, w_runnable, w_alone, w_named, w_hears, w_ripe, w_room, w_tables⟩
theorem atStart : AtStart classFile x code maxLocals ret World_1 tables_1 room_1 Calls_1 rest_1 Pre_1 launch0 p0 e0 about1 theMethod args0 below0 :=
  ⟨lists_1, trivial, launch0.admits_env _ _ _, launch0.least_env, fairChoices_fair.cas, fairChoices_fair.clock, w_frames, w_args, w_heap, w_applies, trivial, trivial, w_case⟩
end start1
theorem witness_1 : WitnessClaimed_1 := ⟨start1.p0, start1.e0, start1.about1, start1.theMethod, start1.args0, start1.below0, start1.atStart⟩
end Jvm.Pilot.@@N@@
