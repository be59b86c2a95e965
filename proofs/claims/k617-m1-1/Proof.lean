import JvmDerived
import JvmDerived.Pilot.@@N@@Statement
import JvmDerived.Pilot.@@N@@Code
set_option linter.unusedVariables false
set_option linter.unusedSimpArgs false
namespace Jvm.OwnGo
open Jvm Sem ClassFile Op Lib Jvm.Stand Jvm.Free Jvm.LawKit Jvm.RoadKit
/-- from A the run comes to a state of which K is said -/
def Go (tb : Tables) (e : Env) (below : List Frame) (A : State) (K : State → Prop) : Prop := ∃ u, Steps tb e below A u ∧ K u
theorem Go.by {tb : Tables} {e : Env} {below : List Frame} {A B : State} {K : State → Prop} (h : ∀ t, Steps tb e below B t → Steps tb e below A t) (g : Go tb e below B K) : Go tb e below A K := by
  obtain ⟨u, s, k⟩ := g
  exact ⟨u, h u s, k⟩
theorem Go.tr {tb : Tables} {e : Env} {below : List Frame} {A B : State} {K : State → Prop} (h : Steps tb e below A B) (g : Go tb e below B K) : Go tb e below A K := by
  obtain ⟨u, s, k⟩ := g
  exact ⟨u, h.trans s, k⟩
theorem Go.out {tb : Tables} {e : Env} {below : List Frame} {A : State} {P : State → Outcome → Prop} (g : Go tb e below A (fun u => ∃ o, P u o)) : ∃ u o, Steps tb e below A u ∧ P u o := by
  obtain ⟨u, s, o, k⟩ := g
  exact ⟨u, o, s, k⟩
theorem Go.done {p : Program} {l : Launch} {e : Env} {R : Room} {s : State} {m : MethodId} {args : Array Value} {below : List Frame} {meth : Method} {c : Code} {T : State} {locs : List Loc} {cells slots C D : Nat}
    (X : Stand p l e R s m args below meth c T locs cells slots) {v : Option Value} (hv : meth.sig.returnType = none → v = none) (hlocks : meth.locks = false) {A : State}
    (hst : ∀ fs, (∀ (f : JFrame) (acts : List Action), f.method = m → f.locked = none → f.entered = [] → (doReturn e (T.setTop f) acts v).1 = T.setFrames fs) → Steps p.tables e below A (T.setFrames fs))
    {Q : Option Value → Heap → List Loc → Prop} (hq : Q v T.heap locs) (hc : cells ≤ C) (hs : slots ≤ D) :
    Go p.tables e below A (fun u => ∃ o, u.status = .running ∧ Ended u below o ∧ ∃ v L, o = .returned v ∧ Q v u.heap L ∧ FrameEnd s o u L C D) := by
  obtain ⟨fs, hr, hrun, hended, hW, hsame⟩ := X.leave hv hlocks
  exact ⟨_, hst fs hr, _, hrun, hended, _, _, rfl, hq, ⟨_, rfl⟩, hW, hsame.mono hc hs⟩
theorem Go.doneW {p : Program} {l : Launch} {e : Env} {R : Room} {s : State} {m : MethodId} {args : Array Value} {below : List Frame} {meth : Method} {c : Code} {T : State} {locs : List Loc} {cells slots C D : Nat} {vm1 : Vm}
    (X : Stand p l e R (s.setVm vm1) m args below meth c T locs cells slots) {n : Nat} (hS : s.Since vm1 n) (hn : n ≤ T.heap.size) {v : Option Value} (hv : meth.sig.returnType = none → v = none) (hlocks : meth.locks = false) {A : State}
    (hst : ∀ fs, (∀ (f : JFrame) (acts : List Action), f.method = m → f.locked = none → f.entered = [] → (doReturn e (T.setTop f) acts v).1 = T.setFrames fs) → Steps p.tables e below A (T.setFrames fs))
    {Q : Option Value → Heap → List Loc → Prop} (hq : Q v T.heap locs) (hc : cells ≤ C) (hs : slots ≤ D) :
    Go p.tables e below A (fun u => ∃ o, u.status = .running ∧ Ended u below o ∧ ∃ v L, o = .returned v ∧ Q v u.heap L ∧ ReturnedEndW s o u L C D) := by
  obtain ⟨fs, hr, hrun, hended, h1, h2, h3, h4⟩ := X.leaveW hS hn hv hlocks
  exact ⟨_, hst fs hr, _, hrun, hended, _, _, rfl, hq, h1, h2, h3, h4.mono hc hs⟩
end Jvm.OwnGo
namespace Jvm.OwnFp
open Jvm.FP Jvm.FP.Core Jvm.Free.Fl
/-- the double a is i * 2^e -/
def Dy (i e : Int) (a : UInt64) : Prop := ∃ s c q, val64 a = .fin s c q ∧ Whole i (.fin s c (q - e))
theorem own_const {i e : Int} {a : UInt64} (s : Bool) (c : Nat) (q : Int) (h1 : val64 a = .fin s c q) (h2 : signed s (c * 2 ^ (q - e).toNat) = i * ((2 ^ (-(q - e)).toNat : Nat) : Int)) : Dy i e a := ⟨s, c, q, h1, h2⟩
theorem Dy.noNaN {i e : Int} {a : UInt64} (h : Dy i e a) : NoNaN64 a := by
  obtain ⟨s, c, q, h1, -⟩ := h
  exact val64_no.mpr (by rw [h1]; exact fun q => nomatch q)
theorem Dy.fin {i e : Int} {a : UInt64} (h : Dy i e a) : Fin64 a := by
  obtain ⟨s, c, q, h1, -⟩ := h
  exact fin64_core.mpr ⟨s, c, q, h1⟩
theorem own_fit (s : Bool) {n : Nat} (hn : n ≤ 9007199254740992) {e : Int} (h1 : -1074 ≤ e) (h2 : e ≤ 900) :
    ∃ c q, Core.fits b64 (.fin s c q) ∧ n * 2 ^ (e - q).toNat = c * 1 * 2 ^ (q - e).toNat := by
  have e1 : b64.qmin = -1074 := qmin_b64
  have e2 : b64.qmax = 971 := by decide
  have e3 : b64.tails = 2 ^ 52 := tails_b64
  have e4 : b64.p = 53 := rfl
  have k53 : (9007199254740992 : Nat) = 2 ^ 53 := by decide
  by_cases h0 : n = 0
  · subst h0
    exact ⟨0, b64.qmin, zero_fits good_b64 s, by simp⟩
  by_cases hp : n = 9007199254740992
  · refine ⟨2 ^ 52, e + 1, ⟨by rw [e4]; decide, by rw [e1]; omega, by rw [e2]; omega, Or.inr (by rw [e3]; exact Nat.le_refl _)⟩, ?_⟩
    rw [show (e - (e + 1)).toNat = 0 by omega, show (e + 1 - e).toNat = 1 by omega, hp]
  · have l1 : 2 ^ n.log2 ≤ n := Nat.log2_self_le h0
    have l2 : n < 2 ^ (n.log2 + 1) := Nat.lt_log2_self
    have l3 : n.log2 < 53 := (Nat.pow_lt_pow_iff_right (by decide : 1 < 2)).mp (Nat.lt_of_le_of_lt l1 (by omega))
    generalize n.log2 = L at l1 l2 l3
    by_cases hq : -1074 ≤ e - (52 - (L : Int))
    · refine ⟨n * 2 ^ (52 - L), e - (52 - (L : Int)), ⟨?_, by rw [e1]; omega, by rw [e2]; omega, Or.inr ?_⟩, ?_⟩
      · rw [e4]
        calc n * 2 ^ (52 - L) < 2 ^ (L + 1) * 2 ^ (52 - L) := Nat.mul_lt_mul_of_pos_right l2 (Nat.two_pow_pos _)
          _ = 2 ^ 53 := by rw [← Nat.pow_add]; congr 1; omega
      · rw [e3]
        calc 2 ^ 52 = 2 ^ L * 2 ^ (52 - L) := by rw [← Nat.pow_add]; congr 1; omega
          _ ≤ n * 2 ^ (52 - L) := Nat.mul_le_mul_right _ l1
      · rw [show (e - (e - (52 - (L : Int)))).toNat = 52 - L by omega, show (e - (52 - (L : Int)) - e).toNat = 0 by omega]
        simp
    · refine ⟨n * 2 ^ (e + 1074).toNat, -1074, ⟨?_, by rw [e1]; omega, by rw [e2]; omega, Or.inl e1.symm⟩, ?_⟩
      · rw [e4]
        calc n * 2 ^ (e + 1074).toNat < 2 ^ (L + 1) * 2 ^ (e + 1074).toNat := Nat.mul_lt_mul_of_pos_right l2 (Nat.two_pow_pos _)
          _ = 2 ^ (L + 1 + (e + 1074).toNat) := by rw [← Nat.pow_add]
          _ ≤ 2 ^ 53 := Nat.pow_le_pow_right (by decide) (by omega)
      · rw [show (e - -1074).toNat = (e + 1074).toNat by omega, show (-1074 - e).toNat = 0 by omega]
        simp
theorem own_sg {i : Int} {s : Bool} {c : Nat} {q : Int} (h : Whole i (.fin s c q)) : signed s i.natAbs = i := by
  by_cases hi : i = 0
  · rw [hi]; exact signed_zero s
  · rw [whole_sign h hi]
    unfold signed
    by_cases z : i < 0
    · simp only [z, decide_true, if_true]; omega
    · simp only [z, decide_false]; simp; omega
theorem own_whole {i e : Int} {s : Bool} {c : Nat} {q : Int} (hs : signed s i.natAbs = i) (h : i.natAbs * 2 ^ (e - q).toNat = c * 1 * 2 ^ (q - e).toNat) : Whole i (.fin s c (q - e)) := by
  show signed s (c * 2 ^ (q - e).toNat) = i * ((2 ^ (-(q - e)).toNat : Nat) : Int)
  rw [Nat.mul_one] at h
  rw [← h, signed_mul, hs, show -(q - e) = e - q by omega]
/-- a ratio that is i * 2^e -/
theorem own_ratio {i e : Int} {s : Bool} (hs : signed s i.natAbs = i) (hi : i.natAbs ≤ 9007199254740992) (h1 : -1074 ≤ e) (h2 : e ≤ 900) :
    ∃ c q, roundRatio b64 s i.natAbs 1 e = .fin s c q ∧ Whole i (.fin s c (q - e)) := by
  obtain ⟨c, q, hf, h⟩ := own_fit s hi h1 h2
  exact ⟨c, q, roundRatio_exact good_b64 Nat.one_pos hf h, own_whole hs h⟩
theorem own_round {i e : Int} {s : Bool} {c : Nat} {q : Int} (h : Whole i (.fin s c (q - e))) (hi : i.natAbs ≤ 9007199254740992) (h1 : -1074 ≤ e) (h2 : e ≤ 900) :
    ∃ s' c' q', Core.round b64 (.fin s c q) = .fin s' c' q' ∧ Whole i (.fin s' c' (q' - e)) := by
  obtain ⟨c', q', r1, r2⟩ := own_ratio (own_sg h) hi h1 h2
  refine ⟨s, c', q', ?_, r2⟩
  have w := whole_natAbs h
  show roundRatio b64 s c 1 q = _
  rw [← r1]
  refine roundRatio_congr Nat.one_pos Nat.one_pos ?_
  rw [Nat.mul_one, Nat.mul_one, w, show -(q - e) = e - q by omega]
theorem Dy.add {i j e : Int} {a b : UInt64} (ha : Dy i e a) (hb : Dy j e b) (hi : (i + j).natAbs ≤ 9007199254740992) (h1 : -1074 ≤ e) (h2 : e ≤ 900) : Dy (i + j) e (FP.dadd a b) := by
  obtain ⟨s, c, q, a1, a2⟩ := ha
  obtain ⟨t, d, r, b1, b2⟩ := hb
  have w := whole_sum a2 b2
  have hm : min (q - e) (r - e) = min q r - e := by omega
  have hV : sumUnits s c (q - e) t d (r - e) (min q r - e) = sumUnits s c q t d r (min q r) := by
    unfold sumUnits inUnits
    rw [show q - e - (min q r - e) = q - min q r by omega, show r - e - (min q r - e) = r - min q r by omega]
  simp only [exactSum] at w
  rw [hm, hV] at w
  obtain ⟨s', c', q', r1, r2⟩ := own_round w hi h1 h2
  exact ⟨s', c', q', by rw [val64_dadd, a1, b1]; exact r1, r2⟩
theorem Dy.sub {i j e : Int} {a b : UInt64} (ha : Dy i e a) (hb : Dy j e b) (hi : (i - j).natAbs ≤ 9007199254740992) (h1 : -1074 ≤ e) (h2 : e ≤ 900) : Dy (i - j) e (FP.dsub a b) := by
  obtain ⟨s, c, q, a1, a2⟩ := ha
  obtain ⟨t, d, r, b1, b2⟩ := hb
  have w := whole_sum a2 (whole_negate b2)
  have hm : min (q - e) (r - e) = min q r - e := by omega
  have hV : sumUnits s c (q - e) (!t) d (r - e) (min q r - e) = sumUnits s c q (!t) d r (min q r) := by
    unfold sumUnits inUnits
    rw [show q - e - (min q r - e) = q - min q r by omega, show r - e - (min q r - e) = r - min q r by omega]
  simp only [negate, exactSum] at w
  rw [hm, hV] at w
  obtain ⟨s', c', q', r1, r2⟩ := own_round w hi h1 h2
  exact ⟨s', c', q', by rw [val64_dsub, a1, b1]; exact r1, r2⟩
theorem Dy.mul {i j e g : Int} {a b : UInt64} (ha : Dy i e a) (hb : Dy j g b) (hi : (i * j).natAbs ≤ 9007199254740992) (h1 : -1074 ≤ e + g) (h2 : e + g ≤ 900) : Dy (i * j) (e + g) (FP.dmul a b) := by
  obtain ⟨s, c, q, a1, a2⟩ := ha
  obtain ⟨t, d, r, b1, b2⟩ := hb
  have w := whole_product a2 b2
  simp only [exactProduct] at w
  rw [show q - e + (r - g) = q + r - (e + g) by omega] at w
  obtain ⟨s', c', q', r1, r2⟩ := own_round w hi h1 h2
  exact ⟨s', c', q', by rw [val64_dmul, a1, b1]; exact r1, r2⟩
/-- an exact quotient -/
theorem Dy.div {k j e g : Int} {a b : UInt64} (ha : Dy (k * j) e a) (hb : Dy j g b) (hj : j ≠ 0) (hi : k.natAbs ≤ 9007199254740992) (h1 : -1074 ≤ e - g) (h2 : e - g ≤ 900) : Dy k (e - g) (FP.ddiv a b) := by
  obtain ⟨s, c, q, a1, a2⟩ := ha
  obtain ⟨t, d, r, b1, b2⟩ := hb
  have wa := whole_natAbs a2
  have wb := whole_natAbs b2
  have hd : d ≠ 0 := fun z => hj ((whole_zero b2).mp z)
  have hs : signed (s != t) k.natAbs = k := by
    by_cases hk : k = 0
    · rw [hk]; exact signed_zero _
    · have s1 := whole_sign a2 (Int.mul_ne_zero hk hj)
      have s2 := whole_sign b2 hj
      rw [s1, s2]
      unfold signed
      rcases Int.lt_or_gt_of_ne hk with z | z <;> rcases Int.lt_or_gt_of_ne hj with y | y
      · have := Int.mul_pos_of_neg_of_neg z y
        simp [show ¬ k * j < 0 by omega, y]; omega
      · have := Int.mul_neg_of_neg_of_pos z y
        simp [this, show ¬ j < 0 by omega]; omega
      · have := Int.mul_neg_of_pos_of_neg z y
        simp [this, y]; omega
      · have := Int.mul_pos z y
        simp [show ¬ k * j < 0 by omega, show ¬ j < 0 by omega]; omega
  obtain ⟨c', q', r1, r2⟩ := own_ratio hs hi h1 h2
  refine ⟨_, c', q', ?_, r2⟩
  rw [val64_ddiv, a1, b1]
  show (if d = 0 then _ else roundRatio b64 (s != t) c d (q - r)) = _
  rw [if_neg hd, ← r1]
  refine roundRatio_congr (Nat.pos_of_ne_zero hd) Nat.one_pos ?_
  rw [Nat.mul_one]
  rw [Int.natAbs_mul] at wa
  -- c * 2^(q-e)+ = |k| |j| 2^(q-e)- , d * 2^(r-g)+ = |j| 2^(r-g)-
  have hj' : 0 < j.natAbs := by omega
  apply Nat.eq_of_mul_eq_mul_right (Nat.mul_pos hj' (Nat.mul_pos (Nat.two_pow_pos (q - e).toNat) (Nat.two_pow_pos (-(r - g)).toNat)))
  calc c * 2 ^ (q - r - (e - g)).toNat * (j.natAbs * (2 ^ (q - e).toNat * 2 ^ (-(r - g)).toNat))
      = (c * 2 ^ (q - e).toNat) * (j.natAbs * 2 ^ (-(r - g)).toNat) * 2 ^ (q - r - (e - g)).toNat := by ac_rfl
    _ = (k.natAbs * j.natAbs * 2 ^ (-(q - e)).toNat) * (d * 2 ^ (r - g).toNat) * 2 ^ (q - r - (e - g)).toNat := by rw [wa, wb]
    _ = k.natAbs * d * j.natAbs * 2 ^ ((-(q - e)).toNat + (r - g).toNat + (q - r - (e - g)).toNat) := by rw [Nat.pow_add, Nat.pow_add]; ac_rfl
    _ = k.natAbs * d * j.natAbs * 2 ^ ((e - g - (q - r)).toNat + (q - e).toNat + (-(r - g)).toNat) := by congr 2; omega
    _ = k.natAbs * d * 2 ^ (e - g - (q - r)).toNat * (j.natAbs * (2 ^ (q - e).toNat * 2 ^ (-(r - g)).toNat)) := by rw [Nat.pow_add, Nat.pow_add]; ac_rfl
theorem Dy.scale {i e : Int} {a : UInt64} (h : Dy i e a) (k : Nat) : Dy (i * 2 ^ k) (e - k) a := by
  obtain ⟨s, c, q, a1, a2⟩ := h
  refine ⟨s, c, q, a1, ?_⟩
  have w : signed s (c * 2 ^ (q - e).toNat) = i * ((2 ^ (-(q - e)).toNat : Nat) : Int) := a2
  show signed s (c * 2 ^ (q - (e - k)).toNat) = i * 2 ^ k * ((2 ^ (-(q - (e - k))).toNat : Nat) : Int)
  have p2 : ((2 ^ ((-(q - e)).toNat) : Nat) : Int) ≠ 0 := by
    have := Nat.two_pow_pos ((-(q - e)).toNat); omega
  refine Int.eq_of_mul_eq_mul_right p2 ?_
  have hx : (q - (e - k)).toNat + (-(q - e)).toNat = (q - e).toNat + (k + (-(q - (e - k))).toNat) := by omega
  calc signed s (c * 2 ^ (q - (e - k)).toNat) * ((2 ^ ((-(q - e)).toNat) : Nat) : Int)
      = signed s (c * 2 ^ ((q - (e - k)).toNat + (-(q - e)).toNat)) := by rw [← signed_mul, Nat.pow_add, Nat.mul_assoc]
    _ = signed s (c * 2 ^ (q - e).toNat * 2 ^ (k + (-(q - (e - k))).toNat)) := by rw [hx, Nat.pow_add, Nat.mul_assoc]
    _ = i * ((2 ^ (-(q - e)).toNat : Nat) : Int) * ((2 ^ (k + (-(q - (e - k))).toNat) : Nat) : Int) := by rw [signed_mul, w]
    _ = i * 2 ^ k * ((2 ^ (-(q - (e - k))).toNat : Nat) : Int) * ((2 ^ ((-(q - e)).toNat) : Nat) : Int) := by
        rw [Nat.pow_add, Int.natCast_mul, Int.natCast_pow 2 k]
        show i * _ * ((2 : Int) ^ k * _) = _
        ac_rfl
theorem Dy.unscale {i e : Int} {a : UInt64} (k : Nat) (h : Dy (i * 2 ^ k) e a) : Dy i (e + k) a := by
  obtain ⟨s, c, q, a1, a2⟩ := h
  refine ⟨s, c, q, a1, ?_⟩
  have w : signed s (c * 2 ^ (q - e).toNat) = i * 2 ^ k * ((2 ^ (-(q - e)).toNat : Nat) : Int) := a2
  show signed s (c * 2 ^ (q - (e + k)).toNat) = i * ((2 ^ (-(q - (e + k))).toNat : Nat) : Int)
  have p2 : ((2 ^ (k + (-(q - e)).toNat) : Nat) : Int) ≠ 0 := by
    have := Nat.two_pow_pos (k + (-(q - e)).toNat); omega
  refine Int.eq_of_mul_eq_mul_right p2 ?_
  have hx : (q - (e + k)).toNat + (k + (-(q - e)).toNat) = (q - e).toNat + (-(q - (e + k))).toNat := by omega
  calc signed s (c * 2 ^ (q - (e + k)).toNat) * ((2 ^ (k + (-(q - e)).toNat) : Nat) : Int)
      = signed s (c * 2 ^ ((q - (e + k)).toNat + (k + (-(q - e)).toNat))) := by rw [← signed_mul, Nat.pow_add 2 (q - (e + k)).toNat, Nat.mul_assoc]
    _ = signed s (c * 2 ^ (q - e).toNat * 2 ^ ((-(q - (e + k))).toNat)) := by rw [hx, Nat.pow_add, Nat.mul_assoc]
    _ = i * 2 ^ k * ((2 ^ (-(q - e)).toNat : Nat) : Int) * ((2 ^ ((-(q - (e + k))).toNat) : Nat) : Int) := by rw [signed_mul, w]
    _ = i * ((2 ^ (-(q - (e + k))).toNat : Nat) : Int) * ((2 ^ (k + (-(q - e)).toNat) : Nat) : Int) := by
        rw [Nat.pow_add, Int.natCast_mul, Int.natCast_pow 2 k]
        show i * (2 : Int) ^ k * _ * _ = _ * ((2 : Int) ^ k * _)
        ac_rfl
theorem Dy.cmp {i j e : Int} {a b : UInt64} (ha : Dy i e a) (hb : Dy j e b) : FP.dcmp a b = some (compare i j) := by
  obtain ⟨s, c, q, a1, a2⟩ := ha
  obtain ⟨t, d, r, b1, b2⟩ := hb
  have w := order_whole a2 b2
  have hm : min (q - e) (r - e) = min q r - e := by omega
  simp only [order] at w
  rw [hm] at w
  unfold inUnits at w
  rw [show q - e - (min q r - e) = q - min q r by omega, show r - e - (min q r - e) = r - min q r by omega] at w
  show order (val64 a) (val64 b) = _
  rw [a1, b1]
  exact w
theorem Dy.of_int {i : Int} {a : UInt64} (h : DInt i a) : Dy i 0 a := by
  unfold DInt at h
  cases hv : val64 a with
  | nan => rw [hv] at h; exact h.elim
  | inf => rw [hv] at h; exact h.elim
  | fin s c q => rw [hv] at h; exact ⟨s, c, q, hv, by rw [Int.sub_zero]; exact h⟩
theorem Dy.i2d (x : Int32) : Dy x.toInt 0 (FP.i2d x) := Dy.of_int (i2d_int x)
theorem Dy.l2d {x : Int64} (h : x.toInt.natAbs ≤ 9007199254740992) : Dy x.toInt 0 (FP.l2d x) := Dy.of_int (l2d_int (Nat.le_trans h (by decide)))
/-- the int that a comparison pushes -/
def own_ci (i j : Int) : Int32 := if i < j then -1 else if i = j then 0 else 1
theorem Dy.cmpV {i j e : Int} {a b : UInt64} (ha : Dy i e a) (hb : Dy j e b) (o : Jvm.ClassFile.CmpOp) : Jvm.Op.cmpValue (FP.dcmp a b) o = own_ci i j := by
  rw [ha.cmp hb, compare_ite]
  unfold own_ci
  by_cases h1 : i < j
  · simp only [if_pos h1]; cases o <;> rfl
  · by_cases h2 : i = j
    · simp only [if_neg h1, if_pos h2]; cases o <;> rfl
    · simp only [if_neg h1, if_neg h2]; cases o <;> rfl
theorem own_ci_lt {i j : Int} : own_ci i j < 0 ↔ i < j := by
  unfold own_ci
  by_cases h1 : i < j
  · simp [h1]
  · by_cases h2 : i = j <;> simp [h1, h2]
theorem own_ci_gt {i j : Int} : 0 < own_ci i j ↔ j < i := by
  unfold own_ci
  by_cases h1 : i < j
  · simp [h1]; omega
  · by_cases h2 : i = j
    · simp [h2]
    · simp [h1, h2]; omega
theorem own_ci_eq {i j : Int} : own_ci i j = 0 ↔ i = j := by
  unfold own_ci
  by_cases h1 : i < j
  · simp [h1]; omega
  · by_cases h2 : i = j <;> simp [h1, h2]
theorem Dy.cast {i j e f : Int} {a : UInt64} (h : Dy i e a) (hi : i = j) (he : e = f) : Dy j f a := by subst hi he; exact h
theorem own_zero (e : Int) : Dy 0 e (0 : UInt64) := ⟨false, 0, -1074, by decide +kernel, by
  show signed false (0 * _) = 0 * _
  rw [Nat.zero_mul, Int.zero_mul]; rfl⟩
end Jvm.OwnFp
namespace Jvm.OwnNum
theorem own_mulb {a b A B : Int} (a1 : -A ≤ a) (a2 : a ≤ A) (b1 : -B ≤ b) (b2 : b ≤ B) : -(A * B) ≤ a * b ∧ a * b ≤ A * B := by
  have hm : (a * b).natAbs ≤ A.toNat * B.toNat := by rw [Int.natAbs_mul]; exact Nat.mul_le_mul (by omega) (by omega)
  have hm2 : ((A.toNat * B.toNat : Nat) : Int) = A * B := by rw [Int.natCast_mul, Int.toNat_of_nonneg (by omega), Int.toNat_of_nonneg (by omega)]
  omega
theorem own_i2l (x : Int32) : x.toInt64.toInt = x.toInt := by simp
/-- a remainder by a positive literal -/
theorem own_rem {x k : Int32} {K : Int} (hk : k.toInt = K) (h : 0 < K) : -K < (x % k).toInt ∧ (x % k).toInt < K := by
  rw [Int32.toInt_mod, hk]
  have h1 := Int.tmod_lt_of_pos x.toInt h
  have h2 := Int.lt_tmod_of_pos x.toInt h
  omega
theorem own_and {x k : Int32} {K : Nat} (hk : k.toInt = K) (h0 : K < 2 ^ 31) : 0 ≤ (x &&& k).toInt ∧ (x &&& k).toInt ≤ K := by
  have e : k.toBitVec.toNat = K := by
    have := k.toBitVec.isLt
    have q : k.toInt = k.toBitVec.toInt := rfl
    rw [q, BitVec.toInt_eq_toNat_cond] at hk
    split at hk <;> omega
  have b : (x &&& k).toBitVec.toNat ≤ K := by
    show (x.toBitVec &&& k.toBitVec).toNat ≤ K
    rw [BitVec.toNat_and, e]; exact Nat.and_le_right
  have q : (x &&& k).toInt = (x &&& k).toBitVec.toInt := rfl
  rw [q, BitVec.toInt_eq_toNat_cond]
  split <;> omega
theorem own_add32 {a b : Int32} (h1 : -2147483648 ≤ a.toInt + b.toInt) (h2 : a.toInt + b.toInt < 2147483648) : (a + b).toInt = a.toInt + b.toInt := by
  rw [Int32.toInt_add]; exact Int.bmod_eq_of_le (by omega) (by omega)
theorem own_sub32 {a b : Int32} (h1 : -2147483648 ≤ a.toInt - b.toInt) (h2 : a.toInt - b.toInt < 2147483648) : (a - b).toInt = a.toInt - b.toInt := by
  rw [Int32.toInt_sub]; exact Int.bmod_eq_of_le (by omega) (by omega)
theorem own_mul32 {a b : Int32} (h1 : -2147483648 ≤ a.toInt * b.toInt) (h2 : a.toInt * b.toInt < 2147483648) : (a * b).toInt = a.toInt * b.toInt := by
  rw [Int32.toInt_mul]; exact Int.bmod_eq_of_le (by omega) (by omega)
theorem own_min (a b : Int32) : (if b < a then b else a).toInt = min a.toInt b.toInt := by
  split
  · rename_i h; rw [Int32.lt_iff_toInt_lt] at h; omega
  · rename_i h; rw [Int32.lt_iff_toInt_lt] at h; omega
theorem own_max (a b : Int32) : (if a < b then b else a).toInt = max a.toInt b.toInt := by
  split
  · rename_i h; rw [Int32.lt_iff_toInt_lt] at h; omega
  · rename_i h; rw [Int32.lt_iff_toInt_lt] at h; omega
theorem own_shl {e : Int32} (h0 : 0 ≤ e.toInt) (h1 : e.toInt < 11) : ∃ k : Nat, k ≤ 10 ∧ ((1 : Int32) <<< (e &&& 31)).toInt = 2 ^ k := by
  have hk : e.toInt = 0 ∨ e.toInt = 1 ∨ e.toInt = 2 ∨ e.toInt = 3 ∨ e.toInt = 4 ∨ e.toInt = 5 ∨ e.toInt = 6 ∨ e.toInt = 7 ∨ e.toInt = 8 ∨ e.toInt = 9 ∨ e.toInt = 10 := by omega
  rcases hk with h | h | h | h | h | h | h | h | h | h | h
  · exact ⟨0, by decide, by rw [Int32.toInt_inj.mp (h.trans (by decide : (0 : Int) = (0 : Int32).toInt))]; decide⟩
  · exact ⟨1, by decide, by rw [Int32.toInt_inj.mp (h.trans (by decide : (1 : Int) = (1 : Int32).toInt))]; decide⟩
  · exact ⟨2, by decide, by rw [Int32.toInt_inj.mp (h.trans (by decide : (2 : Int) = (2 : Int32).toInt))]; decide⟩
  · exact ⟨3, by decide, by rw [Int32.toInt_inj.mp (h.trans (by decide : (3 : Int) = (3 : Int32).toInt))]; decide⟩
  · exact ⟨4, by decide, by rw [Int32.toInt_inj.mp (h.trans (by decide : (4 : Int) = (4 : Int32).toInt))]; decide⟩
  · exact ⟨5, by decide, by rw [Int32.toInt_inj.mp (h.trans (by decide : (5 : Int) = (5 : Int32).toInt))]; decide⟩
  · exact ⟨6, by decide, by rw [Int32.toInt_inj.mp (h.trans (by decide : (6 : Int) = (6 : Int32).toInt))]; decide⟩
  · exact ⟨7, by decide, by rw [Int32.toInt_inj.mp (h.trans (by decide : (7 : Int) = (7 : Int32).toInt))]; decide⟩
  · exact ⟨8, by decide, by rw [Int32.toInt_inj.mp (h.trans (by decide : (8 : Int) = (8 : Int32).toInt))]; decide⟩
  · exact ⟨9, by decide, by rw [Int32.toInt_inj.mp (h.trans (by decide : (9 : Int) = (9 : Int32).toInt))]; decide⟩
  · exact ⟨10, by decide, by rw [Int32.toInt_inj.mp (h.trans (by decide : (10 : Int) = (10 : Int32).toInt))]; decide⟩
theorem own_and3 (x : Int32) : (x &&& (3 : Int32)) = (0 : Int32) ∨ (x &&& (3 : Int32)) = (1 : Int32) ∨ (x &&& (3 : Int32)) = (2 : Int32) ∨ (x &&& (3 : Int32)) = (3 : Int32) := by
  have h := own_and (x := x) (k := 3) (K := 3) (by decide) (by decide)
  have q : (x &&& (3 : Int32)).toInt = 0 ∨ (x &&& (3 : Int32)).toInt = 1 ∨ (x &&& (3 : Int32)).toInt = 2 ∨ (x &&& (3 : Int32)).toInt = 3 := by omega
  rcases q with q | q | q | q
  · exact Or.inl (Int32.toInt_inj.mp (q.trans (by decide : (0 : Int) = (0 : Int32).toInt)))
  · exact Or.inr (Or.inl (Int32.toInt_inj.mp (q.trans (by decide : (1 : Int) = (1 : Int32).toInt))))
  · exact Or.inr (Or.inr (Or.inl (Int32.toInt_inj.mp (q.trans (by decide : (2 : Int) = (2 : Int32).toInt)))))
  · exact Or.inr (Or.inr (Or.inr (Int32.toInt_inj.mp (q.trans (by decide : (3 : Int) = (3 : Int32).toInt)))))
theorem own_pow10 {e : Nat} (h : e ≤ 10) : (2 : Int) ^ e ≤ 1024 ∧ 1 ≤ (2 : Int) ^ e := by
  have : ∀ e, e ≤ 10 → (2 : Int) ^ e ≤ 1024 ∧ 1 ≤ (2 : Int) ^ e := by decide
  exact this e h
end Jvm.OwnNum
namespace Jvm.Pilot.@@N@@
open Jvm Jvm.ClassFile Sem Op Lib Jvm.Free Jvm.Stand Jvm.LawKit Jvm.RoadKit Bundle Jvm.OwnGo Jvm.OwnFp Jvm.Pilot.@@N@@.Jvm.D
open Jvm.OwnNum Jvm.FP Jvm.Free.Fl
/-- what timeBelow returns -/
def own_tb (th fr to du : Int) (r : UInt64) : Prop :=
  ((du ≤ 0 ∨ (th ≤ fr ∧ th ≤ to)) ∧ Dy 0 0 r) ∨ (0 < du ∧ fr < th ∧ to < th ∧ Dy du 0 r) ∨
  (0 < du ∧ ∃ e : Nat, e ≤ 10 ∧ ((fr < th ∧ th ≤ to ∧ to - fr = 2 ^ e ∧ Dy (du * (th - fr)) (-(e : Int)) r) ∨ (to < th ∧ th ≤ fr ∧ fr - to = 2 ^ e ∧ Dy (du * (th - to)) (-(e : Int)) r)))
theorem d1_0 : decode prog_21_method_5_code 0 = .ok (.dload 6, 2) := by decide +kernel
theorem d1_2 : decode prog_21_method_5_code 2 = .ok (.dconst 0, 1) := by decide +kernel
theorem d1_3 : decode prog_21_method_5_code 3 = .ok (.dcmp .g, 1) := by decide +kernel
theorem d1_4 : decode prog_21_method_5_code 4 = .ok (.ifCond .le 16, 3) := by decide +kernel
theorem d1_7 : decode prog_21_method_5_code 7 = .ok (.dload_n 2, 1) := by decide +kernel
theorem d1_8 : decode prog_21_method_5_code 8 = .ok (.dload_n 0, 1) := by decide +kernel
theorem d1_9 : decode prog_21_method_5_code 9 = .ok (.dcmp .l, 1) := by decide +kernel
theorem d1_10 : decode prog_21_method_5_code 10 = .ok (.ifCond .lt 16, 3) := by decide +kernel
theorem d1_13 : decode prog_21_method_5_code 13 = .ok (.dload 4, 2) := by decide +kernel
theorem d1_15 : decode prog_21_method_5_code 15 = .ok (.dload_n 0, 1) := by decide +kernel
theorem d1_16 : decode prog_21_method_5_code 16 = .ok (.dcmp .l, 1) := by decide +kernel
theorem d1_17 : decode prog_21_method_5_code 17 = .ok (.ifCond .lt 9, 3) := by decide +kernel
theorem d1_20 : decode prog_21_method_5_code 20 = .ok (.dconst 0, 1) := by decide +kernel
theorem d1_21 : decode prog_21_method_5_code 21 = .ok (.dstore 8, 2) := by decide +kernel
theorem d1_23 : decode prog_21_method_5_code 23 = .ok (.goto 54, 3) := by decide +kernel
theorem d1_26 : decode prog_21_method_5_code 26 = .ok (.dload_n 2, 1) := by decide +kernel
theorem d1_27 : decode prog_21_method_5_code 27 = .ok (.dload_n 0, 1) := by decide +kernel
theorem d1_28 : decode prog_21_method_5_code 28 = .ok (.dcmp .g, 1) := by decide +kernel
theorem d1_29 : decode prog_21_method_5_code 29 = .ok (.ifCond .ge 17, 3) := by decide +kernel
theorem d1_32 : decode prog_21_method_5_code 32 = .ok (.dload 4, 2) := by decide +kernel
theorem d1_34 : decode prog_21_method_5_code 34 = .ok (.dload_n 0, 1) := by decide +kernel
theorem d1_35 : decode prog_21_method_5_code 35 = .ok (.dcmp .g, 1) := by decide +kernel
theorem d1_36 : decode prog_21_method_5_code 36 = .ok (.ifCond .ge 10, 3) := by decide +kernel
theorem d1_39 : decode prog_21_method_5_code 39 = .ok (.dload 6, 2) := by decide +kernel
theorem d1_41 : decode prog_21_method_5_code 41 = .ok (.dstore 8, 2) := by decide +kernel
theorem d1_43 : decode prog_21_method_5_code 43 = .ok (.goto 34, 3) := by decide +kernel
theorem d1_46 : decode prog_21_method_5_code 46 = .ok (.dload_n 0, 1) := by decide +kernel
theorem d1_47 : decode prog_21_method_5_code 47 = .ok (.dload_n 2, 1) := by decide +kernel
theorem d1_48 : decode prog_21_method_5_code 48 = .ok (.dsub, 1) := by decide +kernel
theorem d1_49 : decode prog_21_method_5_code 49 = .ok (.dload 4, 2) := by decide +kernel
theorem d1_51 : decode prog_21_method_5_code 51 = .ok (.dload_n 2, 1) := by decide +kernel
theorem d1_52 : decode prog_21_method_5_code 52 = .ok (.dsub, 1) := by decide +kernel
theorem d1_53 : decode prog_21_method_5_code 53 = .ok (.ddiv, 1) := by decide +kernel
theorem d1_54 : decode prog_21_method_5_code 54 = .ok (.dload 6, 2) := by decide +kernel
theorem d1_56 : decode prog_21_method_5_code 56 = .ok (.dmul, 1) := by decide +kernel
theorem d1_57 : decode prog_21_method_5_code 57 = .ok (.dstore 10, 2) := by decide +kernel
theorem d1_59 : decode prog_21_method_5_code 59 = .ok (.dload_n 2, 1) := by decide +kernel
theorem d1_60 : decode prog_21_method_5_code 60 = .ok (.dload_n 0, 1) := by decide +kernel
theorem d1_61 : decode prog_21_method_5_code 61 = .ok (.dcmp .g, 1) := by decide +kernel
theorem d1_62 : decode prog_21_method_5_code 62 = .ok (.ifCond .ge 8, 3) := by decide +kernel
theorem d1_65 : decode prog_21_method_5_code 65 = .ok (.dload 10, 2) := by decide +kernel
theorem d1_67 : decode prog_21_method_5_code 67 = .ok (.goto 8, 3) := by decide +kernel
theorem d1_70 : decode prog_21_method_5_code 70 = .ok (.dload 6, 2) := by decide +kernel
theorem d1_72 : decode prog_21_method_5_code 72 = .ok (.dload 10, 2) := by decide +kernel
theorem d1_74 : decode prog_21_method_5_code 74 = .ok (.dsub, 1) := by decide +kernel
theorem d1_75 : decode prog_21_method_5_code 75 = .ok (.dstore 8, 2) := by decide +kernel
theorem d1_77 : decode prog_21_method_5_code 77 = .ok (.dload 8, 2) := by decide +kernel
theorem d1_79 : decode prog_21_method_5_code 79 = .ok (.dreturn, 1) := by decide +kernel
theorem pn_0 : plainName "com/example/eindhoven/eindhoven/engine/Motion" = true := by first | (simp [plainName, overriddenIn]; done) | decide +kernel
theorem ef_1 (m : MethodId) (x0 : UInt64) (x1 : UInt64) (x2 : UInt64) (x3 : UInt64) : entryFrame m #[(.double x0), (.double x1), (.double x2), (.double x3)] 12 = mkF m 0 #[.val (.double x0), .second, .val (.double x1), .second, .val (.double x2), .second, .val (.double x3), .second, .unset, .unset, .unset, .unset] [] := by first | (simp [entryFrame, mkF, argsToLocals, Value.category]; done) | rfl
def Q1 (Z : State) (x1 : UInt64) (x2 : UInt64) (x3 : UInt64) (x4 : UInt64) (th : Int) (fr : Int) (to : Int) (du : Int) (h0 : Heap) (n0 : Nat) (v : Option Value) (h : Heap) (L : List Loc) : Prop := ∃ r, v = some (.double r) ∧ Fr n0 L ∧ own_tb th fr to du r ∧ h = h0
set_option maxRecDepth 65536 in
set_option maxHeartbeats 40000000 in
theorem rm1 (l : Launch) (Z : State) (a0 : Array Value) (hw : ∀ d ∈ tables_1, d.before a0 Z = true) (ws : List Jvm.Cond) (x1 : UInt64) (x2 : UInt64) (x3 : UInt64) (x4 : UInt64) (th : Int) (fr : Int) (to : Int) (du : Int) (h0 : Heap) (n0 : Nat) (Z0 : n0 ≤ h0.size) (d1 : Dy th 0 x1) (d2 : Dy fr 0 x2) (d3 : Dy to 0 x3) (d4 : Dy du 0 x4) (b1 : -4194304 ≤ th ∧ th ≤ 4194304) (b2 : -4194304 ≤ fr ∧ fr ≤ 4194304) (b3 : -4194304 ≤ to ∧ to ≤ 4194304) (b4 : -1048576 ≤ du ∧ du ≤ 1048576) (hsp : ∃ e : Nat, e ≤ 10 ∧ (to = fr ∨ to - fr = 2 ^ e ∨ fr - to = 2 ^ e)) :
    MetFree l (⟨"com/example/eindhoven/eindhoven/engine/Motion", "timeBelow", "(DDDD)D"⟩ : MethodName) (head1 (Jvm.Cond.code (⟨"com/example/eindhoven/eindhoven/engine/Motion", "timeBelow", "(DDDD)D"⟩ : MethodName) prog_21_method_5_code 12 (some .double) :: ws) ({ frames := 0, cells := 0, slots := 0, locals := 0 } : Room)) (fun a U => a = #[(.double x1), (.double x2), (.double x3), (.double x4)] ∧ Z.Warmed39 U.vm ∧ U.heap = h0) (fun _ _ _ _ _ => True) (fun _ U o U' => ∃ v L, o = .returned v ∧ Q1 Z x1 x2 x3 x4 th fr to du h0 n0 v U'.heap L ∧ FrameEnd U o U' L ({ frames := 0, cells := 0, slots := 0, locals := 0 } : Room).cells ({ frames := 0, cells := 0, slots := 0, locals := 0 } : Room).slots) := by
  refine MetFree.of_bodySF (plainFor_of_name pn_0) hisR ?_
  intro p e s m args below meth c s₁ Bd hml0 hP hK
  obtain ⟨rfl, hZ, hh⟩ := hP
  have hx := Bd.exec
  have hby := Bd.bytes
  have hml : c.maxLocals = 12 := hml0
  have hown : s.vm.findClass "com/example/eindhoven/eindhoven/engine/Motion" = some m.cls := findClass_of_methodNamed Bd.named
  have hnm := (name_of_methodNamed Bd.named Bd.method).1
  have X : Stand p l e ({ frames := 0, cells := 0, slots := 0, locals := 0 } : Room) s m #[(.double x1), (.double x2), (.double x3), (.double x4)] below meth c s₁ [] 0 0 := Stand.of_body Bd
  have eT : s₁.heap = h0 := by rw [← hh, Bd.state]; rfl
  have N := Fr.nil n0
  have K := Keep.refl h0 []
  refine Go.out ?_
  obtain ⟨T, eTT⟩ : ∃ z, z = s₁ := ⟨_, rfl⟩
  rw [← eTT] at X eT ⊢
  refine Go.by (fun tt_ kk_ => castTop (ef_1 m x1 x2 x3 x4) kk_) ?_
  show Go p.tables e below (T.setTop (mkF m 0 #[.val (.double x1), .second, .val (.double x2), .second, .val (.double x3), .second, .val (.double x4), .second, .unset, .unset, .unset, .unset] [])) _
  refine Go.by (fun tt_ kk_ => XS.dload X.here hx rfl (hb hby d1_0) rfl kk_) ?_
  show Go p.tables e below (T.setTop (mkF m 2 #[.val (.double x1), .second, .val (.double x2), .second, .val (.double x3), .second, .val (.double x4), .second, .unset, .unset, .unset, .unset] [(.double x4)])) _
  refine Go.by (fun tt_ kk_ => XS.dconst0 X.here hx rfl (hb hby d1_2) (v := (0 : UInt64)) rfl kk_) ?_
  show Go p.tables e below (T.setTop (mkF m 3 #[.val (.double x1), .second, .val (.double x2), .second, .val (.double x3), .second, .val (.double x4), .second, .unset, .unset, .unset, .unset] [(.double (0 : UInt64)), (.double x4)])) _
  refine Go.by (fun tt_ kk_ => XS.dcmpS X.here hx rfl (hb hby d1_3) rfl (Dy.cmpV d4 (own_zero 0) .g) kk_) ?_
  show Go p.tables e below (T.setTop (mkF m 4 #[.val (.double x1), .second, .val (.double x2), .second, .val (.double x3), .second, .val (.double x4), .second, .unset, .unset, .unset, .unset] [(.int (own_ci du 0))])) _
  by_cases hc4 : (0 : Int32) < (own_ci du 0)
  · have k4 : 0 < du := own_ci_gt.mp hc4
    refine Go.by (fun tt_ kk_ => XS.ifNo X.here hx rfl (hb hby d1_4) rfl ((if0 _ _).trans (tlt hc4).2.2.2) kk_) ?_
    show Go p.tables e below (T.setTop (mkF m 7 #[.val (.double x1), .second, .val (.double x2), .second, .val (.double x3), .second, .val (.double x4), .second, .unset, .unset, .unset, .unset] [])) _
    refine Go.by (fun tt_ kk_ => XS.dloadN X.here hx rfl (hb hby d1_7) rfl kk_) ?_
    show Go p.tables e below (T.setTop (mkF m 8 #[.val (.double x1), .second, .val (.double x2), .second, .val (.double x3), .second, .val (.double x4), .second, .unset, .unset, .unset, .unset] [(.double x2)])) _
    refine Go.by (fun tt_ kk_ => XS.dloadN X.here hx rfl (hb hby d1_8) rfl kk_) ?_
    show Go p.tables e below (T.setTop (mkF m 9 #[.val (.double x1), .second, .val (.double x2), .second, .val (.double x3), .second, .val (.double x4), .second, .unset, .unset, .unset, .unset] [(.double x1), (.double x2)])) _
    refine Go.by (fun tt_ kk_ => XS.dcmpS X.here hx rfl (hb hby d1_9) rfl (Dy.cmpV d2 d1 .l) kk_) ?_
    show Go p.tables e below (T.setTop (mkF m 10 #[.val (.double x1), .second, .val (.double x2), .second, .val (.double x3), .second, .val (.double x4), .second, .unset, .unset, .unset, .unset] [(.int (own_ci fr th))])) _
    by_cases hc10 : (own_ci fr th) < (0 : Int32)
    · have k10 : fr < th := own_ci_lt.mp hc10
      refine Go.by (fun tt_ kk_ => XS.ifYes X.here hx rfl (pc0 := 10) (pc' := 26) rfl (hb hby d1_10) rfl ((if0 _ _).trans (tlt hc10).1) (by decide) (by decide) kk_) ?_
      show Go p.tables e below (T.setTop (mkF m 26 #[.val (.double x1), .second, .val (.double x2), .second, .val (.double x3), .second, .val (.double x4), .second, .unset, .unset, .unset, .unset] [])) _
      refine Go.by (fun tt_ kk_ => XS.dloadN X.here hx rfl (hb hby d1_26) rfl kk_) ?_
      show Go p.tables e below (T.setTop (mkF m 27 #[.val (.double x1), .second, .val (.double x2), .second, .val (.double x3), .second, .val (.double x4), .second, .unset, .unset, .unset, .unset] [(.double x2)])) _
      refine Go.by (fun tt_ kk_ => XS.dloadN X.here hx rfl (hb hby d1_27) rfl kk_) ?_
      show Go p.tables e below (T.setTop (mkF m 28 #[.val (.double x1), .second, .val (.double x2), .second, .val (.double x3), .second, .val (.double x4), .second, .unset, .unset, .unset, .unset] [(.double x1), (.double x2)])) _
      refine Go.by (fun tt_ kk_ => XS.dcmpS X.here hx rfl (hb hby d1_28) rfl (Dy.cmpV d2 d1 .g) kk_) ?_
      show Go p.tables e below (T.setTop (mkF m 29 #[.val (.double x1), .second, .val (.double x2), .second, .val (.double x3), .second, .val (.double x4), .second, .unset, .unset, .unset, .unset] [(.int (own_ci fr th))])) _
      refine Go.by (fun tt_ kk_ => XS.ifNo X.here hx rfl (hb hby d1_29) rfl ((if0 _ _).trans (tlt hc10).2.1) kk_) ?_
      show Go p.tables e below (T.setTop (mkF m 32 #[.val (.double x1), .second, .val (.double x2), .second, .val (.double x3), .second, .val (.double x4), .second, .unset, .unset, .unset, .unset] [])) _
      refine Go.by (fun tt_ kk_ => XS.dload X.here hx rfl (hb hby d1_32) rfl kk_) ?_
      show Go p.tables e below (T.setTop (mkF m 34 #[.val (.double x1), .second, .val (.double x2), .second, .val (.double x3), .second, .val (.double x4), .second, .unset, .unset, .unset, .unset] [(.double x3)])) _
      refine Go.by (fun tt_ kk_ => XS.dloadN X.here hx rfl (hb hby d1_34) rfl kk_) ?_
      show Go p.tables e below (T.setTop (mkF m 35 #[.val (.double x1), .second, .val (.double x2), .second, .val (.double x3), .second, .val (.double x4), .second, .unset, .unset, .unset, .unset] [(.double x1), (.double x3)])) _
      refine Go.by (fun tt_ kk_ => XS.dcmpS X.here hx rfl (hb hby d1_35) rfl (Dy.cmpV d3 d1 .g) kk_) ?_
      show Go p.tables e below (T.setTop (mkF m 36 #[.val (.double x1), .second, .val (.double x2), .second, .val (.double x3), .second, .val (.double x4), .second, .unset, .unset, .unset, .unset] [(.int (own_ci to th))])) _
      by_cases hc36 : (own_ci to th) < (0 : Int32)
      · have k36 : to < th := own_ci_lt.mp hc36
        refine Go.by (fun tt_ kk_ => XS.ifNo X.here hx rfl (hb hby d1_36) rfl ((if0 _ _).trans (tlt hc36).2.1) kk_) ?_
        show Go p.tables e below (T.setTop (mkF m 39 #[.val (.double x1), .second, .val (.double x2), .second, .val (.double x3), .second, .val (.double x4), .second, .unset, .unset, .unset, .unset] [])) _
        refine Go.by (fun tt_ kk_ => XS.dload X.here hx rfl (hb hby d1_39) rfl kk_) ?_
        show Go p.tables e below (T.setTop (mkF m 41 #[.val (.double x1), .second, .val (.double x2), .second, .val (.double x3), .second, .val (.double x4), .second, .unset, .unset, .unset, .unset] [(.double x4)])) _
        refine Go.by (fun tt_ kk_ => XS.dstore X.here hx rfl (hb hby d1_41) rfl (l' := #[.val (.double x1), .second, .val (.double x2), .second, .val (.double x3), .second, .val (.double x4), .second, .val (.double x4), .second, .unset, .unset]) rfl kk_) ?_
        show Go p.tables e below (T.setTop (mkF m 43 #[.val (.double x1), .second, .val (.double x2), .second, .val (.double x3), .second, .val (.double x4), .second, .val (.double x4), .second, .unset, .unset] [])) _
        refine Go.by (fun tt_ kk_ => XS.goto X.here hx rfl (pc0 := 43) (pc' := 77) rfl (hb hby d1_43) (by decide) (by decide) kk_) ?_
        show Go p.tables e below (T.setTop (mkF m 77 #[.val (.double x1), .second, .val (.double x2), .second, .val (.double x3), .second, .val (.double x4), .second, .val (.double x4), .second, .unset, .unset] [])) _
        refine Go.by (fun tt_ kk_ => XS.dload X.here hx rfl (hb hby d1_77) rfl kk_) ?_
        show Go p.tables e below (T.setTop (mkF m 79 #[.val (.double x1), .second, .val (.double x2), .second, .val (.double x3), .second, .val (.double x4), .second, .val (.double x4), .second, .unset, .unset] [(.double x4)])) _
        exact Go.done X  (v := some (.double x4)) (fun h => by rw [Bd.returns] at h; cases h) Bd.notSynchronized (fun fs hr => retOut X hx Bd.returns rfl (by simp [Value.isRef, FieldType.isReference]) (hb hby d1_79) hr) (by rw [eT]; exact ⟨x4, rfl, N, Or.inr (Or.inl ⟨k4, k10, k36, d4⟩), rfl⟩) (by decide) (by decide)
      · have k36 : th ≤ to := Int.not_lt.mp fun q => hc36 (own_ci_lt.mpr q)
        refine Go.by (fun tt_ kk_ => XS.ifYes X.here hx rfl (pc0 := 36) (pc' := 46) rfl (hb hby d1_36) rfl ((if0 _ _).trans (flt hc36).2.1) (by decide) (by decide) kk_) ?_
        show Go p.tables e below (T.setTop (mkF m 46 #[.val (.double x1), .second, .val (.double x2), .second, .val (.double x3), .second, .val (.double x4), .second, .unset, .unset, .unset, .unset] [])) _
        obtain ⟨ew, he, hs⟩ := hsp
        have pe := own_pow10 he
        have hs1 : to - fr = 2 ^ ew := by omega
        have m1 := own_mulb (A := 1048576) (B := 1024) b4.1 b4.2 (show -1024 ≤ th - fr by omega) (by omega)
        refine Go.by (fun tt_ kk_ => XS.dloadN X.here hx rfl (hb hby d1_46) rfl kk_) ?_
        show Go p.tables e below (T.setTop (mkF m 47 #[.val (.double x1), .second, .val (.double x2), .second, .val (.double x3), .second, .val (.double x4), .second, .unset, .unset, .unset, .unset] [(.double x1)])) _
        refine Go.by (fun tt_ kk_ => XS.dloadN X.here hx rfl (hb hby d1_47) rfl kk_) ?_
        show Go p.tables e below (T.setTop (mkF m 48 #[.val (.double x1), .second, .val (.double x2), .second, .val (.double x3), .second, .val (.double x4), .second, .unset, .unset, .unset, .unset] [(.double x2), (.double x1)])) _
        obtain ⟨y1, e_y1⟩ : ∃ z, z = FP.dsub x1 x2 := ⟨_, rfl⟩
        have d_y1 : Dy (th - fr) 0 y1 := by rw [e_y1]; exact d1.sub d2 (by omega) (by decide) (by decide)
        refine Go.by (fun tt_ kk_ => XS.dsubS X.here hx rfl (hb hby d1_48) rfl (e_y1 ▸ d_y1.noNaN) e_y1.symm kk_) ?_
        show Go p.tables e below (T.setTop (mkF m 49 #[.val (.double x1), .second, .val (.double x2), .second, .val (.double x3), .second, .val (.double x4), .second, .unset, .unset, .unset, .unset] [(.double y1)])) _
        refine Go.by (fun tt_ kk_ => XS.dload X.here hx rfl (hb hby d1_49) rfl kk_) ?_
        show Go p.tables e below (T.setTop (mkF m 51 #[.val (.double x1), .second, .val (.double x2), .second, .val (.double x3), .second, .val (.double x4), .second, .unset, .unset, .unset, .unset] [(.double x3), (.double y1)])) _
        refine Go.by (fun tt_ kk_ => XS.dloadN X.here hx rfl (hb hby d1_51) rfl kk_) ?_
        show Go p.tables e below (T.setTop (mkF m 52 #[.val (.double x1), .second, .val (.double x2), .second, .val (.double x3), .second, .val (.double x4), .second, .unset, .unset, .unset, .unset] [(.double x2), (.double x3), (.double y1)])) _
        obtain ⟨y2, e_y2⟩ : ∃ z, z = FP.dsub x3 x2 := ⟨_, rfl⟩
        have d_y2 : Dy 1 ew y2 := by rw [e_y2]; exact (Dy.unscale ew (Dy.cast (d3.sub d2 (by omega) (by decide) (by decide)) (by omega) rfl)).cast rfl (by omega)
        refine Go.by (fun tt_ kk_ => XS.dsubS X.here hx rfl (hb hby d1_52) rfl (e_y2 ▸ d_y2.noNaN) e_y2.symm kk_) ?_
        show Go p.tables e below (T.setTop (mkF m 53 #[.val (.double x1), .second, .val (.double x2), .second, .val (.double x3), .second, .val (.double x4), .second, .unset, .unset, .unset, .unset] [(.double y2), (.double y1)])) _
        obtain ⟨y3, e_y3⟩ : ∃ z, z = FP.ddiv y1 y2 := ⟨_, rfl⟩
        have d_y3 : Dy (th - fr) (-(ew : Int)) y3 := by rw [e_y3]; exact (Dy.div (k := th - fr) (j := 1) (by rw [Int.mul_one]; exact d_y1) d_y2 (by decide) (by omega) (by omega) (by omega)).cast rfl (by omega)
        refine Go.by (fun tt_ kk_ => XS.ddivS X.here hx rfl (hb hby d1_53) rfl (e_y3 ▸ d_y3.noNaN) e_y3.symm kk_) ?_
        show Go p.tables e below (T.setTop (mkF m 54 #[.val (.double x1), .second, .val (.double x2), .second, .val (.double x3), .second, .val (.double x4), .second, .unset, .unset, .unset, .unset] [(.double y3)])) _
        refine Go.by (fun tt_ kk_ => XS.dload X.here hx rfl (hb hby d1_54) rfl kk_) ?_
        show Go p.tables e below (T.setTop (mkF m 56 #[.val (.double x1), .second, .val (.double x2), .second, .val (.double x3), .second, .val (.double x4), .second, .unset, .unset, .unset, .unset] [(.double x4), (.double y3)])) _
        obtain ⟨y4, e_y4⟩ : ∃ z, z = FP.dmul y3 x4 := ⟨_, rfl⟩
        have d_y4 : Dy (du * (th - fr)) (-(ew : Int)) y4 := by rw [e_y4]; exact (d_y3.mul d4 (by rw [Int.mul_comm]; omega) (by omega) (by omega)).cast (Int.mul_comm _ _) (by omega)
        refine Go.by (fun tt_ kk_ => XS.dmulS X.here hx rfl (hb hby d1_56) rfl (e_y4 ▸ d_y4.noNaN) e_y4.symm kk_) ?_
        show Go p.tables e below (T.setTop (mkF m 57 #[.val (.double x1), .second, .val (.double x2), .second, .val (.double x3), .second, .val (.double x4), .second, .unset, .unset, .unset, .unset] [(.double y4)])) _
        refine Go.by (fun tt_ kk_ => XS.dstore X.here hx rfl (hb hby d1_57) rfl (l' := #[.val (.double x1), .second, .val (.double x2), .second, .val (.double x3), .second, .val (.double x4), .second, .unset, .unset, .val (.double y4), .second]) rfl kk_) ?_
        show Go p.tables e below (T.setTop (mkF m 59 #[.val (.double x1), .second, .val (.double x2), .second, .val (.double x3), .second, .val (.double x4), .second, .unset, .unset, .val (.double y4), .second] [])) _
        refine Go.by (fun tt_ kk_ => XS.dloadN X.here hx rfl (hb hby d1_59) rfl kk_) ?_
        show Go p.tables e below (T.setTop (mkF m 60 #[.val (.double x1), .second, .val (.double x2), .second, .val (.double x3), .second, .val (.double x4), .second, .unset, .unset, .val (.double y4), .second] [(.double x2)])) _
        refine Go.by (fun tt_ kk_ => XS.dloadN X.here hx rfl (hb hby d1_60) rfl kk_) ?_
        show Go p.tables e below (T.setTop (mkF m 61 #[.val (.double x1), .second, .val (.double x2), .second, .val (.double x3), .second, .val (.double x4), .second, .unset, .unset, .val (.double y4), .second] [(.double x1), (.double x2)])) _
        refine Go.by (fun tt_ kk_ => XS.dcmpS X.here hx rfl (hb hby d1_61) rfl (Dy.cmpV d2 d1 .g) kk_) ?_
        show Go p.tables e below (T.setTop (mkF m 62 #[.val (.double x1), .second, .val (.double x2), .second, .val (.double x3), .second, .val (.double x4), .second, .unset, .unset, .val (.double y4), .second] [(.int (own_ci fr th))])) _
        refine Go.by (fun tt_ kk_ => XS.ifNo X.here hx rfl (hb hby d1_62) rfl ((if0 _ _).trans (tlt hc10).2.1) kk_) ?_
        show Go p.tables e below (T.setTop (mkF m 65 #[.val (.double x1), .second, .val (.double x2), .second, .val (.double x3), .second, .val (.double x4), .second, .unset, .unset, .val (.double y4), .second] [])) _
        refine Go.by (fun tt_ kk_ => XS.dload X.here hx rfl (hb hby d1_65) rfl kk_) ?_
        show Go p.tables e below (T.setTop (mkF m 67 #[.val (.double x1), .second, .val (.double x2), .second, .val (.double x3), .second, .val (.double x4), .second, .unset, .unset, .val (.double y4), .second] [(.double y4)])) _
        refine Go.by (fun tt_ kk_ => XS.goto X.here hx rfl (pc0 := 67) (pc' := 75) rfl (hb hby d1_67) (by decide) (by decide) kk_) ?_
        show Go p.tables e below (T.setTop (mkF m 75 #[.val (.double x1), .second, .val (.double x2), .second, .val (.double x3), .second, .val (.double x4), .second, .unset, .unset, .val (.double y4), .second] [(.double y4)])) _
        refine Go.by (fun tt_ kk_ => XS.dstore X.here hx rfl (hb hby d1_75) rfl (l' := #[.val (.double x1), .second, .val (.double x2), .second, .val (.double x3), .second, .val (.double x4), .second, .val (.double y4), .second, .val (.double y4), .second]) rfl kk_) ?_
        show Go p.tables e below (T.setTop (mkF m 77 #[.val (.double x1), .second, .val (.double x2), .second, .val (.double x3), .second, .val (.double x4), .second, .val (.double y4), .second, .val (.double y4), .second] [])) _
        refine Go.by (fun tt_ kk_ => XS.dload X.here hx rfl (hb hby d1_77) rfl kk_) ?_
        show Go p.tables e below (T.setTop (mkF m 79 #[.val (.double x1), .second, .val (.double x2), .second, .val (.double x3), .second, .val (.double x4), .second, .val (.double y4), .second, .val (.double y4), .second] [(.double y4)])) _
        exact Go.done X  (v := some (.double y4)) (fun h => by rw [Bd.returns] at h; cases h) Bd.notSynchronized (fun fs hr => retOut X hx Bd.returns rfl (by simp [Value.isRef, FieldType.isReference]) (hb hby d1_79) hr) (by rw [eT]; exact ⟨y4, rfl, N, Or.inr (Or.inr ⟨k4, ew, he, Or.inl ⟨k10, k36, hs1, d_y4⟩⟩), rfl⟩) (by decide) (by decide)
    · have k10 : th ≤ fr := Int.not_lt.mp fun q => hc10 (own_ci_lt.mpr q)
      refine Go.by (fun tt_ kk_ => XS.ifNo X.here hx rfl (hb hby d1_10) rfl ((if0 _ _).trans (flt hc10).1) kk_) ?_
      show Go p.tables e below (T.setTop (mkF m 13 #[.val (.double x1), .second, .val (.double x2), .second, .val (.double x3), .second, .val (.double x4), .second, .unset, .unset, .unset, .unset] [])) _
      refine Go.by (fun tt_ kk_ => XS.dload X.here hx rfl (hb hby d1_13) rfl kk_) ?_
      show Go p.tables e below (T.setTop (mkF m 15 #[.val (.double x1), .second, .val (.double x2), .second, .val (.double x3), .second, .val (.double x4), .second, .unset, .unset, .unset, .unset] [(.double x3)])) _
      refine Go.by (fun tt_ kk_ => XS.dloadN X.here hx rfl (hb hby d1_15) rfl kk_) ?_
      show Go p.tables e below (T.setTop (mkF m 16 #[.val (.double x1), .second, .val (.double x2), .second, .val (.double x3), .second, .val (.double x4), .second, .unset, .unset, .unset, .unset] [(.double x1), (.double x3)])) _
      refine Go.by (fun tt_ kk_ => XS.dcmpS X.here hx rfl (hb hby d1_16) rfl (Dy.cmpV d3 d1 .l) kk_) ?_
      show Go p.tables e below (T.setTop (mkF m 17 #[.val (.double x1), .second, .val (.double x2), .second, .val (.double x3), .second, .val (.double x4), .second, .unset, .unset, .unset, .unset] [(.int (own_ci to th))])) _
      by_cases hc17 : (own_ci to th) < (0 : Int32)
      · have k17 : to < th := own_ci_lt.mp hc17
        refine Go.by (fun tt_ kk_ => XS.ifYes X.here hx rfl (pc0 := 17) (pc' := 26) rfl (hb hby d1_17) rfl ((if0 _ _).trans (tlt hc17).1) (by decide) (by decide) kk_) ?_
        show Go p.tables e below (T.setTop (mkF m 26 #[.val (.double x1), .second, .val (.double x2), .second, .val (.double x3), .second, .val (.double x4), .second, .unset, .unset, .unset, .unset] [])) _
        refine Go.by (fun tt_ kk_ => XS.dloadN X.here hx rfl (hb hby d1_26) rfl kk_) ?_
        show Go p.tables e below (T.setTop (mkF m 27 #[.val (.double x1), .second, .val (.double x2), .second, .val (.double x3), .second, .val (.double x4), .second, .unset, .unset, .unset, .unset] [(.double x2)])) _
        refine Go.by (fun tt_ kk_ => XS.dloadN X.here hx rfl (hb hby d1_27) rfl kk_) ?_
        show Go p.tables e below (T.setTop (mkF m 28 #[.val (.double x1), .second, .val (.double x2), .second, .val (.double x3), .second, .val (.double x4), .second, .unset, .unset, .unset, .unset] [(.double x1), (.double x2)])) _
        refine Go.by (fun tt_ kk_ => XS.dcmpS X.here hx rfl (hb hby d1_28) rfl (Dy.cmpV d2 d1 .g) kk_) ?_
        show Go p.tables e below (T.setTop (mkF m 29 #[.val (.double x1), .second, .val (.double x2), .second, .val (.double x3), .second, .val (.double x4), .second, .unset, .unset, .unset, .unset] [(.int (own_ci fr th))])) _
        refine Go.by (fun tt_ kk_ => XS.ifYes X.here hx rfl (pc0 := 29) (pc' := 46) rfl (hb hby d1_29) rfl ((if0 _ _).trans (flt hc10).2.1) (by decide) (by decide) kk_) ?_
        show Go p.tables e below (T.setTop (mkF m 46 #[.val (.double x1), .second, .val (.double x2), .second, .val (.double x3), .second, .val (.double x4), .second, .unset, .unset, .unset, .unset] [])) _
        obtain ⟨ew, he, hs⟩ := hsp
        have pe := own_pow10 he
        have hs1 : fr - to = 2 ^ ew := by omega
        have m1 := own_mulb (A := 1048576) (B := 1024) b4.1 b4.2 (show -1024 ≤ fr - th by omega) (by omega)
        have m2 := own_mulb (A := 1048576) (B := 1024) b4.1 b4.2 (show -1024 ≤ (2 : Int) ^ ew by omega) (by omega)
        have m3 := own_mulb (A := 1048576) (B := 1024) b4.1 b4.2 (show -1024 ≤ th - to by omega) (by omega)
        refine Go.by (fun tt_ kk_ => XS.dloadN X.here hx rfl (hb hby d1_46) rfl kk_) ?_
        show Go p.tables e below (T.setTop (mkF m 47 #[.val (.double x1), .second, .val (.double x2), .second, .val (.double x3), .second, .val (.double x4), .second, .unset, .unset, .unset, .unset] [(.double x1)])) _
        refine Go.by (fun tt_ kk_ => XS.dloadN X.here hx rfl (hb hby d1_47) rfl kk_) ?_
        show Go p.tables e below (T.setTop (mkF m 48 #[.val (.double x1), .second, .val (.double x2), .second, .val (.double x3), .second, .val (.double x4), .second, .unset, .unset, .unset, .unset] [(.double x2), (.double x1)])) _
        obtain ⟨y1, e_y1⟩ : ∃ z, z = FP.dsub x1 x2 := ⟨_, rfl⟩
        have d_y1 : Dy (th - fr) 0 y1 := by rw [e_y1]; exact d1.sub d2 (by omega) (by decide) (by decide)
        refine Go.by (fun tt_ kk_ => XS.dsubS X.here hx rfl (hb hby d1_48) rfl (e_y1 ▸ d_y1.noNaN) e_y1.symm kk_) ?_
        show Go p.tables e below (T.setTop (mkF m 49 #[.val (.double x1), .second, .val (.double x2), .second, .val (.double x3), .second, .val (.double x4), .second, .unset, .unset, .unset, .unset] [(.double y1)])) _
        refine Go.by (fun tt_ kk_ => XS.dload X.here hx rfl (hb hby d1_49) rfl kk_) ?_
        show Go p.tables e below (T.setTop (mkF m 51 #[.val (.double x1), .second, .val (.double x2), .second, .val (.double x3), .second, .val (.double x4), .second, .unset, .unset, .unset, .unset] [(.double x3), (.double y1)])) _
        refine Go.by (fun tt_ kk_ => XS.dloadN X.here hx rfl (hb hby d1_51) rfl kk_) ?_
        show Go p.tables e below (T.setTop (mkF m 52 #[.val (.double x1), .second, .val (.double x2), .second, .val (.double x3), .second, .val (.double x4), .second, .unset, .unset, .unset, .unset] [(.double x2), (.double x3), (.double y1)])) _
        obtain ⟨y2, e_y2⟩ : ∃ z, z = FP.dsub x3 x2 := ⟨_, rfl⟩
        have d_y2 : Dy (-1) ew y2 := by rw [e_y2]; exact (Dy.unscale ew (Dy.cast (d3.sub d2 (by omega) (by decide) (by decide)) (by omega) rfl)).cast rfl (by omega)
        refine Go.by (fun tt_ kk_ => XS.dsubS X.here hx rfl (hb hby d1_52) rfl (e_y2 ▸ d_y2.noNaN) e_y2.symm kk_) ?_
        show Go p.tables e below (T.setTop (mkF m 53 #[.val (.double x1), .second, .val (.double x2), .second, .val (.double x3), .second, .val (.double x4), .second, .unset, .unset, .unset, .unset] [(.double y2), (.double y1)])) _
        obtain ⟨y3, e_y3⟩ : ∃ z, z = FP.ddiv y1 y2 := ⟨_, rfl⟩
        have d_y3 : Dy (fr - th) (-(ew : Int)) y3 := by rw [e_y3]; exact (Dy.div (k := fr - th) (j := -1) (Dy.cast d_y1 (by omega) rfl) d_y2 (by decide) (by omega) (by omega) (by omega)).cast rfl (by omega)
        refine Go.by (fun tt_ kk_ => XS.ddivS X.here hx rfl (hb hby d1_53) rfl (e_y3 ▸ d_y3.noNaN) e_y3.symm kk_) ?_
        show Go p.tables e below (T.setTop (mkF m 54 #[.val (.double x1), .second, .val (.double x2), .second, .val (.double x3), .second, .val (.double x4), .second, .unset, .unset, .unset, .unset] [(.double y3)])) _
        refine Go.by (fun tt_ kk_ => XS.dload X.here hx rfl (hb hby d1_54) rfl kk_) ?_
        show Go p.tables e below (T.setTop (mkF m 56 #[.val (.double x1), .second, .val (.double x2), .second, .val (.double x3), .second, .val (.double x4), .second, .unset, .unset, .unset, .unset] [(.double x4), (.double y3)])) _
        obtain ⟨y4, e_y4⟩ : ∃ z, z = FP.dmul y3 x4 := ⟨_, rfl⟩
        have d_y4 : Dy (du * (fr - th)) (-(ew : Int)) y4 := by rw [e_y4]; exact (d_y3.mul d4 (by rw [Int.mul_comm]; omega) (by omega) (by omega)).cast (Int.mul_comm _ _) (by omega)
        refine Go.by (fun tt_ kk_ => XS.dmulS X.here hx rfl (hb hby d1_56) rfl (e_y4 ▸ d_y4.noNaN) e_y4.symm kk_) ?_
        show Go p.tables e below (T.setTop (mkF m 57 #[.val (.double x1), .second, .val (.double x2), .second, .val (.double x3), .second, .val (.double x4), .second, .unset, .unset, .unset, .unset] [(.double y4)])) _
        refine Go.by (fun tt_ kk_ => XS.dstore X.here hx rfl (hb hby d1_57) rfl (l' := #[.val (.double x1), .second, .val (.double x2), .second, .val (.double x3), .second, .val (.double x4), .second, .unset, .unset, .val (.double y4), .second]) rfl kk_) ?_
        show Go p.tables e below (T.setTop (mkF m 59 #[.val (.double x1), .second, .val (.double x2), .second, .val (.double x3), .second, .val (.double x4), .second, .unset, .unset, .val (.double y4), .second] [])) _
        refine Go.by (fun tt_ kk_ => XS.dloadN X.here hx rfl (hb hby d1_59) rfl kk_) ?_
        show Go p.tables e below (T.setTop (mkF m 60 #[.val (.double x1), .second, .val (.double x2), .second, .val (.double x3), .second, .val (.double x4), .second, .unset, .unset, .val (.double y4), .second] [(.double x2)])) _
        refine Go.by (fun tt_ kk_ => XS.dloadN X.here hx rfl (hb hby d1_60) rfl kk_) ?_
        show Go p.tables e below (T.setTop (mkF m 61 #[.val (.double x1), .second, .val (.double x2), .second, .val (.double x3), .second, .val (.double x4), .second, .unset, .unset, .val (.double y4), .second] [(.double x1), (.double x2)])) _
        refine Go.by (fun tt_ kk_ => XS.dcmpS X.here hx rfl (hb hby d1_61) rfl (Dy.cmpV d2 d1 .g) kk_) ?_
        show Go p.tables e below (T.setTop (mkF m 62 #[.val (.double x1), .second, .val (.double x2), .second, .val (.double x3), .second, .val (.double x4), .second, .unset, .unset, .val (.double y4), .second] [(.int (own_ci fr th))])) _
        refine Go.by (fun tt_ kk_ => XS.ifYes X.here hx rfl (pc0 := 62) (pc' := 70) rfl (hb hby d1_62) rfl ((if0 _ _).trans (flt hc10).2.1) (by decide) (by decide) kk_) ?_
        show Go p.tables e below (T.setTop (mkF m 70 #[.val (.double x1), .second, .val (.double x2), .second, .val (.double x3), .second, .val (.double x4), .second, .unset, .unset, .val (.double y4), .second] [])) _
        refine Go.by (fun tt_ kk_ => XS.dload X.here hx rfl (hb hby d1_70) rfl kk_) ?_
        show Go p.tables e below (T.setTop (mkF m 72 #[.val (.double x1), .second, .val (.double x2), .second, .val (.double x3), .second, .val (.double x4), .second, .unset, .unset, .val (.double y4), .second] [(.double x4)])) _
        refine Go.by (fun tt_ kk_ => XS.dload X.here hx rfl (hb hby d1_72) rfl kk_) ?_
        show Go p.tables e below (T.setTop (mkF m 74 #[.val (.double x1), .second, .val (.double x2), .second, .val (.double x3), .second, .val (.double x4), .second, .unset, .unset, .val (.double y4), .second] [(.double y4), (.double x4)])) _
        obtain ⟨y5, e_y5⟩ : ∃ z, z = FP.dsub x4 y4 := ⟨_, rfl⟩
        have d_y5 : Dy (du * (th - to)) (-(ew : Int)) y5 := by rw [e_y5]; exact (Dy.sub ((d4.scale ew).cast rfl (by omega)) d_y4 (by rw [← Int.mul_sub]; rw [show (2 : Int) ^ ew - (fr - th) = th - to by omega]; omega) (by omega) (by omega)).cast (by rw [← Int.mul_sub, show (2 : Int) ^ ew - (fr - th) = th - to by omega]) rfl
        refine Go.by (fun tt_ kk_ => XS.dsubS X.here hx rfl (hb hby d1_74) rfl (e_y5 ▸ d_y5.noNaN) e_y5.symm kk_) ?_
        show Go p.tables e below (T.setTop (mkF m 75 #[.val (.double x1), .second, .val (.double x2), .second, .val (.double x3), .second, .val (.double x4), .second, .unset, .unset, .val (.double y4), .second] [(.double y5)])) _
        refine Go.by (fun tt_ kk_ => XS.dstore X.here hx rfl (hb hby d1_75) rfl (l' := #[.val (.double x1), .second, .val (.double x2), .second, .val (.double x3), .second, .val (.double x4), .second, .val (.double y5), .second, .val (.double y4), .second]) rfl kk_) ?_
        show Go p.tables e below (T.setTop (mkF m 77 #[.val (.double x1), .second, .val (.double x2), .second, .val (.double x3), .second, .val (.double x4), .second, .val (.double y5), .second, .val (.double y4), .second] [])) _
        refine Go.by (fun tt_ kk_ => XS.dload X.here hx rfl (hb hby d1_77) rfl kk_) ?_
        show Go p.tables e below (T.setTop (mkF m 79 #[.val (.double x1), .second, .val (.double x2), .second, .val (.double x3), .second, .val (.double x4), .second, .val (.double y5), .second, .val (.double y4), .second] [(.double y5)])) _
        exact Go.done X  (v := some (.double y5)) (fun h => by rw [Bd.returns] at h; cases h) Bd.notSynchronized (fun fs hr => retOut X hx Bd.returns rfl (by simp [Value.isRef, FieldType.isReference]) (hb hby d1_79) hr) (by rw [eT]; exact ⟨y5, rfl, N, Or.inr (Or.inr ⟨k4, ew, he, Or.inr ⟨k17, k10, hs1, d_y5⟩⟩), rfl⟩) (by decide) (by decide)
      · have k17 : th ≤ to := Int.not_lt.mp fun q => hc17 (own_ci_lt.mpr q)
        refine Go.by (fun tt_ kk_ => XS.ifNo X.here hx rfl (hb hby d1_17) rfl ((if0 _ _).trans (flt hc17).1) kk_) ?_
        show Go p.tables e below (T.setTop (mkF m 20 #[.val (.double x1), .second, .val (.double x2), .second, .val (.double x3), .second, .val (.double x4), .second, .unset, .unset, .unset, .unset] [])) _
        refine Go.by (fun tt_ kk_ => XS.dconst0 X.here hx rfl (hb hby d1_20) (v := (0 : UInt64)) rfl kk_) ?_
        show Go p.tables e below (T.setTop (mkF m 21 #[.val (.double x1), .second, .val (.double x2), .second, .val (.double x3), .second, .val (.double x4), .second, .unset, .unset, .unset, .unset] [(.double (0 : UInt64))])) _
        refine Go.by (fun tt_ kk_ => XS.dstore X.here hx rfl (hb hby d1_21) rfl (l' := #[.val (.double x1), .second, .val (.double x2), .second, .val (.double x3), .second, .val (.double x4), .second, .val (.double (0 : UInt64)), .second, .unset, .unset]) rfl kk_) ?_
        show Go p.tables e below (T.setTop (mkF m 23 #[.val (.double x1), .second, .val (.double x2), .second, .val (.double x3), .second, .val (.double x4), .second, .val (.double (0 : UInt64)), .second, .unset, .unset] [])) _
        refine Go.by (fun tt_ kk_ => XS.goto X.here hx rfl (pc0 := 23) (pc' := 77) rfl (hb hby d1_23) (by decide) (by decide) kk_) ?_
        show Go p.tables e below (T.setTop (mkF m 77 #[.val (.double x1), .second, .val (.double x2), .second, .val (.double x3), .second, .val (.double x4), .second, .val (.double (0 : UInt64)), .second, .unset, .unset] [])) _
        refine Go.by (fun tt_ kk_ => XS.dload X.here hx rfl (hb hby d1_77) rfl kk_) ?_
        show Go p.tables e below (T.setTop (mkF m 79 #[.val (.double x1), .second, .val (.double x2), .second, .val (.double x3), .second, .val (.double x4), .second, .val (.double (0 : UInt64)), .second, .unset, .unset] [(.double (0 : UInt64))])) _
        exact Go.done X  (v := some (.double (0 : UInt64))) (fun h => by rw [Bd.returns] at h; cases h) Bd.notSynchronized (fun fs hr => retOut X hx Bd.returns rfl (by simp [Value.isRef, FieldType.isReference]) (hb hby d1_79) hr) (by rw [eT]; exact ⟨(0 : UInt64), rfl, N, Or.inl ⟨Or.inr ⟨k10, k17⟩, own_zero 0⟩, rfl⟩) (by decide) (by decide)
  · have k4 : du ≤ 0 := Int.not_lt.mp fun q => hc4 (own_ci_gt.mpr q)
    refine Go.by (fun tt_ kk_ => XS.ifYes X.here hx rfl (pc0 := 4) (pc' := 20) rfl (hb hby d1_4) rfl ((if0 _ _).trans (flt hc4).2.2.2) (by decide) (by decide) kk_) ?_
    show Go p.tables e below (T.setTop (mkF m 20 #[.val (.double x1), .second, .val (.double x2), .second, .val (.double x3), .second, .val (.double x4), .second, .unset, .unset, .unset, .unset] [])) _
    refine Go.by (fun tt_ kk_ => XS.dconst0 X.here hx rfl (hb hby d1_20) (v := (0 : UInt64)) rfl kk_) ?_
    show Go p.tables e below (T.setTop (mkF m 21 #[.val (.double x1), .second, .val (.double x2), .second, .val (.double x3), .second, .val (.double x4), .second, .unset, .unset, .unset, .unset] [(.double (0 : UInt64))])) _
    refine Go.by (fun tt_ kk_ => XS.dstore X.here hx rfl (hb hby d1_21) rfl (l' := #[.val (.double x1), .second, .val (.double x2), .second, .val (.double x3), .second, .val (.double x4), .second, .val (.double (0 : UInt64)), .second, .unset, .unset]) rfl kk_) ?_
    show Go p.tables e below (T.setTop (mkF m 23 #[.val (.double x1), .second, .val (.double x2), .second, .val (.double x3), .second, .val (.double x4), .second, .val (.double (0 : UInt64)), .second, .unset, .unset] [])) _
    refine Go.by (fun tt_ kk_ => XS.goto X.here hx rfl (pc0 := 23) (pc' := 77) rfl (hb hby d1_23) (by decide) (by decide) kk_) ?_
    show Go p.tables e below (T.setTop (mkF m 77 #[.val (.double x1), .second, .val (.double x2), .second, .val (.double x3), .second, .val (.double x4), .second, .val (.double (0 : UInt64)), .second, .unset, .unset] [])) _
    refine Go.by (fun tt_ kk_ => XS.dload X.here hx rfl (hb hby d1_77) rfl kk_) ?_
    show Go p.tables e below (T.setTop (mkF m 79 #[.val (.double x1), .second, .val (.double x2), .second, .val (.double x3), .second, .val (.double x4), .second, .val (.double (0 : UInt64)), .second, .unset, .unset] [(.double (0 : UInt64))])) _
    exact Go.done X  (v := some (.double (0 : UInt64))) (fun h => by rw [Bd.returns] at h; cases h) Bd.notSynchronized (fun fs hr => retOut X hx Bd.returns rfl (by simp [Value.isRef, FieldType.isReference]) (hb hby d1_79) hr) (by rw [eT]; exact ⟨(0 : UInt64), rfl, N, Or.inl ⟨Or.inl k4, own_zero 0⟩, rfl⟩) (by decide) (by decide)
theorem d2_0 : decode jdk_29_method_69_code 0 = .ok (.iload_n 0, 1) := by decide +kernel
theorem d2_1 : decode jdk_29_method_69_code 1 = .ok (.iload_n 1, 1) := by decide +kernel
theorem d2_2 : decode jdk_29_method_69_code 2 = .ok (.if_icmp .gt 7, 3) := by decide +kernel
theorem d2_5 : decode jdk_29_method_69_code 5 = .ok (.iload_n 0, 1) := by decide +kernel
theorem d2_6 : decode jdk_29_method_69_code 6 = .ok (.goto 4, 3) := by decide +kernel
theorem d2_9 : decode jdk_29_method_69_code 9 = .ok (.iload_n 1, 1) := by decide +kernel
theorem d2_10 : decode jdk_29_method_69_code 10 = .ok (.ireturn, 1) := by decide +kernel
theorem ef_2 (m : MethodId) (x0 : Int32) (x1 : Int32) : entryFrame m #[(.int x0), (.int x1)] 2 = mkF m 0 #[.val (.int x0), .val (.int x1)] [] := by first | (simp [entryFrame, mkF, argsToLocals, Value.category]; done) | rfl
def Q2 (Z : State) (p1 : Int32) (p2 : Int32)  (h0 : Heap) (n0 : Nat) (v : Option Value) (h : Heap) (L : List Loc) : Prop := v = some (.int (if p2 < p1 then p2 else p1)) ∧ Fr n0 L ∧ h = h0
set_option maxRecDepth 65536 in
set_option maxHeartbeats 40000000 in
theorem rm2 (l : Launch) (Z : State) (a0 : Array Value) (hw : ∀ d ∈ tables_1, d.before a0 Z = true) (ws : List Jvm.Cond) (p1 : Int32) (p2 : Int32)  (h0 : Heap) (n0 : Nat) (Z0 : n0 ≤ h0.size)  :
    MetFree l (⟨"java/lang/Math", "min", "(II)I"⟩ : MethodName) (head1 (Jvm.Cond.code (⟨"java/lang/Math", "min", "(II)I"⟩ : MethodName) jdk_29_method_69_code 2 (some .int) :: ws) ({ frames := 0, cells := 0, slots := 0, locals := 0 } : Room)) (fun a U => a = #[(.int p1), (.int p2)] ∧ Z.Warmed39 U.vm ∧ U.heap = h0) (fun _ _ _ _ _ => True) (fun _ U o U' => ∃ v L, o = .returned v ∧ Q2 Z p1 p2 h0 n0 v U'.heap L ∧ FrameEnd U o U' L ({ frames := 0, cells := 0, slots := 0, locals := 0 } : Room).cells ({ frames := 0, cells := 0, slots := 0, locals := 0 } : Room).slots) := by
  refine MetFree.of_bodySF (Jvm.Free.JP.mathPlain rfl (by decide +kernel)) hisR ?_
  intro p e s m args below meth c s₁ Bd hml0 hP hK
  obtain ⟨rfl, hZ, hh⟩ := hP
  have hx := Bd.exec
  have hby := Bd.bytes
  have hml : c.maxLocals = 2 := hml0
  have hown : s.vm.findClass "java/lang/Math" = some m.cls := findClass_of_methodNamed Bd.named
  have hnm := (name_of_methodNamed Bd.named Bd.method).1
  have X : Stand p l e ({ frames := 0, cells := 0, slots := 0, locals := 0 } : Room) s m #[(.int p1), (.int p2)] below meth c s₁ [] 0 0 := Stand.of_body Bd
  have eT : s₁.heap = h0 := by rw [← hh, Bd.state]; rfl
  have N := Fr.nil n0
  have K := Keep.refl h0 []
  refine Go.out ?_
  obtain ⟨T, eTT⟩ : ∃ z, z = s₁ := ⟨_, rfl⟩
  rw [← eTT] at X eT ⊢
  refine Go.by (fun tt_ kk_ => castTop (ef_2 m p1 p2) kk_) ?_
  show Go p.tables e below (T.setTop (mkF m 0 #[.val (.int p1), .val (.int p2)] [])) _
  refine Go.by (fun tt_ kk_ => XS.iloadN X.here hx rfl (hb hby d2_0) rfl kk_) ?_
  show Go p.tables e below (T.setTop (mkF m 1 #[.val (.int p1), .val (.int p2)] [(.int p1)])) _
  refine Go.by (fun tt_ kk_ => XS.iloadN X.here hx rfl (hb hby d2_1) rfl kk_) ?_
  show Go p.tables e below (T.setTop (mkF m 2 #[.val (.int p1), .val (.int p2)] [(.int p2), (.int p1)])) _
  by_cases hc2 : p2 < p1
  · refine Go.by (fun tt_ kk_ => XS.icmpYes X.here hx rfl (pc0 := 2) (pc' := 9) rfl (hb hby d2_2) rfl (tlt hc2).2.2.1 (by decide) (by decide) kk_) ?_
    show Go p.tables e below (T.setTop (mkF m 9 #[.val (.int p1), .val (.int p2)] [])) _
    refine Go.by (fun tt_ kk_ => XS.iloadN X.here hx rfl (hb hby d2_9) rfl kk_) ?_
    show Go p.tables e below (T.setTop (mkF m 10 #[.val (.int p1), .val (.int p2)] [(.int p2)])) _
    exact Go.done X  (v := some (.int p2)) (fun h => by rw [Bd.returns] at h; cases h) Bd.notSynchronized (fun fs hr => retOut X hx Bd.returns rfl (by simp [Value.isRef, FieldType.isReference]) (hb hby d2_10) hr) (by rw [eT]; exact ⟨by rw [if_pos hc2], N, rfl⟩) (by decide) (by decide)
  · refine Go.by (fun tt_ kk_ => XS.icmpNo X.here hx rfl (hb hby d2_2) rfl (flt hc2).2.2.1 kk_) ?_
    show Go p.tables e below (T.setTop (mkF m 5 #[.val (.int p1), .val (.int p2)] [])) _
    refine Go.by (fun tt_ kk_ => XS.iloadN X.here hx rfl (hb hby d2_5) rfl kk_) ?_
    show Go p.tables e below (T.setTop (mkF m 6 #[.val (.int p1), .val (.int p2)] [(.int p1)])) _
    refine Go.by (fun tt_ kk_ => XS.goto X.here hx rfl (pc0 := 6) (pc' := 10) rfl (hb hby d2_6) (by decide) (by decide) kk_) ?_
    show Go p.tables e below (T.setTop (mkF m 10 #[.val (.int p1), .val (.int p2)] [(.int p1)])) _
    exact Go.done X  (v := some (.int p1)) (fun h => by rw [Bd.returns] at h; cases h) Bd.notSynchronized (fun fs hr => retOut X hx Bd.returns rfl (by simp [Value.isRef, FieldType.isReference]) (hb hby d2_10) hr) (by rw [eT]; exact ⟨by rw [if_neg hc2], N, rfl⟩) (by decide) (by decide)
theorem d3_0 : decode jdk_29_method_65_code 0 = .ok (.iload_n 0, 1) := by decide +kernel
theorem d3_1 : decode jdk_29_method_65_code 1 = .ok (.iload_n 1, 1) := by decide +kernel
theorem d3_2 : decode jdk_29_method_65_code 2 = .ok (.if_icmp .lt 7, 3) := by decide +kernel
theorem d3_5 : decode jdk_29_method_65_code 5 = .ok (.iload_n 0, 1) := by decide +kernel
theorem d3_6 : decode jdk_29_method_65_code 6 = .ok (.goto 4, 3) := by decide +kernel
theorem d3_9 : decode jdk_29_method_65_code 9 = .ok (.iload_n 1, 1) := by decide +kernel
theorem d3_10 : decode jdk_29_method_65_code 10 = .ok (.ireturn, 1) := by decide +kernel
theorem ef_3 (m : MethodId) (x0 : Int32) (x1 : Int32) : entryFrame m #[(.int x0), (.int x1)] 2 = mkF m 0 #[.val (.int x0), .val (.int x1)] [] := by first | (simp [entryFrame, mkF, argsToLocals, Value.category]; done) | rfl
def Q3 (Z : State) (p1 : Int32) (p2 : Int32)  (h0 : Heap) (n0 : Nat) (v : Option Value) (h : Heap) (L : List Loc) : Prop := v = some (.int (if p1 < p2 then p2 else p1)) ∧ Fr n0 L ∧ h = h0
set_option maxRecDepth 65536 in
set_option maxHeartbeats 40000000 in
theorem rm3 (l : Launch) (Z : State) (a0 : Array Value) (hw : ∀ d ∈ tables_1, d.before a0 Z = true) (ws : List Jvm.Cond) (p1 : Int32) (p2 : Int32)  (h0 : Heap) (n0 : Nat) (Z0 : n0 ≤ h0.size)  :
    MetFree l (⟨"java/lang/Math", "max", "(II)I"⟩ : MethodName) (head1 (Jvm.Cond.code (⟨"java/lang/Math", "max", "(II)I"⟩ : MethodName) jdk_29_method_65_code 2 (some .int) :: ws) ({ frames := 0, cells := 0, slots := 0, locals := 0 } : Room)) (fun a U => a = #[(.int p1), (.int p2)] ∧ Z.Warmed39 U.vm ∧ U.heap = h0) (fun _ _ _ _ _ => True) (fun _ U o U' => ∃ v L, o = .returned v ∧ Q3 Z p1 p2 h0 n0 v U'.heap L ∧ FrameEnd U o U' L ({ frames := 0, cells := 0, slots := 0, locals := 0 } : Room).cells ({ frames := 0, cells := 0, slots := 0, locals := 0 } : Room).slots) := by
  refine MetFree.of_bodySF (Jvm.Free.JP.mathPlain rfl (by decide +kernel)) hisR ?_
  intro p e s m args below meth c s₁ Bd hml0 hP hK
  obtain ⟨rfl, hZ, hh⟩ := hP
  have hx := Bd.exec
  have hby := Bd.bytes
  have hml : c.maxLocals = 2 := hml0
  have hown : s.vm.findClass "java/lang/Math" = some m.cls := findClass_of_methodNamed Bd.named
  have hnm := (name_of_methodNamed Bd.named Bd.method).1
  have X : Stand p l e ({ frames := 0, cells := 0, slots := 0, locals := 0 } : Room) s m #[(.int p1), (.int p2)] below meth c s₁ [] 0 0 := Stand.of_body Bd
  have eT : s₁.heap = h0 := by rw [← hh, Bd.state]; rfl
  have N := Fr.nil n0
  have K := Keep.refl h0 []
  refine Go.out ?_
  obtain ⟨T, eTT⟩ : ∃ z, z = s₁ := ⟨_, rfl⟩
  rw [← eTT] at X eT ⊢
  refine Go.by (fun tt_ kk_ => castTop (ef_3 m p1 p2) kk_) ?_
  show Go p.tables e below (T.setTop (mkF m 0 #[.val (.int p1), .val (.int p2)] [])) _
  refine Go.by (fun tt_ kk_ => XS.iloadN X.here hx rfl (hb hby d3_0) rfl kk_) ?_
  show Go p.tables e below (T.setTop (mkF m 1 #[.val (.int p1), .val (.int p2)] [(.int p1)])) _
  refine Go.by (fun tt_ kk_ => XS.iloadN X.here hx rfl (hb hby d3_1) rfl kk_) ?_
  show Go p.tables e below (T.setTop (mkF m 2 #[.val (.int p1), .val (.int p2)] [(.int p2), (.int p1)])) _
  by_cases hc2 : p1 < p2
  · refine Go.by (fun tt_ kk_ => XS.icmpYes X.here hx rfl (pc0 := 2) (pc' := 9) rfl (hb hby d3_2) rfl (tlt hc2).1 (by decide) (by decide) kk_) ?_
    show Go p.tables e below (T.setTop (mkF m 9 #[.val (.int p1), .val (.int p2)] [])) _
    refine Go.by (fun tt_ kk_ => XS.iloadN X.here hx rfl (hb hby d3_9) rfl kk_) ?_
    show Go p.tables e below (T.setTop (mkF m 10 #[.val (.int p1), .val (.int p2)] [(.int p2)])) _
    exact Go.done X  (v := some (.int p2)) (fun h => by rw [Bd.returns] at h; cases h) Bd.notSynchronized (fun fs hr => retOut X hx Bd.returns rfl (by simp [Value.isRef, FieldType.isReference]) (hb hby d3_10) hr) (by rw [eT]; exact ⟨by rw [if_pos hc2], N, rfl⟩) (by decide) (by decide)
  · refine Go.by (fun tt_ kk_ => XS.icmpNo X.here hx rfl (hb hby d3_2) rfl (flt hc2).1 kk_) ?_
    show Go p.tables e below (T.setTop (mkF m 5 #[.val (.int p1), .val (.int p2)] [])) _
    refine Go.by (fun tt_ kk_ => XS.iloadN X.here hx rfl (hb hby d3_5) rfl kk_) ?_
    show Go p.tables e below (T.setTop (mkF m 6 #[.val (.int p1), .val (.int p2)] [(.int p1)])) _
    refine Go.by (fun tt_ kk_ => XS.goto X.here hx rfl (pc0 := 6) (pc' := 10) rfl (hb hby d3_6) (by decide) (by decide) kk_) ?_
    show Go p.tables e below (T.setTop (mkF m 10 #[.val (.int p1), .val (.int p2)] [(.int p1)])) _
    exact Go.done X  (v := some (.int p1)) (fun h => by rw [Bd.returns] at h; cases h) Bd.notSynchronized (fun fs hr => retOut X hx Bd.returns rfl (by simp [Value.isRef, FieldType.isReference]) (hb hby d3_10) hr) (by rw [eT]; exact ⟨by rw [if_neg hc2], N, rfl⟩) (by decide) (by decide)
theorem pn_1 : plainName "com/example/eindhoven/eindhoven/engine/MotionTimeBelowPinLaw" = true := by first | (simp [plainName, overriddenIn]; done) | decide +kernel
theorem pd_0 : parseMethodDescriptor "(DDDD)D" = some ⟨[.double, .double, .double, .double], some .double⟩ := by decide +kernel
theorem pd_1 : parseMethodDescriptor "(II)I" = some ⟨[.int, .int], some .int⟩ := by decide +kernel
theorem ef_0 (m : MethodId) (x0 : Int32) (x1 : Int32) (x2 : Int32) (x3 : Int32) : entryFrame m #[(.int x0), (.int x1), (.int x2), (.int x3)] maxLocals = mkF m 0 #[.val (.int x0), .val (.int x1), .val (.int x2), .val (.int x3), .unset, .unset, .unset, .unset, .unset, .unset, .unset, .unset, .unset, .unset, .unset, .unset] [] := by first | (simp [entryFrame, mkF, argsToLocals, Value.category, maxLocals]; done) | rfl
def Q0 (Z : State) (p0 : Int32) (p1 : Int32) (p2 : Int32) (p3 : Int32)  (h0 : Heap) (n0 : Nat) (v : Option Value) (h : Heap) (L : List Loc) : Prop := v = some (.int 1) ∧ Fr n0 L
set_option maxRecDepth 65536 in
set_option maxHeartbeats 40000000 in
theorem rm0 (l : Launch) (Z : State) (a0 : Array Value) (hw : ∀ d ∈ tables_1, d.before a0 Z = true) (ws : List Jvm.Cond) (p0 : Int32) (p1 : Int32) (p2 : Int32) (p3 : Int32)  (h0 : Heap) (n0 : Nat) (Z0 : n0 ≤ h0.size)  :
    MetFree l x (head1 (Jvm.Cond.code x code maxLocals ret :: ws) room_1) (fun a U => a = #[(.int p0), (.int p1), (.int p2), (.int p3)] ∧ Z.Warmed39 U.vm ∧ U.heap = h0) (fun _ _ _ _ _ => True) (fun _ U o U' => ∃ v L, o = .returned v ∧ Q0 Z p0 p1 p2 p3 h0 n0 v U'.heap L ∧ FrameEnd U o U' L 0 0) := by
  refine MetFree.of_bodySF (plainFor_of_name pn_1) hisR ?_
  intro p e s m args below meth c s₁ Bd hml0 hP hK
  obtain ⟨rfl, hZ, hh⟩ := hP
  have hx := Bd.exec
  have hby := Bd.bytes
  have hml : c.maxLocals = 16 := hml0
  have hown : s.vm.findClass "com/example/eindhoven/eindhoven/engine/MotionTimeBelowPinLaw" = some m.cls := findClass_of_methodNamed Bd.named
  have hnm := (name_of_methodNamed Bd.named Bd.method).1
  have X : Stand p l e room_1 s m #[(.int p0), (.int p1), (.int p2), (.int p3)] below meth c s₁ [] 0 0 := Stand.of_body Bd
  have eT : s₁.heap = h0 := by rw [← hh, Bd.state]; rfl
  have N := Fr.nil n0
  have K := Keep.refl h0 []
  refine Go.out ?_
  obtain ⟨T, eTT⟩ : ∃ z, z = s₁ := ⟨_, rfl⟩
  rw [← eTT] at X eT ⊢
  refine Go.by (fun tt_ kk_ => castTop (ef_0 m p0 p1 p2 p3) kk_) ?_
  show Go p.tables e below (T.setTop (mkF m 0 #[.val (.int p0), .val (.int p1), .val (.int p2), .val (.int p3), .unset, .unset, .unset, .unset, .unset, .unset, .unset, .unset, .unset, .unset, .unset, .unset] [])) _
  refine Go.by (fun tt_ kk_ => XS.iloadN X.here hx rfl (hb hby at_0) rfl kk_) ?_
  show Go p.tables e below (T.setTop (mkF m 1 #[.val (.int p0), .val (.int p1), .val (.int p2), .val (.int p3), .unset, .unset, .unset, .unset, .unset, .unset, .unset, .unset, .unset, .unset, .unset, .unset] [(.int p0)])) _
  refine Go.by (X.ldcInt hx hown (mvT hZ (hw _ (List.mem_of_getElem? (i := 0) rfl))) (g := (mkF m 1 #[.val (.int p0), .val (.int p1), .val (.int p2), .val (.int p3), .unset, .unset, .unset, .unset, .unset, .unset, .unset, .unset, .unset, .unset, .unset, .unset] [(.int p0)])) rfl (hb hby at_1)) ?_
  show Go p.tables e below (T.setTop (mkF m 3 #[.val (.int p0), .val (.int p1), .val (.int p2), .val (.int p3), .unset, .unset, .unset, .unset, .unset, .unset, .unset, .unset, .unset, .unset, .unset, .unset] [(.int (1048576 : Int32)), (.int p0)])) _
  refine Go.by (fun tt_ kk_ => iremM X hx rfl (hb hby at_3) rfl (by decide) kk_) ?_
  show Go p.tables e below (T.setTop (mkF m 4 #[.val (.int p0), .val (.int p1), .val (.int p2), .val (.int p3), .unset, .unset, .unset, .unset, .unset, .unset, .unset, .unset, .unset, .unset, .unset, .unset] [(.int (p0 % (1048576 : Int32)))])) _
  obtain ⟨fr, e_fr⟩ : ∃ z, z = (p0 % (1048576 : Int32)) := ⟨_, rfl⟩
  rw [← e_fr]
  show Go p.tables e below (T.setTop (mkF m 4 #[.val (.int p0), .val (.int p1), .val (.int p2), .val (.int p3), .unset, .unset, .unset, .unset, .unset, .unset, .unset, .unset, .unset, .unset, .unset, .unset] [(.int fr)])) _
  have b_fr : -1048576 < fr.toInt ∧ fr.toInt < 1048576 := by rw [e_fr]; exact own_rem (by decide) (by decide)
  refine Go.by (fun tt_ kk_ => XS.istore X.here hx rfl (hb hby at_4) rfl (l' := #[.val (.int p0), .val (.int p1), .val (.int p2), .val (.int p3), .val (.int fr), .unset, .unset, .unset, .unset, .unset, .unset, .unset, .unset, .unset, .unset, .unset]) rfl kk_) ?_
  show Go p.tables e below (T.setTop (mkF m 6 #[.val (.int p0), .val (.int p1), .val (.int p2), .val (.int p3), .val (.int fr), .unset, .unset, .unset, .unset, .unset, .unset, .unset, .unset, .unset, .unset, .unset] [])) _
  refine Go.by (fun tt_ kk_ => XS.iloadN X.here hx rfl (hb hby at_6) rfl kk_) ?_
  show Go p.tables e below (T.setTop (mkF m 7 #[.val (.int p0), .val (.int p1), .val (.int p2), .val (.int p3), .val (.int fr), .unset, .unset, .unset, .unset, .unset, .unset, .unset, .unset, .unset, .unset, .unset] [(.int p3)])) _
  refine Go.by (fun tt_ kk_ => XS.bipush X.here hx rfl (hb hby at_7) kk_) ?_
  show Go p.tables e below (T.setTop (mkF m 9 #[.val (.int p0), .val (.int p1), .val (.int p2), .val (.int p3), .val (.int fr), .unset, .unset, .unset, .unset, .unset, .unset, .unset, .unset, .unset, .unset, .unset] [(.int (15 : Int32)), (.int p3)])) _
  refine Go.by (fun tt_ kk_ => XS.iand X.here hx rfl (hb hby at_9) rfl kk_) ?_
  show Go p.tables e below (T.setTop (mkF m 10 #[.val (.int p0), .val (.int p1), .val (.int p2), .val (.int p3), .val (.int fr), .unset, .unset, .unset, .unset, .unset, .unset, .unset, .unset, .unset, .unset, .unset] [(.int (p3 &&& (15 : Int32)))])) _
  obtain ⟨ee, e_ee⟩ : ∃ z, z = (p3 &&& (15 : Int32)) := ⟨_, rfl⟩
  rw [← e_ee]
  show Go p.tables e below (T.setTop (mkF m 10 #[.val (.int p0), .val (.int p1), .val (.int p2), .val (.int p3), .val (.int fr), .unset, .unset, .unset, .unset, .unset, .unset, .unset, .unset, .unset, .unset, .unset] [(.int ee)])) _
  have b_ee : 0 ≤ ee.toInt ∧ ee.toInt ≤ 15 := by rw [e_ee]; exact own_and (K := 15) (by decide) (by decide)
  refine Go.by (fun tt_ kk_ => XS.istore X.here hx rfl (hb hby at_10) rfl (l' := #[.val (.int p0), .val (.int p1), .val (.int p2), .val (.int p3), .val (.int fr), .val (.int ee), .unset, .unset, .unset, .unset, .unset, .unset, .unset, .unset, .unset, .unset]) rfl kk_) ?_
  show Go p.tables e below (T.setTop (mkF m 12 #[.val (.int p0), .val (.int p1), .val (.int p2), .val (.int p3), .val (.int fr), .val (.int ee), .unset, .unset, .unset, .unset, .unset, .unset, .unset, .unset, .unset, .unset] [])) _
  refine Go.by (fun tt_ kk_ => XS.iload X.here hx rfl (hb hby at_12) rfl kk_) ?_
  show Go p.tables e below (T.setTop (mkF m 14 #[.val (.int p0), .val (.int p1), .val (.int p2), .val (.int p3), .val (.int fr), .val (.int ee), .unset, .unset, .unset, .unset, .unset, .unset, .unset, .unset, .unset, .unset] [(.int ee)])) _
  refine Go.by (fun tt_ kk_ => XS.bipush X.here hx rfl (hb hby at_14) kk_) ?_
  show Go p.tables e below (T.setTop (mkF m 16 #[.val (.int p0), .val (.int p1), .val (.int p2), .val (.int p3), .val (.int fr), .val (.int ee), .unset, .unset, .unset, .unset, .unset, .unset, .unset, .unset, .unset, .unset] [(.int (11 : Int32)), (.int ee)])) _
  by_cases hc16 : ee < (11 : Int32)
  · refine Go.by (fun tt_ kk_ => XS.icmpYes X.here hx rfl (pc0 := 16) (pc' := 23) rfl (hb hby at_16) rfl (tlt hc16).1 (by decide) (by decide) kk_) ?_
    show Go p.tables e below (T.setTop (mkF m 23 #[.val (.int p0), .val (.int p1), .val (.int p2), .val (.int p3), .val (.int fr), .val (.int ee), .unset, .unset, .unset, .unset, .unset, .unset, .unset, .unset, .unset, .unset] [])) _
    refine Go.by (fun tt_ kk_ => XS.iconst X.here hx rfl (hb hby at_23) kk_) ?_
    show Go p.tables e below (T.setTop (mkF m 24 #[.val (.int p0), .val (.int p1), .val (.int p2), .val (.int p3), .val (.int fr), .val (.int ee), .unset, .unset, .unset, .unset, .unset, .unset, .unset, .unset, .unset, .unset] [(.int (1 : Int32))])) _
    refine Go.by (fun tt_ kk_ => XS.iload X.here hx rfl (hb hby at_24) rfl kk_) ?_
    show Go p.tables e below (T.setTop (mkF m 26 #[.val (.int p0), .val (.int p1), .val (.int p2), .val (.int p3), .val (.int fr), .val (.int ee), .unset, .unset, .unset, .unset, .unset, .unset, .unset, .unset, .unset, .unset] [(.int ee), (.int (1 : Int32))])) _
    refine Go.by (fun tt_ kk_ => XS.ishl X.here hx rfl (hb hby at_26) rfl kk_) ?_
    show Go p.tables e below (T.setTop (mkF m 27 #[.val (.int p0), .val (.int p1), .val (.int p2), .val (.int p3), .val (.int fr), .val (.int ee), .unset, .unset, .unset, .unset, .unset, .unset, .unset, .unset, .unset, .unset] [(.int ((1 : Int32) <<< (ee &&& 31)))])) _
    refine Go.by (fun tt_ kk_ => XS.istore X.here hx rfl (hb hby at_27) rfl (l' := #[.val (.int p0), .val (.int p1), .val (.int p2), .val (.int p3), .val (.int fr), .val (.int ee), .val (.int ((1 : Int32) <<< (ee &&& 31))), .unset, .unset, .unset, .unset, .unset, .unset, .unset, .unset, .unset]) rfl kk_) ?_
    show Go p.tables e below (T.setTop (mkF m 29 #[.val (.int p0), .val (.int p1), .val (.int p2), .val (.int p3), .val (.int fr), .val (.int ee), .val (.int ((1 : Int32) <<< (ee &&& 31))), .unset, .unset, .unset, .unset, .unset, .unset, .unset, .unset, .unset] [])) _
    obtain ⟨sp, e_sp⟩ : ∃ z, z = ((1 : Int32) <<< (ee &&& 31)) := ⟨_, rfl⟩
    rw [← e_sp]
    show Go p.tables e below (T.setTop (mkF m 29 #[.val (.int p0), .val (.int p1), .val (.int p2), .val (.int p3), .val (.int fr), .val (.int ee), .val (.int sp), .unset, .unset, .unset, .unset, .unset, .unset, .unset, .unset, .unset] [])) _
    obtain ⟨k, hk, hsp⟩ := own_shl b_ee.1 (show ee.toInt < 11 from Int32.lt_iff_toInt_lt.mp hc16)
    have pk := own_pow10 hk
    have b_sp : sp.toInt = 2 ^ k := by rw [e_sp]; exact hsp
    have hs0 : ∃ k : Nat, k ≤ 10 ∧ (sp.toInt = 0 ∨ sp.toInt = 2 ^ k) := ⟨k, hk, Or.inr b_sp⟩
    have b_sp2 : 0 ≤ sp.toInt ∧ sp.toInt ≤ 1024 := by omega
    refine Go.by (fun tt_ kk_ => XS.iloadN X.here hx rfl (hb hby at_29) rfl kk_) ?_
    show Go p.tables e below (T.setTop (mkF m 30 #[.val (.int p0), .val (.int p1), .val (.int p2), .val (.int p3), .val (.int fr), .val (.int ee), .val (.int sp), .unset, .unset, .unset, .unset, .unset, .unset, .unset, .unset, .unset] [(.int p3)])) _
    refine Go.by (fun tt_ kk_ => XS.bipush X.here hx rfl (hb hby at_30) kk_) ?_
    show Go p.tables e below (T.setTop (mkF m 32 #[.val (.int p0), .val (.int p1), .val (.int p2), .val (.int p3), .val (.int fr), .val (.int ee), .val (.int sp), .unset, .unset, .unset, .unset, .unset, .unset, .unset, .unset, .unset] [(.int (16 : Int32)), (.int p3)])) _
    refine Go.by (fun tt_ kk_ => XS.iand X.here hx rfl (hb hby at_32) rfl kk_) ?_
    show Go p.tables e below (T.setTop (mkF m 33 #[.val (.int p0), .val (.int p1), .val (.int p2), .val (.int p3), .val (.int fr), .val (.int ee), .val (.int sp), .unset, .unset, .unset, .unset, .unset, .unset, .unset, .unset, .unset] [(.int (p3 &&& (16 : Int32)))])) _
    by_cases hc33 : (p3 &&& (16 : Int32)) = (0 : Int32)
    · refine Go.by (fun tt_ kk_ => XS.ifYes X.here hx rfl (pc0 := 33) (pc' := 44) rfl (hb hby at_33) rfl ((if0 _ _).trans (teq hc33).1) (by decide) (by decide) kk_) ?_
      show Go p.tables e below (T.setTop (mkF m 44 #[.val (.int p0), .val (.int p1), .val (.int p2), .val (.int p3), .val (.int fr), .val (.int ee), .val (.int sp), .unset, .unset, .unset, .unset, .unset, .unset, .unset, .unset, .unset] [])) _
      refine Go.by (fun tt_ kk_ => XS.iload X.here hx rfl (hb hby at_44) rfl kk_) ?_
      show Go p.tables e below (T.setTop (mkF m 46 #[.val (.int p0), .val (.int p1), .val (.int p2), .val (.int p3), .val (.int fr), .val (.int ee), .val (.int sp), .unset, .unset, .unset, .unset, .unset, .unset, .unset, .unset, .unset] [(.int fr)])) _
      refine Go.by (fun tt_ kk_ => XS.iload X.here hx rfl (hb hby at_46) rfl kk_) ?_
      show Go p.tables e below (T.setTop (mkF m 48 #[.val (.int p0), .val (.int p1), .val (.int p2), .val (.int p3), .val (.int fr), .val (.int ee), .val (.int sp), .unset, .unset, .unset, .unset, .unset, .unset, .unset, .unset, .unset] [(.int sp), (.int fr)])) _
      refine Go.by (fun tt_ kk_ => XS.iadd X.here hx rfl (hb hby at_48) rfl kk_) ?_
      show Go p.tables e below (T.setTop (mkF m 49 #[.val (.int p0), .val (.int p1), .val (.int p2), .val (.int p3), .val (.int fr), .val (.int ee), .val (.int sp), .unset, .unset, .unset, .unset, .unset, .unset, .unset, .unset, .unset] [(.int (fr + sp))])) _
      obtain ⟨to, e_to⟩ : ∃ z, z = (fr + sp) := ⟨_, rfl⟩
      rw [← e_to]
      show Go p.tables e below (T.setTop (mkF m 49 #[.val (.int p0), .val (.int p1), .val (.int p2), .val (.int p3), .val (.int fr), .val (.int ee), .val (.int sp), .unset, .unset, .unset, .unset, .unset, .unset, .unset, .unset, .unset] [(.int to)])) _
      have b_to : to.toInt = fr.toInt + sp.toInt := by rw [e_to]; exact own_add32 (by omega) (by omega)
      have hs1 : ∃ k : Nat, k ≤ 10 ∧ (to.toInt = fr.toInt ∨ to.toInt - fr.toInt = 2 ^ k ∨ fr.toInt - to.toInt = 2 ^ k) := by
        obtain ⟨k, hk, hs⟩ := hs0
        exact ⟨k, hk, by omega⟩
      refine Go.by (fun tt_ kk_ => XS.istore X.here hx rfl (hb hby at_49) rfl (l' := #[.val (.int p0), .val (.int p1), .val (.int p2), .val (.int p3), .val (.int fr), .val (.int ee), .val (.int sp), .val (.int to), .unset, .unset, .unset, .unset, .unset, .unset, .unset, .unset]) rfl kk_) ?_
      show Go p.tables e below (T.setTop (mkF m 51 #[.val (.int p0), .val (.int p1), .val (.int p2), .val (.int p3), .val (.int fr), .val (.int ee), .val (.int sp), .val (.int to), .unset, .unset, .unset, .unset, .unset, .unset, .unset, .unset] [])) _
      refine Go.by (fun tt_ kk_ => XS.iload X.here hx rfl (hb hby at_51) rfl kk_) ?_
      show Go p.tables e below (T.setTop (mkF m 53 #[.val (.int p0), .val (.int p1), .val (.int p2), .val (.int p3), .val (.int fr), .val (.int ee), .val (.int sp), .val (.int to), .unset, .unset, .unset, .unset, .unset, .unset, .unset, .unset] [(.int fr)])) _
      refine Go.by (fun tt_ kk_ => XS.iloadN X.here hx rfl (hb hby at_53) rfl kk_) ?_
      show Go p.tables e below (T.setTop (mkF m 54 #[.val (.int p0), .val (.int p1), .val (.int p2), .val (.int p3), .val (.int fr), .val (.int ee), .val (.int sp), .val (.int to), .unset, .unset, .unset, .unset, .unset, .unset, .unset, .unset] [(.int p1), (.int fr)])) _
      refine Go.by (fun tt_ kk_ => XS.sipush X.here hx rfl (hb hby at_54) kk_) ?_
      show Go p.tables e below (T.setTop (mkF m 57 #[.val (.int p0), .val (.int p1), .val (.int p2), .val (.int p3), .val (.int fr), .val (.int ee), .val (.int sp), .val (.int to), .unset, .unset, .unset, .unset, .unset, .unset, .unset, .unset] [(.int (2049 : Int32)), (.int p1), (.int fr)])) _
      refine Go.by (fun tt_ kk_ => iremM X hx rfl (hb hby at_57) rfl (by decide) kk_) ?_
      show Go p.tables e below (T.setTop (mkF m 58 #[.val (.int p0), .val (.int p1), .val (.int p2), .val (.int p3), .val (.int fr), .val (.int ee), .val (.int sp), .val (.int to), .unset, .unset, .unset, .unset, .unset, .unset, .unset, .unset] [(.int (p1 % (2049 : Int32))), (.int fr)])) _
      refine Go.by (fun tt_ kk_ => XS.iadd X.here hx rfl (hb hby at_58) rfl kk_) ?_
      show Go p.tables e below (T.setTop (mkF m 59 #[.val (.int p0), .val (.int p1), .val (.int p2), .val (.int p3), .val (.int fr), .val (.int ee), .val (.int sp), .val (.int to), .unset, .unset, .unset, .unset, .unset, .unset, .unset, .unset] [(.int (fr + (p1 % (2049 : Int32))))])) _
      obtain ⟨th, e_th⟩ : ∃ z, z = (fr + (p1 % (2049 : Int32))) := ⟨_, rfl⟩
      rw [← e_th]
      show Go p.tables e below (T.setTop (mkF m 59 #[.val (.int p0), .val (.int p1), .val (.int p2), .val (.int p3), .val (.int fr), .val (.int ee), .val (.int sp), .val (.int to), .unset, .unset, .unset, .unset, .unset, .unset, .unset, .unset] [(.int th)])) _
      have q_th := own_rem (x := p1) (k := 2049) (K := 2049) (by decide) (by decide)
      have b_th : th.toInt = fr.toInt + (p1 % 2049).toInt := by rw [e_th]; exact own_add32 (by omega) (by omega)
      refine Go.by (fun tt_ kk_ => XS.istore X.here hx rfl (hb hby at_59) rfl (l' := #[.val (.int p0), .val (.int p1), .val (.int p2), .val (.int p3), .val (.int fr), .val (.int ee), .val (.int sp), .val (.int to), .val (.int th), .unset, .unset, .unset, .unset, .unset, .unset, .unset]) rfl kk_) ?_
      show Go p.tables e below (T.setTop (mkF m 61 #[.val (.int p0), .val (.int p1), .val (.int p2), .val (.int p3), .val (.int fr), .val (.int ee), .val (.int sp), .val (.int to), .val (.int th), .unset, .unset, .unset, .unset, .unset, .unset, .unset] [])) _
      refine Go.by (fun tt_ kk_ => XS.iloadN X.here hx rfl (hb hby at_61) rfl kk_) ?_
      show Go p.tables e below (T.setTop (mkF m 62 #[.val (.int p0), .val (.int p1), .val (.int p2), .val (.int p3), .val (.int fr), .val (.int ee), .val (.int sp), .val (.int to), .val (.int th), .unset, .unset, .unset, .unset, .unset, .unset, .unset] [(.int p2)])) _
      refine Go.by (X.ldcInt hx hown (mvT hZ (hw _ (List.mem_of_getElem? (i := 0) rfl))) (g := (mkF m 62 #[.val (.int p0), .val (.int p1), .val (.int p2), .val (.int p3), .val (.int fr), .val (.int ee), .val (.int sp), .val (.int to), .val (.int th), .unset, .unset, .unset, .unset, .unset, .unset, .unset] [(.int p2)])) rfl (hb hby at_62)) ?_
      show Go p.tables e below (T.setTop (mkF m 64 #[.val (.int p0), .val (.int p1), .val (.int p2), .val (.int p3), .val (.int fr), .val (.int ee), .val (.int sp), .val (.int to), .val (.int th), .unset, .unset, .unset, .unset, .unset, .unset, .unset] [(.int (1048576 : Int32)), (.int p2)])) _
      refine Go.by (fun tt_ kk_ => iremM X hx rfl (hb hby at_64) rfl (by decide) kk_) ?_
      show Go p.tables e below (T.setTop (mkF m 65 #[.val (.int p0), .val (.int p1), .val (.int p2), .val (.int p3), .val (.int fr), .val (.int ee), .val (.int sp), .val (.int to), .val (.int th), .unset, .unset, .unset, .unset, .unset, .unset, .unset] [(.int (p2 % (1048576 : Int32)))])) _
      obtain ⟨du, e_du⟩ : ∃ z, z = (p2 % (1048576 : Int32)) := ⟨_, rfl⟩
      rw [← e_du]
      show Go p.tables e below (T.setTop (mkF m 65 #[.val (.int p0), .val (.int p1), .val (.int p2), .val (.int p3), .val (.int fr), .val (.int ee), .val (.int sp), .val (.int to), .val (.int th), .unset, .unset, .unset, .unset, .unset, .unset, .unset] [(.int du)])) _
      have b_du : -1048576 < du.toInt ∧ du.toInt < 1048576 := by rw [e_du]; exact own_rem (by decide) (by decide)
      refine Go.by (fun tt_ kk_ => XS.istore X.here hx rfl (hb hby at_65) rfl (l' := #[.val (.int p0), .val (.int p1), .val (.int p2), .val (.int p3), .val (.int fr), .val (.int ee), .val (.int sp), .val (.int to), .val (.int th), .val (.int du), .unset, .unset, .unset, .unset, .unset, .unset]) rfl kk_) ?_
      show Go p.tables e below (T.setTop (mkF m 67 #[.val (.int p0), .val (.int p1), .val (.int p2), .val (.int p3), .val (.int fr), .val (.int ee), .val (.int sp), .val (.int to), .val (.int th), .val (.int du), .unset, .unset, .unset, .unset, .unset, .unset] [])) _
      refine Go.by (fun tt_ kk_ => XS.iload X.here hx rfl (hb hby at_67) rfl kk_) ?_
      show Go p.tables e below (T.setTop (mkF m 69 #[.val (.int p0), .val (.int p1), .val (.int p2), .val (.int p3), .val (.int fr), .val (.int ee), .val (.int sp), .val (.int to), .val (.int th), .val (.int du), .unset, .unset, .unset, .unset, .unset, .unset] [(.int th)])) _
      refine Go.by (fun tt_ kk_ => XS.i2dS X.here hx rfl (hb hby at_69) rfl rfl kk_) ?_
      show Go p.tables e below (T.setTop (mkF m 70 #[.val (.int p0), .val (.int p1), .val (.int p2), .val (.int p3), .val (.int fr), .val (.int ee), .val (.int sp), .val (.int to), .val (.int th), .val (.int du), .unset, .unset, .unset, .unset, .unset, .unset] [(.double (FP.i2d th))])) _
      refine Go.by (fun tt_ kk_ => XS.iload X.here hx rfl (hb hby at_70) rfl kk_) ?_
      show Go p.tables e below (T.setTop (mkF m 72 #[.val (.int p0), .val (.int p1), .val (.int p2), .val (.int p3), .val (.int fr), .val (.int ee), .val (.int sp), .val (.int to), .val (.int th), .val (.int du), .unset, .unset, .unset, .unset, .unset, .unset] [(.int fr), (.double (FP.i2d th))])) _
      refine Go.by (fun tt_ kk_ => XS.i2dS X.here hx rfl (hb hby at_72) rfl rfl kk_) ?_
      show Go p.tables e below (T.setTop (mkF m 73 #[.val (.int p0), .val (.int p1), .val (.int p2), .val (.int p3), .val (.int fr), .val (.int ee), .val (.int sp), .val (.int to), .val (.int th), .val (.int du), .unset, .unset, .unset, .unset, .unset, .unset] [(.double (FP.i2d fr)), (.double (FP.i2d th))])) _
      refine Go.by (fun tt_ kk_ => XS.iload X.here hx rfl (hb hby at_73) rfl kk_) ?_
      show Go p.tables e below (T.setTop (mkF m 75 #[.val (.int p0), .val (.int p1), .val (.int p2), .val (.int p3), .val (.int fr), .val (.int ee), .val (.int sp), .val (.int to), .val (.int th), .val (.int du), .unset, .unset, .unset, .unset, .unset, .unset] [(.int to), (.double (FP.i2d fr)), (.double (FP.i2d th))])) _
      refine Go.by (fun tt_ kk_ => XS.i2dS X.here hx rfl (hb hby at_75) rfl rfl kk_) ?_
      show Go p.tables e below (T.setTop (mkF m 76 #[.val (.int p0), .val (.int p1), .val (.int p2), .val (.int p3), .val (.int fr), .val (.int ee), .val (.int sp), .val (.int to), .val (.int th), .val (.int du), .unset, .unset, .unset, .unset, .unset, .unset] [(.double (FP.i2d to)), (.double (FP.i2d fr)), (.double (FP.i2d th))])) _
      refine Go.by (fun tt_ kk_ => XS.iload X.here hx rfl (hb hby at_76) rfl kk_) ?_
      show Go p.tables e below (T.setTop (mkF m 78 #[.val (.int p0), .val (.int p1), .val (.int p2), .val (.int p3), .val (.int fr), .val (.int ee), .val (.int sp), .val (.int to), .val (.int th), .val (.int du), .unset, .unset, .unset, .unset, .unset, .unset] [(.int du), (.double (FP.i2d to)), (.double (FP.i2d fr)), (.double (FP.i2d th))])) _
      refine Go.by (fun tt_ kk_ => XS.i2dS X.here hx rfl (hb hby at_78) rfl rfl kk_) ?_
      show Go p.tables e below (T.setTop (mkF m 79 #[.val (.int p0), .val (.int p1), .val (.int p2), .val (.int p3), .val (.int fr), .val (.int ee), .val (.int sp), .val (.int to), .val (.int th), .val (.int du), .unset, .unset, .unset, .unset, .unset, .unset] [(.double (FP.i2d du)), (.double (FP.i2d to)), (.double (FP.i2d fr)), (.double (FP.i2d th))])) _
      obtain ⟨_, _, ⟨T, L_, k_, n_⟩, -, X, ⟨Lc_, hQ, l_, y_, z_⟩, st⟩ := Jvm.LawKit.callS X hx (y := (⟨"com/example/eindhoven/eindhoven/engine/Motion", "timeBelow", "(DDDD)D"⟩ : MethodName)) hown (mvT hZ (hw _ (List.mem_of_getElem? (i := 1) rfl))) (mvT hZ (hw _ (List.mem_of_getElem? (i := 2) rfl))) (mvT hZ (hw _ (List.mem_of_getElem? (i := 3) rfl))) (mvT hZ (hw _ (List.mem_of_getElem? (i := 4) rfl))) (by decide) (backOf (W := 0) (rm1 l Z a0 hw [] (FP.i2d th) (FP.i2d fr) (FP.i2d to) (FP.i2d du) th.toInt fr.toInt to.toInt du.toInt h0 n0 (Nat.le_trans Z0 K.1) (Dy.i2d th) (Dy.i2d fr) (Dy.i2d to) (Dy.i2d du) (by omega) (by omega) (by omega) (by omega) hs1) hZ (hw _ (List.mem_of_getElem? (i := 4) rfl)) (hw _ (List.mem_of_getElem? (i := 3) rfl)) (by decide) (by decide)) (g := (mkF m 79 #[.val (.int p0), .val (.int p1), .val (.int p2), .val (.int p3), .val (.int fr), .val (.int ee), .val (.int sp), .val (.int to), .val (.int th), .val (.int du), .unset, .unset, .unset, .unset, .unset, .unset] [(.double (FP.i2d du)), (.double (FP.i2d to)), (.double (FP.i2d fr)), (.double (FP.i2d th))])) rfl (by rw [hml]; rfl) (argsL := [(.double (FP.i2d th)), (.double (FP.i2d fr)), (.double (FP.i2d to)), (.double (FP.i2d du))]) (rest := []) (lenOf pd_0 rfl) rfl (by show 2 * 0 + _ ≤ _; exact Nat.le_of_eq rfl) (hb hby at_79) (fun _ _ => ⟨rfl, eT, (by decide : 0 + 0 ≤ _), (by decide : 0 + 0 ≤ _)⟩)
      dsimp only [Pt.U, Pt.locs, Pt.cells, Pt.slots] at X l_ y_ z_ st hQ
      subst l_ y_ z_
      obtain ⟨r, rfl, Nq, hP, eh⟩ := hQ
      have N := Fr.app N Nq
      have eT := eh
      refine Go.by st ?_
      show Go p.tables e below (T.setTop (mkF m 82 #[.val (.int p0), .val (.int p1), .val (.int p2), .val (.int p3), .val (.int fr), .val (.int ee), .val (.int sp), .val (.int to), .val (.int th), .val (.int du), .unset, .unset, .unset, .unset, .unset, .unset] [(.double r)])) _
      refine Go.by (fun tt_ kk_ => XS.dstore X.here hx rfl (hb hby at_82) rfl (l' := #[.val (.int p0), .val (.int p1), .val (.int p2), .val (.int p3), .val (.int fr), .val (.int ee), .val (.int sp), .val (.int to), .val (.int th), .val (.int du), .val (.double r), .second, .unset, .unset, .unset, .unset]) rfl kk_) ?_
      show Go p.tables e below (T.setTop (mkF m 84 #[.val (.int p0), .val (.int p1), .val (.int p2), .val (.int p3), .val (.int fr), .val (.int ee), .val (.int sp), .val (.int to), .val (.int th), .val (.int du), .val (.double r), .second, .unset, .unset, .unset, .unset] [])) _
      refine Go.by (fun tt_ kk_ => XS.iload X.here hx rfl (hb hby at_84) rfl kk_) ?_
      show Go p.tables e below (T.setTop (mkF m 86 #[.val (.int p0), .val (.int p1), .val (.int p2), .val (.int p3), .val (.int fr), .val (.int ee), .val (.int sp), .val (.int to), .val (.int th), .val (.int du), .val (.double r), .second, .unset, .unset, .unset, .unset] [(.int fr)])) _
      refine Go.by (fun tt_ kk_ => XS.iload X.here hx rfl (hb hby at_86) rfl kk_) ?_
      show Go p.tables e below (T.setTop (mkF m 88 #[.val (.int p0), .val (.int p1), .val (.int p2), .val (.int p3), .val (.int fr), .val (.int ee), .val (.int sp), .val (.int to), .val (.int th), .val (.int du), .val (.double r), .second, .unset, .unset, .unset, .unset] [(.int to), (.int fr)])) _
      obtain ⟨_, _, ⟨T, L_, k_, n_⟩, -, X, ⟨Lc_, hQ, l_, y_, z_⟩, st⟩ := Jvm.LawKit.callS X hx (y := (⟨"java/lang/Math", "min", "(II)I"⟩ : MethodName)) hown (mvT hZ (hw _ (List.mem_of_getElem? (i := 5) rfl))) (mvT hZ (hw _ (List.mem_of_getElem? (i := 6) rfl))) (mvT hZ (hw _ (List.mem_of_getElem? (i := 7) rfl))) (mvT hZ (hw _ (List.mem_of_getElem? (i := 8) rfl))) (by decide) (backOf (W := 0) (rm2 l Z a0 hw [] fr to h0 n0 (Nat.le_trans Z0 K.1) ) hZ (hw _ (List.mem_of_getElem? (i := 8) rfl)) (hw _ (List.mem_of_getElem? (i := 7) rfl)) (by decide) (by decide)) (g := (mkF m 88 #[.val (.int p0), .val (.int p1), .val (.int p2), .val (.int p3), .val (.int fr), .val (.int ee), .val (.int sp), .val (.int to), .val (.int th), .val (.int du), .val (.double r), .second, .unset, .unset, .unset, .unset] [(.int to), (.int fr)])) rfl (by rw [hml]; rfl) (argsL := [(.int fr), (.int to)]) (rest := []) (lenOf pd_1 rfl) rfl (by show 2 * 0 + _ ≤ _; exact Nat.le_of_eq rfl) (hb hby at_88) (fun _ _ => ⟨rfl, eT, (by decide : 0 + 0 ≤ _), (by decide : 0 + 0 ≤ _)⟩)
      dsimp only [Pt.U, Pt.locs, Pt.cells, Pt.slots] at X l_ y_ z_ st hQ
      subst l_ y_ z_
      obtain ⟨rfl, Nq, eh⟩ := hQ
      have N := Fr.app N Nq
      have eT := eh
      refine Go.by st ?_
      show Go p.tables e below (T.setTop (mkF m 91 #[.val (.int p0), .val (.int p1), .val (.int p2), .val (.int p3), .val (.int fr), .val (.int ee), .val (.int sp), .val (.int to), .val (.int th), .val (.int du), .val (.double r), .second, .unset, .unset, .unset, .unset] [(.int (if to < fr then to else fr))])) _
      obtain ⟨lo, e_lo⟩ : ∃ z, z = (if to < fr then to else fr) := ⟨_, rfl⟩
      rw [← e_lo]
      show Go p.tables e below (T.setTop (mkF m 91 #[.val (.int p0), .val (.int p1), .val (.int p2), .val (.int p3), .val (.int fr), .val (.int ee), .val (.int sp), .val (.int to), .val (.int th), .val (.int du), .val (.double r), .second, .unset, .unset, .unset, .unset] [(.int lo)])) _
      have b_lo : lo.toInt = min fr.toInt to.toInt := by rw [e_lo]; exact own_min fr to
      refine Go.by (fun tt_ kk_ => XS.istore X.here hx rfl (hb hby at_91) rfl (l' := #[.val (.int p0), .val (.int p1), .val (.int p2), .val (.int p3), .val (.int fr), .val (.int ee), .val (.int sp), .val (.int to), .val (.int th), .val (.int du), .val (.double r), .second, .val (.int lo), .unset, .unset, .unset]) rfl kk_) ?_
      show Go p.tables e below (T.setTop (mkF m 93 #[.val (.int p0), .val (.int p1), .val (.int p2), .val (.int p3), .val (.int fr), .val (.int ee), .val (.int sp), .val (.int to), .val (.int th), .val (.int du), .val (.double r), .second, .val (.int lo), .unset, .unset, .unset] [])) _
      refine Go.by (fun tt_ kk_ => XS.iload X.here hx rfl (hb hby at_93) rfl kk_) ?_
      show Go p.tables e below (T.setTop (mkF m 95 #[.val (.int p0), .val (.int p1), .val (.int p2), .val (.int p3), .val (.int fr), .val (.int ee), .val (.int sp), .val (.int to), .val (.int th), .val (.int du), .val (.double r), .second, .val (.int lo), .unset, .unset, .unset] [(.int fr)])) _
      refine Go.by (fun tt_ kk_ => XS.iload X.here hx rfl (hb hby at_95) rfl kk_) ?_
      show Go p.tables e below (T.setTop (mkF m 97 #[.val (.int p0), .val (.int p1), .val (.int p2), .val (.int p3), .val (.int fr), .val (.int ee), .val (.int sp), .val (.int to), .val (.int th), .val (.int du), .val (.double r), .second, .val (.int lo), .unset, .unset, .unset] [(.int to), (.int fr)])) _
      obtain ⟨_, _, ⟨T, L_, k_, n_⟩, -, X, ⟨Lc_, hQ, l_, y_, z_⟩, st⟩ := Jvm.LawKit.callS X hx (y := (⟨"java/lang/Math", "max", "(II)I"⟩ : MethodName)) hown (mvT hZ (hw _ (List.mem_of_getElem? (i := 9) rfl))) (mvT hZ (hw _ (List.mem_of_getElem? (i := 10) rfl))) (mvT hZ (hw _ (List.mem_of_getElem? (i := 7) rfl))) (mvT hZ (hw _ (List.mem_of_getElem? (i := 11) rfl))) (by decide) (backOf (W := 0) (rm3 l Z a0 hw [] fr to h0 n0 (Nat.le_trans Z0 K.1) ) hZ (hw _ (List.mem_of_getElem? (i := 11) rfl)) (hw _ (List.mem_of_getElem? (i := 7) rfl)) (by decide) (by decide)) (g := (mkF m 97 #[.val (.int p0), .val (.int p1), .val (.int p2), .val (.int p3), .val (.int fr), .val (.int ee), .val (.int sp), .val (.int to), .val (.int th), .val (.int du), .val (.double r), .second, .val (.int lo), .unset, .unset, .unset] [(.int to), (.int fr)])) rfl (by rw [hml]; rfl) (argsL := [(.int fr), (.int to)]) (rest := []) (lenOf pd_1 rfl) rfl (by show 2 * 0 + _ ≤ _; exact Nat.le_of_eq rfl) (hb hby at_97) (fun _ _ => ⟨rfl, eT, (by decide : 0 + 0 ≤ _), (by decide : 0 + 0 ≤ _)⟩)
      dsimp only [Pt.U, Pt.locs, Pt.cells, Pt.slots] at X l_ y_ z_ st hQ
      subst l_ y_ z_
      obtain ⟨rfl, Nq, eh⟩ := hQ
      have N := Fr.app N Nq
      have eT := eh
      refine Go.by st ?_
      show Go p.tables e below (T.setTop (mkF m 100 #[.val (.int p0), .val (.int p1), .val (.int p2), .val (.int p3), .val (.int fr), .val (.int ee), .val (.int sp), .val (.int to), .val (.int th), .val (.int du), .val (.double r), .second, .val (.int lo), .unset, .unset, .unset] [(.int (if fr < to then to else fr))])) _
      obtain ⟨hi, e_hi⟩ : ∃ z, z = (if fr < to then to else fr) := ⟨_, rfl⟩
      rw [← e_hi]
      show Go p.tables e below (T.setTop (mkF m 100 #[.val (.int p0), .val (.int p1), .val (.int p2), .val (.int p3), .val (.int fr), .val (.int ee), .val (.int sp), .val (.int to), .val (.int th), .val (.int du), .val (.double r), .second, .val (.int lo), .unset, .unset, .unset] [(.int hi)])) _
      have b_hi : hi.toInt = max fr.toInt to.toInt := by rw [e_hi]; exact own_max fr to
      refine Go.by (fun tt_ kk_ => XS.istore X.here hx rfl (hb hby at_100) rfl (l' := #[.val (.int p0), .val (.int p1), .val (.int p2), .val (.int p3), .val (.int fr), .val (.int ee), .val (.int sp), .val (.int to), .val (.int th), .val (.int du), .val (.double r), .second, .val (.int lo), .val (.int hi), .unset, .unset]) rfl kk_) ?_
      show Go p.tables e below (T.setTop (mkF m 102 #[.val (.int p0), .val (.int p1), .val (.int p2), .val (.int p3), .val (.int fr), .val (.int ee), .val (.int sp), .val (.int to), .val (.int th), .val (.int du), .val (.double r), .second, .val (.int lo), .val (.int hi), .unset, .unset] [])) _
      refine Go.by (fun tt_ kk_ => XS.iload X.here hx rfl (hb hby at_102) rfl kk_) ?_
      show Go p.tables e below (T.setTop (mkF m 104 #[.val (.int p0), .val (.int p1), .val (.int p2), .val (.int p3), .val (.int fr), .val (.int ee), .val (.int sp), .val (.int to), .val (.int th), .val (.int du), .val (.double r), .second, .val (.int lo), .val (.int hi), .unset, .unset] [(.int du)])) _
      by_cases hc104 : (0 : Int32) < du
      · have k104 : 0 < du.toInt := Int32.lt_iff_toInt_lt.mp hc104
        refine Go.by (fun tt_ kk_ => XS.ifNo X.here hx rfl (hb hby at_104) rfl ((if0 _ _).trans (tlt hc104).2.2.2) kk_) ?_
        show Go p.tables e below (T.setTop (mkF m 107 #[.val (.int p0), .val (.int p1), .val (.int p2), .val (.int p3), .val (.int fr), .val (.int ee), .val (.int sp), .val (.int to), .val (.int th), .val (.int du), .val (.double r), .second, .val (.int lo), .val (.int hi), .unset, .unset] [])) _
        refine Go.by (fun tt_ kk_ => XS.iload X.here hx rfl (hb hby at_107) rfl kk_) ?_
        show Go p.tables e below (T.setTop (mkF m 109 #[.val (.int p0), .val (.int p1), .val (.int p2), .val (.int p3), .val (.int fr), .val (.int ee), .val (.int sp), .val (.int to), .val (.int th), .val (.int du), .val (.double r), .second, .val (.int lo), .val (.int hi), .unset, .unset] [(.int th)])) _
        refine Go.by (fun tt_ kk_ => XS.iload X.here hx rfl (hb hby at_109) rfl kk_) ?_
        show Go p.tables e below (T.setTop (mkF m 111 #[.val (.int p0), .val (.int p1), .val (.int p2), .val (.int p3), .val (.int fr), .val (.int ee), .val (.int sp), .val (.int to), .val (.int th), .val (.int du), .val (.double r), .second, .val (.int lo), .val (.int hi), .unset, .unset] [(.int lo), (.int th)])) _
        by_cases hc111 : lo < th
        · have k111 : lo.toInt < th.toInt := Int32.lt_iff_toInt_lt.mp hc111
          refine Go.by (fun tt_ kk_ => XS.icmpYes X.here hx rfl (pc0 := 111) (pc' := 127) rfl (hb hby at_111) rfl (tlt hc111).2.2.1 (by decide) (by decide) kk_) ?_
          show Go p.tables e below (T.setTop (mkF m 127 #[.val (.int p0), .val (.int p1), .val (.int p2), .val (.int p3), .val (.int fr), .val (.int ee), .val (.int sp), .val (.int to), .val (.int th), .val (.int du), .val (.double r), .second, .val (.int lo), .val (.int hi), .unset, .unset] [])) _
          refine Go.by (fun tt_ kk_ => XS.iload X.here hx rfl (hb hby at_127) rfl kk_) ?_
          show Go p.tables e below (T.setTop (mkF m 129 #[.val (.int p0), .val (.int p1), .val (.int p2), .val (.int p3), .val (.int fr), .val (.int ee), .val (.int sp), .val (.int to), .val (.int th), .val (.int du), .val (.double r), .second, .val (.int lo), .val (.int hi), .unset, .unset] [(.int th)])) _
          refine Go.by (fun tt_ kk_ => XS.iload X.here hx rfl (hb hby at_129) rfl kk_) ?_
          show Go p.tables e below (T.setTop (mkF m 131 #[.val (.int p0), .val (.int p1), .val (.int p2), .val (.int p3), .val (.int fr), .val (.int ee), .val (.int sp), .val (.int to), .val (.int th), .val (.int du), .val (.double r), .second, .val (.int lo), .val (.int hi), .unset, .unset] [(.int hi), (.int th)])) _
          by_cases hc131 : hi < th
          · have k131 : hi.toInt < th.toInt := Int32.lt_iff_toInt_lt.mp hc131
            refine Go.by (fun tt_ kk_ => XS.icmpNo X.here hx rfl (hb hby at_131) rfl (tlt hc131).2.2.2 kk_) ?_
            show Go p.tables e below (T.setTop (mkF m 134 #[.val (.int p0), .val (.int p1), .val (.int p2), .val (.int p3), .val (.int fr), .val (.int ee), .val (.int sp), .val (.int to), .val (.int th), .val (.int du), .val (.double r), .second, .val (.int lo), .val (.int hi), .unset, .unset] [])) _
            refine Go.by (fun tt_ kk_ => XS.dload X.here hx rfl (hb hby at_134) rfl kk_) ?_
            show Go p.tables e below (T.setTop (mkF m 136 #[.val (.int p0), .val (.int p1), .val (.int p2), .val (.int p3), .val (.int fr), .val (.int ee), .val (.int sp), .val (.int to), .val (.int th), .val (.int du), .val (.double r), .second, .val (.int lo), .val (.int hi), .unset, .unset] [(.double r)])) _
            refine Go.by (fun tt_ kk_ => XS.iload X.here hx rfl (hb hby at_136) rfl kk_) ?_
            show Go p.tables e below (T.setTop (mkF m 138 #[.val (.int p0), .val (.int p1), .val (.int p2), .val (.int p3), .val (.int fr), .val (.int ee), .val (.int sp), .val (.int to), .val (.int th), .val (.int du), .val (.double r), .second, .val (.int lo), .val (.int hi), .unset, .unset] [(.int du), (.double r)])) _
            refine Go.by (fun tt_ kk_ => XS.i2dS X.here hx rfl (hb hby at_138) rfl rfl kk_) ?_
            show Go p.tables e below (T.setTop (mkF m 139 #[.val (.int p0), .val (.int p1), .val (.int p2), .val (.int p3), .val (.int fr), .val (.int ee), .val (.int sp), .val (.int to), .val (.int th), .val (.int du), .val (.double r), .second, .val (.int lo), .val (.int hi), .unset, .unset] [(.double (FP.i2d du)), (.double r)])) _
            have z : Dy du.toInt 0 r := by
              rcases hP with ⟨q1, -⟩ | ⟨q1, q2, q3, q⟩ | ⟨q1, e, -, ⟨q2, q3, -⟩ | ⟨q2, q3, -⟩⟩
              · exfalso; omega
              · exact q
              · exfalso; omega
              · exfalso; omega
            refine Go.by (fun tt_ kk_ => XS.dcmpS X.here hx rfl (hb hby at_139) rfl ((z.cmpV (Dy.i2d du) .l).trans (own_ci_eq.mpr rfl)) kk_) ?_
            show Go p.tables e below (T.setTop (mkF m 140 #[.val (.int p0), .val (.int p1), .val (.int p2), .val (.int p3), .val (.int fr), .val (.int ee), .val (.int sp), .val (.int to), .val (.int th), .val (.int du), .val (.double r), .second, .val (.int lo), .val (.int hi), .unset, .unset] [(.int (0 : Int32))])) _
            refine Go.by (fun tt_ kk_ => XS.ifNo X.here hx rfl (hb hby at_140) rfl ((if0 _ _).trans (teq (rfl : (0 : Int32) = (0 : Int32))).2) kk_) ?_
            show Go p.tables e below (T.setTop (mkF m 143 #[.val (.int p0), .val (.int p1), .val (.int p2), .val (.int p3), .val (.int fr), .val (.int ee), .val (.int sp), .val (.int to), .val (.int th), .val (.int du), .val (.double r), .second, .val (.int lo), .val (.int hi), .unset, .unset] [])) _
            refine Go.by (fun tt_ kk_ => XS.iconst X.here hx rfl (hb hby at_143) kk_) ?_
            show Go p.tables e below (T.setTop (mkF m 144 #[.val (.int p0), .val (.int p1), .val (.int p2), .val (.int p3), .val (.int fr), .val (.int ee), .val (.int sp), .val (.int to), .val (.int th), .val (.int du), .val (.double r), .second, .val (.int lo), .val (.int hi), .unset, .unset] [(.int (1 : Int32))])) _
            refine Go.by (fun tt_ kk_ => XS.goto X.here hx rfl (pc0 := 144) (pc' := 148) rfl (hb hby at_144) (by decide) (by decide) kk_) ?_
            show Go p.tables e below (T.setTop (mkF m 148 #[.val (.int p0), .val (.int p1), .val (.int p2), .val (.int p3), .val (.int fr), .val (.int ee), .val (.int sp), .val (.int to), .val (.int th), .val (.int du), .val (.double r), .second, .val (.int lo), .val (.int hi), .unset, .unset] [(.int (1 : Int32))])) _
            exact Go.done X  (v := some (.int (1 : Int32))) (fun h => by rw [Bd.returns] at h; cases h) Bd.notSynchronized (fun fs hr => retN X hx (z := (1 : Int32)) (t := .boolean) Bd.returns (by simp) (hb hby at_148) hr) (by rw [eT]; exact ⟨rfl, N⟩) (by decide) (by decide)
          · have k131 : th.toInt ≤ hi.toInt := Int.not_lt.mp fun q => hc131 (Int32.lt_iff_toInt_lt.mpr q)
            refine Go.by (fun tt_ kk_ => XS.icmpYes X.here hx rfl (pc0 := 131) (pc' := 149) rfl (hb hby at_131) rfl (flt hc131).2.2.2 (by decide) (by decide) kk_) ?_
            show Go p.tables e below (T.setTop (mkF m 149 #[.val (.int p0), .val (.int p1), .val (.int p2), .val (.int p3), .val (.int fr), .val (.int ee), .val (.int sp), .val (.int to), .val (.int th), .val (.int du), .val (.double r), .second, .val (.int lo), .val (.int hi), .unset, .unset] [])) _
            refine Go.by (fun tt_ kk_ => XS.iload X.here hx rfl (hb hby at_149) rfl kk_) ?_
            show Go p.tables e below (T.setTop (mkF m 151 #[.val (.int p0), .val (.int p1), .val (.int p2), .val (.int p3), .val (.int fr), .val (.int ee), .val (.int sp), .val (.int to), .val (.int th), .val (.int du), .val (.double r), .second, .val (.int lo), .val (.int hi), .unset, .unset] [(.int du)])) _
            refine Go.by (fun tt_ kk_ => XS.i2l X.here hx rfl (hb hby at_151) rfl kk_) ?_
            show Go p.tables e below (T.setTop (mkF m 152 #[.val (.int p0), .val (.int p1), .val (.int p2), .val (.int p3), .val (.int fr), .val (.int ee), .val (.int sp), .val (.int to), .val (.int th), .val (.int du), .val (.double r), .second, .val (.int lo), .val (.int hi), .unset, .unset] [(.long (du.toInt64))])) _
            refine Go.by (fun tt_ kk_ => XS.iload X.here hx rfl (hb hby at_152) rfl kk_) ?_
            show Go p.tables e below (T.setTop (mkF m 154 #[.val (.int p0), .val (.int p1), .val (.int p2), .val (.int p3), .val (.int fr), .val (.int ee), .val (.int sp), .val (.int to), .val (.int th), .val (.int du), .val (.double r), .second, .val (.int lo), .val (.int hi), .unset, .unset] [(.int th), (.long (du.toInt64))])) _
            refine Go.by (fun tt_ kk_ => XS.iload X.here hx rfl (hb hby at_154) rfl kk_) ?_
            show Go p.tables e below (T.setTop (mkF m 156 #[.val (.int p0), .val (.int p1), .val (.int p2), .val (.int p3), .val (.int fr), .val (.int ee), .val (.int sp), .val (.int to), .val (.int th), .val (.int du), .val (.double r), .second, .val (.int lo), .val (.int hi), .unset, .unset] [(.int lo), (.int th), (.long (du.toInt64))])) _
            refine Go.by (fun tt_ kk_ => XS.isub X.here hx rfl (hb hby at_156) rfl kk_) ?_
            show Go p.tables e below (T.setTop (mkF m 157 #[.val (.int p0), .val (.int p1), .val (.int p2), .val (.int p3), .val (.int fr), .val (.int ee), .val (.int sp), .val (.int to), .val (.int th), .val (.int du), .val (.double r), .second, .val (.int lo), .val (.int hi), .unset, .unset] [(.int (th - lo)), (.long (du.toInt64))])) _
            refine Go.by (fun tt_ kk_ => XS.i2l X.here hx rfl (hb hby at_157) rfl kk_) ?_
            show Go p.tables e below (T.setTop (mkF m 158 #[.val (.int p0), .val (.int p1), .val (.int p2), .val (.int p3), .val (.int fr), .val (.int ee), .val (.int sp), .val (.int to), .val (.int th), .val (.int du), .val (.double r), .second, .val (.int lo), .val (.int hi), .unset, .unset] [(.long ((th - lo).toInt64)), (.long (du.toInt64))])) _
            refine Go.by (fun tt_ kk_ => XS.lmul X.here hx rfl (hb hby at_158) rfl kk_) ?_
            show Go p.tables e below (T.setTop (mkF m 159 #[.val (.int p0), .val (.int p1), .val (.int p2), .val (.int p3), .val (.int fr), .val (.int ee), .val (.int sp), .val (.int to), .val (.int th), .val (.int du), .val (.double r), .second, .val (.int lo), .val (.int hi), .unset, .unset] [(.long ((du.toInt64) * ((th - lo).toInt64)))])) _
            obtain ⟨pt, e_pt⟩ : ∃ z, z = ((du.toInt64) * ((th - lo).toInt64)) := ⟨_, rfl⟩
            rw [← e_pt]
            show Go p.tables e below (T.setTop (mkF m 159 #[.val (.int p0), .val (.int p1), .val (.int p2), .val (.int p3), .val (.int fr), .val (.int ee), .val (.int sp), .val (.int to), .val (.int th), .val (.int du), .val (.double r), .second, .val (.int lo), .val (.int hi), .unset, .unset] [(.long pt)])) _
            obtain ⟨ew, he, hh1, z⟩ : ∃ ew : Nat, ew ≤ 10 ∧ hi.toInt - lo.toInt = 2 ^ ew ∧ Dy (du.toInt * (th.toInt - lo.toInt)) (-(ew : Int)) r := by
              rcases hP with ⟨q1, -⟩ | ⟨q1, q2, q3, q⟩ | ⟨q1, e, he, ⟨q2, q3, q4, q⟩ | ⟨q2, q3, q4, q⟩⟩
              · exfalso; omega
              · exfalso; omega
              · exact ⟨e, he, by omega, q.cast (by rw [show lo.toInt = fr.toInt by omega]) rfl⟩
              · exact ⟨e, he, by omega, q.cast (by rw [show lo.toInt = to.toInt by omega]) rfl⟩
            have pe := own_pow10 he
            have m1 := own_mulb (A := 1048576) (B := 1024) (show -1048576 ≤ du.toInt by omega) (by omega) (show -1024 ≤ th.toInt - lo.toInt by omega) (by omega)
            have n1 : (th - lo).toInt = th.toInt - lo.toInt := own_sub32 (by omega) (by omega)
            have b_pt : pt.toInt = du.toInt * (th.toInt - lo.toInt) := by rw [e_pt, FP.Core.int64_mul (by rw [own_i2l, own_i2l, n1]; omega) (by rw [own_i2l, own_i2l, n1]; omega), own_i2l, own_i2l, n1]
            have n2 : (hi - lo).toInt = 1 * 2 ^ ew := by rw [own_sub32 (by omega) (by omega), hh1, Int.one_mul]
            refine Go.by (fun tt_ kk_ => XS.lstore X.here hx rfl (hb hby at_159) rfl (l' := #[.val (.int p0), .val (.int p1), .val (.int p2), .val (.int p3), .val (.int fr), .val (.int ee), .val (.int sp), .val (.int to), .val (.int th), .val (.int du), .val (.double r), .second, .val (.int lo), .val (.int hi), .val (.long pt), .second]) rfl kk_) ?_
            show Go p.tables e below (T.setTop (mkF m 161 #[.val (.int p0), .val (.int p1), .val (.int p2), .val (.int p3), .val (.int fr), .val (.int ee), .val (.int sp), .val (.int to), .val (.int th), .val (.int du), .val (.double r), .second, .val (.int lo), .val (.int hi), .val (.long pt), .second] [])) _
            refine Go.by (fun tt_ kk_ => XS.dload X.here hx rfl (hb hby at_161) rfl kk_) ?_
            show Go p.tables e below (T.setTop (mkF m 163 #[.val (.int p0), .val (.int p1), .val (.int p2), .val (.int p3), .val (.int fr), .val (.int ee), .val (.int sp), .val (.int to), .val (.int th), .val (.int du), .val (.double r), .second, .val (.int lo), .val (.int hi), .val (.long pt), .second] [(.double r)])) _
            refine Go.by (fun tt_ kk_ => XS.iload X.here hx rfl (hb hby at_163) rfl kk_) ?_
            show Go p.tables e below (T.setTop (mkF m 165 #[.val (.int p0), .val (.int p1), .val (.int p2), .val (.int p3), .val (.int fr), .val (.int ee), .val (.int sp), .val (.int to), .val (.int th), .val (.int du), .val (.double r), .second, .val (.int lo), .val (.int hi), .val (.long pt), .second] [(.int hi), (.double r)])) _
            refine Go.by (fun tt_ kk_ => XS.iload X.here hx rfl (hb hby at_165) rfl kk_) ?_
            show Go p.tables e below (T.setTop (mkF m 167 #[.val (.int p0), .val (.int p1), .val (.int p2), .val (.int p3), .val (.int fr), .val (.int ee), .val (.int sp), .val (.int to), .val (.int th), .val (.int du), .val (.double r), .second, .val (.int lo), .val (.int hi), .val (.long pt), .second] [(.int lo), (.int hi), (.double r)])) _
            refine Go.by (fun tt_ kk_ => XS.isub X.here hx rfl (hb hby at_167) rfl kk_) ?_
            show Go p.tables e below (T.setTop (mkF m 168 #[.val (.int p0), .val (.int p1), .val (.int p2), .val (.int p3), .val (.int fr), .val (.int ee), .val (.int sp), .val (.int to), .val (.int th), .val (.int du), .val (.double r), .second, .val (.int lo), .val (.int hi), .val (.long pt), .second] [(.int (hi - lo)), (.double r)])) _
            refine Go.by (fun tt_ kk_ => XS.i2dS X.here hx rfl (hb hby at_168) rfl rfl kk_) ?_
            show Go p.tables e below (T.setTop (mkF m 169 #[.val (.int p0), .val (.int p1), .val (.int p2), .val (.int p3), .val (.int fr), .val (.int ee), .val (.int sp), .val (.int to), .val (.int th), .val (.int du), .val (.double r), .second, .val (.int lo), .val (.int hi), .val (.long pt), .second] [(.double (FP.i2d (hi - lo))), (.double r)])) _
            obtain ⟨y9, e_y9⟩ : ∃ z, z = FP.dmul r (FP.i2d (hi - lo)) := ⟨_, rfl⟩
            have d_y9 : Dy (du.toInt * (th.toInt - lo.toInt)) 0 y9 := by rw [e_y9]; exact (z.mul (Dy.unscale ew ((Dy.i2d (hi - lo)).cast n2 rfl)) (by rw [Int.mul_one]; omega) (by omega) (by omega)).cast (Int.mul_one _) (by omega)
            refine Go.by (fun tt_ kk_ => XS.dmulS X.here hx rfl (hb hby at_169) rfl (e_y9 ▸ d_y9.noNaN) e_y9.symm kk_) ?_
            show Go p.tables e below (T.setTop (mkF m 170 #[.val (.int p0), .val (.int p1), .val (.int p2), .val (.int p3), .val (.int fr), .val (.int ee), .val (.int sp), .val (.int to), .val (.int th), .val (.int du), .val (.double r), .second, .val (.int lo), .val (.int hi), .val (.long pt), .second] [(.double y9)])) _
            refine Go.by (fun tt_ kk_ => XS.lload X.here hx rfl (hb hby at_170) rfl kk_) ?_
            show Go p.tables e below (T.setTop (mkF m 172 #[.val (.int p0), .val (.int p1), .val (.int p2), .val (.int p3), .val (.int fr), .val (.int ee), .val (.int sp), .val (.int to), .val (.int th), .val (.int du), .val (.double r), .second, .val (.int lo), .val (.int hi), .val (.long pt), .second] [(.long pt), (.double y9)])) _
            refine Go.by (fun tt_ kk_ => XS.l2dS X.here hx rfl (hb hby at_172) rfl rfl kk_) ?_
            show Go p.tables e below (T.setTop (mkF m 173 #[.val (.int p0), .val (.int p1), .val (.int p2), .val (.int p3), .val (.int fr), .val (.int ee), .val (.int sp), .val (.int to), .val (.int th), .val (.int du), .val (.double r), .second, .val (.int lo), .val (.int hi), .val (.long pt), .second] [(.double (FP.l2d pt)), (.double y9)])) _
            refine Go.by (fun tt_ kk_ => XS.dcmpS X.here hx rfl (hb hby at_173) rfl ((d_y9.cmpV (Dy.l2d (by rw [b_pt]; omega)) .l).trans (own_ci_eq.mpr b_pt.symm)) kk_) ?_
            show Go p.tables e below (T.setTop (mkF m 174 #[.val (.int p0), .val (.int p1), .val (.int p2), .val (.int p3), .val (.int fr), .val (.int ee), .val (.int sp), .val (.int to), .val (.int th), .val (.int du), .val (.double r), .second, .val (.int lo), .val (.int hi), .val (.long pt), .second] [(.int (0 : Int32))])) _
            refine Go.by (fun tt_ kk_ => XS.ifNo X.here hx rfl (hb hby at_174) rfl ((if0 _ _).trans (teq (rfl : (0 : Int32) = (0 : Int32))).2) kk_) ?_
            show Go p.tables e below (T.setTop (mkF m 177 #[.val (.int p0), .val (.int p1), .val (.int p2), .val (.int p3), .val (.int fr), .val (.int ee), .val (.int sp), .val (.int to), .val (.int th), .val (.int du), .val (.double r), .second, .val (.int lo), .val (.int hi), .val (.long pt), .second] [])) _
            refine Go.by (fun tt_ kk_ => XS.iconst X.here hx rfl (hb hby at_177) kk_) ?_
            show Go p.tables e below (T.setTop (mkF m 178 #[.val (.int p0), .val (.int p1), .val (.int p2), .val (.int p3), .val (.int fr), .val (.int ee), .val (.int sp), .val (.int to), .val (.int th), .val (.int du), .val (.double r), .second, .val (.int lo), .val (.int hi), .val (.long pt), .second] [(.int (1 : Int32))])) _
            refine Go.by (fun tt_ kk_ => XS.goto X.here hx rfl (pc0 := 178) (pc' := 182) rfl (hb hby at_178) (by decide) (by decide) kk_) ?_
            show Go p.tables e below (T.setTop (mkF m 182 #[.val (.int p0), .val (.int p1), .val (.int p2), .val (.int p3), .val (.int fr), .val (.int ee), .val (.int sp), .val (.int to), .val (.int th), .val (.int du), .val (.double r), .second, .val (.int lo), .val (.int hi), .val (.long pt), .second] [(.int (1 : Int32))])) _
            exact Go.done X  (v := some (.int (1 : Int32))) (fun h => by rw [Bd.returns] at h; cases h) Bd.notSynchronized (fun fs hr => retN X hx (z := (1 : Int32)) (t := .boolean) Bd.returns (by simp) (hb hby at_182) hr) (by rw [eT]; exact ⟨rfl, N⟩) (by decide) (by decide)
        · have k111 : th.toInt ≤ lo.toInt := Int.not_lt.mp fun q => hc111 (Int32.lt_iff_toInt_lt.mpr q)
          refine Go.by (fun tt_ kk_ => XS.icmpNo X.here hx rfl (hb hby at_111) rfl (flt hc111).2.2.1 kk_) ?_
          show Go p.tables e below (T.setTop (mkF m 114 #[.val (.int p0), .val (.int p1), .val (.int p2), .val (.int p3), .val (.int fr), .val (.int ee), .val (.int sp), .val (.int to), .val (.int th), .val (.int du), .val (.double r), .second, .val (.int lo), .val (.int hi), .unset, .unset] [])) _
          refine Go.by (fun tt_ kk_ => XS.dload X.here hx rfl (hb hby at_114) rfl kk_) ?_
          show Go p.tables e below (T.setTop (mkF m 116 #[.val (.int p0), .val (.int p1), .val (.int p2), .val (.int p3), .val (.int fr), .val (.int ee), .val (.int sp), .val (.int to), .val (.int th), .val (.int du), .val (.double r), .second, .val (.int lo), .val (.int hi), .unset, .unset] [(.double r)])) _
          refine Go.by (fun tt_ kk_ => XS.dconst0 X.here hx rfl (hb hby at_116) (v := (0 : UInt64)) rfl kk_) ?_
          show Go p.tables e below (T.setTop (mkF m 117 #[.val (.int p0), .val (.int p1), .val (.int p2), .val (.int p3), .val (.int fr), .val (.int ee), .val (.int sp), .val (.int to), .val (.int th), .val (.int du), .val (.double r), .second, .val (.int lo), .val (.int hi), .unset, .unset] [(.double (0 : UInt64)), (.double r)])) _
          have z : Dy 0 0 r := by
            rcases hP with ⟨-, q⟩ | ⟨q1, q2, q3, -⟩ | ⟨q1, e, -, ⟨q2, q3, -⟩ | ⟨q2, q3, -⟩⟩
            · exact q
            · exfalso; omega
            · exfalso; omega
            · exfalso; omega
          refine Go.by (fun tt_ kk_ => XS.dcmpS X.here hx rfl (hb hby at_117) rfl ((z.cmpV (own_zero 0) .l).trans (own_ci_eq.mpr rfl)) kk_) ?_
          show Go p.tables e below (T.setTop (mkF m 118 #[.val (.int p0), .val (.int p1), .val (.int p2), .val (.int p3), .val (.int fr), .val (.int ee), .val (.int sp), .val (.int to), .val (.int th), .val (.int du), .val (.double r), .second, .val (.int lo), .val (.int hi), .unset, .unset] [(.int (0 : Int32))])) _
          refine Go.by (fun tt_ kk_ => XS.ifNo X.here hx rfl (hb hby at_118) rfl ((if0 _ _).trans (teq (rfl : (0 : Int32) = (0 : Int32))).2) kk_) ?_
          show Go p.tables e below (T.setTop (mkF m 121 #[.val (.int p0), .val (.int p1), .val (.int p2), .val (.int p3), .val (.int fr), .val (.int ee), .val (.int sp), .val (.int to), .val (.int th), .val (.int du), .val (.double r), .second, .val (.int lo), .val (.int hi), .unset, .unset] [])) _
          refine Go.by (fun tt_ kk_ => XS.iconst X.here hx rfl (hb hby at_121) kk_) ?_
          show Go p.tables e below (T.setTop (mkF m 122 #[.val (.int p0), .val (.int p1), .val (.int p2), .val (.int p3), .val (.int fr), .val (.int ee), .val (.int sp), .val (.int to), .val (.int th), .val (.int du), .val (.double r), .second, .val (.int lo), .val (.int hi), .unset, .unset] [(.int (1 : Int32))])) _
          refine Go.by (fun tt_ kk_ => XS.goto X.here hx rfl (pc0 := 122) (pc' := 126) rfl (hb hby at_122) (by decide) (by decide) kk_) ?_
          show Go p.tables e below (T.setTop (mkF m 126 #[.val (.int p0), .val (.int p1), .val (.int p2), .val (.int p3), .val (.int fr), .val (.int ee), .val (.int sp), .val (.int to), .val (.int th), .val (.int du), .val (.double r), .second, .val (.int lo), .val (.int hi), .unset, .unset] [(.int (1 : Int32))])) _
          exact Go.done X  (v := some (.int (1 : Int32))) (fun h => by rw [Bd.returns] at h; cases h) Bd.notSynchronized (fun fs hr => retN X hx (z := (1 : Int32)) (t := .boolean) Bd.returns (by simp) (hb hby at_126) hr) (by rw [eT]; exact ⟨rfl, N⟩) (by decide) (by decide)
      · have k104 : du.toInt ≤ 0 := Int.not_lt.mp fun q => hc104 (Int32.lt_iff_toInt_lt.mpr q)
        refine Go.by (fun tt_ kk_ => XS.ifYes X.here hx rfl (pc0 := 104) (pc' := 114) rfl (hb hby at_104) rfl ((if0 _ _).trans (flt hc104).2.2.2) (by decide) (by decide) kk_) ?_
        show Go p.tables e below (T.setTop (mkF m 114 #[.val (.int p0), .val (.int p1), .val (.int p2), .val (.int p3), .val (.int fr), .val (.int ee), .val (.int sp), .val (.int to), .val (.int th), .val (.int du), .val (.double r), .second, .val (.int lo), .val (.int hi), .unset, .unset] [])) _
        refine Go.by (fun tt_ kk_ => XS.dload X.here hx rfl (hb hby at_114) rfl kk_) ?_
        show Go p.tables e below (T.setTop (mkF m 116 #[.val (.int p0), .val (.int p1), .val (.int p2), .val (.int p3), .val (.int fr), .val (.int ee), .val (.int sp), .val (.int to), .val (.int th), .val (.int du), .val (.double r), .second, .val (.int lo), .val (.int hi), .unset, .unset] [(.double r)])) _
        refine Go.by (fun tt_ kk_ => XS.dconst0 X.here hx rfl (hb hby at_116) (v := (0 : UInt64)) rfl kk_) ?_
        show Go p.tables e below (T.setTop (mkF m 117 #[.val (.int p0), .val (.int p1), .val (.int p2), .val (.int p3), .val (.int fr), .val (.int ee), .val (.int sp), .val (.int to), .val (.int th), .val (.int du), .val (.double r), .second, .val (.int lo), .val (.int hi), .unset, .unset] [(.double (0 : UInt64)), (.double r)])) _
        have z : Dy 0 0 r := by
          rcases hP with ⟨-, q⟩ | ⟨q1, q2, q3, -⟩ | ⟨q1, e, -, ⟨q2, q3, -⟩ | ⟨q2, q3, -⟩⟩
          · exact q
          · exfalso; omega
          · exfalso; omega
          · exfalso; omega
        refine Go.by (fun tt_ kk_ => XS.dcmpS X.here hx rfl (hb hby at_117) rfl ((z.cmpV (own_zero 0) .l).trans (own_ci_eq.mpr rfl)) kk_) ?_
        show Go p.tables e below (T.setTop (mkF m 118 #[.val (.int p0), .val (.int p1), .val (.int p2), .val (.int p3), .val (.int fr), .val (.int ee), .val (.int sp), .val (.int to), .val (.int th), .val (.int du), .val (.double r), .second, .val (.int lo), .val (.int hi), .unset, .unset] [(.int (0 : Int32))])) _
        refine Go.by (fun tt_ kk_ => XS.ifNo X.here hx rfl (hb hby at_118) rfl ((if0 _ _).trans (teq (rfl : (0 : Int32) = (0 : Int32))).2) kk_) ?_
        show Go p.tables e below (T.setTop (mkF m 121 #[.val (.int p0), .val (.int p1), .val (.int p2), .val (.int p3), .val (.int fr), .val (.int ee), .val (.int sp), .val (.int to), .val (.int th), .val (.int du), .val (.double r), .second, .val (.int lo), .val (.int hi), .unset, .unset] [])) _
        refine Go.by (fun tt_ kk_ => XS.iconst X.here hx rfl (hb hby at_121) kk_) ?_
        show Go p.tables e below (T.setTop (mkF m 122 #[.val (.int p0), .val (.int p1), .val (.int p2), .val (.int p3), .val (.int fr), .val (.int ee), .val (.int sp), .val (.int to), .val (.int th), .val (.int du), .val (.double r), .second, .val (.int lo), .val (.int hi), .unset, .unset] [(.int (1 : Int32))])) _
        refine Go.by (fun tt_ kk_ => XS.goto X.here hx rfl (pc0 := 122) (pc' := 126) rfl (hb hby at_122) (by decide) (by decide) kk_) ?_
        show Go p.tables e below (T.setTop (mkF m 126 #[.val (.int p0), .val (.int p1), .val (.int p2), .val (.int p3), .val (.int fr), .val (.int ee), .val (.int sp), .val (.int to), .val (.int th), .val (.int du), .val (.double r), .second, .val (.int lo), .val (.int hi), .unset, .unset] [(.int (1 : Int32))])) _
        exact Go.done X  (v := some (.int (1 : Int32))) (fun h => by rw [Bd.returns] at h; cases h) Bd.notSynchronized (fun fs hr => retN X hx (z := (1 : Int32)) (t := .boolean) Bd.returns (by simp) (hb hby at_126) hr) (by rw [eT]; exact ⟨rfl, N⟩) (by decide) (by decide)
    · refine Go.by (fun tt_ kk_ => XS.ifNo X.here hx rfl (hb hby at_33) rfl ((if0 _ _).trans (feq hc33).1) kk_) ?_
      show Go p.tables e below (T.setTop (mkF m 36 #[.val (.int p0), .val (.int p1), .val (.int p2), .val (.int p3), .val (.int fr), .val (.int ee), .val (.int sp), .unset, .unset, .unset, .unset, .unset, .unset, .unset, .unset, .unset] [])) _
      refine Go.by (fun tt_ kk_ => XS.iload X.here hx rfl (hb hby at_36) rfl kk_) ?_
      show Go p.tables e below (T.setTop (mkF m 38 #[.val (.int p0), .val (.int p1), .val (.int p2), .val (.int p3), .val (.int fr), .val (.int ee), .val (.int sp), .unset, .unset, .unset, .unset, .unset, .unset, .unset, .unset, .unset] [(.int fr)])) _
      refine Go.by (fun tt_ kk_ => XS.iload X.here hx rfl (hb hby at_38) rfl kk_) ?_
      show Go p.tables e below (T.setTop (mkF m 40 #[.val (.int p0), .val (.int p1), .val (.int p2), .val (.int p3), .val (.int fr), .val (.int ee), .val (.int sp), .unset, .unset, .unset, .unset, .unset, .unset, .unset, .unset, .unset] [(.int sp), (.int fr)])) _
      refine Go.by (fun tt_ kk_ => XS.isub X.here hx rfl (hb hby at_40) rfl kk_) ?_
      show Go p.tables e below (T.setTop (mkF m 41 #[.val (.int p0), .val (.int p1), .val (.int p2), .val (.int p3), .val (.int fr), .val (.int ee), .val (.int sp), .unset, .unset, .unset, .unset, .unset, .unset, .unset, .unset, .unset] [(.int (fr - sp))])) _
      refine Go.by (fun tt_ kk_ => XS.goto X.here hx rfl (pc0 := 41) (pc' := 49) rfl (hb hby at_41) (by decide) (by decide) kk_) ?_
      show Go p.tables e below (T.setTop (mkF m 49 #[.val (.int p0), .val (.int p1), .val (.int p2), .val (.int p3), .val (.int fr), .val (.int ee), .val (.int sp), .unset, .unset, .unset, .unset, .unset, .unset, .unset, .unset, .unset] [(.int (fr - sp))])) _
      obtain ⟨to, e_to⟩ : ∃ z, z = (fr - sp) := ⟨_, rfl⟩
      rw [← e_to]
      show Go p.tables e below (T.setTop (mkF m 49 #[.val (.int p0), .val (.int p1), .val (.int p2), .val (.int p3), .val (.int fr), .val (.int ee), .val (.int sp), .unset, .unset, .unset, .unset, .unset, .unset, .unset, .unset, .unset] [(.int to)])) _
      have b_to : to.toInt = fr.toInt - sp.toInt := by rw [e_to]; exact own_sub32 (by omega) (by omega)
      have hs1 : ∃ k : Nat, k ≤ 10 ∧ (to.toInt = fr.toInt ∨ to.toInt - fr.toInt = 2 ^ k ∨ fr.toInt - to.toInt = 2 ^ k) := by
        obtain ⟨k, hk, hs⟩ := hs0
        exact ⟨k, hk, by omega⟩
      refine Go.by (fun tt_ kk_ => XS.istore X.here hx rfl (hb hby at_49) rfl (l' := #[.val (.int p0), .val (.int p1), .val (.int p2), .val (.int p3), .val (.int fr), .val (.int ee), .val (.int sp), .val (.int to), .unset, .unset, .unset, .unset, .unset, .unset, .unset, .unset]) rfl kk_) ?_
      show Go p.tables e below (T.setTop (mkF m 51 #[.val (.int p0), .val (.int p1), .val (.int p2), .val (.int p3), .val (.int fr), .val (.int ee), .val (.int sp), .val (.int to), .unset, .unset, .unset, .unset, .unset, .unset, .unset, .unset] [])) _
      refine Go.by (fun tt_ kk_ => XS.iload X.here hx rfl (hb hby at_51) rfl kk_) ?_
      show Go p.tables e below (T.setTop (mkF m 53 #[.val (.int p0), .val (.int p1), .val (.int p2), .val (.int p3), .val (.int fr), .val (.int ee), .val (.int sp), .val (.int to), .unset, .unset, .unset, .unset, .unset, .unset, .unset, .unset] [(.int fr)])) _
      refine Go.by (fun tt_ kk_ => XS.iloadN X.here hx rfl (hb hby at_53) rfl kk_) ?_
      show Go p.tables e below (T.setTop (mkF m 54 #[.val (.int p0), .val (.int p1), .val (.int p2), .val (.int p3), .val (.int fr), .val (.int ee), .val (.int sp), .val (.int to), .unset, .unset, .unset, .unset, .unset, .unset, .unset, .unset] [(.int p1), (.int fr)])) _
      refine Go.by (fun tt_ kk_ => XS.sipush X.here hx rfl (hb hby at_54) kk_) ?_
      show Go p.tables e below (T.setTop (mkF m 57 #[.val (.int p0), .val (.int p1), .val (.int p2), .val (.int p3), .val (.int fr), .val (.int ee), .val (.int sp), .val (.int to), .unset, .unset, .unset, .unset, .unset, .unset, .unset, .unset] [(.int (2049 : Int32)), (.int p1), (.int fr)])) _
      refine Go.by (fun tt_ kk_ => iremM X hx rfl (hb hby at_57) rfl (by decide) kk_) ?_
      show Go p.tables e below (T.setTop (mkF m 58 #[.val (.int p0), .val (.int p1), .val (.int p2), .val (.int p3), .val (.int fr), .val (.int ee), .val (.int sp), .val (.int to), .unset, .unset, .unset, .unset, .unset, .unset, .unset, .unset] [(.int (p1 % (2049 : Int32))), (.int fr)])) _
      refine Go.by (fun tt_ kk_ => XS.iadd X.here hx rfl (hb hby at_58) rfl kk_) ?_
      show Go p.tables e below (T.setTop (mkF m 59 #[.val (.int p0), .val (.int p1), .val (.int p2), .val (.int p3), .val (.int fr), .val (.int ee), .val (.int sp), .val (.int to), .unset, .unset, .unset, .unset, .unset, .unset, .unset, .unset] [(.int (fr + (p1 % (2049 : Int32))))])) _
      obtain ⟨th, e_th⟩ : ∃ z, z = (fr + (p1 % (2049 : Int32))) := ⟨_, rfl⟩
      rw [← e_th]
      show Go p.tables e below (T.setTop (mkF m 59 #[.val (.int p0), .val (.int p1), .val (.int p2), .val (.int p3), .val (.int fr), .val (.int ee), .val (.int sp), .val (.int to), .unset, .unset, .unset, .unset, .unset, .unset, .unset, .unset] [(.int th)])) _
      have q_th := own_rem (x := p1) (k := 2049) (K := 2049) (by decide) (by decide)
      have b_th : th.toInt = fr.toInt + (p1 % 2049).toInt := by rw [e_th]; exact own_add32 (by omega) (by omega)
      refine Go.by (fun tt_ kk_ => XS.istore X.here hx rfl (hb hby at_59) rfl (l' := #[.val (.int p0), .val (.int p1), .val (.int p2), .val (.int p3), .val (.int fr), .val (.int ee), .val (.int sp), .val (.int to), .val (.int th), .unset, .unset, .unset, .unset, .unset, .unset, .unset]) rfl kk_) ?_
      show Go p.tables e below (T.setTop (mkF m 61 #[.val (.int p0), .val (.int p1), .val (.int p2), .val (.int p3), .val (.int fr), .val (.int ee), .val (.int sp), .val (.int to), .val (.int th), .unset, .unset, .unset, .unset, .unset, .unset, .unset] [])) _
      refine Go.by (fun tt_ kk_ => XS.iloadN X.here hx rfl (hb hby at_61) rfl kk_) ?_
      show Go p.tables e below (T.setTop (mkF m 62 #[.val (.int p0), .val (.int p1), .val (.int p2), .val (.int p3), .val (.int fr), .val (.int ee), .val (.int sp), .val (.int to), .val (.int th), .unset, .unset, .unset, .unset, .unset, .unset, .unset] [(.int p2)])) _
      refine Go.by (X.ldcInt hx hown (mvT hZ (hw _ (List.mem_of_getElem? (i := 0) rfl))) (g := (mkF m 62 #[.val (.int p0), .val (.int p1), .val (.int p2), .val (.int p3), .val (.int fr), .val (.int ee), .val (.int sp), .val (.int to), .val (.int th), .unset, .unset, .unset, .unset, .unset, .unset, .unset] [(.int p2)])) rfl (hb hby at_62)) ?_
      show Go p.tables e below (T.setTop (mkF m 64 #[.val (.int p0), .val (.int p1), .val (.int p2), .val (.int p3), .val (.int fr), .val (.int ee), .val (.int sp), .val (.int to), .val (.int th), .unset, .unset, .unset, .unset, .unset, .unset, .unset] [(.int (1048576 : Int32)), (.int p2)])) _
      refine Go.by (fun tt_ kk_ => iremM X hx rfl (hb hby at_64) rfl (by decide) kk_) ?_
      show Go p.tables e below (T.setTop (mkF m 65 #[.val (.int p0), .val (.int p1), .val (.int p2), .val (.int p3), .val (.int fr), .val (.int ee), .val (.int sp), .val (.int to), .val (.int th), .unset, .unset, .unset, .unset, .unset, .unset, .unset] [(.int (p2 % (1048576 : Int32)))])) _
      obtain ⟨du, e_du⟩ : ∃ z, z = (p2 % (1048576 : Int32)) := ⟨_, rfl⟩
      rw [← e_du]
      show Go p.tables e below (T.setTop (mkF m 65 #[.val (.int p0), .val (.int p1), .val (.int p2), .val (.int p3), .val (.int fr), .val (.int ee), .val (.int sp), .val (.int to), .val (.int th), .unset, .unset, .unset, .unset, .unset, .unset, .unset] [(.int du)])) _
      have b_du : -1048576 < du.toInt ∧ du.toInt < 1048576 := by rw [e_du]; exact own_rem (by decide) (by decide)
      refine Go.by (fun tt_ kk_ => XS.istore X.here hx rfl (hb hby at_65) rfl (l' := #[.val (.int p0), .val (.int p1), .val (.int p2), .val (.int p3), .val (.int fr), .val (.int ee), .val (.int sp), .val (.int to), .val (.int th), .val (.int du), .unset, .unset, .unset, .unset, .unset, .unset]) rfl kk_) ?_
      show Go p.tables e below (T.setTop (mkF m 67 #[.val (.int p0), .val (.int p1), .val (.int p2), .val (.int p3), .val (.int fr), .val (.int ee), .val (.int sp), .val (.int to), .val (.int th), .val (.int du), .unset, .unset, .unset, .unset, .unset, .unset] [])) _
      refine Go.by (fun tt_ kk_ => XS.iload X.here hx rfl (hb hby at_67) rfl kk_) ?_
      show Go p.tables e below (T.setTop (mkF m 69 #[.val (.int p0), .val (.int p1), .val (.int p2), .val (.int p3), .val (.int fr), .val (.int ee), .val (.int sp), .val (.int to), .val (.int th), .val (.int du), .unset, .unset, .unset, .unset, .unset, .unset] [(.int th)])) _
      refine Go.by (fun tt_ kk_ => XS.i2dS X.here hx rfl (hb hby at_69) rfl rfl kk_) ?_
      show Go p.tables e below (T.setTop (mkF m 70 #[.val (.int p0), .val (.int p1), .val (.int p2), .val (.int p3), .val (.int fr), .val (.int ee), .val (.int sp), .val (.int to), .val (.int th), .val (.int du), .unset, .unset, .unset, .unset, .unset, .unset] [(.double (FP.i2d th))])) _
      refine Go.by (fun tt_ kk_ => XS.iload X.here hx rfl (hb hby at_70) rfl kk_) ?_
      show Go p.tables e below (T.setTop (mkF m 72 #[.val (.int p0), .val (.int p1), .val (.int p2), .val (.int p3), .val (.int fr), .val (.int ee), .val (.int sp), .val (.int to), .val (.int th), .val (.int du), .unset, .unset, .unset, .unset, .unset, .unset] [(.int fr), (.double (FP.i2d th))])) _
      refine Go.by (fun tt_ kk_ => XS.i2dS X.here hx rfl (hb hby at_72) rfl rfl kk_) ?_
      show Go p.tables e below (T.setTop (mkF m 73 #[.val (.int p0), .val (.int p1), .val (.int p2), .val (.int p3), .val (.int fr), .val (.int ee), .val (.int sp), .val (.int to), .val (.int th), .val (.int du), .unset, .unset, .unset, .unset, .unset, .unset] [(.double (FP.i2d fr)), (.double (FP.i2d th))])) _
      refine Go.by (fun tt_ kk_ => XS.iload X.here hx rfl (hb hby at_73) rfl kk_) ?_
      show Go p.tables e below (T.setTop (mkF m 75 #[.val (.int p0), .val (.int p1), .val (.int p2), .val (.int p3), .val (.int fr), .val (.int ee), .val (.int sp), .val (.int to), .val (.int th), .val (.int du), .unset, .unset, .unset, .unset, .unset, .unset] [(.int to), (.double (FP.i2d fr)), (.double (FP.i2d th))])) _
      refine Go.by (fun tt_ kk_ => XS.i2dS X.here hx rfl (hb hby at_75) rfl rfl kk_) ?_
      show Go p.tables e below (T.setTop (mkF m 76 #[.val (.int p0), .val (.int p1), .val (.int p2), .val (.int p3), .val (.int fr), .val (.int ee), .val (.int sp), .val (.int to), .val (.int th), .val (.int du), .unset, .unset, .unset, .unset, .unset, .unset] [(.double (FP.i2d to)), (.double (FP.i2d fr)), (.double (FP.i2d th))])) _
      refine Go.by (fun tt_ kk_ => XS.iload X.here hx rfl (hb hby at_76) rfl kk_) ?_
      show Go p.tables e below (T.setTop (mkF m 78 #[.val (.int p0), .val (.int p1), .val (.int p2), .val (.int p3), .val (.int fr), .val (.int ee), .val (.int sp), .val (.int to), .val (.int th), .val (.int du), .unset, .unset, .unset, .unset, .unset, .unset] [(.int du), (.double (FP.i2d to)), (.double (FP.i2d fr)), (.double (FP.i2d th))])) _
      refine Go.by (fun tt_ kk_ => XS.i2dS X.here hx rfl (hb hby at_78) rfl rfl kk_) ?_
      show Go p.tables e below (T.setTop (mkF m 79 #[.val (.int p0), .val (.int p1), .val (.int p2), .val (.int p3), .val (.int fr), .val (.int ee), .val (.int sp), .val (.int to), .val (.int th), .val (.int du), .unset, .unset, .unset, .unset, .unset, .unset] [(.double (FP.i2d du)), (.double (FP.i2d to)), (.double (FP.i2d fr)), (.double (FP.i2d th))])) _
      obtain ⟨_, _, ⟨T, L_, k_, n_⟩, -, X, ⟨Lc_, hQ, l_, y_, z_⟩, st⟩ := Jvm.LawKit.callS X hx (y := (⟨"com/example/eindhoven/eindhoven/engine/Motion", "timeBelow", "(DDDD)D"⟩ : MethodName)) hown (mvT hZ (hw _ (List.mem_of_getElem? (i := 1) rfl))) (mvT hZ (hw _ (List.mem_of_getElem? (i := 2) rfl))) (mvT hZ (hw _ (List.mem_of_getElem? (i := 3) rfl))) (mvT hZ (hw _ (List.mem_of_getElem? (i := 4) rfl))) (by decide) (backOf (W := 0) (rm1 l Z a0 hw [] (FP.i2d th) (FP.i2d fr) (FP.i2d to) (FP.i2d du) th.toInt fr.toInt to.toInt du.toInt h0 n0 (Nat.le_trans Z0 K.1) (Dy.i2d th) (Dy.i2d fr) (Dy.i2d to) (Dy.i2d du) (by omega) (by omega) (by omega) (by omega) hs1) hZ (hw _ (List.mem_of_getElem? (i := 4) rfl)) (hw _ (List.mem_of_getElem? (i := 3) rfl)) (by decide) (by decide)) (g := (mkF m 79 #[.val (.int p0), .val (.int p1), .val (.int p2), .val (.int p3), .val (.int fr), .val (.int ee), .val (.int sp), .val (.int to), .val (.int th), .val (.int du), .unset, .unset, .unset, .unset, .unset, .unset] [(.double (FP.i2d du)), (.double (FP.i2d to)), (.double (FP.i2d fr)), (.double (FP.i2d th))])) rfl (by rw [hml]; rfl) (argsL := [(.double (FP.i2d th)), (.double (FP.i2d fr)), (.double (FP.i2d to)), (.double (FP.i2d du))]) (rest := []) (lenOf pd_0 rfl) rfl (by show 2 * 0 + _ ≤ _; exact Nat.le_of_eq rfl) (hb hby at_79) (fun _ _ => ⟨rfl, eT, (by decide : 0 + 0 ≤ _), (by decide : 0 + 0 ≤ _)⟩)
      dsimp only [Pt.U, Pt.locs, Pt.cells, Pt.slots] at X l_ y_ z_ st hQ
      subst l_ y_ z_
      obtain ⟨r, rfl, Nq, hP, eh⟩ := hQ
      have N := Fr.app N Nq
      have eT := eh
      refine Go.by st ?_
      show Go p.tables e below (T.setTop (mkF m 82 #[.val (.int p0), .val (.int p1), .val (.int p2), .val (.int p3), .val (.int fr), .val (.int ee), .val (.int sp), .val (.int to), .val (.int th), .val (.int du), .unset, .unset, .unset, .unset, .unset, .unset] [(.double r)])) _
      refine Go.by (fun tt_ kk_ => XS.dstore X.here hx rfl (hb hby at_82) rfl (l' := #[.val (.int p0), .val (.int p1), .val (.int p2), .val (.int p3), .val (.int fr), .val (.int ee), .val (.int sp), .val (.int to), .val (.int th), .val (.int du), .val (.double r), .second, .unset, .unset, .unset, .unset]) rfl kk_) ?_
      show Go p.tables e below (T.setTop (mkF m 84 #[.val (.int p0), .val (.int p1), .val (.int p2), .val (.int p3), .val (.int fr), .val (.int ee), .val (.int sp), .val (.int to), .val (.int th), .val (.int du), .val (.double r), .second, .unset, .unset, .unset, .unset] [])) _
      refine Go.by (fun tt_ kk_ => XS.iload X.here hx rfl (hb hby at_84) rfl kk_) ?_
      show Go p.tables e below (T.setTop (mkF m 86 #[.val (.int p0), .val (.int p1), .val (.int p2), .val (.int p3), .val (.int fr), .val (.int ee), .val (.int sp), .val (.int to), .val (.int th), .val (.int du), .val (.double r), .second, .unset, .unset, .unset, .unset] [(.int fr)])) _
      refine Go.by (fun tt_ kk_ => XS.iload X.here hx rfl (hb hby at_86) rfl kk_) ?_
      show Go p.tables e below (T.setTop (mkF m 88 #[.val (.int p0), .val (.int p1), .val (.int p2), .val (.int p3), .val (.int fr), .val (.int ee), .val (.int sp), .val (.int to), .val (.int th), .val (.int du), .val (.double r), .second, .unset, .unset, .unset, .unset] [(.int to), (.int fr)])) _
      obtain ⟨_, _, ⟨T, L_, k_, n_⟩, -, X, ⟨Lc_, hQ, l_, y_, z_⟩, st⟩ := Jvm.LawKit.callS X hx (y := (⟨"java/lang/Math", "min", "(II)I"⟩ : MethodName)) hown (mvT hZ (hw _ (List.mem_of_getElem? (i := 5) rfl))) (mvT hZ (hw _ (List.mem_of_getElem? (i := 6) rfl))) (mvT hZ (hw _ (List.mem_of_getElem? (i := 7) rfl))) (mvT hZ (hw _ (List.mem_of_getElem? (i := 8) rfl))) (by decide) (backOf (W := 0) (rm2 l Z a0 hw [] fr to h0 n0 (Nat.le_trans Z0 K.1) ) hZ (hw _ (List.mem_of_getElem? (i := 8) rfl)) (hw _ (List.mem_of_getElem? (i := 7) rfl)) (by decide) (by decide)) (g := (mkF m 88 #[.val (.int p0), .val (.int p1), .val (.int p2), .val (.int p3), .val (.int fr), .val (.int ee), .val (.int sp), .val (.int to), .val (.int th), .val (.int du), .val (.double r), .second, .unset, .unset, .unset, .unset] [(.int to), (.int fr)])) rfl (by rw [hml]; rfl) (argsL := [(.int fr), (.int to)]) (rest := []) (lenOf pd_1 rfl) rfl (by show 2 * 0 + _ ≤ _; exact Nat.le_of_eq rfl) (hb hby at_88) (fun _ _ => ⟨rfl, eT, (by decide : 0 + 0 ≤ _), (by decide : 0 + 0 ≤ _)⟩)
      dsimp only [Pt.U, Pt.locs, Pt.cells, Pt.slots] at X l_ y_ z_ st hQ
      subst l_ y_ z_
      obtain ⟨rfl, Nq, eh⟩ := hQ
      have N := Fr.app N Nq
      have eT := eh
      refine Go.by st ?_
      show Go p.tables e below (T.setTop (mkF m 91 #[.val (.int p0), .val (.int p1), .val (.int p2), .val (.int p3), .val (.int fr), .val (.int ee), .val (.int sp), .val (.int to), .val (.int th), .val (.int du), .val (.double r), .second, .unset, .unset, .unset, .unset] [(.int (if to < fr then to else fr))])) _
      obtain ⟨lo, e_lo⟩ : ∃ z, z = (if to < fr then to else fr) := ⟨_, rfl⟩
      rw [← e_lo]
      show Go p.tables e below (T.setTop (mkF m 91 #[.val (.int p0), .val (.int p1), .val (.int p2), .val (.int p3), .val (.int fr), .val (.int ee), .val (.int sp), .val (.int to), .val (.int th), .val (.int du), .val (.double r), .second, .unset, .unset, .unset, .unset] [(.int lo)])) _
      have b_lo : lo.toInt = min fr.toInt to.toInt := by rw [e_lo]; exact own_min fr to
      refine Go.by (fun tt_ kk_ => XS.istore X.here hx rfl (hb hby at_91) rfl (l' := #[.val (.int p0), .val (.int p1), .val (.int p2), .val (.int p3), .val (.int fr), .val (.int ee), .val (.int sp), .val (.int to), .val (.int th), .val (.int du), .val (.double r), .second, .val (.int lo), .unset, .unset, .unset]) rfl kk_) ?_
      show Go p.tables e below (T.setTop (mkF m 93 #[.val (.int p0), .val (.int p1), .val (.int p2), .val (.int p3), .val (.int fr), .val (.int ee), .val (.int sp), .val (.int to), .val (.int th), .val (.int du), .val (.double r), .second, .val (.int lo), .unset, .unset, .unset] [])) _
      refine Go.by (fun tt_ kk_ => XS.iload X.here hx rfl (hb hby at_93) rfl kk_) ?_
      show Go p.tables e below (T.setTop (mkF m 95 #[.val (.int p0), .val (.int p1), .val (.int p2), .val (.int p3), .val (.int fr), .val (.int ee), .val (.int sp), .val (.int to), .val (.int th), .val (.int du), .val (.double r), .second, .val (.int lo), .unset, .unset, .unset] [(.int fr)])) _
      refine Go.by (fun tt_ kk_ => XS.iload X.here hx rfl (hb hby at_95) rfl kk_) ?_
      show Go p.tables e below (T.setTop (mkF m 97 #[.val (.int p0), .val (.int p1), .val (.int p2), .val (.int p3), .val (.int fr), .val (.int ee), .val (.int sp), .val (.int to), .val (.int th), .val (.int du), .val (.double r), .second, .val (.int lo), .unset, .unset, .unset] [(.int to), (.int fr)])) _
      obtain ⟨_, _, ⟨T, L_, k_, n_⟩, -, X, ⟨Lc_, hQ, l_, y_, z_⟩, st⟩ := Jvm.LawKit.callS X hx (y := (⟨"java/lang/Math", "max", "(II)I"⟩ : MethodName)) hown (mvT hZ (hw _ (List.mem_of_getElem? (i := 9) rfl))) (mvT hZ (hw _ (List.mem_of_getElem? (i := 10) rfl))) (mvT hZ (hw _ (List.mem_of_getElem? (i := 7) rfl))) (mvT hZ (hw _ (List.mem_of_getElem? (i := 11) rfl))) (by decide) (backOf (W := 0) (rm3 l Z a0 hw [] fr to h0 n0 (Nat.le_trans Z0 K.1) ) hZ (hw _ (List.mem_of_getElem? (i := 11) rfl)) (hw _ (List.mem_of_getElem? (i := 7) rfl)) (by decide) (by decide)) (g := (mkF m 97 #[.val (.int p0), .val (.int p1), .val (.int p2), .val (.int p3), .val (.int fr), .val (.int ee), .val (.int sp), .val (.int to), .val (.int th), .val (.int du), .val (.double r), .second, .val (.int lo), .unset, .unset, .unset] [(.int to), (.int fr)])) rfl (by rw [hml]; rfl) (argsL := [(.int fr), (.int to)]) (rest := []) (lenOf pd_1 rfl) rfl (by show 2 * 0 + _ ≤ _; exact Nat.le_of_eq rfl) (hb hby at_97) (fun _ _ => ⟨rfl, eT, (by decide : 0 + 0 ≤ _), (by decide : 0 + 0 ≤ _)⟩)
      dsimp only [Pt.U, Pt.locs, Pt.cells, Pt.slots] at X l_ y_ z_ st hQ
      subst l_ y_ z_
      obtain ⟨rfl, Nq, eh⟩ := hQ
      have N := Fr.app N Nq
      have eT := eh
      refine Go.by st ?_
      show Go p.tables e below (T.setTop (mkF m 100 #[.val (.int p0), .val (.int p1), .val (.int p2), .val (.int p3), .val (.int fr), .val (.int ee), .val (.int sp), .val (.int to), .val (.int th), .val (.int du), .val (.double r), .second, .val (.int lo), .unset, .unset, .unset] [(.int (if fr < to then to else fr))])) _
      obtain ⟨hi, e_hi⟩ : ∃ z, z = (if fr < to then to else fr) := ⟨_, rfl⟩
      rw [← e_hi]
      show Go p.tables e below (T.setTop (mkF m 100 #[.val (.int p0), .val (.int p1), .val (.int p2), .val (.int p3), .val (.int fr), .val (.int ee), .val (.int sp), .val (.int to), .val (.int th), .val (.int du), .val (.double r), .second, .val (.int lo), .unset, .unset, .unset] [(.int hi)])) _
      have b_hi : hi.toInt = max fr.toInt to.toInt := by rw [e_hi]; exact own_max fr to
      refine Go.by (fun tt_ kk_ => XS.istore X.here hx rfl (hb hby at_100) rfl (l' := #[.val (.int p0), .val (.int p1), .val (.int p2), .val (.int p3), .val (.int fr), .val (.int ee), .val (.int sp), .val (.int to), .val (.int th), .val (.int du), .val (.double r), .second, .val (.int lo), .val (.int hi), .unset, .unset]) rfl kk_) ?_
      show Go p.tables e below (T.setTop (mkF m 102 #[.val (.int p0), .val (.int p1), .val (.int p2), .val (.int p3), .val (.int fr), .val (.int ee), .val (.int sp), .val (.int to), .val (.int th), .val (.int du), .val (.double r), .second, .val (.int lo), .val (.int hi), .unset, .unset] [])) _
      refine Go.by (fun tt_ kk_ => XS.iload X.here hx rfl (hb hby at_102) rfl kk_) ?_
      show Go p.tables e below (T.setTop (mkF m 104 #[.val (.int p0), .val (.int p1), .val (.int p2), .val (.int p3), .val (.int fr), .val (.int ee), .val (.int sp), .val (.int to), .val (.int th), .val (.int du), .val (.double r), .second, .val (.int lo), .val (.int hi), .unset, .unset] [(.int du)])) _
      by_cases hc104 : (0 : Int32) < du
      · have k104 : 0 < du.toInt := Int32.lt_iff_toInt_lt.mp hc104
        refine Go.by (fun tt_ kk_ => XS.ifNo X.here hx rfl (hb hby at_104) rfl ((if0 _ _).trans (tlt hc104).2.2.2) kk_) ?_
        show Go p.tables e below (T.setTop (mkF m 107 #[.val (.int p0), .val (.int p1), .val (.int p2), .val (.int p3), .val (.int fr), .val (.int ee), .val (.int sp), .val (.int to), .val (.int th), .val (.int du), .val (.double r), .second, .val (.int lo), .val (.int hi), .unset, .unset] [])) _
        refine Go.by (fun tt_ kk_ => XS.iload X.here hx rfl (hb hby at_107) rfl kk_) ?_
        show Go p.tables e below (T.setTop (mkF m 109 #[.val (.int p0), .val (.int p1), .val (.int p2), .val (.int p3), .val (.int fr), .val (.int ee), .val (.int sp), .val (.int to), .val (.int th), .val (.int du), .val (.double r), .second, .val (.int lo), .val (.int hi), .unset, .unset] [(.int th)])) _
        refine Go.by (fun tt_ kk_ => XS.iload X.here hx rfl (hb hby at_109) rfl kk_) ?_
        show Go p.tables e below (T.setTop (mkF m 111 #[.val (.int p0), .val (.int p1), .val (.int p2), .val (.int p3), .val (.int fr), .val (.int ee), .val (.int sp), .val (.int to), .val (.int th), .val (.int du), .val (.double r), .second, .val (.int lo), .val (.int hi), .unset, .unset] [(.int lo), (.int th)])) _
        by_cases hc111 : lo < th
        · have k111 : lo.toInt < th.toInt := Int32.lt_iff_toInt_lt.mp hc111
          refine Go.by (fun tt_ kk_ => XS.icmpYes X.here hx rfl (pc0 := 111) (pc' := 127) rfl (hb hby at_111) rfl (tlt hc111).2.2.1 (by decide) (by decide) kk_) ?_
          show Go p.tables e below (T.setTop (mkF m 127 #[.val (.int p0), .val (.int p1), .val (.int p2), .val (.int p3), .val (.int fr), .val (.int ee), .val (.int sp), .val (.int to), .val (.int th), .val (.int du), .val (.double r), .second, .val (.int lo), .val (.int hi), .unset, .unset] [])) _
          refine Go.by (fun tt_ kk_ => XS.iload X.here hx rfl (hb hby at_127) rfl kk_) ?_
          show Go p.tables e below (T.setTop (mkF m 129 #[.val (.int p0), .val (.int p1), .val (.int p2), .val (.int p3), .val (.int fr), .val (.int ee), .val (.int sp), .val (.int to), .val (.int th), .val (.int du), .val (.double r), .second, .val (.int lo), .val (.int hi), .unset, .unset] [(.int th)])) _
          refine Go.by (fun tt_ kk_ => XS.iload X.here hx rfl (hb hby at_129) rfl kk_) ?_
          show Go p.tables e below (T.setTop (mkF m 131 #[.val (.int p0), .val (.int p1), .val (.int p2), .val (.int p3), .val (.int fr), .val (.int ee), .val (.int sp), .val (.int to), .val (.int th), .val (.int du), .val (.double r), .second, .val (.int lo), .val (.int hi), .unset, .unset] [(.int hi), (.int th)])) _
          by_cases hc131 : hi < th
          · have k131 : hi.toInt < th.toInt := Int32.lt_iff_toInt_lt.mp hc131
            refine Go.by (fun tt_ kk_ => XS.icmpNo X.here hx rfl (hb hby at_131) rfl (tlt hc131).2.2.2 kk_) ?_
            show Go p.tables e below (T.setTop (mkF m 134 #[.val (.int p0), .val (.int p1), .val (.int p2), .val (.int p3), .val (.int fr), .val (.int ee), .val (.int sp), .val (.int to), .val (.int th), .val (.int du), .val (.double r), .second, .val (.int lo), .val (.int hi), .unset, .unset] [])) _
            refine Go.by (fun tt_ kk_ => XS.dload X.here hx rfl (hb hby at_134) rfl kk_) ?_
            show Go p.tables e below (T.setTop (mkF m 136 #[.val (.int p0), .val (.int p1), .val (.int p2), .val (.int p3), .val (.int fr), .val (.int ee), .val (.int sp), .val (.int to), .val (.int th), .val (.int du), .val (.double r), .second, .val (.int lo), .val (.int hi), .unset, .unset] [(.double r)])) _
            refine Go.by (fun tt_ kk_ => XS.iload X.here hx rfl (hb hby at_136) rfl kk_) ?_
            show Go p.tables e below (T.setTop (mkF m 138 #[.val (.int p0), .val (.int p1), .val (.int p2), .val (.int p3), .val (.int fr), .val (.int ee), .val (.int sp), .val (.int to), .val (.int th), .val (.int du), .val (.double r), .second, .val (.int lo), .val (.int hi), .unset, .unset] [(.int du), (.double r)])) _
            refine Go.by (fun tt_ kk_ => XS.i2dS X.here hx rfl (hb hby at_138) rfl rfl kk_) ?_
            show Go p.tables e below (T.setTop (mkF m 139 #[.val (.int p0), .val (.int p1), .val (.int p2), .val (.int p3), .val (.int fr), .val (.int ee), .val (.int sp), .val (.int to), .val (.int th), .val (.int du), .val (.double r), .second, .val (.int lo), .val (.int hi), .unset, .unset] [(.double (FP.i2d du)), (.double r)])) _
            have z : Dy du.toInt 0 r := by
              rcases hP with ⟨q1, -⟩ | ⟨q1, q2, q3, q⟩ | ⟨q1, e, -, ⟨q2, q3, -⟩ | ⟨q2, q3, -⟩⟩
              · exfalso; omega
              · exact q
              · exfalso; omega
              · exfalso; omega
            refine Go.by (fun tt_ kk_ => XS.dcmpS X.here hx rfl (hb hby at_139) rfl ((z.cmpV (Dy.i2d du) .l).trans (own_ci_eq.mpr rfl)) kk_) ?_
            show Go p.tables e below (T.setTop (mkF m 140 #[.val (.int p0), .val (.int p1), .val (.int p2), .val (.int p3), .val (.int fr), .val (.int ee), .val (.int sp), .val (.int to), .val (.int th), .val (.int du), .val (.double r), .second, .val (.int lo), .val (.int hi), .unset, .unset] [(.int (0 : Int32))])) _
            refine Go.by (fun tt_ kk_ => XS.ifNo X.here hx rfl (hb hby at_140) rfl ((if0 _ _).trans (teq (rfl : (0 : Int32) = (0 : Int32))).2) kk_) ?_
            show Go p.tables e below (T.setTop (mkF m 143 #[.val (.int p0), .val (.int p1), .val (.int p2), .val (.int p3), .val (.int fr), .val (.int ee), .val (.int sp), .val (.int to), .val (.int th), .val (.int du), .val (.double r), .second, .val (.int lo), .val (.int hi), .unset, .unset] [])) _
            refine Go.by (fun tt_ kk_ => XS.iconst X.here hx rfl (hb hby at_143) kk_) ?_
            show Go p.tables e below (T.setTop (mkF m 144 #[.val (.int p0), .val (.int p1), .val (.int p2), .val (.int p3), .val (.int fr), .val (.int ee), .val (.int sp), .val (.int to), .val (.int th), .val (.int du), .val (.double r), .second, .val (.int lo), .val (.int hi), .unset, .unset] [(.int (1 : Int32))])) _
            refine Go.by (fun tt_ kk_ => XS.goto X.here hx rfl (pc0 := 144) (pc' := 148) rfl (hb hby at_144) (by decide) (by decide) kk_) ?_
            show Go p.tables e below (T.setTop (mkF m 148 #[.val (.int p0), .val (.int p1), .val (.int p2), .val (.int p3), .val (.int fr), .val (.int ee), .val (.int sp), .val (.int to), .val (.int th), .val (.int du), .val (.double r), .second, .val (.int lo), .val (.int hi), .unset, .unset] [(.int (1 : Int32))])) _
            exact Go.done X  (v := some (.int (1 : Int32))) (fun h => by rw [Bd.returns] at h; cases h) Bd.notSynchronized (fun fs hr => retN X hx (z := (1 : Int32)) (t := .boolean) Bd.returns (by simp) (hb hby at_148) hr) (by rw [eT]; exact ⟨rfl, N⟩) (by decide) (by decide)
          · have k131 : th.toInt ≤ hi.toInt := Int.not_lt.mp fun q => hc131 (Int32.lt_iff_toInt_lt.mpr q)
            refine Go.by (fun tt_ kk_ => XS.icmpYes X.here hx rfl (pc0 := 131) (pc' := 149) rfl (hb hby at_131) rfl (flt hc131).2.2.2 (by decide) (by decide) kk_) ?_
            show Go p.tables e below (T.setTop (mkF m 149 #[.val (.int p0), .val (.int p1), .val (.int p2), .val (.int p3), .val (.int fr), .val (.int ee), .val (.int sp), .val (.int to), .val (.int th), .val (.int du), .val (.double r), .second, .val (.int lo), .val (.int hi), .unset, .unset] [])) _
            refine Go.by (fun tt_ kk_ => XS.iload X.here hx rfl (hb hby at_149) rfl kk_) ?_
            show Go p.tables e below (T.setTop (mkF m 151 #[.val (.int p0), .val (.int p1), .val (.int p2), .val (.int p3), .val (.int fr), .val (.int ee), .val (.int sp), .val (.int to), .val (.int th), .val (.int du), .val (.double r), .second, .val (.int lo), .val (.int hi), .unset, .unset] [(.int du)])) _
            refine Go.by (fun tt_ kk_ => XS.i2l X.here hx rfl (hb hby at_151) rfl kk_) ?_
            show Go p.tables e below (T.setTop (mkF m 152 #[.val (.int p0), .val (.int p1), .val (.int p2), .val (.int p3), .val (.int fr), .val (.int ee), .val (.int sp), .val (.int to), .val (.int th), .val (.int du), .val (.double r), .second, .val (.int lo), .val (.int hi), .unset, .unset] [(.long (du.toInt64))])) _
            refine Go.by (fun tt_ kk_ => XS.iload X.here hx rfl (hb hby at_152) rfl kk_) ?_
            show Go p.tables e below (T.setTop (mkF m 154 #[.val (.int p0), .val (.int p1), .val (.int p2), .val (.int p3), .val (.int fr), .val (.int ee), .val (.int sp), .val (.int to), .val (.int th), .val (.int du), .val (.double r), .second, .val (.int lo), .val (.int hi), .unset, .unset] [(.int th), (.long (du.toInt64))])) _
            refine Go.by (fun tt_ kk_ => XS.iload X.here hx rfl (hb hby at_154) rfl kk_) ?_
            show Go p.tables e below (T.setTop (mkF m 156 #[.val (.int p0), .val (.int p1), .val (.int p2), .val (.int p3), .val (.int fr), .val (.int ee), .val (.int sp), .val (.int to), .val (.int th), .val (.int du), .val (.double r), .second, .val (.int lo), .val (.int hi), .unset, .unset] [(.int lo), (.int th), (.long (du.toInt64))])) _
            refine Go.by (fun tt_ kk_ => XS.isub X.here hx rfl (hb hby at_156) rfl kk_) ?_
            show Go p.tables e below (T.setTop (mkF m 157 #[.val (.int p0), .val (.int p1), .val (.int p2), .val (.int p3), .val (.int fr), .val (.int ee), .val (.int sp), .val (.int to), .val (.int th), .val (.int du), .val (.double r), .second, .val (.int lo), .val (.int hi), .unset, .unset] [(.int (th - lo)), (.long (du.toInt64))])) _
            refine Go.by (fun tt_ kk_ => XS.i2l X.here hx rfl (hb hby at_157) rfl kk_) ?_
            show Go p.tables e below (T.setTop (mkF m 158 #[.val (.int p0), .val (.int p1), .val (.int p2), .val (.int p3), .val (.int fr), .val (.int ee), .val (.int sp), .val (.int to), .val (.int th), .val (.int du), .val (.double r), .second, .val (.int lo), .val (.int hi), .unset, .unset] [(.long ((th - lo).toInt64)), (.long (du.toInt64))])) _
            refine Go.by (fun tt_ kk_ => XS.lmul X.here hx rfl (hb hby at_158) rfl kk_) ?_
            show Go p.tables e below (T.setTop (mkF m 159 #[.val (.int p0), .val (.int p1), .val (.int p2), .val (.int p3), .val (.int fr), .val (.int ee), .val (.int sp), .val (.int to), .val (.int th), .val (.int du), .val (.double r), .second, .val (.int lo), .val (.int hi), .unset, .unset] [(.long ((du.toInt64) * ((th - lo).toInt64)))])) _
            obtain ⟨pt, e_pt⟩ : ∃ z, z = ((du.toInt64) * ((th - lo).toInt64)) := ⟨_, rfl⟩
            rw [← e_pt]
            show Go p.tables e below (T.setTop (mkF m 159 #[.val (.int p0), .val (.int p1), .val (.int p2), .val (.int p3), .val (.int fr), .val (.int ee), .val (.int sp), .val (.int to), .val (.int th), .val (.int du), .val (.double r), .second, .val (.int lo), .val (.int hi), .unset, .unset] [(.long pt)])) _
            obtain ⟨ew, he, hh1, z⟩ : ∃ ew : Nat, ew ≤ 10 ∧ hi.toInt - lo.toInt = 2 ^ ew ∧ Dy (du.toInt * (th.toInt - lo.toInt)) (-(ew : Int)) r := by
              rcases hP with ⟨q1, -⟩ | ⟨q1, q2, q3, q⟩ | ⟨q1, e, he, ⟨q2, q3, q4, q⟩ | ⟨q2, q3, q4, q⟩⟩
              · exfalso; omega
              · exfalso; omega
              · exact ⟨e, he, by omega, q.cast (by rw [show lo.toInt = fr.toInt by omega]) rfl⟩
              · exact ⟨e, he, by omega, q.cast (by rw [show lo.toInt = to.toInt by omega]) rfl⟩
            have pe := own_pow10 he
            have m1 := own_mulb (A := 1048576) (B := 1024) (show -1048576 ≤ du.toInt by omega) (by omega) (show -1024 ≤ th.toInt - lo.toInt by omega) (by omega)
            have n1 : (th - lo).toInt = th.toInt - lo.toInt := own_sub32 (by omega) (by omega)
            have b_pt : pt.toInt = du.toInt * (th.toInt - lo.toInt) := by rw [e_pt, FP.Core.int64_mul (by rw [own_i2l, own_i2l, n1]; omega) (by rw [own_i2l, own_i2l, n1]; omega), own_i2l, own_i2l, n1]
            have n2 : (hi - lo).toInt = 1 * 2 ^ ew := by rw [own_sub32 (by omega) (by omega), hh1, Int.one_mul]
            refine Go.by (fun tt_ kk_ => XS.lstore X.here hx rfl (hb hby at_159) rfl (l' := #[.val (.int p0), .val (.int p1), .val (.int p2), .val (.int p3), .val (.int fr), .val (.int ee), .val (.int sp), .val (.int to), .val (.int th), .val (.int du), .val (.double r), .second, .val (.int lo), .val (.int hi), .val (.long pt), .second]) rfl kk_) ?_
            show Go p.tables e below (T.setTop (mkF m 161 #[.val (.int p0), .val (.int p1), .val (.int p2), .val (.int p3), .val (.int fr), .val (.int ee), .val (.int sp), .val (.int to), .val (.int th), .val (.int du), .val (.double r), .second, .val (.int lo), .val (.int hi), .val (.long pt), .second] [])) _
            refine Go.by (fun tt_ kk_ => XS.dload X.here hx rfl (hb hby at_161) rfl kk_) ?_
            show Go p.tables e below (T.setTop (mkF m 163 #[.val (.int p0), .val (.int p1), .val (.int p2), .val (.int p3), .val (.int fr), .val (.int ee), .val (.int sp), .val (.int to), .val (.int th), .val (.int du), .val (.double r), .second, .val (.int lo), .val (.int hi), .val (.long pt), .second] [(.double r)])) _
            refine Go.by (fun tt_ kk_ => XS.iload X.here hx rfl (hb hby at_163) rfl kk_) ?_
            show Go p.tables e below (T.setTop (mkF m 165 #[.val (.int p0), .val (.int p1), .val (.int p2), .val (.int p3), .val (.int fr), .val (.int ee), .val (.int sp), .val (.int to), .val (.int th), .val (.int du), .val (.double r), .second, .val (.int lo), .val (.int hi), .val (.long pt), .second] [(.int hi), (.double r)])) _
            refine Go.by (fun tt_ kk_ => XS.iload X.here hx rfl (hb hby at_165) rfl kk_) ?_
            show Go p.tables e below (T.setTop (mkF m 167 #[.val (.int p0), .val (.int p1), .val (.int p2), .val (.int p3), .val (.int fr), .val (.int ee), .val (.int sp), .val (.int to), .val (.int th), .val (.int du), .val (.double r), .second, .val (.int lo), .val (.int hi), .val (.long pt), .second] [(.int lo), (.int hi), (.double r)])) _
            refine Go.by (fun tt_ kk_ => XS.isub X.here hx rfl (hb hby at_167) rfl kk_) ?_
            show Go p.tables e below (T.setTop (mkF m 168 #[.val (.int p0), .val (.int p1), .val (.int p2), .val (.int p3), .val (.int fr), .val (.int ee), .val (.int sp), .val (.int to), .val (.int th), .val (.int du), .val (.double r), .second, .val (.int lo), .val (.int hi), .val (.long pt), .second] [(.int (hi - lo)), (.double r)])) _
            refine Go.by (fun tt_ kk_ => XS.i2dS X.here hx rfl (hb hby at_168) rfl rfl kk_) ?_
            show Go p.tables e below (T.setTop (mkF m 169 #[.val (.int p0), .val (.int p1), .val (.int p2), .val (.int p3), .val (.int fr), .val (.int ee), .val (.int sp), .val (.int to), .val (.int th), .val (.int du), .val (.double r), .second, .val (.int lo), .val (.int hi), .val (.long pt), .second] [(.double (FP.i2d (hi - lo))), (.double r)])) _
            obtain ⟨y9, e_y9⟩ : ∃ z, z = FP.dmul r (FP.i2d (hi - lo)) := ⟨_, rfl⟩
            have d_y9 : Dy (du.toInt * (th.toInt - lo.toInt)) 0 y9 := by rw [e_y9]; exact (z.mul (Dy.unscale ew ((Dy.i2d (hi - lo)).cast n2 rfl)) (by rw [Int.mul_one]; omega) (by omega) (by omega)).cast (Int.mul_one _) (by omega)
            refine Go.by (fun tt_ kk_ => XS.dmulS X.here hx rfl (hb hby at_169) rfl (e_y9 ▸ d_y9.noNaN) e_y9.symm kk_) ?_
            show Go p.tables e below (T.setTop (mkF m 170 #[.val (.int p0), .val (.int p1), .val (.int p2), .val (.int p3), .val (.int fr), .val (.int ee), .val (.int sp), .val (.int to), .val (.int th), .val (.int du), .val (.double r), .second, .val (.int lo), .val (.int hi), .val (.long pt), .second] [(.double y9)])) _
            refine Go.by (fun tt_ kk_ => XS.lload X.here hx rfl (hb hby at_170) rfl kk_) ?_
            show Go p.tables e below (T.setTop (mkF m 172 #[.val (.int p0), .val (.int p1), .val (.int p2), .val (.int p3), .val (.int fr), .val (.int ee), .val (.int sp), .val (.int to), .val (.int th), .val (.int du), .val (.double r), .second, .val (.int lo), .val (.int hi), .val (.long pt), .second] [(.long pt), (.double y9)])) _
            refine Go.by (fun tt_ kk_ => XS.l2dS X.here hx rfl (hb hby at_172) rfl rfl kk_) ?_
            show Go p.tables e below (T.setTop (mkF m 173 #[.val (.int p0), .val (.int p1), .val (.int p2), .val (.int p3), .val (.int fr), .val (.int ee), .val (.int sp), .val (.int to), .val (.int th), .val (.int du), .val (.double r), .second, .val (.int lo), .val (.int hi), .val (.long pt), .second] [(.double (FP.l2d pt)), (.double y9)])) _
            refine Go.by (fun tt_ kk_ => XS.dcmpS X.here hx rfl (hb hby at_173) rfl ((d_y9.cmpV (Dy.l2d (by rw [b_pt]; omega)) .l).trans (own_ci_eq.mpr b_pt.symm)) kk_) ?_
            show Go p.tables e below (T.setTop (mkF m 174 #[.val (.int p0), .val (.int p1), .val (.int p2), .val (.int p3), .val (.int fr), .val (.int ee), .val (.int sp), .val (.int to), .val (.int th), .val (.int du), .val (.double r), .second, .val (.int lo), .val (.int hi), .val (.long pt), .second] [(.int (0 : Int32))])) _
            refine Go.by (fun tt_ kk_ => XS.ifNo X.here hx rfl (hb hby at_174) rfl ((if0 _ _).trans (teq (rfl : (0 : Int32) = (0 : Int32))).2) kk_) ?_
            show Go p.tables e below (T.setTop (mkF m 177 #[.val (.int p0), .val (.int p1), .val (.int p2), .val (.int p3), .val (.int fr), .val (.int ee), .val (.int sp), .val (.int to), .val (.int th), .val (.int du), .val (.double r), .second, .val (.int lo), .val (.int hi), .val (.long pt), .second] [])) _
            refine Go.by (fun tt_ kk_ => XS.iconst X.here hx rfl (hb hby at_177) kk_) ?_
            show Go p.tables e below (T.setTop (mkF m 178 #[.val (.int p0), .val (.int p1), .val (.int p2), .val (.int p3), .val (.int fr), .val (.int ee), .val (.int sp), .val (.int to), .val (.int th), .val (.int du), .val (.double r), .second, .val (.int lo), .val (.int hi), .val (.long pt), .second] [(.int (1 : Int32))])) _
            refine Go.by (fun tt_ kk_ => XS.goto X.here hx rfl (pc0 := 178) (pc' := 182) rfl (hb hby at_178) (by decide) (by decide) kk_) ?_
            show Go p.tables e below (T.setTop (mkF m 182 #[.val (.int p0), .val (.int p1), .val (.int p2), .val (.int p3), .val (.int fr), .val (.int ee), .val (.int sp), .val (.int to), .val (.int th), .val (.int du), .val (.double r), .second, .val (.int lo), .val (.int hi), .val (.long pt), .second] [(.int (1 : Int32))])) _
            exact Go.done X  (v := some (.int (1 : Int32))) (fun h => by rw [Bd.returns] at h; cases h) Bd.notSynchronized (fun fs hr => retN X hx (z := (1 : Int32)) (t := .boolean) Bd.returns (by simp) (hb hby at_182) hr) (by rw [eT]; exact ⟨rfl, N⟩) (by decide) (by decide)
        · have k111 : th.toInt ≤ lo.toInt := Int.not_lt.mp fun q => hc111 (Int32.lt_iff_toInt_lt.mpr q)
          refine Go.by (fun tt_ kk_ => XS.icmpNo X.here hx rfl (hb hby at_111) rfl (flt hc111).2.2.1 kk_) ?_
          show Go p.tables e below (T.setTop (mkF m 114 #[.val (.int p0), .val (.int p1), .val (.int p2), .val (.int p3), .val (.int fr), .val (.int ee), .val (.int sp), .val (.int to), .val (.int th), .val (.int du), .val (.double r), .second, .val (.int lo), .val (.int hi), .unset, .unset] [])) _
          refine Go.by (fun tt_ kk_ => XS.dload X.here hx rfl (hb hby at_114) rfl kk_) ?_
          show Go p.tables e below (T.setTop (mkF m 116 #[.val (.int p0), .val (.int p1), .val (.int p2), .val (.int p3), .val (.int fr), .val (.int ee), .val (.int sp), .val (.int to), .val (.int th), .val (.int du), .val (.double r), .second, .val (.int lo), .val (.int hi), .unset, .unset] [(.double r)])) _
          refine Go.by (fun tt_ kk_ => XS.dconst0 X.here hx rfl (hb hby at_116) (v := (0 : UInt64)) rfl kk_) ?_
          show Go p.tables e below (T.setTop (mkF m 117 #[.val (.int p0), .val (.int p1), .val (.int p2), .val (.int p3), .val (.int fr), .val (.int ee), .val (.int sp), .val (.int to), .val (.int th), .val (.int du), .val (.double r), .second, .val (.int lo), .val (.int hi), .unset, .unset] [(.double (0 : UInt64)), (.double r)])) _
          have z : Dy 0 0 r := by
            rcases hP with ⟨-, q⟩ | ⟨q1, q2, q3, -⟩ | ⟨q1, e, -, ⟨q2, q3, -⟩ | ⟨q2, q3, -⟩⟩
            · exact q
            · exfalso; omega
            · exfalso; omega
            · exfalso; omega
          refine Go.by (fun tt_ kk_ => XS.dcmpS X.here hx rfl (hb hby at_117) rfl ((z.cmpV (own_zero 0) .l).trans (own_ci_eq.mpr rfl)) kk_) ?_
          show Go p.tables e below (T.setTop (mkF m 118 #[.val (.int p0), .val (.int p1), .val (.int p2), .val (.int p3), .val (.int fr), .val (.int ee), .val (.int sp), .val (.int to), .val (.int th), .val (.int du), .val (.double r), .second, .val (.int lo), .val (.int hi), .unset, .unset] [(.int (0 : Int32))])) _
          refine Go.by (fun tt_ kk_ => XS.ifNo X.here hx rfl (hb hby at_118) rfl ((if0 _ _).trans (teq (rfl : (0 : Int32) = (0 : Int32))).2) kk_) ?_
          show Go p.tables e below (T.setTop (mkF m 121 #[.val (.int p0), .val (.int p1), .val (.int p2), .val (.int p3), .val (.int fr), .val (.int ee), .val (.int sp), .val (.int to), .val (.int th), .val (.int du), .val (.double r), .second, .val (.int lo), .val (.int hi), .unset, .unset] [])) _
          refine Go.by (fun tt_ kk_ => XS.iconst X.here hx rfl (hb hby at_121) kk_) ?_
          show Go p.tables e below (T.setTop (mkF m 122 #[.val (.int p0), .val (.int p1), .val (.int p2), .val (.int p3), .val (.int fr), .val (.int ee), .val (.int sp), .val (.int to), .val (.int th), .val (.int du), .val (.double r), .second, .val (.int lo), .val (.int hi), .unset, .unset] [(.int (1 : Int32))])) _
          refine Go.by (fun tt_ kk_ => XS.goto X.here hx rfl (pc0 := 122) (pc' := 126) rfl (hb hby at_122) (by decide) (by decide) kk_) ?_
          show Go p.tables e below (T.setTop (mkF m 126 #[.val (.int p0), .val (.int p1), .val (.int p2), .val (.int p3), .val (.int fr), .val (.int ee), .val (.int sp), .val (.int to), .val (.int th), .val (.int du), .val (.double r), .second, .val (.int lo), .val (.int hi), .unset, .unset] [(.int (1 : Int32))])) _
          exact Go.done X  (v := some (.int (1 : Int32))) (fun h => by rw [Bd.returns] at h; cases h) Bd.notSynchronized (fun fs hr => retN X hx (z := (1 : Int32)) (t := .boolean) Bd.returns (by simp) (hb hby at_126) hr) (by rw [eT]; exact ⟨rfl, N⟩) (by decide) (by decide)
      · have k104 : du.toInt ≤ 0 := Int.not_lt.mp fun q => hc104 (Int32.lt_iff_toInt_lt.mpr q)
        refine Go.by (fun tt_ kk_ => XS.ifYes X.here hx rfl (pc0 := 104) (pc' := 114) rfl (hb hby at_104) rfl ((if0 _ _).trans (flt hc104).2.2.2) (by decide) (by decide) kk_) ?_
        show Go p.tables e below (T.setTop (mkF m 114 #[.val (.int p0), .val (.int p1), .val (.int p2), .val (.int p3), .val (.int fr), .val (.int ee), .val (.int sp), .val (.int to), .val (.int th), .val (.int du), .val (.double r), .second, .val (.int lo), .val (.int hi), .unset, .unset] [])) _
        refine Go.by (fun tt_ kk_ => XS.dload X.here hx rfl (hb hby at_114) rfl kk_) ?_
        show Go p.tables e below (T.setTop (mkF m 116 #[.val (.int p0), .val (.int p1), .val (.int p2), .val (.int p3), .val (.int fr), .val (.int ee), .val (.int sp), .val (.int to), .val (.int th), .val (.int du), .val (.double r), .second, .val (.int lo), .val (.int hi), .unset, .unset] [(.double r)])) _
        refine Go.by (fun tt_ kk_ => XS.dconst0 X.here hx rfl (hb hby at_116) (v := (0 : UInt64)) rfl kk_) ?_
        show Go p.tables e below (T.setTop (mkF m 117 #[.val (.int p0), .val (.int p1), .val (.int p2), .val (.int p3), .val (.int fr), .val (.int ee), .val (.int sp), .val (.int to), .val (.int th), .val (.int du), .val (.double r), .second, .val (.int lo), .val (.int hi), .unset, .unset] [(.double (0 : UInt64)), (.double r)])) _
        have z : Dy 0 0 r := by
          rcases hP with ⟨-, q⟩ | ⟨q1, q2, q3, -⟩ | ⟨q1, e, -, ⟨q2, q3, -⟩ | ⟨q2, q3, -⟩⟩
          · exact q
          · exfalso; omega
          · exfalso; omega
          · exfalso; omega
        refine Go.by (fun tt_ kk_ => XS.dcmpS X.here hx rfl (hb hby at_117) rfl ((z.cmpV (own_zero 0) .l).trans (own_ci_eq.mpr rfl)) kk_) ?_
        show Go p.tables e below (T.setTop (mkF m 118 #[.val (.int p0), .val (.int p1), .val (.int p2), .val (.int p3), .val (.int fr), .val (.int ee), .val (.int sp), .val (.int to), .val (.int th), .val (.int du), .val (.double r), .second, .val (.int lo), .val (.int hi), .unset, .unset] [(.int (0 : Int32))])) _
        refine Go.by (fun tt_ kk_ => XS.ifNo X.here hx rfl (hb hby at_118) rfl ((if0 _ _).trans (teq (rfl : (0 : Int32) = (0 : Int32))).2) kk_) ?_
        show Go p.tables e below (T.setTop (mkF m 121 #[.val (.int p0), .val (.int p1), .val (.int p2), .val (.int p3), .val (.int fr), .val (.int ee), .val (.int sp), .val (.int to), .val (.int th), .val (.int du), .val (.double r), .second, .val (.int lo), .val (.int hi), .unset, .unset] [])) _
        refine Go.by (fun tt_ kk_ => XS.iconst X.here hx rfl (hb hby at_121) kk_) ?_
        show Go p.tables e below (T.setTop (mkF m 122 #[.val (.int p0), .val (.int p1), .val (.int p2), .val (.int p3), .val (.int fr), .val (.int ee), .val (.int sp), .val (.int to), .val (.int th), .val (.int du), .val (.double r), .second, .val (.int lo), .val (.int hi), .unset, .unset] [(.int (1 : Int32))])) _
        refine Go.by (fun tt_ kk_ => XS.goto X.here hx rfl (pc0 := 122) (pc' := 126) rfl (hb hby at_122) (by decide) (by decide) kk_) ?_
        show Go p.tables e below (T.setTop (mkF m 126 #[.val (.int p0), .val (.int p1), .val (.int p2), .val (.int p3), .val (.int fr), .val (.int ee), .val (.int sp), .val (.int to), .val (.int th), .val (.int du), .val (.double r), .second, .val (.int lo), .val (.int hi), .unset, .unset] [(.int (1 : Int32))])) _
        exact Go.done X  (v := some (.int (1 : Int32))) (fun h => by rw [Bd.returns] at h; cases h) Bd.notSynchronized (fun fs hr => retN X hx (z := (1 : Int32)) (t := .boolean) Bd.returns (by simp) (hb hby at_126) hr) (by rw [eT]; exact ⟨rfl, N⟩) (by decide) (by decide)
  · refine Go.by (fun tt_ kk_ => XS.icmpNo X.here hx rfl (hb hby at_16) rfl (flt hc16).1 kk_) ?_
    show Go p.tables e below (T.setTop (mkF m 19 #[.val (.int p0), .val (.int p1), .val (.int p2), .val (.int p3), .val (.int fr), .val (.int ee), .unset, .unset, .unset, .unset, .unset, .unset, .unset, .unset, .unset, .unset] [])) _
    refine Go.by (fun tt_ kk_ => XS.iconst X.here hx rfl (hb hby at_19) kk_) ?_
    show Go p.tables e below (T.setTop (mkF m 20 #[.val (.int p0), .val (.int p1), .val (.int p2), .val (.int p3), .val (.int fr), .val (.int ee), .unset, .unset, .unset, .unset, .unset, .unset, .unset, .unset, .unset, .unset] [(.int (0 : Int32))])) _
    refine Go.by (fun tt_ kk_ => XS.goto X.here hx rfl (pc0 := 20) (pc' := 27) rfl (hb hby at_20) (by decide) (by decide) kk_) ?_
    show Go p.tables e below (T.setTop (mkF m 27 #[.val (.int p0), .val (.int p1), .val (.int p2), .val (.int p3), .val (.int fr), .val (.int ee), .unset, .unset, .unset, .unset, .unset, .unset, .unset, .unset, .unset, .unset] [(.int (0 : Int32))])) _
    refine Go.by (fun tt_ kk_ => XS.istore X.here hx rfl (hb hby at_27) rfl (l' := #[.val (.int p0), .val (.int p1), .val (.int p2), .val (.int p3), .val (.int fr), .val (.int ee), .val (.int (0 : Int32)), .unset, .unset, .unset, .unset, .unset, .unset, .unset, .unset, .unset]) rfl kk_) ?_
    show Go p.tables e below (T.setTop (mkF m 29 #[.val (.int p0), .val (.int p1), .val (.int p2), .val (.int p3), .val (.int fr), .val (.int ee), .val (.int (0 : Int32)), .unset, .unset, .unset, .unset, .unset, .unset, .unset, .unset, .unset] [])) _
    obtain ⟨sp, e_sp⟩ : ∃ z, z = (0 : Int32) := ⟨_, rfl⟩
    rw [← e_sp]
    show Go p.tables e below (T.setTop (mkF m 29 #[.val (.int p0), .val (.int p1), .val (.int p2), .val (.int p3), .val (.int fr), .val (.int ee), .val (.int sp), .unset, .unset, .unset, .unset, .unset, .unset, .unset, .unset, .unset] [])) _
    have b_sp : sp.toInt = 0 := by rw [e_sp]; decide
    have hs0 : ∃ k : Nat, k ≤ 10 ∧ (sp.toInt = 0 ∨ sp.toInt = 2 ^ k) := ⟨0, by decide, Or.inl b_sp⟩
    have b_sp2 : 0 ≤ sp.toInt ∧ sp.toInt ≤ 1024 := by omega
    refine Go.by (fun tt_ kk_ => XS.iloadN X.here hx rfl (hb hby at_29) rfl kk_) ?_
    show Go p.tables e below (T.setTop (mkF m 30 #[.val (.int p0), .val (.int p1), .val (.int p2), .val (.int p3), .val (.int fr), .val (.int ee), .val (.int sp), .unset, .unset, .unset, .unset, .unset, .unset, .unset, .unset, .unset] [(.int p3)])) _
    refine Go.by (fun tt_ kk_ => XS.bipush X.here hx rfl (hb hby at_30) kk_) ?_
    show Go p.tables e below (T.setTop (mkF m 32 #[.val (.int p0), .val (.int p1), .val (.int p2), .val (.int p3), .val (.int fr), .val (.int ee), .val (.int sp), .unset, .unset, .unset, .unset, .unset, .unset, .unset, .unset, .unset] [(.int (16 : Int32)), (.int p3)])) _
    refine Go.by (fun tt_ kk_ => XS.iand X.here hx rfl (hb hby at_32) rfl kk_) ?_
    show Go p.tables e below (T.setTop (mkF m 33 #[.val (.int p0), .val (.int p1), .val (.int p2), .val (.int p3), .val (.int fr), .val (.int ee), .val (.int sp), .unset, .unset, .unset, .unset, .unset, .unset, .unset, .unset, .unset] [(.int (p3 &&& (16 : Int32)))])) _
    by_cases hc33 : (p3 &&& (16 : Int32)) = (0 : Int32)
    · refine Go.by (fun tt_ kk_ => XS.ifYes X.here hx rfl (pc0 := 33) (pc' := 44) rfl (hb hby at_33) rfl ((if0 _ _).trans (teq hc33).1) (by decide) (by decide) kk_) ?_
      show Go p.tables e below (T.setTop (mkF m 44 #[.val (.int p0), .val (.int p1), .val (.int p2), .val (.int p3), .val (.int fr), .val (.int ee), .val (.int sp), .unset, .unset, .unset, .unset, .unset, .unset, .unset, .unset, .unset] [])) _
      refine Go.by (fun tt_ kk_ => XS.iload X.here hx rfl (hb hby at_44) rfl kk_) ?_
      show Go p.tables e below (T.setTop (mkF m 46 #[.val (.int p0), .val (.int p1), .val (.int p2), .val (.int p3), .val (.int fr), .val (.int ee), .val (.int sp), .unset, .unset, .unset, .unset, .unset, .unset, .unset, .unset, .unset] [(.int fr)])) _
      refine Go.by (fun tt_ kk_ => XS.iload X.here hx rfl (hb hby at_46) rfl kk_) ?_
      show Go p.tables e below (T.setTop (mkF m 48 #[.val (.int p0), .val (.int p1), .val (.int p2), .val (.int p3), .val (.int fr), .val (.int ee), .val (.int sp), .unset, .unset, .unset, .unset, .unset, .unset, .unset, .unset, .unset] [(.int sp), (.int fr)])) _
      refine Go.by (fun tt_ kk_ => XS.iadd X.here hx rfl (hb hby at_48) rfl kk_) ?_
      show Go p.tables e below (T.setTop (mkF m 49 #[.val (.int p0), .val (.int p1), .val (.int p2), .val (.int p3), .val (.int fr), .val (.int ee), .val (.int sp), .unset, .unset, .unset, .unset, .unset, .unset, .unset, .unset, .unset] [(.int (fr + sp))])) _
      obtain ⟨to, e_to⟩ : ∃ z, z = (fr + sp) := ⟨_, rfl⟩
      rw [← e_to]
      show Go p.tables e below (T.setTop (mkF m 49 #[.val (.int p0), .val (.int p1), .val (.int p2), .val (.int p3), .val (.int fr), .val (.int ee), .val (.int sp), .unset, .unset, .unset, .unset, .unset, .unset, .unset, .unset, .unset] [(.int to)])) _
      have b_to : to.toInt = fr.toInt + sp.toInt := by rw [e_to]; exact own_add32 (by omega) (by omega)
      have hs1 : ∃ k : Nat, k ≤ 10 ∧ (to.toInt = fr.toInt ∨ to.toInt - fr.toInt = 2 ^ k ∨ fr.toInt - to.toInt = 2 ^ k) := by
        obtain ⟨k, hk, hs⟩ := hs0
        exact ⟨k, hk, by omega⟩
      refine Go.by (fun tt_ kk_ => XS.istore X.here hx rfl (hb hby at_49) rfl (l' := #[.val (.int p0), .val (.int p1), .val (.int p2), .val (.int p3), .val (.int fr), .val (.int ee), .val (.int sp), .val (.int to), .unset, .unset, .unset, .unset, .unset, .unset, .unset, .unset]) rfl kk_) ?_
      show Go p.tables e below (T.setTop (mkF m 51 #[.val (.int p0), .val (.int p1), .val (.int p2), .val (.int p3), .val (.int fr), .val (.int ee), .val (.int sp), .val (.int to), .unset, .unset, .unset, .unset, .unset, .unset, .unset, .unset] [])) _
      refine Go.by (fun tt_ kk_ => XS.iload X.here hx rfl (hb hby at_51) rfl kk_) ?_
      show Go p.tables e below (T.setTop (mkF m 53 #[.val (.int p0), .val (.int p1), .val (.int p2), .val (.int p3), .val (.int fr), .val (.int ee), .val (.int sp), .val (.int to), .unset, .unset, .unset, .unset, .unset, .unset, .unset, .unset] [(.int fr)])) _
      refine Go.by (fun tt_ kk_ => XS.iloadN X.here hx rfl (hb hby at_53) rfl kk_) ?_
      show Go p.tables e below (T.setTop (mkF m 54 #[.val (.int p0), .val (.int p1), .val (.int p2), .val (.int p3), .val (.int fr), .val (.int ee), .val (.int sp), .val (.int to), .unset, .unset, .unset, .unset, .unset, .unset, .unset, .unset] [(.int p1), (.int fr)])) _
      refine Go.by (fun tt_ kk_ => XS.sipush X.here hx rfl (hb hby at_54) kk_) ?_
      show Go p.tables e below (T.setTop (mkF m 57 #[.val (.int p0), .val (.int p1), .val (.int p2), .val (.int p3), .val (.int fr), .val (.int ee), .val (.int sp), .val (.int to), .unset, .unset, .unset, .unset, .unset, .unset, .unset, .unset] [(.int (2049 : Int32)), (.int p1), (.int fr)])) _
      refine Go.by (fun tt_ kk_ => iremM X hx rfl (hb hby at_57) rfl (by decide) kk_) ?_
      show Go p.tables e below (T.setTop (mkF m 58 #[.val (.int p0), .val (.int p1), .val (.int p2), .val (.int p3), .val (.int fr), .val (.int ee), .val (.int sp), .val (.int to), .unset, .unset, .unset, .unset, .unset, .unset, .unset, .unset] [(.int (p1 % (2049 : Int32))), (.int fr)])) _
      refine Go.by (fun tt_ kk_ => XS.iadd X.here hx rfl (hb hby at_58) rfl kk_) ?_
      show Go p.tables e below (T.setTop (mkF m 59 #[.val (.int p0), .val (.int p1), .val (.int p2), .val (.int p3), .val (.int fr), .val (.int ee), .val (.int sp), .val (.int to), .unset, .unset, .unset, .unset, .unset, .unset, .unset, .unset] [(.int (fr + (p1 % (2049 : Int32))))])) _
      obtain ⟨th, e_th⟩ : ∃ z, z = (fr + (p1 % (2049 : Int32))) := ⟨_, rfl⟩
      rw [← e_th]
      show Go p.tables e below (T.setTop (mkF m 59 #[.val (.int p0), .val (.int p1), .val (.int p2), .val (.int p3), .val (.int fr), .val (.int ee), .val (.int sp), .val (.int to), .unset, .unset, .unset, .unset, .unset, .unset, .unset, .unset] [(.int th)])) _
      have q_th := own_rem (x := p1) (k := 2049) (K := 2049) (by decide) (by decide)
      have b_th : th.toInt = fr.toInt + (p1 % 2049).toInt := by rw [e_th]; exact own_add32 (by omega) (by omega)
      refine Go.by (fun tt_ kk_ => XS.istore X.here hx rfl (hb hby at_59) rfl (l' := #[.val (.int p0), .val (.int p1), .val (.int p2), .val (.int p3), .val (.int fr), .val (.int ee), .val (.int sp), .val (.int to), .val (.int th), .unset, .unset, .unset, .unset, .unset, .unset, .unset]) rfl kk_) ?_
      show Go p.tables e below (T.setTop (mkF m 61 #[.val (.int p0), .val (.int p1), .val (.int p2), .val (.int p3), .val (.int fr), .val (.int ee), .val (.int sp), .val (.int to), .val (.int th), .unset, .unset, .unset, .unset, .unset, .unset, .unset] [])) _
      refine Go.by (fun tt_ kk_ => XS.iloadN X.here hx rfl (hb hby at_61) rfl kk_) ?_
      show Go p.tables e below (T.setTop (mkF m 62 #[.val (.int p0), .val (.int p1), .val (.int p2), .val (.int p3), .val (.int fr), .val (.int ee), .val (.int sp), .val (.int to), .val (.int th), .unset, .unset, .unset, .unset, .unset, .unset, .unset] [(.int p2)])) _
      refine Go.by (X.ldcInt hx hown (mvT hZ (hw _ (List.mem_of_getElem? (i := 0) rfl))) (g := (mkF m 62 #[.val (.int p0), .val (.int p1), .val (.int p2), .val (.int p3), .val (.int fr), .val (.int ee), .val (.int sp), .val (.int to), .val (.int th), .unset, .unset, .unset, .unset, .unset, .unset, .unset] [(.int p2)])) rfl (hb hby at_62)) ?_
      show Go p.tables e below (T.setTop (mkF m 64 #[.val (.int p0), .val (.int p1), .val (.int p2), .val (.int p3), .val (.int fr), .val (.int ee), .val (.int sp), .val (.int to), .val (.int th), .unset, .unset, .unset, .unset, .unset, .unset, .unset] [(.int (1048576 : Int32)), (.int p2)])) _
      refine Go.by (fun tt_ kk_ => iremM X hx rfl (hb hby at_64) rfl (by decide) kk_) ?_
      show Go p.tables e below (T.setTop (mkF m 65 #[.val (.int p0), .val (.int p1), .val (.int p2), .val (.int p3), .val (.int fr), .val (.int ee), .val (.int sp), .val (.int to), .val (.int th), .unset, .unset, .unset, .unset, .unset, .unset, .unset] [(.int (p2 % (1048576 : Int32)))])) _
      obtain ⟨du, e_du⟩ : ∃ z, z = (p2 % (1048576 : Int32)) := ⟨_, rfl⟩
      rw [← e_du]
      show Go p.tables e below (T.setTop (mkF m 65 #[.val (.int p0), .val (.int p1), .val (.int p2), .val (.int p3), .val (.int fr), .val (.int ee), .val (.int sp), .val (.int to), .val (.int th), .unset, .unset, .unset, .unset, .unset, .unset, .unset] [(.int du)])) _
      have b_du : -1048576 < du.toInt ∧ du.toInt < 1048576 := by rw [e_du]; exact own_rem (by decide) (by decide)
      refine Go.by (fun tt_ kk_ => XS.istore X.here hx rfl (hb hby at_65) rfl (l' := #[.val (.int p0), .val (.int p1), .val (.int p2), .val (.int p3), .val (.int fr), .val (.int ee), .val (.int sp), .val (.int to), .val (.int th), .val (.int du), .unset, .unset, .unset, .unset, .unset, .unset]) rfl kk_) ?_
      show Go p.tables e below (T.setTop (mkF m 67 #[.val (.int p0), .val (.int p1), .val (.int p2), .val (.int p3), .val (.int fr), .val (.int ee), .val (.int sp), .val (.int to), .val (.int th), .val (.int du), .unset, .unset, .unset, .unset, .unset, .unset] [])) _
      refine Go.by (fun tt_ kk_ => XS.iload X.here hx rfl (hb hby at_67) rfl kk_) ?_
      show Go p.tables e below (T.setTop (mkF m 69 #[.val (.int p0), .val (.int p1), .val (.int p2), .val (.int p3), .val (.int fr), .val (.int ee), .val (.int sp), .val (.int to), .val (.int th), .val (.int du), .unset, .unset, .unset, .unset, .unset, .unset] [(.int th)])) _
      refine Go.by (fun tt_ kk_ => XS.i2dS X.here hx rfl (hb hby at_69) rfl rfl kk_) ?_
      show Go p.tables e below (T.setTop (mkF m 70 #[.val (.int p0), .val (.int p1), .val (.int p2), .val (.int p3), .val (.int fr), .val (.int ee), .val (.int sp), .val (.int to), .val (.int th), .val (.int du), .unset, .unset, .unset, .unset, .unset, .unset] [(.double (FP.i2d th))])) _
      refine Go.by (fun tt_ kk_ => XS.iload X.here hx rfl (hb hby at_70) rfl kk_) ?_
      show Go p.tables e below (T.setTop (mkF m 72 #[.val (.int p0), .val (.int p1), .val (.int p2), .val (.int p3), .val (.int fr), .val (.int ee), .val (.int sp), .val (.int to), .val (.int th), .val (.int du), .unset, .unset, .unset, .unset, .unset, .unset] [(.int fr), (.double (FP.i2d th))])) _
      refine Go.by (fun tt_ kk_ => XS.i2dS X.here hx rfl (hb hby at_72) rfl rfl kk_) ?_
      show Go p.tables e below (T.setTop (mkF m 73 #[.val (.int p0), .val (.int p1), .val (.int p2), .val (.int p3), .val (.int fr), .val (.int ee), .val (.int sp), .val (.int to), .val (.int th), .val (.int du), .unset, .unset, .unset, .unset, .unset, .unset] [(.double (FP.i2d fr)), (.double (FP.i2d th))])) _
      refine Go.by (fun tt_ kk_ => XS.iload X.here hx rfl (hb hby at_73) rfl kk_) ?_
      show Go p.tables e below (T.setTop (mkF m 75 #[.val (.int p0), .val (.int p1), .val (.int p2), .val (.int p3), .val (.int fr), .val (.int ee), .val (.int sp), .val (.int to), .val (.int th), .val (.int du), .unset, .unset, .unset, .unset, .unset, .unset] [(.int to), (.double (FP.i2d fr)), (.double (FP.i2d th))])) _
      refine Go.by (fun tt_ kk_ => XS.i2dS X.here hx rfl (hb hby at_75) rfl rfl kk_) ?_
      show Go p.tables e below (T.setTop (mkF m 76 #[.val (.int p0), .val (.int p1), .val (.int p2), .val (.int p3), .val (.int fr), .val (.int ee), .val (.int sp), .val (.int to), .val (.int th), .val (.int du), .unset, .unset, .unset, .unset, .unset, .unset] [(.double (FP.i2d to)), (.double (FP.i2d fr)), (.double (FP.i2d th))])) _
      refine Go.by (fun tt_ kk_ => XS.iload X.here hx rfl (hb hby at_76) rfl kk_) ?_
      show Go p.tables e below (T.setTop (mkF m 78 #[.val (.int p0), .val (.int p1), .val (.int p2), .val (.int p3), .val (.int fr), .val (.int ee), .val (.int sp), .val (.int to), .val (.int th), .val (.int du), .unset, .unset, .unset, .unset, .unset, .unset] [(.int du), (.double (FP.i2d to)), (.double (FP.i2d fr)), (.double (FP.i2d th))])) _
      refine Go.by (fun tt_ kk_ => XS.i2dS X.here hx rfl (hb hby at_78) rfl rfl kk_) ?_
      show Go p.tables e below (T.setTop (mkF m 79 #[.val (.int p0), .val (.int p1), .val (.int p2), .val (.int p3), .val (.int fr), .val (.int ee), .val (.int sp), .val (.int to), .val (.int th), .val (.int du), .unset, .unset, .unset, .unset, .unset, .unset] [(.double (FP.i2d du)), (.double (FP.i2d to)), (.double (FP.i2d fr)), (.double (FP.i2d th))])) _
      obtain ⟨_, _, ⟨T, L_, k_, n_⟩, -, X, ⟨Lc_, hQ, l_, y_, z_⟩, st⟩ := Jvm.LawKit.callS X hx (y := (⟨"com/example/eindhoven/eindhoven/engine/Motion", "timeBelow", "(DDDD)D"⟩ : MethodName)) hown (mvT hZ (hw _ (List.mem_of_getElem? (i := 1) rfl))) (mvT hZ (hw _ (List.mem_of_getElem? (i := 2) rfl))) (mvT hZ (hw _ (List.mem_of_getElem? (i := 3) rfl))) (mvT hZ (hw _ (List.mem_of_getElem? (i := 4) rfl))) (by decide) (backOf (W := 0) (rm1 l Z a0 hw [] (FP.i2d th) (FP.i2d fr) (FP.i2d to) (FP.i2d du) th.toInt fr.toInt to.toInt du.toInt h0 n0 (Nat.le_trans Z0 K.1) (Dy.i2d th) (Dy.i2d fr) (Dy.i2d to) (Dy.i2d du) (by omega) (by omega) (by omega) (by omega) hs1) hZ (hw _ (List.mem_of_getElem? (i := 4) rfl)) (hw _ (List.mem_of_getElem? (i := 3) rfl)) (by decide) (by decide)) (g := (mkF m 79 #[.val (.int p0), .val (.int p1), .val (.int p2), .val (.int p3), .val (.int fr), .val (.int ee), .val (.int sp), .val (.int to), .val (.int th), .val (.int du), .unset, .unset, .unset, .unset, .unset, .unset] [(.double (FP.i2d du)), (.double (FP.i2d to)), (.double (FP.i2d fr)), (.double (FP.i2d th))])) rfl (by rw [hml]; rfl) (argsL := [(.double (FP.i2d th)), (.double (FP.i2d fr)), (.double (FP.i2d to)), (.double (FP.i2d du))]) (rest := []) (lenOf pd_0 rfl) rfl (by show 2 * 0 + _ ≤ _; exact Nat.le_of_eq rfl) (hb hby at_79) (fun _ _ => ⟨rfl, eT, (by decide : 0 + 0 ≤ _), (by decide : 0 + 0 ≤ _)⟩)
      dsimp only [Pt.U, Pt.locs, Pt.cells, Pt.slots] at X l_ y_ z_ st hQ
      subst l_ y_ z_
      obtain ⟨r, rfl, Nq, hP, eh⟩ := hQ
      have N := Fr.app N Nq
      have eT := eh
      refine Go.by st ?_
      show Go p.tables e below (T.setTop (mkF m 82 #[.val (.int p0), .val (.int p1), .val (.int p2), .val (.int p3), .val (.int fr), .val (.int ee), .val (.int sp), .val (.int to), .val (.int th), .val (.int du), .unset, .unset, .unset, .unset, .unset, .unset] [(.double r)])) _
      refine Go.by (fun tt_ kk_ => XS.dstore X.here hx rfl (hb hby at_82) rfl (l' := #[.val (.int p0), .val (.int p1), .val (.int p2), .val (.int p3), .val (.int fr), .val (.int ee), .val (.int sp), .val (.int to), .val (.int th), .val (.int du), .val (.double r), .second, .unset, .unset, .unset, .unset]) rfl kk_) ?_
      show Go p.tables e below (T.setTop (mkF m 84 #[.val (.int p0), .val (.int p1), .val (.int p2), .val (.int p3), .val (.int fr), .val (.int ee), .val (.int sp), .val (.int to), .val (.int th), .val (.int du), .val (.double r), .second, .unset, .unset, .unset, .unset] [])) _
      refine Go.by (fun tt_ kk_ => XS.iload X.here hx rfl (hb hby at_84) rfl kk_) ?_
      show Go p.tables e below (T.setTop (mkF m 86 #[.val (.int p0), .val (.int p1), .val (.int p2), .val (.int p3), .val (.int fr), .val (.int ee), .val (.int sp), .val (.int to), .val (.int th), .val (.int du), .val (.double r), .second, .unset, .unset, .unset, .unset] [(.int fr)])) _
      refine Go.by (fun tt_ kk_ => XS.iload X.here hx rfl (hb hby at_86) rfl kk_) ?_
      show Go p.tables e below (T.setTop (mkF m 88 #[.val (.int p0), .val (.int p1), .val (.int p2), .val (.int p3), .val (.int fr), .val (.int ee), .val (.int sp), .val (.int to), .val (.int th), .val (.int du), .val (.double r), .second, .unset, .unset, .unset, .unset] [(.int to), (.int fr)])) _
      obtain ⟨_, _, ⟨T, L_, k_, n_⟩, -, X, ⟨Lc_, hQ, l_, y_, z_⟩, st⟩ := Jvm.LawKit.callS X hx (y := (⟨"java/lang/Math", "min", "(II)I"⟩ : MethodName)) hown (mvT hZ (hw _ (List.mem_of_getElem? (i := 5) rfl))) (mvT hZ (hw _ (List.mem_of_getElem? (i := 6) rfl))) (mvT hZ (hw _ (List.mem_of_getElem? (i := 7) rfl))) (mvT hZ (hw _ (List.mem_of_getElem? (i := 8) rfl))) (by decide) (backOf (W := 0) (rm2 l Z a0 hw [] fr to h0 n0 (Nat.le_trans Z0 K.1) ) hZ (hw _ (List.mem_of_getElem? (i := 8) rfl)) (hw _ (List.mem_of_getElem? (i := 7) rfl)) (by decide) (by decide)) (g := (mkF m 88 #[.val (.int p0), .val (.int p1), .val (.int p2), .val (.int p3), .val (.int fr), .val (.int ee), .val (.int sp), .val (.int to), .val (.int th), .val (.int du), .val (.double r), .second, .unset, .unset, .unset, .unset] [(.int to), (.int fr)])) rfl (by rw [hml]; rfl) (argsL := [(.int fr), (.int to)]) (rest := []) (lenOf pd_1 rfl) rfl (by show 2 * 0 + _ ≤ _; exact Nat.le_of_eq rfl) (hb hby at_88) (fun _ _ => ⟨rfl, eT, (by decide : 0 + 0 ≤ _), (by decide : 0 + 0 ≤ _)⟩)
      dsimp only [Pt.U, Pt.locs, Pt.cells, Pt.slots] at X l_ y_ z_ st hQ
      subst l_ y_ z_
      obtain ⟨rfl, Nq, eh⟩ := hQ
      have N := Fr.app N Nq
      have eT := eh
      refine Go.by st ?_
      show Go p.tables e below (T.setTop (mkF m 91 #[.val (.int p0), .val (.int p1), .val (.int p2), .val (.int p3), .val (.int fr), .val (.int ee), .val (.int sp), .val (.int to), .val (.int th), .val (.int du), .val (.double r), .second, .unset, .unset, .unset, .unset] [(.int (if to < fr then to else fr))])) _
      obtain ⟨lo, e_lo⟩ : ∃ z, z = (if to < fr then to else fr) := ⟨_, rfl⟩
      rw [← e_lo]
      show Go p.tables e below (T.setTop (mkF m 91 #[.val (.int p0), .val (.int p1), .val (.int p2), .val (.int p3), .val (.int fr), .val (.int ee), .val (.int sp), .val (.int to), .val (.int th), .val (.int du), .val (.double r), .second, .unset, .unset, .unset, .unset] [(.int lo)])) _
      have b_lo : lo.toInt = min fr.toInt to.toInt := by rw [e_lo]; exact own_min fr to
      refine Go.by (fun tt_ kk_ => XS.istore X.here hx rfl (hb hby at_91) rfl (l' := #[.val (.int p0), .val (.int p1), .val (.int p2), .val (.int p3), .val (.int fr), .val (.int ee), .val (.int sp), .val (.int to), .val (.int th), .val (.int du), .val (.double r), .second, .val (.int lo), .unset, .unset, .unset]) rfl kk_) ?_
      show Go p.tables e below (T.setTop (mkF m 93 #[.val (.int p0), .val (.int p1), .val (.int p2), .val (.int p3), .val (.int fr), .val (.int ee), .val (.int sp), .val (.int to), .val (.int th), .val (.int du), .val (.double r), .second, .val (.int lo), .unset, .unset, .unset] [])) _
      refine Go.by (fun tt_ kk_ => XS.iload X.here hx rfl (hb hby at_93) rfl kk_) ?_
      show Go p.tables e below (T.setTop (mkF m 95 #[.val (.int p0), .val (.int p1), .val (.int p2), .val (.int p3), .val (.int fr), .val (.int ee), .val (.int sp), .val (.int to), .val (.int th), .val (.int du), .val (.double r), .second, .val (.int lo), .unset, .unset, .unset] [(.int fr)])) _
      refine Go.by (fun tt_ kk_ => XS.iload X.here hx rfl (hb hby at_95) rfl kk_) ?_
      show Go p.tables e below (T.setTop (mkF m 97 #[.val (.int p0), .val (.int p1), .val (.int p2), .val (.int p3), .val (.int fr), .val (.int ee), .val (.int sp), .val (.int to), .val (.int th), .val (.int du), .val (.double r), .second, .val (.int lo), .unset, .unset, .unset] [(.int to), (.int fr)])) _
      obtain ⟨_, _, ⟨T, L_, k_, n_⟩, -, X, ⟨Lc_, hQ, l_, y_, z_⟩, st⟩ := Jvm.LawKit.callS X hx (y := (⟨"java/lang/Math", "max", "(II)I"⟩ : MethodName)) hown (mvT hZ (hw _ (List.mem_of_getElem? (i := 9) rfl))) (mvT hZ (hw _ (List.mem_of_getElem? (i := 10) rfl))) (mvT hZ (hw _ (List.mem_of_getElem? (i := 7) rfl))) (mvT hZ (hw _ (List.mem_of_getElem? (i := 11) rfl))) (by decide) (backOf (W := 0) (rm3 l Z a0 hw [] fr to h0 n0 (Nat.le_trans Z0 K.1) ) hZ (hw _ (List.mem_of_getElem? (i := 11) rfl)) (hw _ (List.mem_of_getElem? (i := 7) rfl)) (by decide) (by decide)) (g := (mkF m 97 #[.val (.int p0), .val (.int p1), .val (.int p2), .val (.int p3), .val (.int fr), .val (.int ee), .val (.int sp), .val (.int to), .val (.int th), .val (.int du), .val (.double r), .second, .val (.int lo), .unset, .unset, .unset] [(.int to), (.int fr)])) rfl (by rw [hml]; rfl) (argsL := [(.int fr), (.int to)]) (rest := []) (lenOf pd_1 rfl) rfl (by show 2 * 0 + _ ≤ _; exact Nat.le_of_eq rfl) (hb hby at_97) (fun _ _ => ⟨rfl, eT, (by decide : 0 + 0 ≤ _), (by decide : 0 + 0 ≤ _)⟩)
      dsimp only [Pt.U, Pt.locs, Pt.cells, Pt.slots] at X l_ y_ z_ st hQ
      subst l_ y_ z_
      obtain ⟨rfl, Nq, eh⟩ := hQ
      have N := Fr.app N Nq
      have eT := eh
      refine Go.by st ?_
      show Go p.tables e below (T.setTop (mkF m 100 #[.val (.int p0), .val (.int p1), .val (.int p2), .val (.int p3), .val (.int fr), .val (.int ee), .val (.int sp), .val (.int to), .val (.int th), .val (.int du), .val (.double r), .second, .val (.int lo), .unset, .unset, .unset] [(.int (if fr < to then to else fr))])) _
      obtain ⟨hi, e_hi⟩ : ∃ z, z = (if fr < to then to else fr) := ⟨_, rfl⟩
      rw [← e_hi]
      show Go p.tables e below (T.setTop (mkF m 100 #[.val (.int p0), .val (.int p1), .val (.int p2), .val (.int p3), .val (.int fr), .val (.int ee), .val (.int sp), .val (.int to), .val (.int th), .val (.int du), .val (.double r), .second, .val (.int lo), .unset, .unset, .unset] [(.int hi)])) _
      have b_hi : hi.toInt = max fr.toInt to.toInt := by rw [e_hi]; exact own_max fr to
      refine Go.by (fun tt_ kk_ => XS.istore X.here hx rfl (hb hby at_100) rfl (l' := #[.val (.int p0), .val (.int p1), .val (.int p2), .val (.int p3), .val (.int fr), .val (.int ee), .val (.int sp), .val (.int to), .val (.int th), .val (.int du), .val (.double r), .second, .val (.int lo), .val (.int hi), .unset, .unset]) rfl kk_) ?_
      show Go p.tables e below (T.setTop (mkF m 102 #[.val (.int p0), .val (.int p1), .val (.int p2), .val (.int p3), .val (.int fr), .val (.int ee), .val (.int sp), .val (.int to), .val (.int th), .val (.int du), .val (.double r), .second, .val (.int lo), .val (.int hi), .unset, .unset] [])) _
      refine Go.by (fun tt_ kk_ => XS.iload X.here hx rfl (hb hby at_102) rfl kk_) ?_
      show Go p.tables e below (T.setTop (mkF m 104 #[.val (.int p0), .val (.int p1), .val (.int p2), .val (.int p3), .val (.int fr), .val (.int ee), .val (.int sp), .val (.int to), .val (.int th), .val (.int du), .val (.double r), .second, .val (.int lo), .val (.int hi), .unset, .unset] [(.int du)])) _
      by_cases hc104 : (0 : Int32) < du
      · have k104 : 0 < du.toInt := Int32.lt_iff_toInt_lt.mp hc104
        refine Go.by (fun tt_ kk_ => XS.ifNo X.here hx rfl (hb hby at_104) rfl ((if0 _ _).trans (tlt hc104).2.2.2) kk_) ?_
        show Go p.tables e below (T.setTop (mkF m 107 #[.val (.int p0), .val (.int p1), .val (.int p2), .val (.int p3), .val (.int fr), .val (.int ee), .val (.int sp), .val (.int to), .val (.int th), .val (.int du), .val (.double r), .second, .val (.int lo), .val (.int hi), .unset, .unset] [])) _
        refine Go.by (fun tt_ kk_ => XS.iload X.here hx rfl (hb hby at_107) rfl kk_) ?_
        show Go p.tables e below (T.setTop (mkF m 109 #[.val (.int p0), .val (.int p1), .val (.int p2), .val (.int p3), .val (.int fr), .val (.int ee), .val (.int sp), .val (.int to), .val (.int th), .val (.int du), .val (.double r), .second, .val (.int lo), .val (.int hi), .unset, .unset] [(.int th)])) _
        refine Go.by (fun tt_ kk_ => XS.iload X.here hx rfl (hb hby at_109) rfl kk_) ?_
        show Go p.tables e below (T.setTop (mkF m 111 #[.val (.int p0), .val (.int p1), .val (.int p2), .val (.int p3), .val (.int fr), .val (.int ee), .val (.int sp), .val (.int to), .val (.int th), .val (.int du), .val (.double r), .second, .val (.int lo), .val (.int hi), .unset, .unset] [(.int lo), (.int th)])) _
        by_cases hc111 : lo < th
        · have k111 : lo.toInt < th.toInt := Int32.lt_iff_toInt_lt.mp hc111
          refine Go.by (fun tt_ kk_ => XS.icmpYes X.here hx rfl (pc0 := 111) (pc' := 127) rfl (hb hby at_111) rfl (tlt hc111).2.2.1 (by decide) (by decide) kk_) ?_
          show Go p.tables e below (T.setTop (mkF m 127 #[.val (.int p0), .val (.int p1), .val (.int p2), .val (.int p3), .val (.int fr), .val (.int ee), .val (.int sp), .val (.int to), .val (.int th), .val (.int du), .val (.double r), .second, .val (.int lo), .val (.int hi), .unset, .unset] [])) _
          refine Go.by (fun tt_ kk_ => XS.iload X.here hx rfl (hb hby at_127) rfl kk_) ?_
          show Go p.tables e below (T.setTop (mkF m 129 #[.val (.int p0), .val (.int p1), .val (.int p2), .val (.int p3), .val (.int fr), .val (.int ee), .val (.int sp), .val (.int to), .val (.int th), .val (.int du), .val (.double r), .second, .val (.int lo), .val (.int hi), .unset, .unset] [(.int th)])) _
          refine Go.by (fun tt_ kk_ => XS.iload X.here hx rfl (hb hby at_129) rfl kk_) ?_
          show Go p.tables e below (T.setTop (mkF m 131 #[.val (.int p0), .val (.int p1), .val (.int p2), .val (.int p3), .val (.int fr), .val (.int ee), .val (.int sp), .val (.int to), .val (.int th), .val (.int du), .val (.double r), .second, .val (.int lo), .val (.int hi), .unset, .unset] [(.int hi), (.int th)])) _
          by_cases hc131 : hi < th
          · have k131 : hi.toInt < th.toInt := Int32.lt_iff_toInt_lt.mp hc131
            refine Go.by (fun tt_ kk_ => XS.icmpNo X.here hx rfl (hb hby at_131) rfl (tlt hc131).2.2.2 kk_) ?_
            show Go p.tables e below (T.setTop (mkF m 134 #[.val (.int p0), .val (.int p1), .val (.int p2), .val (.int p3), .val (.int fr), .val (.int ee), .val (.int sp), .val (.int to), .val (.int th), .val (.int du), .val (.double r), .second, .val (.int lo), .val (.int hi), .unset, .unset] [])) _
            refine Go.by (fun tt_ kk_ => XS.dload X.here hx rfl (hb hby at_134) rfl kk_) ?_
            show Go p.tables e below (T.setTop (mkF m 136 #[.val (.int p0), .val (.int p1), .val (.int p2), .val (.int p3), .val (.int fr), .val (.int ee), .val (.int sp), .val (.int to), .val (.int th), .val (.int du), .val (.double r), .second, .val (.int lo), .val (.int hi), .unset, .unset] [(.double r)])) _
            refine Go.by (fun tt_ kk_ => XS.iload X.here hx rfl (hb hby at_136) rfl kk_) ?_
            show Go p.tables e below (T.setTop (mkF m 138 #[.val (.int p0), .val (.int p1), .val (.int p2), .val (.int p3), .val (.int fr), .val (.int ee), .val (.int sp), .val (.int to), .val (.int th), .val (.int du), .val (.double r), .second, .val (.int lo), .val (.int hi), .unset, .unset] [(.int du), (.double r)])) _
            refine Go.by (fun tt_ kk_ => XS.i2dS X.here hx rfl (hb hby at_138) rfl rfl kk_) ?_
            show Go p.tables e below (T.setTop (mkF m 139 #[.val (.int p0), .val (.int p1), .val (.int p2), .val (.int p3), .val (.int fr), .val (.int ee), .val (.int sp), .val (.int to), .val (.int th), .val (.int du), .val (.double r), .second, .val (.int lo), .val (.int hi), .unset, .unset] [(.double (FP.i2d du)), (.double r)])) _
            have z : Dy du.toInt 0 r := by
              rcases hP with ⟨q1, -⟩ | ⟨q1, q2, q3, q⟩ | ⟨q1, e, -, ⟨q2, q3, -⟩ | ⟨q2, q3, -⟩⟩
              · exfalso; omega
              · exact q
              · exfalso; omega
              · exfalso; omega
            refine Go.by (fun tt_ kk_ => XS.dcmpS X.here hx rfl (hb hby at_139) rfl ((z.cmpV (Dy.i2d du) .l).trans (own_ci_eq.mpr rfl)) kk_) ?_
            show Go p.tables e below (T.setTop (mkF m 140 #[.val (.int p0), .val (.int p1), .val (.int p2), .val (.int p3), .val (.int fr), .val (.int ee), .val (.int sp), .val (.int to), .val (.int th), .val (.int du), .val (.double r), .second, .val (.int lo), .val (.int hi), .unset, .unset] [(.int (0 : Int32))])) _
            refine Go.by (fun tt_ kk_ => XS.ifNo X.here hx rfl (hb hby at_140) rfl ((if0 _ _).trans (teq (rfl : (0 : Int32) = (0 : Int32))).2) kk_) ?_
            show Go p.tables e below (T.setTop (mkF m 143 #[.val (.int p0), .val (.int p1), .val (.int p2), .val (.int p3), .val (.int fr), .val (.int ee), .val (.int sp), .val (.int to), .val (.int th), .val (.int du), .val (.double r), .second, .val (.int lo), .val (.int hi), .unset, .unset] [])) _
            refine Go.by (fun tt_ kk_ => XS.iconst X.here hx rfl (hb hby at_143) kk_) ?_
            show Go p.tables e below (T.setTop (mkF m 144 #[.val (.int p0), .val (.int p1), .val (.int p2), .val (.int p3), .val (.int fr), .val (.int ee), .val (.int sp), .val (.int to), .val (.int th), .val (.int du), .val (.double r), .second, .val (.int lo), .val (.int hi), .unset, .unset] [(.int (1 : Int32))])) _
            refine Go.by (fun tt_ kk_ => XS.goto X.here hx rfl (pc0 := 144) (pc' := 148) rfl (hb hby at_144) (by decide) (by decide) kk_) ?_
            show Go p.tables e below (T.setTop (mkF m 148 #[.val (.int p0), .val (.int p1), .val (.int p2), .val (.int p3), .val (.int fr), .val (.int ee), .val (.int sp), .val (.int to), .val (.int th), .val (.int du), .val (.double r), .second, .val (.int lo), .val (.int hi), .unset, .unset] [(.int (1 : Int32))])) _
            exact Go.done X  (v := some (.int (1 : Int32))) (fun h => by rw [Bd.returns] at h; cases h) Bd.notSynchronized (fun fs hr => retN X hx (z := (1 : Int32)) (t := .boolean) Bd.returns (by simp) (hb hby at_148) hr) (by rw [eT]; exact ⟨rfl, N⟩) (by decide) (by decide)
          · have k131 : th.toInt ≤ hi.toInt := Int.not_lt.mp fun q => hc131 (Int32.lt_iff_toInt_lt.mpr q)
            refine Go.by (fun tt_ kk_ => XS.icmpYes X.here hx rfl (pc0 := 131) (pc' := 149) rfl (hb hby at_131) rfl (flt hc131).2.2.2 (by decide) (by decide) kk_) ?_
            show Go p.tables e below (T.setTop (mkF m 149 #[.val (.int p0), .val (.int p1), .val (.int p2), .val (.int p3), .val (.int fr), .val (.int ee), .val (.int sp), .val (.int to), .val (.int th), .val (.int du), .val (.double r), .second, .val (.int lo), .val (.int hi), .unset, .unset] [])) _
            refine Go.by (fun tt_ kk_ => XS.iload X.here hx rfl (hb hby at_149) rfl kk_) ?_
            show Go p.tables e below (T.setTop (mkF m 151 #[.val (.int p0), .val (.int p1), .val (.int p2), .val (.int p3), .val (.int fr), .val (.int ee), .val (.int sp), .val (.int to), .val (.int th), .val (.int du), .val (.double r), .second, .val (.int lo), .val (.int hi), .unset, .unset] [(.int du)])) _
            refine Go.by (fun tt_ kk_ => XS.i2l X.here hx rfl (hb hby at_151) rfl kk_) ?_
            show Go p.tables e below (T.setTop (mkF m 152 #[.val (.int p0), .val (.int p1), .val (.int p2), .val (.int p3), .val (.int fr), .val (.int ee), .val (.int sp), .val (.int to), .val (.int th), .val (.int du), .val (.double r), .second, .val (.int lo), .val (.int hi), .unset, .unset] [(.long (du.toInt64))])) _
            refine Go.by (fun tt_ kk_ => XS.iload X.here hx rfl (hb hby at_152) rfl kk_) ?_
            show Go p.tables e below (T.setTop (mkF m 154 #[.val (.int p0), .val (.int p1), .val (.int p2), .val (.int p3), .val (.int fr), .val (.int ee), .val (.int sp), .val (.int to), .val (.int th), .val (.int du), .val (.double r), .second, .val (.int lo), .val (.int hi), .unset, .unset] [(.int th), (.long (du.toInt64))])) _
            refine Go.by (fun tt_ kk_ => XS.iload X.here hx rfl (hb hby at_154) rfl kk_) ?_
            show Go p.tables e below (T.setTop (mkF m 156 #[.val (.int p0), .val (.int p1), .val (.int p2), .val (.int p3), .val (.int fr), .val (.int ee), .val (.int sp), .val (.int to), .val (.int th), .val (.int du), .val (.double r), .second, .val (.int lo), .val (.int hi), .unset, .unset] [(.int lo), (.int th), (.long (du.toInt64))])) _
            refine Go.by (fun tt_ kk_ => XS.isub X.here hx rfl (hb hby at_156) rfl kk_) ?_
            show Go p.tables e below (T.setTop (mkF m 157 #[.val (.int p0), .val (.int p1), .val (.int p2), .val (.int p3), .val (.int fr), .val (.int ee), .val (.int sp), .val (.int to), .val (.int th), .val (.int du), .val (.double r), .second, .val (.int lo), .val (.int hi), .unset, .unset] [(.int (th - lo)), (.long (du.toInt64))])) _
            refine Go.by (fun tt_ kk_ => XS.i2l X.here hx rfl (hb hby at_157) rfl kk_) ?_
            show Go p.tables e below (T.setTop (mkF m 158 #[.val (.int p0), .val (.int p1), .val (.int p2), .val (.int p3), .val (.int fr), .val (.int ee), .val (.int sp), .val (.int to), .val (.int th), .val (.int du), .val (.double r), .second, .val (.int lo), .val (.int hi), .unset, .unset] [(.long ((th - lo).toInt64)), (.long (du.toInt64))])) _
            refine Go.by (fun tt_ kk_ => XS.lmul X.here hx rfl (hb hby at_158) rfl kk_) ?_
            show Go p.tables e below (T.setTop (mkF m 159 #[.val (.int p0), .val (.int p1), .val (.int p2), .val (.int p3), .val (.int fr), .val (.int ee), .val (.int sp), .val (.int to), .val (.int th), .val (.int du), .val (.double r), .second, .val (.int lo), .val (.int hi), .unset, .unset] [(.long ((du.toInt64) * ((th - lo).toInt64)))])) _
            obtain ⟨pt, e_pt⟩ : ∃ z, z = ((du.toInt64) * ((th - lo).toInt64)) := ⟨_, rfl⟩
            rw [← e_pt]
            show Go p.tables e below (T.setTop (mkF m 159 #[.val (.int p0), .val (.int p1), .val (.int p2), .val (.int p3), .val (.int fr), .val (.int ee), .val (.int sp), .val (.int to), .val (.int th), .val (.int du), .val (.double r), .second, .val (.int lo), .val (.int hi), .unset, .unset] [(.long pt)])) _
            obtain ⟨ew, he, hh1, z⟩ : ∃ ew : Nat, ew ≤ 10 ∧ hi.toInt - lo.toInt = 2 ^ ew ∧ Dy (du.toInt * (th.toInt - lo.toInt)) (-(ew : Int)) r := by
              rcases hP with ⟨q1, -⟩ | ⟨q1, q2, q3, q⟩ | ⟨q1, e, he, ⟨q2, q3, q4, q⟩ | ⟨q2, q3, q4, q⟩⟩
              · exfalso; omega
              · exfalso; omega
              · exact ⟨e, he, by omega, q.cast (by rw [show lo.toInt = fr.toInt by omega]) rfl⟩
              · exact ⟨e, he, by omega, q.cast (by rw [show lo.toInt = to.toInt by omega]) rfl⟩
            have pe := own_pow10 he
            have m1 := own_mulb (A := 1048576) (B := 1024) (show -1048576 ≤ du.toInt by omega) (by omega) (show -1024 ≤ th.toInt - lo.toInt by omega) (by omega)
            have n1 : (th - lo).toInt = th.toInt - lo.toInt := own_sub32 (by omega) (by omega)
            have b_pt : pt.toInt = du.toInt * (th.toInt - lo.toInt) := by rw [e_pt, FP.Core.int64_mul (by rw [own_i2l, own_i2l, n1]; omega) (by rw [own_i2l, own_i2l, n1]; omega), own_i2l, own_i2l, n1]
            have n2 : (hi - lo).toInt = 1 * 2 ^ ew := by rw [own_sub32 (by omega) (by omega), hh1, Int.one_mul]
            refine Go.by (fun tt_ kk_ => XS.lstore X.here hx rfl (hb hby at_159) rfl (l' := #[.val (.int p0), .val (.int p1), .val (.int p2), .val (.int p3), .val (.int fr), .val (.int ee), .val (.int sp), .val (.int to), .val (.int th), .val (.int du), .val (.double r), .second, .val (.int lo), .val (.int hi), .val (.long pt), .second]) rfl kk_) ?_
            show Go p.tables e below (T.setTop (mkF m 161 #[.val (.int p0), .val (.int p1), .val (.int p2), .val (.int p3), .val (.int fr), .val (.int ee), .val (.int sp), .val (.int to), .val (.int th), .val (.int du), .val (.double r), .second, .val (.int lo), .val (.int hi), .val (.long pt), .second] [])) _
            refine Go.by (fun tt_ kk_ => XS.dload X.here hx rfl (hb hby at_161) rfl kk_) ?_
            show Go p.tables e below (T.setTop (mkF m 163 #[.val (.int p0), .val (.int p1), .val (.int p2), .val (.int p3), .val (.int fr), .val (.int ee), .val (.int sp), .val (.int to), .val (.int th), .val (.int du), .val (.double r), .second, .val (.int lo), .val (.int hi), .val (.long pt), .second] [(.double r)])) _
            refine Go.by (fun tt_ kk_ => XS.iload X.here hx rfl (hb hby at_163) rfl kk_) ?_
            show Go p.tables e below (T.setTop (mkF m 165 #[.val (.int p0), .val (.int p1), .val (.int p2), .val (.int p3), .val (.int fr), .val (.int ee), .val (.int sp), .val (.int to), .val (.int th), .val (.int du), .val (.double r), .second, .val (.int lo), .val (.int hi), .val (.long pt), .second] [(.int hi), (.double r)])) _
            refine Go.by (fun tt_ kk_ => XS.iload X.here hx rfl (hb hby at_165) rfl kk_) ?_
            show Go p.tables e below (T.setTop (mkF m 167 #[.val (.int p0), .val (.int p1), .val (.int p2), .val (.int p3), .val (.int fr), .val (.int ee), .val (.int sp), .val (.int to), .val (.int th), .val (.int du), .val (.double r), .second, .val (.int lo), .val (.int hi), .val (.long pt), .second] [(.int lo), (.int hi), (.double r)])) _
            refine Go.by (fun tt_ kk_ => XS.isub X.here hx rfl (hb hby at_167) rfl kk_) ?_
            show Go p.tables e below (T.setTop (mkF m 168 #[.val (.int p0), .val (.int p1), .val (.int p2), .val (.int p3), .val (.int fr), .val (.int ee), .val (.int sp), .val (.int to), .val (.int th), .val (.int du), .val (.double r), .second, .val (.int lo), .val (.int hi), .val (.long pt), .second] [(.int (hi - lo)), (.double r)])) _
            refine Go.by (fun tt_ kk_ => XS.i2dS X.here hx rfl (hb hby at_168) rfl rfl kk_) ?_
            show Go p.tables e below (T.setTop (mkF m 169 #[.val (.int p0), .val (.int p1), .val (.int p2), .val (.int p3), .val (.int fr), .val (.int ee), .val (.int sp), .val (.int to), .val (.int th), .val (.int du), .val (.double r), .second, .val (.int lo), .val (.int hi), .val (.long pt), .second] [(.double (FP.i2d (hi - lo))), (.double r)])) _
            obtain ⟨y9, e_y9⟩ : ∃ z, z = FP.dmul r (FP.i2d (hi - lo)) := ⟨_, rfl⟩
            have d_y9 : Dy (du.toInt * (th.toInt - lo.toInt)) 0 y9 := by rw [e_y9]; exact (z.mul (Dy.unscale ew ((Dy.i2d (hi - lo)).cast n2 rfl)) (by rw [Int.mul_one]; omega) (by omega) (by omega)).cast (Int.mul_one _) (by omega)
            refine Go.by (fun tt_ kk_ => XS.dmulS X.here hx rfl (hb hby at_169) rfl (e_y9 ▸ d_y9.noNaN) e_y9.symm kk_) ?_
            show Go p.tables e below (T.setTop (mkF m 170 #[.val (.int p0), .val (.int p1), .val (.int p2), .val (.int p3), .val (.int fr), .val (.int ee), .val (.int sp), .val (.int to), .val (.int th), .val (.int du), .val (.double r), .second, .val (.int lo), .val (.int hi), .val (.long pt), .second] [(.double y9)])) _
            refine Go.by (fun tt_ kk_ => XS.lload X.here hx rfl (hb hby at_170) rfl kk_) ?_
            show Go p.tables e below (T.setTop (mkF m 172 #[.val (.int p0), .val (.int p1), .val (.int p2), .val (.int p3), .val (.int fr), .val (.int ee), .val (.int sp), .val (.int to), .val (.int th), .val (.int du), .val (.double r), .second, .val (.int lo), .val (.int hi), .val (.long pt), .second] [(.long pt), (.double y9)])) _
            refine Go.by (fun tt_ kk_ => XS.l2dS X.here hx rfl (hb hby at_172) rfl rfl kk_) ?_
            show Go p.tables e below (T.setTop (mkF m 173 #[.val (.int p0), .val (.int p1), .val (.int p2), .val (.int p3), .val (.int fr), .val (.int ee), .val (.int sp), .val (.int to), .val (.int th), .val (.int du), .val (.double r), .second, .val (.int lo), .val (.int hi), .val (.long pt), .second] [(.double (FP.l2d pt)), (.double y9)])) _
            refine Go.by (fun tt_ kk_ => XS.dcmpS X.here hx rfl (hb hby at_173) rfl ((d_y9.cmpV (Dy.l2d (by rw [b_pt]; omega)) .l).trans (own_ci_eq.mpr b_pt.symm)) kk_) ?_
            show Go p.tables e below (T.setTop (mkF m 174 #[.val (.int p0), .val (.int p1), .val (.int p2), .val (.int p3), .val (.int fr), .val (.int ee), .val (.int sp), .val (.int to), .val (.int th), .val (.int du), .val (.double r), .second, .val (.int lo), .val (.int hi), .val (.long pt), .second] [(.int (0 : Int32))])) _
            refine Go.by (fun tt_ kk_ => XS.ifNo X.here hx rfl (hb hby at_174) rfl ((if0 _ _).trans (teq (rfl : (0 : Int32) = (0 : Int32))).2) kk_) ?_
            show Go p.tables e below (T.setTop (mkF m 177 #[.val (.int p0), .val (.int p1), .val (.int p2), .val (.int p3), .val (.int fr), .val (.int ee), .val (.int sp), .val (.int to), .val (.int th), .val (.int du), .val (.double r), .second, .val (.int lo), .val (.int hi), .val (.long pt), .second] [])) _
            refine Go.by (fun tt_ kk_ => XS.iconst X.here hx rfl (hb hby at_177) kk_) ?_
            show Go p.tables e below (T.setTop (mkF m 178 #[.val (.int p0), .val (.int p1), .val (.int p2), .val (.int p3), .val (.int fr), .val (.int ee), .val (.int sp), .val (.int to), .val (.int th), .val (.int du), .val (.double r), .second, .val (.int lo), .val (.int hi), .val (.long pt), .second] [(.int (1 : Int32))])) _
            refine Go.by (fun tt_ kk_ => XS.goto X.here hx rfl (pc0 := 178) (pc' := 182) rfl (hb hby at_178) (by decide) (by decide) kk_) ?_
            show Go p.tables e below (T.setTop (mkF m 182 #[.val (.int p0), .val (.int p1), .val (.int p2), .val (.int p3), .val (.int fr), .val (.int ee), .val (.int sp), .val (.int to), .val (.int th), .val (.int du), .val (.double r), .second, .val (.int lo), .val (.int hi), .val (.long pt), .second] [(.int (1 : Int32))])) _
            exact Go.done X  (v := some (.int (1 : Int32))) (fun h => by rw [Bd.returns] at h; cases h) Bd.notSynchronized (fun fs hr => retN X hx (z := (1 : Int32)) (t := .boolean) Bd.returns (by simp) (hb hby at_182) hr) (by rw [eT]; exact ⟨rfl, N⟩) (by decide) (by decide)
        · have k111 : th.toInt ≤ lo.toInt := Int.not_lt.mp fun q => hc111 (Int32.lt_iff_toInt_lt.mpr q)
          refine Go.by (fun tt_ kk_ => XS.icmpNo X.here hx rfl (hb hby at_111) rfl (flt hc111).2.2.1 kk_) ?_
          show Go p.tables e below (T.setTop (mkF m 114 #[.val (.int p0), .val (.int p1), .val (.int p2), .val (.int p3), .val (.int fr), .val (.int ee), .val (.int sp), .val (.int to), .val (.int th), .val (.int du), .val (.double r), .second, .val (.int lo), .val (.int hi), .unset, .unset] [])) _
          refine Go.by (fun tt_ kk_ => XS.dload X.here hx rfl (hb hby at_114) rfl kk_) ?_
          show Go p.tables e below (T.setTop (mkF m 116 #[.val (.int p0), .val (.int p1), .val (.int p2), .val (.int p3), .val (.int fr), .val (.int ee), .val (.int sp), .val (.int to), .val (.int th), .val (.int du), .val (.double r), .second, .val (.int lo), .val (.int hi), .unset, .unset] [(.double r)])) _
          refine Go.by (fun tt_ kk_ => XS.dconst0 X.here hx rfl (hb hby at_116) (v := (0 : UInt64)) rfl kk_) ?_
          show Go p.tables e below (T.setTop (mkF m 117 #[.val (.int p0), .val (.int p1), .val (.int p2), .val (.int p3), .val (.int fr), .val (.int ee), .val (.int sp), .val (.int to), .val (.int th), .val (.int du), .val (.double r), .second, .val (.int lo), .val (.int hi), .unset, .unset] [(.double (0 : UInt64)), (.double r)])) _
          have z : Dy 0 0 r := by
            rcases hP with ⟨-, q⟩ | ⟨q1, q2, q3, -⟩ | ⟨q1, e, -, ⟨q2, q3, -⟩ | ⟨q2, q3, -⟩⟩
            · exact q
            · exfalso; omega
            · exfalso; omega
            · exfalso; omega
          refine Go.by (fun tt_ kk_ => XS.dcmpS X.here hx rfl (hb hby at_117) rfl ((z.cmpV (own_zero 0) .l).trans (own_ci_eq.mpr rfl)) kk_) ?_
          show Go p.tables e below (T.setTop (mkF m 118 #[.val (.int p0), .val (.int p1), .val (.int p2), .val (.int p3), .val (.int fr), .val (.int ee), .val (.int sp), .val (.int to), .val (.int th), .val (.int du), .val (.double r), .second, .val (.int lo), .val (.int hi), .unset, .unset] [(.int (0 : Int32))])) _
          refine Go.by (fun tt_ kk_ => XS.ifNo X.here hx rfl (hb hby at_118) rfl ((if0 _ _).trans (teq (rfl : (0 : Int32) = (0 : Int32))).2) kk_) ?_
          show Go p.tables e below (T.setTop (mkF m 121 #[.val (.int p0), .val (.int p1), .val (.int p2), .val (.int p3), .val (.int fr), .val (.int ee), .val (.int sp), .val (.int to), .val (.int th), .val (.int du), .val (.double r), .second, .val (.int lo), .val (.int hi), .unset, .unset] [])) _
          refine Go.by (fun tt_ kk_ => XS.iconst X.here hx rfl (hb hby at_121) kk_) ?_
          show Go p.tables e below (T.setTop (mkF m 122 #[.val (.int p0), .val (.int p1), .val (.int p2), .val (.int p3), .val (.int fr), .val (.int ee), .val (.int sp), .val (.int to), .val (.int th), .val (.int du), .val (.double r), .second, .val (.int lo), .val (.int hi), .unset, .unset] [(.int (1 : Int32))])) _
          refine Go.by (fun tt_ kk_ => XS.goto X.here hx rfl (pc0 := 122) (pc' := 126) rfl (hb hby at_122) (by decide) (by decide) kk_) ?_
          show Go p.tables e below (T.setTop (mkF m 126 #[.val (.int p0), .val (.int p1), .val (.int p2), .val (.int p3), .val (.int fr), .val (.int ee), .val (.int sp), .val (.int to), .val (.int th), .val (.int du), .val (.double r), .second, .val (.int lo), .val (.int hi), .unset, .unset] [(.int (1 : Int32))])) _
          exact Go.done X  (v := some (.int (1 : Int32))) (fun h => by rw [Bd.returns] at h; cases h) Bd.notSynchronized (fun fs hr => retN X hx (z := (1 : Int32)) (t := .boolean) Bd.returns (by simp) (hb hby at_126) hr) (by rw [eT]; exact ⟨rfl, N⟩) (by decide) (by decide)
      · have k104 : du.toInt ≤ 0 := Int.not_lt.mp fun q => hc104 (Int32.lt_iff_toInt_lt.mpr q)
        refine Go.by (fun tt_ kk_ => XS.ifYes X.here hx rfl (pc0 := 104) (pc' := 114) rfl (hb hby at_104) rfl ((if0 _ _).trans (flt hc104).2.2.2) (by decide) (by decide) kk_) ?_
        show Go p.tables e below (T.setTop (mkF m 114 #[.val (.int p0), .val (.int p1), .val (.int p2), .val (.int p3), .val (.int fr), .val (.int ee), .val (.int sp), .val (.int to), .val (.int th), .val (.int du), .val (.double r), .second, .val (.int lo), .val (.int hi), .unset, .unset] [])) _
        refine Go.by (fun tt_ kk_ => XS.dload X.here hx rfl (hb hby at_114) rfl kk_) ?_
        show Go p.tables e below (T.setTop (mkF m 116 #[.val (.int p0), .val (.int p1), .val (.int p2), .val (.int p3), .val (.int fr), .val (.int ee), .val (.int sp), .val (.int to), .val (.int th), .val (.int du), .val (.double r), .second, .val (.int lo), .val (.int hi), .unset, .unset] [(.double r)])) _
        refine Go.by (fun tt_ kk_ => XS.dconst0 X.here hx rfl (hb hby at_116) (v := (0 : UInt64)) rfl kk_) ?_
        show Go p.tables e below (T.setTop (mkF m 117 #[.val (.int p0), .val (.int p1), .val (.int p2), .val (.int p3), .val (.int fr), .val (.int ee), .val (.int sp), .val (.int to), .val (.int th), .val (.int du), .val (.double r), .second, .val (.int lo), .val (.int hi), .unset, .unset] [(.double (0 : UInt64)), (.double r)])) _
        have z : Dy 0 0 r := by
          rcases hP with ⟨-, q⟩ | ⟨q1, q2, q3, -⟩ | ⟨q1, e, -, ⟨q2, q3, -⟩ | ⟨q2, q3, -⟩⟩
          · exact q
          · exfalso; omega
          · exfalso; omega
          · exfalso; omega
        refine Go.by (fun tt_ kk_ => XS.dcmpS X.here hx rfl (hb hby at_117) rfl ((z.cmpV (own_zero 0) .l).trans (own_ci_eq.mpr rfl)) kk_) ?_
        show Go p.tables e below (T.setTop (mkF m 118 #[.val (.int p0), .val (.int p1), .val (.int p2), .val (.int p3), .val (.int fr), .val (.int ee), .val (.int sp), .val (.int to), .val (.int th), .val (.int du), .val (.double r), .second, .val (.int lo), .val (.int hi), .unset, .unset] [(.int (0 : Int32))])) _
        refine Go.by (fun tt_ kk_ => XS.ifNo X.here hx rfl (hb hby at_118) rfl ((if0 _ _).trans (teq (rfl : (0 : Int32) = (0 : Int32))).2) kk_) ?_
        show Go p.tables e below (T.setTop (mkF m 121 #[.val (.int p0), .val (.int p1), .val (.int p2), .val (.int p3), .val (.int fr), .val (.int ee), .val (.int sp), .val (.int to), .val (.int th), .val (.int du), .val (.double r), .second, .val (.int lo), .val (.int hi), .unset, .unset] [])) _
        refine Go.by (fun tt_ kk_ => XS.iconst X.here hx rfl (hb hby at_121) kk_) ?_
        show Go p.tables e below (T.setTop (mkF m 122 #[.val (.int p0), .val (.int p1), .val (.int p2), .val (.int p3), .val (.int fr), .val (.int ee), .val (.int sp), .val (.int to), .val (.int th), .val (.int du), .val (.double r), .second, .val (.int lo), .val (.int hi), .unset, .unset] [(.int (1 : Int32))])) _
        refine Go.by (fun tt_ kk_ => XS.goto X.here hx rfl (pc0 := 122) (pc' := 126) rfl (hb hby at_122) (by decide) (by decide) kk_) ?_
        show Go p.tables e below (T.setTop (mkF m 126 #[.val (.int p0), .val (.int p1), .val (.int p2), .val (.int p3), .val (.int fr), .val (.int ee), .val (.int sp), .val (.int to), .val (.int th), .val (.int du), .val (.double r), .second, .val (.int lo), .val (.int hi), .unset, .unset] [(.int (1 : Int32))])) _
        exact Go.done X  (v := some (.int (1 : Int32))) (fun h => by rw [Bd.returns] at h; cases h) Bd.notSynchronized (fun fs hr => retN X hx (z := (1 : Int32)) (t := .boolean) Bd.returns (by simp) (hb hby at_126) hr) (by rw [eT]; exact ⟨rfl, N⟩) (by decide) (by decide)
    · refine Go.by (fun tt_ kk_ => XS.ifNo X.here hx rfl (hb hby at_33) rfl ((if0 _ _).trans (feq hc33).1) kk_) ?_
      show Go p.tables e below (T.setTop (mkF m 36 #[.val (.int p0), .val (.int p1), .val (.int p2), .val (.int p3), .val (.int fr), .val (.int ee), .val (.int sp), .unset, .unset, .unset, .unset, .unset, .unset, .unset, .unset, .unset] [])) _
      refine Go.by (fun tt_ kk_ => XS.iload X.here hx rfl (hb hby at_36) rfl kk_) ?_
      show Go p.tables e below (T.setTop (mkF m 38 #[.val (.int p0), .val (.int p1), .val (.int p2), .val (.int p3), .val (.int fr), .val (.int ee), .val (.int sp), .unset, .unset, .unset, .unset, .unset, .unset, .unset, .unset, .unset] [(.int fr)])) _
      refine Go.by (fun tt_ kk_ => XS.iload X.here hx rfl (hb hby at_38) rfl kk_) ?_
      show Go p.tables e below (T.setTop (mkF m 40 #[.val (.int p0), .val (.int p1), .val (.int p2), .val (.int p3), .val (.int fr), .val (.int ee), .val (.int sp), .unset, .unset, .unset, .unset, .unset, .unset, .unset, .unset, .unset] [(.int sp), (.int fr)])) _
      refine Go.by (fun tt_ kk_ => XS.isub X.here hx rfl (hb hby at_40) rfl kk_) ?_
      show Go p.tables e below (T.setTop (mkF m 41 #[.val (.int p0), .val (.int p1), .val (.int p2), .val (.int p3), .val (.int fr), .val (.int ee), .val (.int sp), .unset, .unset, .unset, .unset, .unset, .unset, .unset, .unset, .unset] [(.int (fr - sp))])) _
      refine Go.by (fun tt_ kk_ => XS.goto X.here hx rfl (pc0 := 41) (pc' := 49) rfl (hb hby at_41) (by decide) (by decide) kk_) ?_
      show Go p.tables e below (T.setTop (mkF m 49 #[.val (.int p0), .val (.int p1), .val (.int p2), .val (.int p3), .val (.int fr), .val (.int ee), .val (.int sp), .unset, .unset, .unset, .unset, .unset, .unset, .unset, .unset, .unset] [(.int (fr - sp))])) _
      obtain ⟨to, e_to⟩ : ∃ z, z = (fr - sp) := ⟨_, rfl⟩
      rw [← e_to]
      show Go p.tables e below (T.setTop (mkF m 49 #[.val (.int p0), .val (.int p1), .val (.int p2), .val (.int p3), .val (.int fr), .val (.int ee), .val (.int sp), .unset, .unset, .unset, .unset, .unset, .unset, .unset, .unset, .unset] [(.int to)])) _
      have b_to : to.toInt = fr.toInt - sp.toInt := by rw [e_to]; exact own_sub32 (by omega) (by omega)
      have hs1 : ∃ k : Nat, k ≤ 10 ∧ (to.toInt = fr.toInt ∨ to.toInt - fr.toInt = 2 ^ k ∨ fr.toInt - to.toInt = 2 ^ k) := by
        obtain ⟨k, hk, hs⟩ := hs0
        exact ⟨k, hk, by omega⟩
      refine Go.by (fun tt_ kk_ => XS.istore X.here hx rfl (hb hby at_49) rfl (l' := #[.val (.int p0), .val (.int p1), .val (.int p2), .val (.int p3), .val (.int fr), .val (.int ee), .val (.int sp), .val (.int to), .unset, .unset, .unset, .unset, .unset, .unset, .unset, .unset]) rfl kk_) ?_
      show Go p.tables e below (T.setTop (mkF m 51 #[.val (.int p0), .val (.int p1), .val (.int p2), .val (.int p3), .val (.int fr), .val (.int ee), .val (.int sp), .val (.int to), .unset, .unset, .unset, .unset, .unset, .unset, .unset, .unset] [])) _
      refine Go.by (fun tt_ kk_ => XS.iload X.here hx rfl (hb hby at_51) rfl kk_) ?_
      show Go p.tables e below (T.setTop (mkF m 53 #[.val (.int p0), .val (.int p1), .val (.int p2), .val (.int p3), .val (.int fr), .val (.int ee), .val (.int sp), .val (.int to), .unset, .unset, .unset, .unset, .unset, .unset, .unset, .unset] [(.int fr)])) _
      refine Go.by (fun tt_ kk_ => XS.iloadN X.here hx rfl (hb hby at_53) rfl kk_) ?_
      show Go p.tables e below (T.setTop (mkF m 54 #[.val (.int p0), .val (.int p1), .val (.int p2), .val (.int p3), .val (.int fr), .val (.int ee), .val (.int sp), .val (.int to), .unset, .unset, .unset, .unset, .unset, .unset, .unset, .unset] [(.int p1), (.int fr)])) _
      refine Go.by (fun tt_ kk_ => XS.sipush X.here hx rfl (hb hby at_54) kk_) ?_
      show Go p.tables e below (T.setTop (mkF m 57 #[.val (.int p0), .val (.int p1), .val (.int p2), .val (.int p3), .val (.int fr), .val (.int ee), .val (.int sp), .val (.int to), .unset, .unset, .unset, .unset, .unset, .unset, .unset, .unset] [(.int (2049 : Int32)), (.int p1), (.int fr)])) _
      refine Go.by (fun tt_ kk_ => iremM X hx rfl (hb hby at_57) rfl (by decide) kk_) ?_
      show Go p.tables e below (T.setTop (mkF m 58 #[.val (.int p0), .val (.int p1), .val (.int p2), .val (.int p3), .val (.int fr), .val (.int ee), .val (.int sp), .val (.int to), .unset, .unset, .unset, .unset, .unset, .unset, .unset, .unset] [(.int (p1 % (2049 : Int32))), (.int fr)])) _
      refine Go.by (fun tt_ kk_ => XS.iadd X.here hx rfl (hb hby at_58) rfl kk_) ?_
      show Go p.tables e below (T.setTop (mkF m 59 #[.val (.int p0), .val (.int p1), .val (.int p2), .val (.int p3), .val (.int fr), .val (.int ee), .val (.int sp), .val (.int to), .unset, .unset, .unset, .unset, .unset, .unset, .unset, .unset] [(.int (fr + (p1 % (2049 : Int32))))])) _
      obtain ⟨th, e_th⟩ : ∃ z, z = (fr + (p1 % (2049 : Int32))) := ⟨_, rfl⟩
      rw [← e_th]
      show Go p.tables e below (T.setTop (mkF m 59 #[.val (.int p0), .val (.int p1), .val (.int p2), .val (.int p3), .val (.int fr), .val (.int ee), .val (.int sp), .val (.int to), .unset, .unset, .unset, .unset, .unset, .unset, .unset, .unset] [(.int th)])) _
      have q_th := own_rem (x := p1) (k := 2049) (K := 2049) (by decide) (by decide)
      have b_th : th.toInt = fr.toInt + (p1 % 2049).toInt := by rw [e_th]; exact own_add32 (by omega) (by omega)
      refine Go.by (fun tt_ kk_ => XS.istore X.here hx rfl (hb hby at_59) rfl (l' := #[.val (.int p0), .val (.int p1), .val (.int p2), .val (.int p3), .val (.int fr), .val (.int ee), .val (.int sp), .val (.int to), .val (.int th), .unset, .unset, .unset, .unset, .unset, .unset, .unset]) rfl kk_) ?_
      show Go p.tables e below (T.setTop (mkF m 61 #[.val (.int p0), .val (.int p1), .val (.int p2), .val (.int p3), .val (.int fr), .val (.int ee), .val (.int sp), .val (.int to), .val (.int th), .unset, .unset, .unset, .unset, .unset, .unset, .unset] [])) _
      refine Go.by (fun tt_ kk_ => XS.iloadN X.here hx rfl (hb hby at_61) rfl kk_) ?_
      show Go p.tables e below (T.setTop (mkF m 62 #[.val (.int p0), .val (.int p1), .val (.int p2), .val (.int p3), .val (.int fr), .val (.int ee), .val (.int sp), .val (.int to), .val (.int th), .unset, .unset, .unset, .unset, .unset, .unset, .unset] [(.int p2)])) _
      refine Go.by (X.ldcInt hx hown (mvT hZ (hw _ (List.mem_of_getElem? (i := 0) rfl))) (g := (mkF m 62 #[.val (.int p0), .val (.int p1), .val (.int p2), .val (.int p3), .val (.int fr), .val (.int ee), .val (.int sp), .val (.int to), .val (.int th), .unset, .unset, .unset, .unset, .unset, .unset, .unset] [(.int p2)])) rfl (hb hby at_62)) ?_
      show Go p.tables e below (T.setTop (mkF m 64 #[.val (.int p0), .val (.int p1), .val (.int p2), .val (.int p3), .val (.int fr), .val (.int ee), .val (.int sp), .val (.int to), .val (.int th), .unset, .unset, .unset, .unset, .unset, .unset, .unset] [(.int (1048576 : Int32)), (.int p2)])) _
      refine Go.by (fun tt_ kk_ => iremM X hx rfl (hb hby at_64) rfl (by decide) kk_) ?_
      show Go p.tables e below (T.setTop (mkF m 65 #[.val (.int p0), .val (.int p1), .val (.int p2), .val (.int p3), .val (.int fr), .val (.int ee), .val (.int sp), .val (.int to), .val (.int th), .unset, .unset, .unset, .unset, .unset, .unset, .unset] [(.int (p2 % (1048576 : Int32)))])) _
      obtain ⟨du, e_du⟩ : ∃ z, z = (p2 % (1048576 : Int32)) := ⟨_, rfl⟩
      rw [← e_du]
      show Go p.tables e below (T.setTop (mkF m 65 #[.val (.int p0), .val (.int p1), .val (.int p2), .val (.int p3), .val (.int fr), .val (.int ee), .val (.int sp), .val (.int to), .val (.int th), .unset, .unset, .unset, .unset, .unset, .unset, .unset] [(.int du)])) _
      have b_du : -1048576 < du.toInt ∧ du.toInt < 1048576 := by rw [e_du]; exact own_rem (by decide) (by decide)
      refine Go.by (fun tt_ kk_ => XS.istore X.here hx rfl (hb hby at_65) rfl (l' := #[.val (.int p0), .val (.int p1), .val (.int p2), .val (.int p3), .val (.int fr), .val (.int ee), .val (.int sp), .val (.int to), .val (.int th), .val (.int du), .unset, .unset, .unset, .unset, .unset, .unset]) rfl kk_) ?_
      show Go p.tables e below (T.setTop (mkF m 67 #[.val (.int p0), .val (.int p1), .val (.int p2), .val (.int p3), .val (.int fr), .val (.int ee), .val (.int sp), .val (.int to), .val (.int th), .val (.int du), .unset, .unset, .unset, .unset, .unset, .unset] [])) _
      refine Go.by (fun tt_ kk_ => XS.iload X.here hx rfl (hb hby at_67) rfl kk_) ?_
      show Go p.tables e below (T.setTop (mkF m 69 #[.val (.int p0), .val (.int p1), .val (.int p2), .val (.int p3), .val (.int fr), .val (.int ee), .val (.int sp), .val (.int to), .val (.int th), .val (.int du), .unset, .unset, .unset, .unset, .unset, .unset] [(.int th)])) _
      refine Go.by (fun tt_ kk_ => XS.i2dS X.here hx rfl (hb hby at_69) rfl rfl kk_) ?_
      show Go p.tables e below (T.setTop (mkF m 70 #[.val (.int p0), .val (.int p1), .val (.int p2), .val (.int p3), .val (.int fr), .val (.int ee), .val (.int sp), .val (.int to), .val (.int th), .val (.int du), .unset, .unset, .unset, .unset, .unset, .unset] [(.double (FP.i2d th))])) _
      refine Go.by (fun tt_ kk_ => XS.iload X.here hx rfl (hb hby at_70) rfl kk_) ?_
      show Go p.tables e below (T.setTop (mkF m 72 #[.val (.int p0), .val (.int p1), .val (.int p2), .val (.int p3), .val (.int fr), .val (.int ee), .val (.int sp), .val (.int to), .val (.int th), .val (.int du), .unset, .unset, .unset, .unset, .unset, .unset] [(.int fr), (.double (FP.i2d th))])) _
      refine Go.by (fun tt_ kk_ => XS.i2dS X.here hx rfl (hb hby at_72) rfl rfl kk_) ?_
      show Go p.tables e below (T.setTop (mkF m 73 #[.val (.int p0), .val (.int p1), .val (.int p2), .val (.int p3), .val (.int fr), .val (.int ee), .val (.int sp), .val (.int to), .val (.int th), .val (.int du), .unset, .unset, .unset, .unset, .unset, .unset] [(.double (FP.i2d fr)), (.double (FP.i2d th))])) _
      refine Go.by (fun tt_ kk_ => XS.iload X.here hx rfl (hb hby at_73) rfl kk_) ?_
      show Go p.tables e below (T.setTop (mkF m 75 #[.val (.int p0), .val (.int p1), .val (.int p2), .val (.int p3), .val (.int fr), .val (.int ee), .val (.int sp), .val (.int to), .val (.int th), .val (.int du), .unset, .unset, .unset, .unset, .unset, .unset] [(.int to), (.double (FP.i2d fr)), (.double (FP.i2d th))])) _
      refine Go.by (fun tt_ kk_ => XS.i2dS X.here hx rfl (hb hby at_75) rfl rfl kk_) ?_
      show Go p.tables e below (T.setTop (mkF m 76 #[.val (.int p0), .val (.int p1), .val (.int p2), .val (.int p3), .val (.int fr), .val (.int ee), .val (.int sp), .val (.int to), .val (.int th), .val (.int du), .unset, .unset, .unset, .unset, .unset, .unset] [(.double (FP.i2d to)), (.double (FP.i2d fr)), (.double (FP.i2d th))])) _
      refine Go.by (fun tt_ kk_ => XS.iload X.here hx rfl (hb hby at_76) rfl kk_) ?_
      show Go p.tables e below (T.setTop (mkF m 78 #[.val (.int p0), .val (.int p1), .val (.int p2), .val (.int p3), .val (.int fr), .val (.int ee), .val (.int sp), .val (.int to), .val (.int th), .val (.int du), .unset, .unset, .unset, .unset, .unset, .unset] [(.int du), (.double (FP.i2d to)), (.double (FP.i2d fr)), (.double (FP.i2d th))])) _
      refine Go.by (fun tt_ kk_ => XS.i2dS X.here hx rfl (hb hby at_78) rfl rfl kk_) ?_
      show Go p.tables e below (T.setTop (mkF m 79 #[.val (.int p0), .val (.int p1), .val (.int p2), .val (.int p3), .val (.int fr), .val (.int ee), .val (.int sp), .val (.int to), .val (.int th), .val (.int du), .unset, .unset, .unset, .unset, .unset, .unset] [(.double (FP.i2d du)), (.double (FP.i2d to)), (.double (FP.i2d fr)), (.double (FP.i2d th))])) _
      obtain ⟨_, _, ⟨T, L_, k_, n_⟩, -, X, ⟨Lc_, hQ, l_, y_, z_⟩, st⟩ := Jvm.LawKit.callS X hx (y := (⟨"com/example/eindhoven/eindhoven/engine/Motion", "timeBelow", "(DDDD)D"⟩ : MethodName)) hown (mvT hZ (hw _ (List.mem_of_getElem? (i := 1) rfl))) (mvT hZ (hw _ (List.mem_of_getElem? (i := 2) rfl))) (mvT hZ (hw _ (List.mem_of_getElem? (i := 3) rfl))) (mvT hZ (hw _ (List.mem_of_getElem? (i := 4) rfl))) (by decide) (backOf (W := 0) (rm1 l Z a0 hw [] (FP.i2d th) (FP.i2d fr) (FP.i2d to) (FP.i2d du) th.toInt fr.toInt to.toInt du.toInt h0 n0 (Nat.le_trans Z0 K.1) (Dy.i2d th) (Dy.i2d fr) (Dy.i2d to) (Dy.i2d du) (by omega) (by omega) (by omega) (by omega) hs1) hZ (hw _ (List.mem_of_getElem? (i := 4) rfl)) (hw _ (List.mem_of_getElem? (i := 3) rfl)) (by decide) (by decide)) (g := (mkF m 79 #[.val (.int p0), .val (.int p1), .val (.int p2), .val (.int p3), .val (.int fr), .val (.int ee), .val (.int sp), .val (.int to), .val (.int th), .val (.int du), .unset, .unset, .unset, .unset, .unset, .unset] [(.double (FP.i2d du)), (.double (FP.i2d to)), (.double (FP.i2d fr)), (.double (FP.i2d th))])) rfl (by rw [hml]; rfl) (argsL := [(.double (FP.i2d th)), (.double (FP.i2d fr)), (.double (FP.i2d to)), (.double (FP.i2d du))]) (rest := []) (lenOf pd_0 rfl) rfl (by show 2 * 0 + _ ≤ _; exact Nat.le_of_eq rfl) (hb hby at_79) (fun _ _ => ⟨rfl, eT, (by decide : 0 + 0 ≤ _), (by decide : 0 + 0 ≤ _)⟩)
      dsimp only [Pt.U, Pt.locs, Pt.cells, Pt.slots] at X l_ y_ z_ st hQ
      subst l_ y_ z_
      obtain ⟨r, rfl, Nq, hP, eh⟩ := hQ
      have N := Fr.app N Nq
      have eT := eh
      refine Go.by st ?_
      show Go p.tables e below (T.setTop (mkF m 82 #[.val (.int p0), .val (.int p1), .val (.int p2), .val (.int p3), .val (.int fr), .val (.int ee), .val (.int sp), .val (.int to), .val (.int th), .val (.int du), .unset, .unset, .unset, .unset, .unset, .unset] [(.double r)])) _
      refine Go.by (fun tt_ kk_ => XS.dstore X.here hx rfl (hb hby at_82) rfl (l' := #[.val (.int p0), .val (.int p1), .val (.int p2), .val (.int p3), .val (.int fr), .val (.int ee), .val (.int sp), .val (.int to), .val (.int th), .val (.int du), .val (.double r), .second, .unset, .unset, .unset, .unset]) rfl kk_) ?_
      show Go p.tables e below (T.setTop (mkF m 84 #[.val (.int p0), .val (.int p1), .val (.int p2), .val (.int p3), .val (.int fr), .val (.int ee), .val (.int sp), .val (.int to), .val (.int th), .val (.int du), .val (.double r), .second, .unset, .unset, .unset, .unset] [])) _
      refine Go.by (fun tt_ kk_ => XS.iload X.here hx rfl (hb hby at_84) rfl kk_) ?_
      show Go p.tables e below (T.setTop (mkF m 86 #[.val (.int p0), .val (.int p1), .val (.int p2), .val (.int p3), .val (.int fr), .val (.int ee), .val (.int sp), .val (.int to), .val (.int th), .val (.int du), .val (.double r), .second, .unset, .unset, .unset, .unset] [(.int fr)])) _
      refine Go.by (fun tt_ kk_ => XS.iload X.here hx rfl (hb hby at_86) rfl kk_) ?_
      show Go p.tables e below (T.setTop (mkF m 88 #[.val (.int p0), .val (.int p1), .val (.int p2), .val (.int p3), .val (.int fr), .val (.int ee), .val (.int sp), .val (.int to), .val (.int th), .val (.int du), .val (.double r), .second, .unset, .unset, .unset, .unset] [(.int to), (.int fr)])) _
      obtain ⟨_, _, ⟨T, L_, k_, n_⟩, -, X, ⟨Lc_, hQ, l_, y_, z_⟩, st⟩ := Jvm.LawKit.callS X hx (y := (⟨"java/lang/Math", "min", "(II)I"⟩ : MethodName)) hown (mvT hZ (hw _ (List.mem_of_getElem? (i := 5) rfl))) (mvT hZ (hw _ (List.mem_of_getElem? (i := 6) rfl))) (mvT hZ (hw _ (List.mem_of_getElem? (i := 7) rfl))) (mvT hZ (hw _ (List.mem_of_getElem? (i := 8) rfl))) (by decide) (backOf (W := 0) (rm2 l Z a0 hw [] fr to h0 n0 (Nat.le_trans Z0 K.1) ) hZ (hw _ (List.mem_of_getElem? (i := 8) rfl)) (hw _ (List.mem_of_getElem? (i := 7) rfl)) (by decide) (by decide)) (g := (mkF m 88 #[.val (.int p0), .val (.int p1), .val (.int p2), .val (.int p3), .val (.int fr), .val (.int ee), .val (.int sp), .val (.int to), .val (.int th), .val (.int du), .val (.double r), .second, .unset, .unset, .unset, .unset] [(.int to), (.int fr)])) rfl (by rw [hml]; rfl) (argsL := [(.int fr), (.int to)]) (rest := []) (lenOf pd_1 rfl) rfl (by show 2 * 0 + _ ≤ _; exact Nat.le_of_eq rfl) (hb hby at_88) (fun _ _ => ⟨rfl, eT, (by decide : 0 + 0 ≤ _), (by decide : 0 + 0 ≤ _)⟩)
      dsimp only [Pt.U, Pt.locs, Pt.cells, Pt.slots] at X l_ y_ z_ st hQ
      subst l_ y_ z_
      obtain ⟨rfl, Nq, eh⟩ := hQ
      have N := Fr.app N Nq
      have eT := eh
      refine Go.by st ?_
      show Go p.tables e below (T.setTop (mkF m 91 #[.val (.int p0), .val (.int p1), .val (.int p2), .val (.int p3), .val (.int fr), .val (.int ee), .val (.int sp), .val (.int to), .val (.int th), .val (.int du), .val (.double r), .second, .unset, .unset, .unset, .unset] [(.int (if to < fr then to else fr))])) _
      obtain ⟨lo, e_lo⟩ : ∃ z, z = (if to < fr then to else fr) := ⟨_, rfl⟩
      rw [← e_lo]
      show Go p.tables e below (T.setTop (mkF m 91 #[.val (.int p0), .val (.int p1), .val (.int p2), .val (.int p3), .val (.int fr), .val (.int ee), .val (.int sp), .val (.int to), .val (.int th), .val (.int du), .val (.double r), .second, .unset, .unset, .unset, .unset] [(.int lo)])) _
      have b_lo : lo.toInt = min fr.toInt to.toInt := by rw [e_lo]; exact own_min fr to
      refine Go.by (fun tt_ kk_ => XS.istore X.here hx rfl (hb hby at_91) rfl (l' := #[.val (.int p0), .val (.int p1), .val (.int p2), .val (.int p3), .val (.int fr), .val (.int ee), .val (.int sp), .val (.int to), .val (.int th), .val (.int du), .val (.double r), .second, .val (.int lo), .unset, .unset, .unset]) rfl kk_) ?_
      show Go p.tables e below (T.setTop (mkF m 93 #[.val (.int p0), .val (.int p1), .val (.int p2), .val (.int p3), .val (.int fr), .val (.int ee), .val (.int sp), .val (.int to), .val (.int th), .val (.int du), .val (.double r), .second, .val (.int lo), .unset, .unset, .unset] [])) _
      refine Go.by (fun tt_ kk_ => XS.iload X.here hx rfl (hb hby at_93) rfl kk_) ?_
      show Go p.tables e below (T.setTop (mkF m 95 #[.val (.int p0), .val (.int p1), .val (.int p2), .val (.int p3), .val (.int fr), .val (.int ee), .val (.int sp), .val (.int to), .val (.int th), .val (.int du), .val (.double r), .second, .val (.int lo), .unset, .unset, .unset] [(.int fr)])) _
      refine Go.by (fun tt_ kk_ => XS.iload X.here hx rfl (hb hby at_95) rfl kk_) ?_
      show Go p.tables e below (T.setTop (mkF m 97 #[.val (.int p0), .val (.int p1), .val (.int p2), .val (.int p3), .val (.int fr), .val (.int ee), .val (.int sp), .val (.int to), .val (.int th), .val (.int du), .val (.double r), .second, .val (.int lo), .unset, .unset, .unset] [(.int to), (.int fr)])) _
      obtain ⟨_, _, ⟨T, L_, k_, n_⟩, -, X, ⟨Lc_, hQ, l_, y_, z_⟩, st⟩ := Jvm.LawKit.callS X hx (y := (⟨"java/lang/Math", "max", "(II)I"⟩ : MethodName)) hown (mvT hZ (hw _ (List.mem_of_getElem? (i := 9) rfl))) (mvT hZ (hw _ (List.mem_of_getElem? (i := 10) rfl))) (mvT hZ (hw _ (List.mem_of_getElem? (i := 7) rfl))) (mvT hZ (hw _ (List.mem_of_getElem? (i := 11) rfl))) (by decide) (backOf (W := 0) (rm3 l Z a0 hw [] fr to h0 n0 (Nat.le_trans Z0 K.1) ) hZ (hw _ (List.mem_of_getElem? (i := 11) rfl)) (hw _ (List.mem_of_getElem? (i := 7) rfl)) (by decide) (by decide)) (g := (mkF m 97 #[.val (.int p0), .val (.int p1), .val (.int p2), .val (.int p3), .val (.int fr), .val (.int ee), .val (.int sp), .val (.int to), .val (.int th), .val (.int du), .val (.double r), .second, .val (.int lo), .unset, .unset, .unset] [(.int to), (.int fr)])) rfl (by rw [hml]; rfl) (argsL := [(.int fr), (.int to)]) (rest := []) (lenOf pd_1 rfl) rfl (by show 2 * 0 + _ ≤ _; exact Nat.le_of_eq rfl) (hb hby at_97) (fun _ _ => ⟨rfl, eT, (by decide : 0 + 0 ≤ _), (by decide : 0 + 0 ≤ _)⟩)
      dsimp only [Pt.U, Pt.locs, Pt.cells, Pt.slots] at X l_ y_ z_ st hQ
      subst l_ y_ z_
      obtain ⟨rfl, Nq, eh⟩ := hQ
      have N := Fr.app N Nq
      have eT := eh
      refine Go.by st ?_
      show Go p.tables e below (T.setTop (mkF m 100 #[.val (.int p0), .val (.int p1), .val (.int p2), .val (.int p3), .val (.int fr), .val (.int ee), .val (.int sp), .val (.int to), .val (.int th), .val (.int du), .val (.double r), .second, .val (.int lo), .unset, .unset, .unset] [(.int (if fr < to then to else fr))])) _
      obtain ⟨hi, e_hi⟩ : ∃ z, z = (if fr < to then to else fr) := ⟨_, rfl⟩
      rw [← e_hi]
      show Go p.tables e below (T.setTop (mkF m 100 #[.val (.int p0), .val (.int p1), .val (.int p2), .val (.int p3), .val (.int fr), .val (.int ee), .val (.int sp), .val (.int to), .val (.int th), .val (.int du), .val (.double r), .second, .val (.int lo), .unset, .unset, .unset] [(.int hi)])) _
      have b_hi : hi.toInt = max fr.toInt to.toInt := by rw [e_hi]; exact own_max fr to
      refine Go.by (fun tt_ kk_ => XS.istore X.here hx rfl (hb hby at_100) rfl (l' := #[.val (.int p0), .val (.int p1), .val (.int p2), .val (.int p3), .val (.int fr), .val (.int ee), .val (.int sp), .val (.int to), .val (.int th), .val (.int du), .val (.double r), .second, .val (.int lo), .val (.int hi), .unset, .unset]) rfl kk_) ?_
      show Go p.tables e below (T.setTop (mkF m 102 #[.val (.int p0), .val (.int p1), .val (.int p2), .val (.int p3), .val (.int fr), .val (.int ee), .val (.int sp), .val (.int to), .val (.int th), .val (.int du), .val (.double r), .second, .val (.int lo), .val (.int hi), .unset, .unset] [])) _
      refine Go.by (fun tt_ kk_ => XS.iload X.here hx rfl (hb hby at_102) rfl kk_) ?_
      show Go p.tables e below (T.setTop (mkF m 104 #[.val (.int p0), .val (.int p1), .val (.int p2), .val (.int p3), .val (.int fr), .val (.int ee), .val (.int sp), .val (.int to), .val (.int th), .val (.int du), .val (.double r), .second, .val (.int lo), .val (.int hi), .unset, .unset] [(.int du)])) _
      by_cases hc104 : (0 : Int32) < du
      · have k104 : 0 < du.toInt := Int32.lt_iff_toInt_lt.mp hc104
        refine Go.by (fun tt_ kk_ => XS.ifNo X.here hx rfl (hb hby at_104) rfl ((if0 _ _).trans (tlt hc104).2.2.2) kk_) ?_
        show Go p.tables e below (T.setTop (mkF m 107 #[.val (.int p0), .val (.int p1), .val (.int p2), .val (.int p3), .val (.int fr), .val (.int ee), .val (.int sp), .val (.int to), .val (.int th), .val (.int du), .val (.double r), .second, .val (.int lo), .val (.int hi), .unset, .unset] [])) _
        refine Go.by (fun tt_ kk_ => XS.iload X.here hx rfl (hb hby at_107) rfl kk_) ?_
        show Go p.tables e below (T.setTop (mkF m 109 #[.val (.int p0), .val (.int p1), .val (.int p2), .val (.int p3), .val (.int fr), .val (.int ee), .val (.int sp), .val (.int to), .val (.int th), .val (.int du), .val (.double r), .second, .val (.int lo), .val (.int hi), .unset, .unset] [(.int th)])) _
        refine Go.by (fun tt_ kk_ => XS.iload X.here hx rfl (hb hby at_109) rfl kk_) ?_
        show Go p.tables e below (T.setTop (mkF m 111 #[.val (.int p0), .val (.int p1), .val (.int p2), .val (.int p3), .val (.int fr), .val (.int ee), .val (.int sp), .val (.int to), .val (.int th), .val (.int du), .val (.double r), .second, .val (.int lo), .val (.int hi), .unset, .unset] [(.int lo), (.int th)])) _
        by_cases hc111 : lo < th
        · have k111 : lo.toInt < th.toInt := Int32.lt_iff_toInt_lt.mp hc111
          refine Go.by (fun tt_ kk_ => XS.icmpYes X.here hx rfl (pc0 := 111) (pc' := 127) rfl (hb hby at_111) rfl (tlt hc111).2.2.1 (by decide) (by decide) kk_) ?_
          show Go p.tables e below (T.setTop (mkF m 127 #[.val (.int p0), .val (.int p1), .val (.int p2), .val (.int p3), .val (.int fr), .val (.int ee), .val (.int sp), .val (.int to), .val (.int th), .val (.int du), .val (.double r), .second, .val (.int lo), .val (.int hi), .unset, .unset] [])) _
          refine Go.by (fun tt_ kk_ => XS.iload X.here hx rfl (hb hby at_127) rfl kk_) ?_
          show Go p.tables e below (T.setTop (mkF m 129 #[.val (.int p0), .val (.int p1), .val (.int p2), .val (.int p3), .val (.int fr), .val (.int ee), .val (.int sp), .val (.int to), .val (.int th), .val (.int du), .val (.double r), .second, .val (.int lo), .val (.int hi), .unset, .unset] [(.int th)])) _
          refine Go.by (fun tt_ kk_ => XS.iload X.here hx rfl (hb hby at_129) rfl kk_) ?_
          show Go p.tables e below (T.setTop (mkF m 131 #[.val (.int p0), .val (.int p1), .val (.int p2), .val (.int p3), .val (.int fr), .val (.int ee), .val (.int sp), .val (.int to), .val (.int th), .val (.int du), .val (.double r), .second, .val (.int lo), .val (.int hi), .unset, .unset] [(.int hi), (.int th)])) _
          by_cases hc131 : hi < th
          · have k131 : hi.toInt < th.toInt := Int32.lt_iff_toInt_lt.mp hc131
            refine Go.by (fun tt_ kk_ => XS.icmpNo X.here hx rfl (hb hby at_131) rfl (tlt hc131).2.2.2 kk_) ?_
            show Go p.tables e below (T.setTop (mkF m 134 #[.val (.int p0), .val (.int p1), .val (.int p2), .val (.int p3), .val (.int fr), .val (.int ee), .val (.int sp), .val (.int to), .val (.int th), .val (.int du), .val (.double r), .second, .val (.int lo), .val (.int hi), .unset, .unset] [])) _
            refine Go.by (fun tt_ kk_ => XS.dload X.here hx rfl (hb hby at_134) rfl kk_) ?_
            show Go p.tables e below (T.setTop (mkF m 136 #[.val (.int p0), .val (.int p1), .val (.int p2), .val (.int p3), .val (.int fr), .val (.int ee), .val (.int sp), .val (.int to), .val (.int th), .val (.int du), .val (.double r), .second, .val (.int lo), .val (.int hi), .unset, .unset] [(.double r)])) _
            refine Go.by (fun tt_ kk_ => XS.iload X.here hx rfl (hb hby at_136) rfl kk_) ?_
            show Go p.tables e below (T.setTop (mkF m 138 #[.val (.int p0), .val (.int p1), .val (.int p2), .val (.int p3), .val (.int fr), .val (.int ee), .val (.int sp), .val (.int to), .val (.int th), .val (.int du), .val (.double r), .second, .val (.int lo), .val (.int hi), .unset, .unset] [(.int du), (.double r)])) _
            refine Go.by (fun tt_ kk_ => XS.i2dS X.here hx rfl (hb hby at_138) rfl rfl kk_) ?_
            show Go p.tables e below (T.setTop (mkF m 139 #[.val (.int p0), .val (.int p1), .val (.int p2), .val (.int p3), .val (.int fr), .val (.int ee), .val (.int sp), .val (.int to), .val (.int th), .val (.int du), .val (.double r), .second, .val (.int lo), .val (.int hi), .unset, .unset] [(.double (FP.i2d du)), (.double r)])) _
            have z : Dy du.toInt 0 r := by
              rcases hP with ⟨q1, -⟩ | ⟨q1, q2, q3, q⟩ | ⟨q1, e, -, ⟨q2, q3, -⟩ | ⟨q2, q3, -⟩⟩
              · exfalso; omega
              · exact q
              · exfalso; omega
              · exfalso; omega
            refine Go.by (fun tt_ kk_ => XS.dcmpS X.here hx rfl (hb hby at_139) rfl ((z.cmpV (Dy.i2d du) .l).trans (own_ci_eq.mpr rfl)) kk_) ?_
            show Go p.tables e below (T.setTop (mkF m 140 #[.val (.int p0), .val (.int p1), .val (.int p2), .val (.int p3), .val (.int fr), .val (.int ee), .val (.int sp), .val (.int to), .val (.int th), .val (.int du), .val (.double r), .second, .val (.int lo), .val (.int hi), .unset, .unset] [(.int (0 : Int32))])) _
            refine Go.by (fun tt_ kk_ => XS.ifNo X.here hx rfl (hb hby at_140) rfl ((if0 _ _).trans (teq (rfl : (0 : Int32) = (0 : Int32))).2) kk_) ?_
            show Go p.tables e below (T.setTop (mkF m 143 #[.val (.int p0), .val (.int p1), .val (.int p2), .val (.int p3), .val (.int fr), .val (.int ee), .val (.int sp), .val (.int to), .val (.int th), .val (.int du), .val (.double r), .second, .val (.int lo), .val (.int hi), .unset, .unset] [])) _
            refine Go.by (fun tt_ kk_ => XS.iconst X.here hx rfl (hb hby at_143) kk_) ?_
            show Go p.tables e below (T.setTop (mkF m 144 #[.val (.int p0), .val (.int p1), .val (.int p2), .val (.int p3), .val (.int fr), .val (.int ee), .val (.int sp), .val (.int to), .val (.int th), .val (.int du), .val (.double r), .second, .val (.int lo), .val (.int hi), .unset, .unset] [(.int (1 : Int32))])) _
            refine Go.by (fun tt_ kk_ => XS.goto X.here hx rfl (pc0 := 144) (pc' := 148) rfl (hb hby at_144) (by decide) (by decide) kk_) ?_
            show Go p.tables e below (T.setTop (mkF m 148 #[.val (.int p0), .val (.int p1), .val (.int p2), .val (.int p3), .val (.int fr), .val (.int ee), .val (.int sp), .val (.int to), .val (.int th), .val (.int du), .val (.double r), .second, .val (.int lo), .val (.int hi), .unset, .unset] [(.int (1 : Int32))])) _
            exact Go.done X  (v := some (.int (1 : Int32))) (fun h => by rw [Bd.returns] at h; cases h) Bd.notSynchronized (fun fs hr => retN X hx (z := (1 : Int32)) (t := .boolean) Bd.returns (by simp) (hb hby at_148) hr) (by rw [eT]; exact ⟨rfl, N⟩) (by decide) (by decide)
          · have k131 : th.toInt ≤ hi.toInt := Int.not_lt.mp fun q => hc131 (Int32.lt_iff_toInt_lt.mpr q)
            refine Go.by (fun tt_ kk_ => XS.icmpYes X.here hx rfl (pc0 := 131) (pc' := 149) rfl (hb hby at_131) rfl (flt hc131).2.2.2 (by decide) (by decide) kk_) ?_
            show Go p.tables e below (T.setTop (mkF m 149 #[.val (.int p0), .val (.int p1), .val (.int p2), .val (.int p3), .val (.int fr), .val (.int ee), .val (.int sp), .val (.int to), .val (.int th), .val (.int du), .val (.double r), .second, .val (.int lo), .val (.int hi), .unset, .unset] [])) _
            refine Go.by (fun tt_ kk_ => XS.iload X.here hx rfl (hb hby at_149) rfl kk_) ?_
            show Go p.tables e below (T.setTop (mkF m 151 #[.val (.int p0), .val (.int p1), .val (.int p2), .val (.int p3), .val (.int fr), .val (.int ee), .val (.int sp), .val (.int to), .val (.int th), .val (.int du), .val (.double r), .second, .val (.int lo), .val (.int hi), .unset, .unset] [(.int du)])) _
            refine Go.by (fun tt_ kk_ => XS.i2l X.here hx rfl (hb hby at_151) rfl kk_) ?_
            show Go p.tables e below (T.setTop (mkF m 152 #[.val (.int p0), .val (.int p1), .val (.int p2), .val (.int p3), .val (.int fr), .val (.int ee), .val (.int sp), .val (.int to), .val (.int th), .val (.int du), .val (.double r), .second, .val (.int lo), .val (.int hi), .unset, .unset] [(.long (du.toInt64))])) _
            refine Go.by (fun tt_ kk_ => XS.iload X.here hx rfl (hb hby at_152) rfl kk_) ?_
            show Go p.tables e below (T.setTop (mkF m 154 #[.val (.int p0), .val (.int p1), .val (.int p2), .val (.int p3), .val (.int fr), .val (.int ee), .val (.int sp), .val (.int to), .val (.int th), .val (.int du), .val (.double r), .second, .val (.int lo), .val (.int hi), .unset, .unset] [(.int th), (.long (du.toInt64))])) _
            refine Go.by (fun tt_ kk_ => XS.iload X.here hx rfl (hb hby at_154) rfl kk_) ?_
            show Go p.tables e below (T.setTop (mkF m 156 #[.val (.int p0), .val (.int p1), .val (.int p2), .val (.int p3), .val (.int fr), .val (.int ee), .val (.int sp), .val (.int to), .val (.int th), .val (.int du), .val (.double r), .second, .val (.int lo), .val (.int hi), .unset, .unset] [(.int lo), (.int th), (.long (du.toInt64))])) _
            refine Go.by (fun tt_ kk_ => XS.isub X.here hx rfl (hb hby at_156) rfl kk_) ?_
            show Go p.tables e below (T.setTop (mkF m 157 #[.val (.int p0), .val (.int p1), .val (.int p2), .val (.int p3), .val (.int fr), .val (.int ee), .val (.int sp), .val (.int to), .val (.int th), .val (.int du), .val (.double r), .second, .val (.int lo), .val (.int hi), .unset, .unset] [(.int (th - lo)), (.long (du.toInt64))])) _
            refine Go.by (fun tt_ kk_ => XS.i2l X.here hx rfl (hb hby at_157) rfl kk_) ?_
            show Go p.tables e below (T.setTop (mkF m 158 #[.val (.int p0), .val (.int p1), .val (.int p2), .val (.int p3), .val (.int fr), .val (.int ee), .val (.int sp), .val (.int to), .val (.int th), .val (.int du), .val (.double r), .second, .val (.int lo), .val (.int hi), .unset, .unset] [(.long ((th - lo).toInt64)), (.long (du.toInt64))])) _
            refine Go.by (fun tt_ kk_ => XS.lmul X.here hx rfl (hb hby at_158) rfl kk_) ?_
            show Go p.tables e below (T.setTop (mkF m 159 #[.val (.int p0), .val (.int p1), .val (.int p2), .val (.int p3), .val (.int fr), .val (.int ee), .val (.int sp), .val (.int to), .val (.int th), .val (.int du), .val (.double r), .second, .val (.int lo), .val (.int hi), .unset, .unset] [(.long ((du.toInt64) * ((th - lo).toInt64)))])) _
            obtain ⟨pt, e_pt⟩ : ∃ z, z = ((du.toInt64) * ((th - lo).toInt64)) := ⟨_, rfl⟩
            rw [← e_pt]
            show Go p.tables e below (T.setTop (mkF m 159 #[.val (.int p0), .val (.int p1), .val (.int p2), .val (.int p3), .val (.int fr), .val (.int ee), .val (.int sp), .val (.int to), .val (.int th), .val (.int du), .val (.double r), .second, .val (.int lo), .val (.int hi), .unset, .unset] [(.long pt)])) _
            obtain ⟨ew, he, hh1, z⟩ : ∃ ew : Nat, ew ≤ 10 ∧ hi.toInt - lo.toInt = 2 ^ ew ∧ Dy (du.toInt * (th.toInt - lo.toInt)) (-(ew : Int)) r := by
              rcases hP with ⟨q1, -⟩ | ⟨q1, q2, q3, q⟩ | ⟨q1, e, he, ⟨q2, q3, q4, q⟩ | ⟨q2, q3, q4, q⟩⟩
              · exfalso; omega
              · exfalso; omega
              · exact ⟨e, he, by omega, q.cast (by rw [show lo.toInt = fr.toInt by omega]) rfl⟩
              · exact ⟨e, he, by omega, q.cast (by rw [show lo.toInt = to.toInt by omega]) rfl⟩
            have pe := own_pow10 he
            have m1 := own_mulb (A := 1048576) (B := 1024) (show -1048576 ≤ du.toInt by omega) (by omega) (show -1024 ≤ th.toInt - lo.toInt by omega) (by omega)
            have n1 : (th - lo).toInt = th.toInt - lo.toInt := own_sub32 (by omega) (by omega)
            have b_pt : pt.toInt = du.toInt * (th.toInt - lo.toInt) := by rw [e_pt, FP.Core.int64_mul (by rw [own_i2l, own_i2l, n1]; omega) (by rw [own_i2l, own_i2l, n1]; omega), own_i2l, own_i2l, n1]
            have n2 : (hi - lo).toInt = 1 * 2 ^ ew := by rw [own_sub32 (by omega) (by omega), hh1, Int.one_mul]
            refine Go.by (fun tt_ kk_ => XS.lstore X.here hx rfl (hb hby at_159) rfl (l' := #[.val (.int p0), .val (.int p1), .val (.int p2), .val (.int p3), .val (.int fr), .val (.int ee), .val (.int sp), .val (.int to), .val (.int th), .val (.int du), .val (.double r), .second, .val (.int lo), .val (.int hi), .val (.long pt), .second]) rfl kk_) ?_
            show Go p.tables e below (T.setTop (mkF m 161 #[.val (.int p0), .val (.int p1), .val (.int p2), .val (.int p3), .val (.int fr), .val (.int ee), .val (.int sp), .val (.int to), .val (.int th), .val (.int du), .val (.double r), .second, .val (.int lo), .val (.int hi), .val (.long pt), .second] [])) _
            refine Go.by (fun tt_ kk_ => XS.dload X.here hx rfl (hb hby at_161) rfl kk_) ?_
            show Go p.tables e below (T.setTop (mkF m 163 #[.val (.int p0), .val (.int p1), .val (.int p2), .val (.int p3), .val (.int fr), .val (.int ee), .val (.int sp), .val (.int to), .val (.int th), .val (.int du), .val (.double r), .second, .val (.int lo), .val (.int hi), .val (.long pt), .second] [(.double r)])) _
            refine Go.by (fun tt_ kk_ => XS.iload X.here hx rfl (hb hby at_163) rfl kk_) ?_
            show Go p.tables e below (T.setTop (mkF m 165 #[.val (.int p0), .val (.int p1), .val (.int p2), .val (.int p3), .val (.int fr), .val (.int ee), .val (.int sp), .val (.int to), .val (.int th), .val (.int du), .val (.double r), .second, .val (.int lo), .val (.int hi), .val (.long pt), .second] [(.int hi), (.double r)])) _
            refine Go.by (fun tt_ kk_ => XS.iload X.here hx rfl (hb hby at_165) rfl kk_) ?_
            show Go p.tables e below (T.setTop (mkF m 167 #[.val (.int p0), .val (.int p1), .val (.int p2), .val (.int p3), .val (.int fr), .val (.int ee), .val (.int sp), .val (.int to), .val (.int th), .val (.int du), .val (.double r), .second, .val (.int lo), .val (.int hi), .val (.long pt), .second] [(.int lo), (.int hi), (.double r)])) _
            refine Go.by (fun tt_ kk_ => XS.isub X.here hx rfl (hb hby at_167) rfl kk_) ?_
            show Go p.tables e below (T.setTop (mkF m 168 #[.val (.int p0), .val (.int p1), .val (.int p2), .val (.int p3), .val (.int fr), .val (.int ee), .val (.int sp), .val (.int to), .val (.int th), .val (.int du), .val (.double r), .second, .val (.int lo), .val (.int hi), .val (.long pt), .second] [(.int (hi - lo)), (.double r)])) _
            refine Go.by (fun tt_ kk_ => XS.i2dS X.here hx rfl (hb hby at_168) rfl rfl kk_) ?_
            show Go p.tables e below (T.setTop (mkF m 169 #[.val (.int p0), .val (.int p1), .val (.int p2), .val (.int p3), .val (.int fr), .val (.int ee), .val (.int sp), .val (.int to), .val (.int th), .val (.int du), .val (.double r), .second, .val (.int lo), .val (.int hi), .val (.long pt), .second] [(.double (FP.i2d (hi - lo))), (.double r)])) _
            obtain ⟨y9, e_y9⟩ : ∃ z, z = FP.dmul r (FP.i2d (hi - lo)) := ⟨_, rfl⟩
            have d_y9 : Dy (du.toInt * (th.toInt - lo.toInt)) 0 y9 := by rw [e_y9]; exact (z.mul (Dy.unscale ew ((Dy.i2d (hi - lo)).cast n2 rfl)) (by rw [Int.mul_one]; omega) (by omega) (by omega)).cast (Int.mul_one _) (by omega)
            refine Go.by (fun tt_ kk_ => XS.dmulS X.here hx rfl (hb hby at_169) rfl (e_y9 ▸ d_y9.noNaN) e_y9.symm kk_) ?_
            show Go p.tables e below (T.setTop (mkF m 170 #[.val (.int p0), .val (.int p1), .val (.int p2), .val (.int p3), .val (.int fr), .val (.int ee), .val (.int sp), .val (.int to), .val (.int th), .val (.int du), .val (.double r), .second, .val (.int lo), .val (.int hi), .val (.long pt), .second] [(.double y9)])) _
            refine Go.by (fun tt_ kk_ => XS.lload X.here hx rfl (hb hby at_170) rfl kk_) ?_
            show Go p.tables e below (T.setTop (mkF m 172 #[.val (.int p0), .val (.int p1), .val (.int p2), .val (.int p3), .val (.int fr), .val (.int ee), .val (.int sp), .val (.int to), .val (.int th), .val (.int du), .val (.double r), .second, .val (.int lo), .val (.int hi), .val (.long pt), .second] [(.long pt), (.double y9)])) _
            refine Go.by (fun tt_ kk_ => XS.l2dS X.here hx rfl (hb hby at_172) rfl rfl kk_) ?_
            show Go p.tables e below (T.setTop (mkF m 173 #[.val (.int p0), .val (.int p1), .val (.int p2), .val (.int p3), .val (.int fr), .val (.int ee), .val (.int sp), .val (.int to), .val (.int th), .val (.int du), .val (.double r), .second, .val (.int lo), .val (.int hi), .val (.long pt), .second] [(.double (FP.l2d pt)), (.double y9)])) _
            refine Go.by (fun tt_ kk_ => XS.dcmpS X.here hx rfl (hb hby at_173) rfl ((d_y9.cmpV (Dy.l2d (by rw [b_pt]; omega)) .l).trans (own_ci_eq.mpr b_pt.symm)) kk_) ?_
            show Go p.tables e below (T.setTop (mkF m 174 #[.val (.int p0), .val (.int p1), .val (.int p2), .val (.int p3), .val (.int fr), .val (.int ee), .val (.int sp), .val (.int to), .val (.int th), .val (.int du), .val (.double r), .second, .val (.int lo), .val (.int hi), .val (.long pt), .second] [(.int (0 : Int32))])) _
            refine Go.by (fun tt_ kk_ => XS.ifNo X.here hx rfl (hb hby at_174) rfl ((if0 _ _).trans (teq (rfl : (0 : Int32) = (0 : Int32))).2) kk_) ?_
            show Go p.tables e below (T.setTop (mkF m 177 #[.val (.int p0), .val (.int p1), .val (.int p2), .val (.int p3), .val (.int fr), .val (.int ee), .val (.int sp), .val (.int to), .val (.int th), .val (.int du), .val (.double r), .second, .val (.int lo), .val (.int hi), .val (.long pt), .second] [])) _
            refine Go.by (fun tt_ kk_ => XS.iconst X.here hx rfl (hb hby at_177) kk_) ?_
            show Go p.tables e below (T.setTop (mkF m 178 #[.val (.int p0), .val (.int p1), .val (.int p2), .val (.int p3), .val (.int fr), .val (.int ee), .val (.int sp), .val (.int to), .val (.int th), .val (.int du), .val (.double r), .second, .val (.int lo), .val (.int hi), .val (.long pt), .second] [(.int (1 : Int32))])) _
            refine Go.by (fun tt_ kk_ => XS.goto X.here hx rfl (pc0 := 178) (pc' := 182) rfl (hb hby at_178) (by decide) (by decide) kk_) ?_
            show Go p.tables e below (T.setTop (mkF m 182 #[.val (.int p0), .val (.int p1), .val (.int p2), .val (.int p3), .val (.int fr), .val (.int ee), .val (.int sp), .val (.int to), .val (.int th), .val (.int du), .val (.double r), .second, .val (.int lo), .val (.int hi), .val (.long pt), .second] [(.int (1 : Int32))])) _
            exact Go.done X  (v := some (.int (1 : Int32))) (fun h => by rw [Bd.returns] at h; cases h) Bd.notSynchronized (fun fs hr => retN X hx (z := (1 : Int32)) (t := .boolean) Bd.returns (by simp) (hb hby at_182) hr) (by rw [eT]; exact ⟨rfl, N⟩) (by decide) (by decide)
        · have k111 : th.toInt ≤ lo.toInt := Int.not_lt.mp fun q => hc111 (Int32.lt_iff_toInt_lt.mpr q)
          refine Go.by (fun tt_ kk_ => XS.icmpNo X.here hx rfl (hb hby at_111) rfl (flt hc111).2.2.1 kk_) ?_
          show Go p.tables e below (T.setTop (mkF m 114 #[.val (.int p0), .val (.int p1), .val (.int p2), .val (.int p3), .val (.int fr), .val (.int ee), .val (.int sp), .val (.int to), .val (.int th), .val (.int du), .val (.double r), .second, .val (.int lo), .val (.int hi), .unset, .unset] [])) _
          refine Go.by (fun tt_ kk_ => XS.dload X.here hx rfl (hb hby at_114) rfl kk_) ?_
          show Go p.tables e below (T.setTop (mkF m 116 #[.val (.int p0), .val (.int p1), .val (.int p2), .val (.int p3), .val (.int fr), .val (.int ee), .val (.int sp), .val (.int to), .val (.int th), .val (.int du), .val (.double r), .second, .val (.int lo), .val (.int hi), .unset, .unset] [(.double r)])) _
          refine Go.by (fun tt_ kk_ => XS.dconst0 X.here hx rfl (hb hby at_116) (v := (0 : UInt64)) rfl kk_) ?_
          show Go p.tables e below (T.setTop (mkF m 117 #[.val (.int p0), .val (.int p1), .val (.int p2), .val (.int p3), .val (.int fr), .val (.int ee), .val (.int sp), .val (.int to), .val (.int th), .val (.int du), .val (.double r), .second, .val (.int lo), .val (.int hi), .unset, .unset] [(.double (0 : UInt64)), (.double r)])) _
          have z : Dy 0 0 r := by
            rcases hP with ⟨-, q⟩ | ⟨q1, q2, q3, -⟩ | ⟨q1, e, -, ⟨q2, q3, -⟩ | ⟨q2, q3, -⟩⟩
            · exact q
            · exfalso; omega
            · exfalso; omega
            · exfalso; omega
          refine Go.by (fun tt_ kk_ => XS.dcmpS X.here hx rfl (hb hby at_117) rfl ((z.cmpV (own_zero 0) .l).trans (own_ci_eq.mpr rfl)) kk_) ?_
          show Go p.tables e below (T.setTop (mkF m 118 #[.val (.int p0), .val (.int p1), .val (.int p2), .val (.int p3), .val (.int fr), .val (.int ee), .val (.int sp), .val (.int to), .val (.int th), .val (.int du), .val (.double r), .second, .val (.int lo), .val (.int hi), .unset, .unset] [(.int (0 : Int32))])) _
          refine Go.by (fun tt_ kk_ => XS.ifNo X.here hx rfl (hb hby at_118) rfl ((if0 _ _).trans (teq (rfl : (0 : Int32) = (0 : Int32))).2) kk_) ?_
          show Go p.tables e below (T.setTop (mkF m 121 #[.val (.int p0), .val (.int p1), .val (.int p2), .val (.int p3), .val (.int fr), .val (.int ee), .val (.int sp), .val (.int to), .val (.int th), .val (.int du), .val (.double r), .second, .val (.int lo), .val (.int hi), .unset, .unset] [])) _
          refine Go.by (fun tt_ kk_ => XS.iconst X.here hx rfl (hb hby at_121) kk_) ?_
          show Go p.tables e below (T.setTop (mkF m 122 #[.val (.int p0), .val (.int p1), .val (.int p2), .val (.int p3), .val (.int fr), .val (.int ee), .val (.int sp), .val (.int to), .val (.int th), .val (.int du), .val (.double r), .second, .val (.int lo), .val (.int hi), .unset, .unset] [(.int (1 : Int32))])) _
          refine Go.by (fun tt_ kk_ => XS.goto X.here hx rfl (pc0 := 122) (pc' := 126) rfl (hb hby at_122) (by decide) (by decide) kk_) ?_
          show Go p.tables e below (T.setTop (mkF m 126 #[.val (.int p0), .val (.int p1), .val (.int p2), .val (.int p3), .val (.int fr), .val (.int ee), .val (.int sp), .val (.int to), .val (.int th), .val (.int du), .val (.double r), .second, .val (.int lo), .val (.int hi), .unset, .unset] [(.int (1 : Int32))])) _
          exact Go.done X  (v := some (.int (1 : Int32))) (fun h => by rw [Bd.returns] at h; cases h) Bd.notSynchronized (fun fs hr => retN X hx (z := (1 : Int32)) (t := .boolean) Bd.returns (by simp) (hb hby at_126) hr) (by rw [eT]; exact ⟨rfl, N⟩) (by decide) (by decide)
      · have k104 : du.toInt ≤ 0 := Int.not_lt.mp fun q => hc104 (Int32.lt_iff_toInt_lt.mpr q)
        refine Go.by (fun tt_ kk_ => XS.ifYes X.here hx rfl (pc0 := 104) (pc' := 114) rfl (hb hby at_104) rfl ((if0 _ _).trans (flt hc104).2.2.2) (by decide) (by decide) kk_) ?_
        show Go p.tables e below (T.setTop (mkF m 114 #[.val (.int p0), .val (.int p1), .val (.int p2), .val (.int p3), .val (.int fr), .val (.int ee), .val (.int sp), .val (.int to), .val (.int th), .val (.int du), .val (.double r), .second, .val (.int lo), .val (.int hi), .unset, .unset] [])) _
        refine Go.by (fun tt_ kk_ => XS.dload X.here hx rfl (hb hby at_114) rfl kk_) ?_
        show Go p.tables e below (T.setTop (mkF m 116 #[.val (.int p0), .val (.int p1), .val (.int p2), .val (.int p3), .val (.int fr), .val (.int ee), .val (.int sp), .val (.int to), .val (.int th), .val (.int du), .val (.double r), .second, .val (.int lo), .val (.int hi), .unset, .unset] [(.double r)])) _
        refine Go.by (fun tt_ kk_ => XS.dconst0 X.here hx rfl (hb hby at_116) (v := (0 : UInt64)) rfl kk_) ?_
        show Go p.tables e below (T.setTop (mkF m 117 #[.val (.int p0), .val (.int p1), .val (.int p2), .val (.int p3), .val (.int fr), .val (.int ee), .val (.int sp), .val (.int to), .val (.int th), .val (.int du), .val (.double r), .second, .val (.int lo), .val (.int hi), .unset, .unset] [(.double (0 : UInt64)), (.double r)])) _
        have z : Dy 0 0 r := by
          rcases hP with ⟨-, q⟩ | ⟨q1, q2, q3, -⟩ | ⟨q1, e, -, ⟨q2, q3, -⟩ | ⟨q2, q3, -⟩⟩
          · exact q
          · exfalso; omega
          · exfalso; omega
          · exfalso; omega
        refine Go.by (fun tt_ kk_ => XS.dcmpS X.here hx rfl (hb hby at_117) rfl ((z.cmpV (own_zero 0) .l).trans (own_ci_eq.mpr rfl)) kk_) ?_
        show Go p.tables e below (T.setTop (mkF m 118 #[.val (.int p0), .val (.int p1), .val (.int p2), .val (.int p3), .val (.int fr), .val (.int ee), .val (.int sp), .val (.int to), .val (.int th), .val (.int du), .val (.double r), .second, .val (.int lo), .val (.int hi), .unset, .unset] [(.int (0 : Int32))])) _
        refine Go.by (fun tt_ kk_ => XS.ifNo X.here hx rfl (hb hby at_118) rfl ((if0 _ _).trans (teq (rfl : (0 : Int32) = (0 : Int32))).2) kk_) ?_
        show Go p.tables e below (T.setTop (mkF m 121 #[.val (.int p0), .val (.int p1), .val (.int p2), .val (.int p3), .val (.int fr), .val (.int ee), .val (.int sp), .val (.int to), .val (.int th), .val (.int du), .val (.double r), .second, .val (.int lo), .val (.int hi), .unset, .unset] [])) _
        refine Go.by (fun tt_ kk_ => XS.iconst X.here hx rfl (hb hby at_121) kk_) ?_
        show Go p.tables e below (T.setTop (mkF m 122 #[.val (.int p0), .val (.int p1), .val (.int p2), .val (.int p3), .val (.int fr), .val (.int ee), .val (.int sp), .val (.int to), .val (.int th), .val (.int du), .val (.double r), .second, .val (.int lo), .val (.int hi), .unset, .unset] [(.int (1 : Int32))])) _
        refine Go.by (fun tt_ kk_ => XS.goto X.here hx rfl (pc0 := 122) (pc' := 126) rfl (hb hby at_122) (by decide) (by decide) kk_) ?_
        show Go p.tables e below (T.setTop (mkF m 126 #[.val (.int p0), .val (.int p1), .val (.int p2), .val (.int p3), .val (.int fr), .val (.int ee), .val (.int sp), .val (.int to), .val (.int th), .val (.int du), .val (.double r), .second, .val (.int lo), .val (.int hi), .unset, .unset] [(.int (1 : Int32))])) _
        exact Go.done X  (v := some (.int (1 : Int32))) (fun h => by rw [Bd.returns] at h; cases h) Bd.notSynchronized (fun fs hr => retN X hx (z := (1 : Int32)) (t := .boolean) Bd.returns (by simp) (hb hby at_126) hr) (by rw [eT]; exact ⟨rfl, N⟩) (by decide) (by decide)
set_option maxRecDepth 65536 in
set_option maxHeartbeats 40000000 in
theorem comes_1 {Post : Tables → Env → Array Value → State → Outcome → State → Prop} (hpost : ∀ tb e args s v u, (limb_1_1.after args s (.returned v) u = true ∧ limb_1_2.after args s (.returned v) u = true ∧ True) → FrameEnd s (.returned v) u (Jvm.fieldLocs frame_1_writes args s ++ Jvm.arrayLocs frame_1_arrays args s ++ Jvm.staticLocs frame_1_statics s) 0 0 → Post tb e args s (.returned v) u) :
    ArmFor flags0 classFile x code maxLocals ret World_1 tables_1 room_1 Calls_1 rest_1 Pre_1 Post := by
  intro l hfl _ _ p e ha hc hk s m args below hf hA hF happ hP
  obtain ⟨hcalls, hrest, hpre⟩ := hP
  obtain ⟨-, -, -, hnamed, -, -, -, hat⟩ := (Spec.applies_iff hf).mp happ
  obtain ⟨hg, hn⟩ := and_e (Cond.before_iff.mp (show (Jvm.Cond.and given_1 narrow_1).before args s = true from hpre))
  obtain ⟨hcount, hg⟩ := and_e hg
  obtain ⟨hv0, hg⟩ := and_e hg
  obtain ⟨hv1, hg⟩ := and_e hg
  obtain ⟨hv2, hg⟩ := and_e hg
  have hv3 := hg
  obtain ⟨w0, w1, w2, w3, rfl⟩ : ∃ w0 w1 w2 w3 : Value, args = #[w0, w1, w2, w3] := by
    have hs : args.size = 4 := by simpa [Cond.value, given_1] using hcount
    obtain ⟨L⟩ := args
    match L, hs with
    | [w0, w1, w2, w3], _ => exact ⟨w0, w1, w2, w3, rfl⟩
  have hw := fun d (hd : d ∈ tables_1) => atoms_spec (ws := Jvm.Cond.code x code maxLocals ret :: tables_1) hat d (List.mem_cons_of_mem _ hd)
  have hfit : Fit s := fun {y c} hc i hi => by
    obtain ⟨ha, rfl⟩ := Array.getElem?_eq_some_iff.mp hc
    have q := List.all_eq_true.mp ((Array.all_eq_true_iff_forall_mem.mp hF) _ (Array.getElem_mem ha)) i (List.mem_range.mpr hi)
    simpa [Array.getElem?_eq_getElem hi] using q
  obtain ⟨i0, ei0⟩ := is_v hv0
  obtain rfl : w0 = (.int i0) := Option.some.inj ei0
  obtain ⟨i1, ei1⟩ := is_v hv1
  obtain rfl : w1 = (.int i1) := Option.some.inj ei1
  obtain ⟨i2, ei2⟩ := is_v hv2
  obtain rfl : w2 = (.int i2) := Option.some.inj ei2
  obtain ⟨i3, ei3⟩ := is_v hv3
  obtain rfl : w3 = (.int i3) := Option.some.inj ei3
  obtain ⟨n, o, h1, h2, h3, _, L, rfl, ⟨rfl, N⟩, hq⟩ := rm0 l s _ hw tables_1 i0 i1 i2 i3  s.heap s.heap.size (Nat.le_refl _)  p e ha hc hk s m _ below hf ((Spec.applies_iff_loose hf).mp happ).1 ⟨rfl, State.Warmed39.refl s, rfl⟩ trivial
  refine ⟨n, _, h1, h2, h3, hpost _ _ _ _ _ _ ⟨Cond.after_iff.mpr rfl, Cond.after_iff.mpr (eq_i res_at (Term.int_eval (1)) rfl), trivial⟩ ⟨hq.1, hq.2.1, (hq.2.2.sift fun y hy => Or.inr (N y hy)).mono (by decide) (by decide)⟩⟩
theorem main_1_1 : Claimed_1_1 := comes_1 fun _ _ _ _ _ _ h hF => ⟨h.1, hF⟩
theorem main_1_2 : Claimed_1_2 := comes_1 fun _ _ _ _ _ _ h hF => ⟨h.2.1, hF⟩
end Jvm.Pilot.@@N@@
namespace Jvm.Pilot.@@N@@
open Jvm Jvm.ClassFile Sem Op Lib Jvm.Free Jvm.Stand Jvm.Pilot.@@N@@.Jvm.D
/-! MADE BY PROGRAM (witnessworld.py) out of the Statement's table words and the real class files: 10 classes; the members and pool entries that the words name. The judged class is class 1, her method 1. -/
namespace start1
open Jvm.ClassFile
def u (s : String) : CpInfo := .utf8 (stringToUtf16 s)
/-- a pool by its gaps: so many unusable entries, then the entry; so many at the end -/
def gap : Nat → List CpInfo → List CpInfo
  | 0, r => r
  | n + 1, r => .unusable :: gap n r
def poolList (es : List (Nat × CpInfo)) (last : Nat) : List CpInfo := es.foldr (fun e r => gap e.1 (e.2 :: r)) (gap last [])
def pool (es : List (Nat × CpInfo)) (last : Nat) : Array CpInfo := ⟨poolList es last⟩
def fileOf (pool : Array CpInfo) (this : Nat) (attrs : Array Attribute := #[]) (ms : Array MethodInfo := #[]) (fl : Nat := 33) (sup : Nat := 0) (ifs : Array Nat := #[]) (fds : Array FieldInfo := #[]) : ClassFile where
  minorVersion := 0
  majorVersion := 65
  constantPool := pool
  accessFlags := fl
  thisClass := this
  superClass := sup
  interfaces := ifs
  fields := fds
  methods := ms
  attributes := attrs
def plain (name : String) (sup : Option ClassId) : Class where
  name := name
  kind := .ordinary
  loader := none
  accessFlags := 33
  super := sup
  interfaces := #[]
  cf := none
  fields := #[]
  methods := #[]
  instanceTypes := #[]
  staticTypes := #[]
  resolved := #[]
  callSites := []
  init := .initialized
  statics := none
  mirror := none

def pool0 : Array CpInfo := pool [(5, u "<init>"), (0, u "()V"), (1, .class_ 10), (1, u "java/lang/Object")] 113

def k0m0 : Method := { name := "<init>", desc := "()V", sig := { parameters := [], returnType := none }, accessFlags := 1, code := none }
/-- java/lang/Object -/
def k0 : Class := { plain "java/lang/Object" none with
  accessFlags := 33
  interfaces := #[]
  cf := some (fileOf pool0 8 #[] #[{ accessFlags := 1, nameIndex := 5, descriptorIndex := 6, attributes := #[] }] 33 0 #[] #[])
  fields := #[]
  methods := #[k0m0]
  instanceTypes := #[]
  staticTypes := #[]
  resolved := Array.replicate 124 none
  statics := none }

def pool1 : Array CpInfo := pool [(2, .class_ 4), (1, u "java/lang/Object"), (0, u "<init>"), (0, u "()V"), (0, .integer 1048576), (0, .methodref 9 10), (0, .class_ 11), (0, .nameAndType 12 13), (0, u "com/example/eindhoven/eindhoven/engine/Motion"), (0, u "timeBelow"), (0, u "(DDDD)D"), (0, .methodref 15 16), (0, .class_ 17), (0, .nameAndType 18 19), (0, u "java/lang/Math"), (0, u "min"), (0, u "(II)I"), (0, .methodref 15 21), (0, .nameAndType 22 19), (0, u "max"), (0, .class_ 24), (0, u "com/example/eindhoven/eindhoven/engine/MotionTimeBelowPinLaw"), (2, u "law"), (0, u "(IIII)Z")] 3

def k1m0 : Method := { name := "<init>", desc := "()V", sig := { parameters := [], returnType := none }, accessFlags := 2, code := none }
def k1c1 : Code := { maxStack := 8, maxLocals := 16, code := code, exceptionTable := #[], attributes := #[] }
def k1m1 : Method := { name := "law", desc := "(IIII)Z", sig := { parameters := [.int, .int, .int, .int], returnType := some .boolean }, accessFlags := 9, code := some k1c1 }
/-- com/example/eindhoven/eindhoven/engine/MotionTimeBelowPinLaw -/
def k1 : Class := { plain "com/example/eindhoven/eindhoven/engine/MotionTimeBelowPinLaw" (some 0) with
  accessFlags := 49
  interfaces := #[]
  cf := some (fileOf pool1 23 #[] #[{ accessFlags := 2, nameIndex := 5, descriptorIndex := 6, attributes := #[] }, { accessFlags := 9, nameIndex := 27, descriptorIndex := 28, attributes := #[] }] 49 2 #[] #[])
  fields := #[]
  methods := #[k1m0, k1m1]
  instanceTypes := #[]
  staticTypes := #[]
  resolved := Array.replicate 32 none
  statics := none }

def pool2 : Array CpInfo := pool [(2, .class_ 4), (1, u "java/lang/Object"), (0, u "<init>"), (0, u "()V"), (16, .class_ 24), (0, u "com/example/eindhoven/eindhoven/engine/Motion"), (3, u "(DDDD)D"), (3, u "timeBelow")] 2

def k2m0 : Method := { name := "<init>", desc := "()V", sig := { parameters := [], returnType := none }, accessFlags := 2, code := none }
def k2c1 : Code := { maxStack := 6, maxLocals := 12, code := prog_21_method_5_code, exceptionTable := #[], attributes := #[] }
def k2m1 : Method := { name := "timeBelow", desc := "(DDDD)D", sig := { parameters := [.double, .double, .double, .double], returnType := some .double }, accessFlags := 8, code := some k2c1 }
/-- com/example/eindhoven/eindhoven/engine/Motion -/
def k2 : Class := { plain "com/example/eindhoven/eindhoven/engine/Motion" (some 0) with
  accessFlags := 48
  interfaces := #[]
  cf := some (fileOf pool2 23 #[] #[{ accessFlags := 2, nameIndex := 5, descriptorIndex := 6, attributes := #[] }, { accessFlags := 8, nameIndex := 32, descriptorIndex := 28, attributes := #[] }] 48 2 #[] #[])
  fields := #[]
  methods := #[k2m0, k2m1]
  instanceTypes := #[]
  staticTypes := #[]
  resolved := Array.replicate 35 none
  statics := none }

def pool3 : Array CpInfo := pool [(1, .class_ 2), (0, u "java/lang/Math"), (1, .class_ 6), (1, u "java/lang/Object"), (0, u "<init>"), (0, u "()V"), (89, .class_ 100), (1, u "java/lang/Math$RandomNumberGeneratorHolder"), (71, u "negativeZeroFloatBits"), (0, u "J"), (2, u "negativeZeroDoubleBits"), (21, u "max"), (2, u "min"), (43, u "$assertionsDisabled"), (0, u "Z"), (88, u "(II)I"), (2, u "twoToTheDoubleScaleDown"), (0, u "D"), (4, u "twoToTheDoubleScaleUp"), (9, u "E"), (3, u "PI"), (2, u "TAU"), (2, u "DEGREES_TO_RADIANS"), (0, u "RADIANS_TO_DEGREES")] 94

def k3m0 : Method := { name := "<init>", desc := "()V", sig := { parameters := [], returnType := none }, accessFlags := 2, code := none }
def k3c1 : Code := { maxStack := 2, maxLocals := 2, code := jdk_29_method_65_code, exceptionTable := #[], attributes := #[] }
def k3m1 : Method := { name := "max", desc := "(II)I", sig := { parameters := [.int, .int], returnType := some .int }, accessFlags := 9, code := some k3c1 }
def k3c2 : Code := { maxStack := 2, maxLocals := 2, code := jdk_29_method_69_code, exceptionTable := #[], attributes := #[] }
def k3m2 : Method := { name := "min", desc := "(II)I", sig := { parameters := [.int, .int], returnType := some .int }, accessFlags := 9, code := some k3c2 }
/-- java/lang/Math -/
def k3 : Class := { plain "java/lang/Math" (some 0) with
  accessFlags := 49
  interfaces := #[]
  cf := some (fileOf pool3 1 #[.nestMembers #[98]] #[{ accessFlags := 2, nameIndex := 7, descriptorIndex := 8, attributes := #[] }, { accessFlags := 9, nameIndex := 198, descriptorIndex := 335, attributes := #[] }, { accessFlags := 9, nameIndex := 201, descriptorIndex := 335, attributes := #[] }] 49 4 #[] #[{ accessFlags := 25, nameIndex := 354, descriptorIndex := 339, attributes := #[] }, { accessFlags := 25, nameIndex := 358, descriptorIndex := 339, attributes := #[] }, { accessFlags := 25, nameIndex := 361, descriptorIndex := 339, attributes := #[] }, { accessFlags := 26, nameIndex := 364, descriptorIndex := 339, attributes := #[] }, { accessFlags := 26, nameIndex := 365, descriptorIndex := 339, attributes := #[] }, { accessFlags := 26, nameIndex := 172, descriptorIndex := 173, attributes := #[] }, { accessFlags := 26, nameIndex := 176, descriptorIndex := 173, attributes := #[] }, { accessFlags := 8, nameIndex := 344, descriptorIndex := 339, attributes := #[] }, { accessFlags := 8, nameIndex := 338, descriptorIndex := 339, attributes := #[] }, { accessFlags := 4120, nameIndex := 245, descriptorIndex := 246, attributes := #[] }])
  fields := #[{ name := "E", type := .double, accessFlags := 25, slot := 0, constantValue := 0 }, { name := "PI", type := .double, accessFlags := 25, slot := 1, constantValue := 0 }, { name := "TAU", type := .double, accessFlags := 25, slot := 2, constantValue := 0 }, { name := "DEGREES_TO_RADIANS", type := .double, accessFlags := 26, slot := 3, constantValue := 0 }, { name := "RADIANS_TO_DEGREES", type := .double, accessFlags := 26, slot := 4, constantValue := 0 }, { name := "negativeZeroFloatBits", type := .long, accessFlags := 26, slot := 5, constantValue := 0 }, { name := "negativeZeroDoubleBits", type := .long, accessFlags := 26, slot := 6, constantValue := 0 }, { name := "twoToTheDoubleScaleUp", type := .double, accessFlags := 8, slot := 7, constantValue := 0 }, { name := "twoToTheDoubleScaleDown", type := .double, accessFlags := 8, slot := 8, constantValue := 0 }, { name := "$assertionsDisabled", type := .boolean, accessFlags := 4120, slot := 9, constantValue := 0 }]
  methods := #[k3m0, k3m1, k3m2]
  instanceTypes := #[]
  staticTypes := #[.double, .double, .double, .double, .double, .long, .long, .double, .double, .boolean]
  resolved := Array.replicate 460 none
  statics := none }

def pool4 : Array CpInfo := pool [(1, u "java/lang/Cloneable"), (0, .class_ 1), (0, u "java/lang/Object"), (0, .class_ 3)] 3

/-- java/lang/Cloneable -/
def k4 : Class := { plain "java/lang/Cloneable" (some 0) with
  accessFlags := 1537
  interfaces := #[]
  cf := some (fileOf pool4 2 #[] #[] 1537 4 #[] #[])
  fields := #[]
  methods := #[]
  instanceTypes := #[]
  staticTypes := #[]
  resolved := Array.replicate 8 none
  statics := none }

def pool5 : Array CpInfo := pool [(1, u "java/io/Serializable"), (0, .class_ 1), (0, u "java/lang/Object"), (0, .class_ 3)] 3

/-- java/io/Serializable -/
def k5 : Class := { plain "java/io/Serializable" (some 0) with
  accessFlags := 1537
  interfaces := #[]
  cf := some (fileOf pool5 2 #[] #[] 1537 4 #[] #[])
  fields := #[]
  methods := #[]
  instanceTypes := #[]
  staticTypes := #[]
  resolved := Array.replicate 8 none
  statics := none }

/-- the primitive byte -/
def k6 : Class := { plain "byte" none with kind := .primitive 'B', accessFlags := 0x411 }
/-- [B -/
def k7 : Class := { plain "[B" (some 0) with kind := .array 6 .byte, interfaces := #[4, 5], accessFlags := 1041 }

/-- the primitive int -/
def k8 : Class := { plain "int" none with kind := .primitive 'I', accessFlags := 0x411 }
/-- [I -/
def k9 : Class := { plain "[I" (some 0) with kind := .array 8 .int, interfaces := #[4, 5], accessFlags := 1041 }

def heap : Heap := #[]
def classes : Array Class := #[k0, k1, k2, k3, k4, k5, k6, k7, k8, k9]
def interned : List (Array UInt16 × Addr) := []
def slotsUsed : Nat := 0
def theMethod : MethodId := ⟨1, 1⟩
def args0 : Array Value := #[.int 1, .int 2, .int 3, .int 4]
def aboutOver (below : List Frame) : State where
  vm := { classes := classes, interned := interned.toArray }
  heap := heap
  slotsUsed := slotsUsed
  threads := #[{ frames := .invoking theMethod args0 :: below }]
def below0 : List Frame := [.native { method := ⟨0, 0⟩, args := #[] }]
def about1 : State := aboutOver below0
def p0 : Program := .bare "" "" ""
def e0 : Env := launch0.env 0 0 0
theorem w_frames : about1.frames = Frame.invoking theMethod args0 :: below0 := rfl
set_option maxRecDepth 65536 in
theorem w_args : argsFit about1.vm theMethod args0 = true := by decide +kernel
set_option maxRecDepth 65536 in
theorem w_heap : heapFits about1 = true := by decide +kernel
set_option maxRecDepth 65536 in
theorem w_runnable : about1.curStatus? = some .runnable := by decide +kernel
set_option maxRecDepth 65536 in
theorem w_alone : about1.alone = true := by decide +kernel
set_option maxRecDepth 65536 in
theorem w_named : about1.methodNamed? x = some theMethod := by decide +kernel
set_option maxRecDepth 65536 in
theorem w_hears : about1.hears theMethod below0 = true := by decide +kernel
set_option maxRecDepth 65536 in
theorem w_ripe : about1.ripe theMethod args0 below0 = true := by decide +kernel
theorem w_running : about1.status = .running := rfl
set_option maxRecDepth 65536 in
theorem w_room : about1.hasRoom e0.platform room_1 = true :=
  launch0.hasRoom_least _ room_1 (by decide +kernel) (by decide +kernel) (by decide +kernel) (by decide +kernel) (by decide +kernel) (by decide +kernel)
theorem allAtoms_all (ts : List Jvm.Cond) (a : Array Jvm.Value) (st : Jvm.State) : (allAtoms ts).before a st = ts.all (fun c => c.before a st) := by
  induction ts with
  | nil => rfl
  | cons c t ih =>
    show (Jvm.Cond.and c (allAtoms t)).before a st = _
    rw [Jvm.Cond.before_and, ih, List.all_cons]
def words1 : List Jvm.Cond := Jvm.Cond.code x code maxLocals ret :: tables_1
/-- a 'code' word, met by the world's own term for the bytes: nothing is compared byte by byte -/
theorem code_word {y : MethodName} {bytes : ByteArray} {mx : Nat} {rt : Option FieldType} {a : Array Value} {s : State} {m : MethodId} {meth : Method} {c : Code} (h1 : s.methodNamed? y = some m) (h2 : s.vm.method? m = some meth) (h3 : meth.code = some c) (h4 : c.code = bytes)
    (h5 : (c.maxLocals == mx && c.exceptionTable.isEmpty && decide (c.maxStack ≤ mostOperands) && decide (meth.sig.returnType = rt) && !meth.locks && decide (parseMethodDescriptor y.desc = some meth.sig)) = true) : (Jvm.Cond.code y bytes mx rt).before a s = true := by
  simp only [Bool.and_eq_true, beq_iff_eq, Bool.not_eq_true', decide_eq_true_eq] at h5
  obtain ⟨⟨⟨⟨⟨g1, g2⟩, g3⟩, g4⟩, g5⟩, g6⟩ := h5
  simp [Cond.before, Cond.holds, Cond.value, h1, h2, h3, h4, g1, g2, g3, g4, g5, g6]
def isCode : Jvm.Cond → Bool
  | .code _ _ _ _ => true
  | _ => false
theorem all_split {L : List Jvm.Cond} {P : Jvm.Cond → Bool} (h1 : L.all (fun c => isCode c || P c) = true) (h2 : ∀ c ∈ L.filter isCode, P c = true) : L.all P = true := by
  refine List.all_eq_true.mpr fun c hc => ?_
  have h := List.all_eq_true.mp h1 c hc
  rcases Bool.eq_false_or_eq_true (isCode c) with hi | hi
  · exact h2 c (List.mem_filter.mpr ⟨hc, hi⟩)
  · simpa [hi] using h
set_option maxRecDepth 65536 in
theorem w_c0 : (Jvm.Cond.code x code maxLocals ret).before args0 about1 = true := code_word (m := ⟨1, 1⟩) (meth := k1m1) (c := k1c1) (by decide +kernel) rfl rfl rfl (by decide +kernel)
set_option maxRecDepth 65536 in
theorem w_c1 : (Jvm.Cond.code ({ cls := "com/example/eindhoven/eindhoven/engine/Motion", name := "timeBelow", desc := "(DDDD)D" } : Jvm.MethodName) prog_21_method_5_code (12 : Nat) (Option.some Jvm.ClassFile.FieldType.double)).before args0 about1 = true := code_word (m := ⟨2, 1⟩) (meth := k2m1) (c := k2c1) (by decide +kernel) rfl rfl rfl (by decide +kernel)
set_option maxRecDepth 65536 in
theorem w_c2 : (Jvm.Cond.code ({ cls := "java/lang/Math", name := "min", desc := "(II)I" } : Jvm.MethodName) jdk_29_method_69_code (2 : Nat) (Option.some Jvm.ClassFile.FieldType.int)).before args0 about1 = true := code_word (m := ⟨3, 2⟩) (meth := k3m2) (c := k3c2) (by decide +kernel) rfl rfl rfl (by decide +kernel)
set_option maxRecDepth 65536 in
theorem w_c3 : (Jvm.Cond.code ({ cls := "java/lang/Math", name := "max", desc := "(II)I" } : Jvm.MethodName) jdk_29_method_65_code (2 : Nat) (Option.some Jvm.ClassFile.FieldType.int)).before args0 about1 = true := code_word (m := ⟨3, 1⟩) (meth := k3m1) (c := k3c1) (by decide +kernel) rfl rfl rfl (by decide +kernel)
def codes1 : List Jvm.Cond := [Jvm.Cond.code x code maxLocals ret, Jvm.Cond.code ({ cls := "com/example/eindhoven/eindhoven/engine/Motion", name := "timeBelow", desc := "(DDDD)D" } : Jvm.MethodName) prog_21_method_5_code (12 : Nat) (Option.some Jvm.ClassFile.FieldType.double), Jvm.Cond.code ({ cls := "java/lang/Math", name := "min", desc := "(II)I" } : Jvm.MethodName) jdk_29_method_69_code (2 : Nat) (Option.some Jvm.ClassFile.FieldType.int), Jvm.Cond.code ({ cls := "java/lang/Math", name := "max", desc := "(II)I" } : Jvm.MethodName) jdk_29_method_65_code (2 : Nat) (Option.some Jvm.ClassFile.FieldType.int)]
set_option maxRecDepth 65536 in
theorem codes_eq : words1.filter isCode = codes1 := rfl
theorem w_codes : ∀ c ∈ words1.filter isCode, c.before args0 about1 = true := by
  rw [codes_eq]
  intro c hc
  simp only [codes1, List.mem_cons, List.not_mem_nil, or_false] at hc
  rcases hc with rfl | rfl | rfl | rfl
  · exact w_c0
  · exact w_c1
  · exact w_c2
  · exact w_c3
set_option maxRecDepth 65536 in
theorem w_t1 : words1.all (fun c => isCode c || c.before args0 about1) = true := by decide +kernel
theorem w_tables : (allAtoms (Jvm.Cond.code x code maxLocals ret :: tables_1)).before args0 about1 = true := by
  rw [allAtoms_all]
  show words1.all (fun c => c.before args0 about1) = true
  refine all_split ?_ w_codes
  rw [w_t1]
set_option maxRecDepth 65536 in
theorem w_case : (Jvm.Cond.and given_1 narrow_1).before args0 about1 = true := by decide +kernel
theorem w_applies : (headSpec (Jvm.Cond.code x code maxLocals ret :: tables_1) room_1).applies x e0.platform about1 = true :=
  (Spec.applies_iff w_frames).mpr ⟨w_running, w_runnable, w_alone, w_named, w_hears, w_ripe, w_room, w_tables⟩
theorem atStart : AtStart classFile x code maxLocals ret World_1 tables_1 room_1 Calls_1 rest_1 Pre_1 launch0 p0 e0 about1 theMethod args0 below0 :=
  ⟨lists_1, trivial, launch0.admits_env _ _ _, launch0.least_env, fairChoices_fair.cas, fairChoices_fair.clock, w_frames, w_args, w_heap, w_applies, trivial, trivial, w_case⟩
end start1
theorem witness_1 : WitnessClaimed_1 := ⟨start1.p0, start1.e0, start1.about1, start1.theMethod, start1.args0, start1.below0, start1.atStart⟩
end Jvm.Pilot.@@N@@
