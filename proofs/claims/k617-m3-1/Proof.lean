import JvmDerived
import JvmDerived.Pilot.@@N@@Statement
import JvmDerived.Pilot.@@N@@Code
set_option linter.unusedVariables false
set_option linter.unusedSimpArgs false
namespace Jvm.OwnGo
open Jvm Sem ClassFile Op Lib Jvm.Stand Jvm.Free Jvm.LawKit Jvm.RoadKit
/-- from A the run comes to a state of which K is said -/
def Go (tb : Tables) (e : Env) (below : List Frame) (A : State) (K : State → Prop) : Prop := ∃ u, Steps tb e below A u ∧ K u
theorem Go.by {tb : Tables} {e : Env} {below : List Frame} {A B : State} {K : State → Prop} (h : ∀ t, Steps tb e below B t → Steps tb e below A t) (g : Go tb e below B K) : Go tb e below A K := by
  obtain ⟨u, s, k⟩ := g
  exact ⟨u, h u s, k⟩
theorem Go.tr {tb : Tables} {e : Env} {below : List Frame} {A B : State} {K : State → Prop} (h : Steps tb e below A B) (g : Go tb e below B K) : Go tb e below A K := by
  obtain ⟨u, s, k⟩ := g
  exact ⟨u, h.trans s, k⟩
theorem Go.out {tb : Tables} {e : Env} {below : List Frame} {A : State} {P : State → Outcome → Prop} (g : Go tb e below A (fun u => ∃ o, P u o)) : ∃ u o, Steps tb e below A u ∧ P u o := by
  obtain ⟨u, s, o, k⟩ := g
  exact ⟨u, o, s, k⟩
theorem Go.done {p : Program} {l : Launch} {e : Env} {R : Room} {s : State} {m : MethodId} {args : Array Value} {below : List Frame} {meth : Method} {c : Code} {T : State} {locs : List Loc} {cells slots C D : Nat}
    (X : Stand p l e R s m args below meth c T locs cells slots) {v : Option Value} (hv : meth.sig.returnType = none → v = none) (hlocks : meth.locks = false) {A : State}
    (hst : ∀ fs, (∀ (f : JFrame) (acts : List Action), f.method = m → f.locked = none → f.entered = [] → (doReturn e (T.setTop f) acts v).1 = T.setFrames fs) → Steps p.tables e below A (T.setFrames fs))
    {Q : Option Value → Heap → List Loc → Prop} (hq : Q v T.heap locs) (hc : cells ≤ C) (hs : slots ≤ D) :
    Go p.tables e below A (fun u => ∃ o, u.status = .running ∧ Ended u below o ∧ ∃ v L, o = .returned v ∧ Q v u.heap L ∧ FrameEnd s o u L C D) := by
  obtain ⟨fs, hr, hrun, hended, hW, hsame⟩ := X.leave hv hlocks
  exact ⟨_, hst fs hr, _, hrun, hended, _, _, rfl, hq, ⟨_, rfl⟩, hW, hsame.mono hc hs⟩
theorem Go.doneW {p : Program} {l : Launch} {e : Env} {R : Room} {s : State} {m : MethodId} {args : Array Value} {below : List Frame} {meth : Method} {c : Code} {T : State} {locs : List Loc} {cells slots C D : Nat} {vm1 : Vm}
    (X : Stand p l e R (s.setVm vm1) m args below meth c T locs cells slots) {n : Nat} (hS : s.Since vm1 n) (hn : n ≤ T.heap.size) {v : Option Value} (hv : meth.sig.returnType = none → v = none) (hlocks : meth.locks = false) {A : State}
    (hst : ∀ fs, (∀ (f : JFrame) (acts : List Action), f.method = m → f.locked = none → f.entered = [] → (doReturn e (T.setTop f) acts v).1 = T.setFrames fs) → Steps p.tables e below A (T.setFrames fs))
    {Q : Option Value → Heap → List Loc → Prop} (hq : Q v T.heap locs) (hc : cells ≤ C) (hs : slots ≤ D) :
    Go p.tables e below A (fun u => ∃ o, u.status = .running ∧ Ended u below o ∧ ∃ v L, o = .returned v ∧ Q v u.heap L ∧ ReturnedEndW s o u L C D) := by
  obtain ⟨fs, hr, hrun, hended, h1, h2, h3, h4⟩ := X.leaveW hS hn hv hlocks
  exact ⟨_, hst fs hr, _, hrun, hended, _, _, rfl, hq, h1, h2, h3, h4.mono hc hs⟩
end Jvm.OwnGo
namespace Jvm.OwnFp
open Jvm.FP Jvm.FP.Core Jvm.Free.Fl
/-- the double a is i * 2^e -/
def Dy (i e : Int) (a : UInt64) : Prop := ∃ s c q, val64 a = .fin s c q ∧ Whole i (.fin s c (q - e))
theorem own_const {i e : Int} {a : UInt64} (s : Bool) (c : Nat) (q : Int) (h1 : val64 a = .fin s c q) (h2 : signed s (c * 2 ^ (q - e).toNat) = i * ((2 ^ (-(q - e)).toNat : Nat) : Int)) : Dy i e a := ⟨s, c, q, h1, h2⟩
theorem Dy.noNaN {i e : Int} {a : UInt64} (h : Dy i e a) : NoNaN64 a := by
  obtain ⟨s, c, q, h1, -⟩ := h
  exact val64_no.mpr (by rw [h1]; exact fun q => nomatch q)
theorem Dy.fin {i e : Int} {a : UInt64} (h : Dy i e a) : Fin64 a := by
  obtain ⟨s, c, q, h1, -⟩ := h
  exact fin64_core.mpr ⟨s, c, q, h1⟩
theorem own_fit (s : Bool) {n : Nat} (hn : n ≤ 9007199254740992) {e : Int} (h1 : -1074 ≤ e) (h2 : e ≤ 900) :
    ∃ c q, Core.fits b64 (.fin s c q) ∧ n * 2 ^ (e - q).toNat = c * 1 * 2 ^ (q - e).toNat := by
  have e1 : b64.qmin = -1074 := qmin_b64
  have e2 : b64.qmax = 971 := by decide
  have e3 : b64.tails = 2 ^ 52 := tails_b64
  have e4 : b64.p = 53 := rfl
  have k53 : (9007199254740992 : Nat) = 2 ^ 53 := by decide
  by_cases h0 : n = 0
  · subst h0
    exact ⟨0, b64.qmin, zero_fits good_b64 s, by simp⟩
  by_cases hp : n = 9007199254740992
  · refine ⟨2 ^ 52, e + 1, ⟨by rw [e4]; decide, by rw [e1]; omega, by rw [e2]; omega, Or.inr (by rw [e3]; exact Nat.le_refl _)⟩, ?_⟩
    rw [show (e - (e + 1)).toNat = 0 by omega, show (e + 1 - e).toNat = 1 by omega, hp]
  · have l1 : 2 ^ n.log2 ≤ n := Nat.log2_self_le h0
    have l2 : n < 2 ^ (n.log2 + 1) := Nat.lt_log2_self
    have l3 : n.log2 < 53 := (Nat.pow_lt_pow_iff_right (by decide : 1 < 2)).mp (Nat.lt_of_le_of_lt l1 (by omega))
    generalize n.log2 = L at l1 l2 l3
    by_cases hq : -1074 ≤ e - (52 - (L : Int))
    · refine ⟨n * 2 ^ (52 - L), e - (52 - (L : Int)), ⟨?_, by rw [e1]; omega, by rw [e2]; omega, Or.inr ?_⟩, ?_⟩
      · rw [e4]
        calc n * 2 ^ (52 - L) < 2 ^ (L + 1) * 2 ^ (52 - L) := Nat.mul_lt_mul_of_pos_right l2 (Nat.two_pow_pos _)
          _ = 2 ^ 53 := by rw [← Nat.pow_add]; congr 1; omega
      · rw [e3]
        calc 2 ^ 52 = 2 ^ L * 2 ^ (52 - L) := by rw [← Nat.pow_add]; congr 1; omega
          _ ≤ n * 2 ^ (52 - L) := Nat.mul_le_mul_right _ l1
      · rw [show (e - (e - (52 - (L : Int)))).toNat = 52 - L by omega, show (e - (52 - (L : Int)) - e).toNat = 0 by omega]
        simp
    · refine ⟨n * 2 ^ (e + 1074).toNat, -1074, ⟨?_, by rw [e1]; omega, by rw [e2]; omega, Or.inl e1.symm⟩, ?_⟩
      · rw [e4]
        calc n * 2 ^ (e + 1074).toNat < 2 ^ (L + 1) * 2 ^ (e + 1074).toNat := Nat.mul_lt_mul_of_pos_right l2 (Nat.two_pow_pos _)
          _ = 2 ^ (L + 1 + (e + 1074).toNat) := by rw [← Nat.pow_add]
          _ ≤ 2 ^ 53 := Nat.pow_le_pow_right (by decide) (by omega)
      · rw [show (e - -1074).toNat = (e + 1074).toNat by omega, show (-1074 - e).toNat = 0 by omega]
        simp
theorem own_sg {i : Int} {s : Bool} {c : Nat} {q : Int} (h : Whole i (.fin s c q)) : signed s i.natAbs = i := by
  by_cases hi : i = 0
  · rw [hi]; exact signed_zero s
  · rw [whole_sign h hi]
    unfold signed
    by_cases z : i < 0
    · simp only [z, decide_true, if_true]; omega
    · simp only [z, decide_false]; simp; omega
theorem own_whole {i e : Int} {s : Bool} {c : Nat} {q : Int} (hs : signed s i.natAbs = i) (h : i.natAbs * 2 ^ (e - q).toNat = c * 1 * 2 ^ (q - e).toNat) : Whole i (.fin s c (q - e)) := by
  show signed s (c * 2 ^ (q - e).toNat) = i * ((2 ^ (-(q - e)).toNat : Nat) : Int)
  rw [Nat.mul_one] at h
  rw [← h, signed_mul, hs, show -(q - e) = e - q by omega]
/-- a ratio that is i * 2^e -/
theorem own_ratio {i e : Int} {s : Bool} (hs : signed s i.natAbs = i) (hi : i.natAbs ≤ 9007199254740992) (h1 : -1074 ≤ e) (h2 : e ≤ 900) :
    ∃ c q, roundRatio b64 s i.natAbs 1 e = .fin s c q ∧ Whole i (.fin s c (q - e)) := by
  obtain ⟨c, q, hf, h⟩ := own_fit s hi h1 h2
  exact ⟨c, q, roundRatio_exact good_b64 Nat.one_pos hf h, own_whole hs h⟩
theorem own_round {i e : Int} {s : Bool} {c : Nat} {q : Int} (h : Whole i (.fin s c (q - e))) (hi : i.natAbs ≤ 9007199254740992) (h1 : -1074 ≤ e) (h2 : e ≤ 900) :
    ∃ s' c' q', Core.round b64 (.fin s c q) = .fin s' c' q' ∧ Whole i (.fin s' c' (q' - e)) := by
  obtain ⟨c', q', r1, r2⟩ := own_ratio (own_sg h) hi h1 h2
  refine ⟨s, c', q', ?_, r2⟩
  have w := whole_natAbs h
  show roundRatio b64 s c 1 q = _
  rw [← r1]
  refine roundRatio_congr Nat.one_pos Nat.one_pos ?_
  rw [Nat.mul_one, Nat.mul_one, w, show -(q - e) = e - q by omega]
theorem Dy.add {i j e : Int} {a b : UInt64} (ha : Dy i e a) (hb : Dy j e b) (hi : (i + j).natAbs ≤ 9007199254740992) (h1 : -1074 ≤ e) (h2 : e ≤ 900) : Dy (i + j) e (FP.dadd a b) := by
  obtain ⟨s, c, q, a1, a2⟩ := ha
  obtain ⟨t, d, r, b1, b2⟩ := hb
  have w := whole_sum a2 b2
  have hm : min (q - e) (r - e) = min q r - e := by omega
  have hV : sumUnits s c (q - e) t d (r - e) (min q r - e) = sumUnits s c q t d r (min q r) := by
    unfold sumUnits inUnits
    rw [show q - e - (min q r - e) = q - min q r by omega, show r - e - (min q r - e) = r - min q r by omega]
  simp only [exactSum] at w
  rw [hm, hV] at w
  obtain ⟨s', c', q', r1, r2⟩ := own_round w hi h1 h2
  exact ⟨s', c', q', by rw [val64_dadd, a1, b1]; exact r1, r2⟩
theorem Dy.sub {i j e : Int} {a b : UInt64} (ha : Dy i e a) (hb : Dy j e b) (hi : (i - j).natAbs ≤ 9007199254740992) (h1 : -1074 ≤ e) (h2 : e ≤ 900) : Dy (i - j) e (FP.dsub a b) := by
  obtain ⟨s, c, q, a1, a2⟩ := ha
  obtain ⟨t, d, r, b1, b2⟩ := hb
  have w := whole_sum a2 (whole_negate b2)
  have hm : min (q - e) (r - e) = min q r - e := by omega
  have hV : sumUnits s c (q - e) (!t) d (r - e) (min q r - e) = sumUnits s c q (!t) d r (min q r) := by
    unfold sumUnits inUnits
    rw [show q - e - (min q r - e) = q - min q r by omega, show r - e - (min q r - e) = r - min q r by omega]
  simp only [negate, exactSum] at w
  rw [hm, hV] at w
  obtain ⟨s', c', q', r1, r2⟩ := own_round w hi h1 h2
  exact ⟨s', c', q', by rw [val64_dsub, a1, b1]; exact r1, r2⟩
theorem Dy.mul {i j e g : Int} {a b : UInt64} (ha : Dy i e a) (hb : Dy j g b) (hi : (i * j).natAbs ≤ 9007199254740992) (h1 : -1074 ≤ e + g) (h2 : e + g ≤ 900) : Dy (i * j) (e + g) (FP.dmul a b) := by
  obtain ⟨s, c, q, a1, a2⟩ := ha
  obtain ⟨t, d, r, b1, b2⟩ := hb
  have w := whole_product a2 b2
  simp only [exactProduct] at w
  rw [show q - e + (r - g) = q + r - (e + g) by omega] at w
  obtain ⟨s', c', q', r1, r2⟩ := own_round w hi h1 h2
  exact ⟨s', c', q', by rw [val64_dmul, a1, b1]; exact r1, r2⟩
/-- an exact quotient -/
theorem Dy.div {k j e g : Int} {a b : UInt64} (ha : Dy (k * j) e a) (hb : Dy j g b) (hj : j ≠ 0) (hi : k.natAbs ≤ 9007199254740992) (h1 : -1074 ≤ e - g) (h2 : e - g ≤ 900) : Dy k (e - g) (FP.ddiv a b) := by
  obtain ⟨s, c, q, a1, a2⟩ := ha
  obtain ⟨t, d, r, b1, b2⟩ := hb
  have wa := whole_natAbs a2
  have wb := whole_natAbs b2
  have hd : d ≠ 0 := fun z => hj ((whole_zero b2).mp z)
  have hs : signed (s != t) k.natAbs = k := by
    by_cases hk : k = 0
    · rw [hk]; exact signed_zero _
    · have s1 := whole_sign a2 (Int.mul_ne_zero hk hj)
      have s2 := whole_sign b2 hj
      rw [s1, s2]
      unfold signed
      rcases Int.lt_or_gt_of_ne hk with z | z <;> rcases Int.lt_or_gt_of_ne hj with y | y
      · have := Int.mul_pos_of_neg_of_neg z y
        simp [show ¬ k * j < 0 by omega, y]; omega
      · have := Int.mul_neg_of_neg_of_pos z y
        simp [this, show ¬ j < 0 by omega]; omega
      · have := Int.mul_neg_of_pos_of_neg z y
        simp [this, y]; omega
      · have := Int.mul_pos z y
        simp [show ¬ k * j < 0 by omega, show ¬ j < 0 by omega]; omega
  obtain ⟨c', q', r1, r2⟩ := own_ratio hs hi h1 h2
  refine ⟨_, c', q', ?_, r2⟩
  rw [val64_ddiv, a1, b1]
  show (if d = 0 then _ else roundRatio b64 (s != t) c d (q - r)) = _
  rw [if_neg hd, ← r1]
  refine roundRatio_congr (Nat.pos_of_ne_zero hd) Nat.one_pos ?_
  rw [Nat.mul_one]
  rw [Int.natAbs_mul] at wa
  -- c * 2^(q-e)+ = |k| |j| 2^(q-e)- , d * 2^(r-g)+ = |j| 2^(r-g)-
  have hj' : 0 < j.natAbs := by omega
  apply Nat.eq_of_mul_eq_mul_right (Nat.mul_pos hj' (Nat.mul_pos (Nat.two_pow_pos (q - e).toNat) (Nat.two_pow_pos (-(r - g)).toNat)))
  calc c * 2 ^ (q - r - (e - g)).toNat * (j.natAbs * (2 ^ (q - e).toNat * 2 ^ (-(r - g)).toNat))
      = (c * 2 ^ (q - e).toNat) * (j.natAbs * 2 ^ (-(r - g)).toNat) * 2 ^ (q - r - (e - g)).toNat := by ac_rfl
    _ = (k.natAbs * j.natAbs * 2 ^ (-(q - e)).toNat) * (d * 2 ^ (r - g).toNat) * 2 ^ (q - r - (e - g)).toNat := by rw [wa, wb]
    _ = k.natAbs * d * j.natAbs * 2 ^ ((-(q - e)).toNat + (r - g).toNat + (q - r - (e - g)).toNat) := by rw [Nat.pow_add, Nat.pow_add]; ac_rfl
    _ = k.natAbs * d * j.natAbs * 2 ^ ((e - g - (q - r)).toNat + (q - e).toNat + (-(r - g)).toNat) := by congr 2; omega
    _ = k.natAbs * d * 2 ^ (e - g - (q - r)).toNat * (j.natAbs * (2 ^ (q - e).toNat * 2 ^ (-(r - g)).toNat)) := by rw [Nat.pow_add, Nat.pow_add]; ac_rfl
theorem Dy.scale {i e : Int} {a : UInt64} (h : Dy i e a) (k : Nat) : Dy (i * 2 ^ k) (e - k) a := by
  obtain ⟨s, c, q, a1, a2⟩ := h
  refine ⟨s, c, q, a1, ?_⟩
  have w : signed s (c * 2 ^ (q - e).toNat) = i * ((2 ^ (-(q - e)).toNat : Nat) : Int) := a2
  show signed s (c * 2 ^ (q - (e - k)).toNat) = i * 2 ^ k * ((2 ^ (-(q - (e - k))).toNat : Nat) : Int)
  have p2 : ((2 ^ ((-(q - e)).toNat) : Nat) : Int) ≠ 0 := by
    have := Nat.two_pow_pos ((-(q - e)).toNat); omega
  refine Int.eq_of_mul_eq_mul_right p2 ?_
  have hx : (q - (e - k)).toNat + (-(q - e)).toNat = (q - e).toNat + (k + (-(q - (e - k))).toNat) := by omega
  calc signed s (c * 2 ^ (q - (e - k)).toNat) * ((2 ^ ((-(q - e)).toNat) : Nat) : Int)
      = signed s (c * 2 ^ ((q - (e - k)).toNat + (-(q - e)).toNat)) := by rw [← signed_mul, Nat.pow_add, Nat.mul_assoc]
    _ = signed s (c * 2 ^ (q - e).toNat * 2 ^ (k + (-(q - (e - k))).toNat)) := by rw [hx, Nat.pow_add, Nat.mul_assoc]
    _ = i * ((2 ^ (-(q - e)).toNat : Nat) : Int) * ((2 ^ (k + (-(q - (e - k))).toNat) : Nat) : Int) := by rw [signed_mul, w]
    _ = i * 2 ^ k * ((2 ^ (-(q - (e - k))).toNat : Nat) : Int) * ((2 ^ ((-(q - e)).toNat) : Nat) : Int) := by
        rw [Nat.pow_add, Int.natCast_mul, Int.natCast_pow 2 k]
        show i * _ * ((2 : Int) ^ k * _) = _
        ac_rfl
theorem Dy.unscale {i e : Int} {a : UInt64} (k : Nat) (h : Dy (i * 2 ^ k) e a) : Dy i (e + k) a := by
  obtain ⟨s, c, q, a1, a2⟩ := h
  refine ⟨s, c, q, a1, ?_⟩
  have w : signed s (c * 2 ^ (q - e).toNat) = i * 2 ^ k * ((2 ^ (-(q - e)).toNat : Nat) : Int) := a2
  show signed s (c * 2 ^ (q - (e + k)).toNat) = i * ((2 ^ (-(q - (e + k))).toNat : Nat) : Int)
  have p2 : ((2 ^ (k + (-(q - e)).toNat) : Nat) : Int) ≠ 0 := by
    have := Nat.two_pow_pos (k + (-(q - e)).toNat); omega
  refine Int.eq_of_mul_eq_mul_right p2 ?_
  have hx : (q - (e + k)).toNat + (k + (-(q - e)).toNat) = (q - e).toNat + (-(q - (e + k))).toNat := by omega
  calc signed s (c * 2 ^ (q - (e + k)).toNat) * ((2 ^ (k + (-(q - e)).toNat) : Nat) : Int)
      = signed s (c * 2 ^ ((q - (e + k)).toNat + (k + (-(q - e)).toNat))) := by rw [← signed_mul, Nat.pow_add 2 (q - (e + k)).toNat, Nat.mul_assoc]
    _ = signed s (c * 2 ^ (q - e).toNat * 2 ^ ((-(q - (e + k))).toNat)) := by rw [hx, Nat.pow_add, Nat.mul_assoc]
    _ = i * 2 ^ k * ((2 ^ (-(q - e)).toNat : Nat) : Int) * ((2 ^ ((-(q - (e + k))).toNat) : Nat) : Int) := by rw [signed_mul, w]
    _ = i * ((2 ^ (-(q - (e + k))).toNat : Nat) : Int) * ((2 ^ (k + (-(q - e)).toNat) : Nat) : Int) := by
        rw [Nat.pow_add, Int.natCast_mul, Int.natCast_pow 2 k]
        show i * (2 : Int) ^ k * _ * _ = _ * ((2 : Int) ^ k * _)
        ac_rfl
theorem Dy.cmp {i j e : Int} {a b : UInt64} (ha : Dy i e a) (hb : Dy j e b) : FP.dcmp a b = some (compare i j) := by
  obtain ⟨s, c, q, a1, a2⟩ := ha
  obtain ⟨t, d, r, b1, b2⟩ := hb
  have w := order_whole a2 b2
  have hm : min (q - e) (r - e) = min q r - e := by omega
  simp only [order] at w
  rw [hm] at w
  unfold inUnits at w
  rw [show q - e - (min q r - e) = q - min q r by omega, show r - e - (min q r - e) = r - min q r by omega] at w
  show order (val64 a) (val64 b) = _
  rw [a1, b1]
  exact w
theorem Dy.of_int {i : Int} {a : UInt64} (h : DInt i a) : Dy i 0 a := by
  unfold DInt at h
  cases hv : val64 a with
  | nan => rw [hv] at h; exact h.elim
  | inf => rw [hv] at h; exact h.elim
  | fin s c q => rw [hv] at h; exact ⟨s, c, q, hv, by rw [Int.sub_zero]; exact h⟩
theorem Dy.i2d (x : Int32) : Dy x.toInt 0 (FP.i2d x) := Dy.of_int (i2d_int x)
theorem Dy.l2d {x : Int64} (h : x.toInt.natAbs ≤ 9007199254740992) : Dy x.toInt 0 (FP.l2d x) := Dy.of_int (l2d_int (Nat.le_trans h (by decide)))
/-- the int that a comparison pushes -/
def own_ci (i j : Int) : Int32 := if i < j then -1 else if i = j then 0 else 1
theorem Dy.cmpV {i j e : Int} {a b : UInt64} (ha : Dy i e a) (hb : Dy j e b) (o : Jvm.ClassFile.CmpOp) : Jvm.Op.cmpValue (FP.dcmp a b) o = own_ci i j := by
  rw [ha.cmp hb, compare_ite]
  unfold own_ci
  by_cases h1 : i < j
  · simp only [if_pos h1]; cases o <;> rfl
  · by_cases h2 : i = j
    · simp only [if_neg h1, if_pos h2]; cases o <;> rfl
    · simp only [if_neg h1, if_neg h2]; cases o <;> rfl
theorem own_ci_lt {i j : Int} : own_ci i j < 0 ↔ i < j := by
  unfold own_ci
  by_cases h1 : i < j
  · simp [h1]
  · by_cases h2 : i = j <;> simp [h1, h2]
theorem own_ci_gt {i j : Int} : 0 < own_ci i j ↔ j < i := by
  unfold own_ci
  by_cases h1 : i < j
  · simp [h1]; omega
  · by_cases h2 : i = j
    · simp [h2]
    · simp [h1, h2]; omega
theorem own_ci_eq {i j : Int} : own_ci i j = 0 ↔ i = j := by
  unfold own_ci
  by_cases h1 : i < j
  · simp [h1]; omega
  · by_cases h2 : i = j <;> simp [h1, h2]
theorem Dy.cast {i j e f : Int} {a : UInt64} (h : Dy i e a) (hi : i = j) (he : e = f) : Dy j f a := by subst hi he; exact h
theorem own_zero (e : Int) : Dy 0 e (0 : UInt64) := ⟨false, 0, -1074, by decide +kernel, by
  show signed false (0 * _) = 0 * _
  rw [Nat.zero_mul, Int.zero_mul]; rfl⟩
end Jvm.OwnFp
namespace Jvm.OwnNum
theorem own_mulb {a b A B : Int} (a1 : -A ≤ a) (a2 : a ≤ A) (b1 : -B ≤ b) (b2 : b ≤ B) : -(A * B) ≤ a * b ∧ a * b ≤ A * B := by
  have hm : (a * b).natAbs ≤ A.toNat * B.toNat := by rw [Int.natAbs_mul]; exact Nat.mul_le_mul (by omega) (by omega)
  have hm2 : ((A.toNat * B.toNat : Nat) : Int) = A * B := by rw [Int.natCast_mul, Int.toNat_of_nonneg (by omega), Int.toNat_of_nonneg (by omega)]
  omega
theorem own_i2l (x : Int32) : x.toInt64.toInt = x.toInt := by simp
/-- a remainder by a positive literal -/
theorem own_rem {x k : Int32} {K : Int} (hk : k.toInt = K) (h : 0 < K) : -K < (x % k).toInt ∧ (x % k).toInt < K := by
  rw [Int32.toInt_mod, hk]
  have h1 := Int.tmod_lt_of_pos x.toInt h
  have h2 := Int.lt_tmod_of_pos x.toInt h
  omega
theorem own_and {x k : Int32} {K : Nat} (hk : k.toInt = K) (h0 : K < 2 ^ 31) : 0 ≤ (x &&& k).toInt ∧ (x &&& k).toInt ≤ K := by
  have e : k.toBitVec.toNat = K := by
    have := k.toBitVec.isLt
    have q : k.toInt = k.toBitVec.toInt := rfl
    rw [q, BitVec.toInt_eq_toNat_cond] at hk
    split at hk <;> omega
  have b : (x &&& k).toBitVec.toNat ≤ K := by
    show (x.toBitVec &&& k.toBitVec).toNat ≤ K
    rw [BitVec.toNat_and, e]; exact Nat.and_le_right
  have q : (x &&& k).toInt = (x &&& k).toBitVec.toInt := rfl
  rw [q, BitVec.toInt_eq_toNat_cond]
  split <;> omega
theorem own_add32 {a b : Int32} (h1 : -2147483648 ≤ a.toInt + b.toInt) (h2 : a.toInt + b.toInt < 2147483648) : (a + b).toInt = a.toInt + b.toInt := by
  rw [Int32.toInt_add]; exact Int.bmod_eq_of_le (by omega) (by omega)
theorem own_sub32 {a b : Int32} (h1 : -2147483648 ≤ a.toInt - b.toInt) (h2 : a.toInt - b.toInt < 2147483648) : (a - b).toInt = a.toInt - b.toInt := by
  rw [Int32.toInt_sub]; exact Int.bmod_eq_of_le (by omega) (by omega)
theorem own_mul32 {a b : Int32} (h1 : -2147483648 ≤ a.toInt * b.toInt) (h2 : a.toInt * b.toInt < 2147483648) : (a * b).toInt = a.toInt * b.toInt := by
  rw [Int32.toInt_mul]; exact Int.bmod_eq_of_le (by omega) (by omega)
theorem own_min (a b : Int32) : (if b < a then b else a).toInt = min a.toInt b.toInt := by
  split
  · rename_i h; rw [Int32.lt_iff_toInt_lt] at h; omega
  · rename_i h; rw [Int32.lt_iff_toInt_lt] at h; omega
theorem own_max (a b : Int32) : (if a < b then b else a).toInt = max a.toInt b.toInt := by
  split
  · rename_i h; rw [Int32.lt_iff_toInt_lt] at h; omega
  · rename_i h; rw [Int32.lt_iff_toInt_lt] at h; omega
theorem own_shl {e : Int32} (h0 : 0 ≤ e.toInt) (h1 : e.toInt < 11) : ∃ k : Nat, k ≤ 10 ∧ ((1 : Int32) <<< (e &&& 31)).toInt = 2 ^ k := by
  have hk : e.toInt = 0 ∨ e.toInt = 1 ∨ e.toInt = 2 ∨ e.toInt = 3 ∨ e.toInt = 4 ∨ e.toInt = 5 ∨ e.toInt = 6 ∨ e.toInt = 7 ∨ e.toInt = 8 ∨ e.toInt = 9 ∨ e.toInt = 10 := by omega
  rcases hk with h | h | h | h | h | h | h | h | h | h | h
  · exact ⟨0, by decide, by rw [Int32.toInt_inj.mp (h.trans (by decide : (0 : Int) = (0 : Int32).toInt))]; decide⟩
  · exact ⟨1, by decide, by rw [Int32.toInt_inj.mp (h.trans (by decide : (1 : Int) = (1 : Int32).toInt))]; decide⟩
  · exact ⟨2, by decide, by rw [Int32.toInt_inj.mp (h.trans (by decide : (2 : Int) = (2 : Int32).toInt))]; decide⟩
  · exact ⟨3, by decide, by rw [Int32.toInt_inj.mp (h.trans (by decide : (3 : Int) = (3 : Int32).toInt))]; decide⟩
  · exact ⟨4, by decide, by rw [Int32.toInt_inj.mp (h.trans (by decide : (4 : Int) = (4 : Int32).toInt))]; decide⟩
  · exact ⟨5, by decide, by rw [Int32.toInt_inj.mp (h.trans (by decide : (5 : Int) = (5 : Int32).toInt))]; decide⟩
  · exact ⟨6, by decide, by rw [Int32.toInt_inj.mp (h.trans (by decide : (6 : Int) = (6 : Int32).toInt))]; decide⟩
  · exact ⟨7, by decide, by rw [Int32.toInt_inj.mp (h.trans (by decide : (7 : Int) = (7 : Int32).toInt))]; decide⟩
  · exact ⟨8, by decide, by rw [Int32.toInt_inj.mp (h.trans (by decide : (8 : Int) = (8 : Int32).toInt))]; decide⟩
  · exact ⟨9, by decide, by rw [Int32.toInt_inj.mp (h.trans (by decide : (9 : Int) = (9 : Int32).toInt))]; decide⟩
  · exact ⟨10, by decide, by rw [Int32.toInt_inj.mp (h.trans (by decide : (10 : Int) = (10 : Int32).toInt))]; decide⟩
theorem own_and3 (x : Int32) : (x &&& (3 : Int32)) = (0 : Int32) ∨ (x &&& (3 : Int32)) = (1 : Int32) ∨ (x &&& (3 : Int32)) = (2 : Int32) ∨ (x &&& (3 : Int32)) = (3 : Int32) := by
  have h := own_and (x := x) (k := 3) (K := 3) (by decide) (by decide)
  have q : (x &&& (3 : Int32)).toInt = 0 ∨ (x &&& (3 : Int32)).toInt = 1 ∨ (x &&& (3 : Int32)).toInt = 2 ∨ (x &&& (3 : Int32)).toInt = 3 := by omega
  rcases q with q | q | q | q
  · exact Or.inl (Int32.toInt_inj.mp (q.trans (by decide : (0 : Int) = (0 : Int32).toInt)))
  · exact Or.inr (Or.inl (Int32.toInt_inj.mp (q.trans (by decide : (1 : Int) = (1 : Int32).toInt))))
  · exact Or.inr (Or.inr (Or.inl (Int32.toInt_inj.mp (q.trans (by decide : (2 : Int) = (2 : Int32).toInt)))))
  · exact Or.inr (Or.inr (Or.inr (Int32.toInt_inj.mp (q.trans (by decide : (3 : Int) = (3 : Int32).toInt)))))
theorem own_pow10 {e : Nat} (h : e ≤ 10) : (2 : Int) ^ e ≤ 1024 ∧ 1 ≤ (2 : Int) ^ e := by
  have : ∀ e, e ≤ 10 → (2 : Int) ^ e ≤ 1024 ∧ 1 ≤ (2 : Int) ^ e := by decide
  exact this e h
end Jvm.OwnNum
namespace Jvm.Pilot.@@N@@
open Jvm Jvm.ClassFile Sem Op Lib Jvm.Free Jvm.Stand Jvm.LawKit Jvm.RoadKit Bundle Jvm.OwnGo Jvm.OwnFp Jvm.Pilot.@@N@@.Jvm.D
open Jvm.OwnNum
theorem own_two : Dy 1 1 (4611686018427387904 : UInt64) := own_const false (2 ^ 52) (-51) (by decide +kernel) (by decide +kernel)
theorem d1_0 : decode prog_21_method_2_code 0 = .ok (.dload_n 2, 1) := by decide +kernel
theorem d1_1 : decode prog_21_method_2_code 1 = .ok (.dload_n 0, 1) := by decide +kernel
theorem d1_2 : decode prog_21_method_2_code 2 = .ok (.dload 6, 2) := by decide +kernel
theorem d1_4 : decode prog_21_method_2_code 4 = .ok (.dmul, 1) := by decide +kernel
theorem d1_5 : decode prog_21_method_2_code 5 = .ok (.ldc2_w 7, 3) := by decide +kernel
theorem d1_8 : decode prog_21_method_2_code 8 = .ok (.ddiv, 1) := by decide +kernel
theorem d1_9 : decode prog_21_method_2_code 9 = .ok (.dsub, 1) := by decide +kernel
theorem d1_10 : decode prog_21_method_2_code 10 = .ok (.dload 4, 2) := by decide +kernel
theorem d1_12 : decode prog_21_method_2_code 12 = .ok (.dload 6, 2) := by decide +kernel
theorem d1_14 : decode prog_21_method_2_code 14 = .ok (.ldc2_w 7, 3) := by decide +kernel
theorem d1_17 : decode prog_21_method_2_code 17 = .ok (.ddiv, 1) := by decide +kernel
theorem d1_18 : decode prog_21_method_2_code 18 = .ok (.dadd, 1) := by decide +kernel
theorem d1_19 : decode prog_21_method_2_code 19 = .ok (.ddiv, 1) := by decide +kernel
theorem d1_20 : decode prog_21_method_2_code 20 = .ok (.dreturn, 1) := by decide +kernel
theorem pn_0 : plainName "com/example/eindhoven/eindhoven/engine/Motion" = true := by first | (simp [plainName, overriddenIn]; done) | decide +kernel
theorem ef_1 (m : MethodId) (x0 : UInt64) (x1 : UInt64) (x2 : UInt64) (x3 : UInt64) : entryFrame m #[(.double x0), (.double x1), (.double x2), (.double x3)] 8 = mkF m 0 #[.val (.double x0), .second, .val (.double x1), .second, .val (.double x2), .second, .val (.double x3), .second] [] := by first | (simp [entryFrame, mkF, argsToLocals, Value.category]; done) | rfl
def Q1 (Z : State) (x1 : UInt64) (x2 : UInt64) (x3 : UInt64) (x4 : UInt64) (sp : Int) (u : Int) (H : Int) (t : Int) (h0 : Heap) (n0 : Nat) (v : Option Value) (h : Heap) (L : List Loc) : Prop := ∃ r, v = some (.double r) ∧ Fr n0 L ∧ Dy u 0 r ∧ h = h0
set_option maxRecDepth 65536 in
set_option maxHeartbeats 40000000 in
theorem rm1 (l : Launch) (Z : State) (a0 : Array Value) (hw : ∀ d ∈ tables_1, d.before a0 Z = true) (ws : List Jvm.Cond) (x1 : UInt64) (x2 : UInt64) (x3 : UInt64) (x4 : UInt64) (sp : Int) (u : Int) (H : Int) (t : Int) (h0 : Heap) (n0 : Nat) (Z0 : n0 ≤ h0.size) (d1 : Dy sp 0 x1) (d2 : Dy (H * u + (sp + u) * t) (-1) x2) (d3 : Dy H (-1) x3) (d4 : Dy t 0 x4) (b1 : -100000 ≤ sp ∧ sp ≤ 100000) (b2 : -100000 ≤ u ∧ u ≤ 100000) (b3 : 0 ≤ H ∧ H ≤ 1023) (b4 : 0 ≤ t ∧ t ≤ 1023) (b5 : 0 < H + t) :
    MetFree l (⟨"com/example/eindhoven/eindhoven/engine/Motion", "followingSpeed", "(DDDD)D"⟩ : MethodName) (head1 (Jvm.Cond.code (⟨"com/example/eindhoven/eindhoven/engine/Motion", "followingSpeed", "(DDDD)D"⟩ : MethodName) prog_21_method_2_code 8 (some .double) :: ws) ({ frames := 0, cells := 0, slots := 0, locals := 0 } : Room)) (fun a U => a = #[(.double x1), (.double x2), (.double x3), (.double x4)] ∧ Z.Warmed39 U.vm ∧ U.heap = h0) (fun _ _ _ _ _ => True) (fun _ U o U' => ∃ v L, o = .returned v ∧ Q1 Z x1 x2 x3 x4 sp u H t h0 n0 v U'.heap L ∧ FrameEnd U o U' L ({ frames := 0, cells := 0, slots := 0, locals := 0 } : Room).cells ({ frames := 0, cells := 0, slots := 0, locals := 0 } : Room).slots) := by
  refine MetFree.of_bodySF (plainFor_of_name pn_0) hisR ?_
  intro p e s m args below meth c s₁ Bd hml0 hP hK
  obtain ⟨rfl, hZ, hh⟩ := hP
  have hx := Bd.exec
  have hby := Bd.bytes
  have hml : c.maxLocals = 8 := hml0
  have hown : s.vm.findClass "com/example/eindhoven/eindhoven/engine/Motion" = some m.cls := findClass_of_methodNamed Bd.named
  have hnm := (name_of_methodNamed Bd.named Bd.method).1
  have X : Stand p l e ({ frames := 0, cells := 0, slots := 0, locals := 0 } : Room) s m #[(.double x1), (.double x2), (.double x3), (.double x4)] below meth c s₁ [] 0 0 := Stand.of_body Bd
  have eT : s₁.heap = h0 := by rw [← hh, Bd.state]; rfl
  have N := Fr.nil n0
  have K := Keep.refl h0 []
  refine Go.out ?_
  obtain ⟨T, eTT⟩ : ∃ z, z = s₁ := ⟨_, rfl⟩
  rw [← eTT] at X eT ⊢
  refine Go.by (fun tt_ kk_ => castTop (ef_1 m x1 x2 x3 x4) kk_) ?_
  show Go p.tables e below (T.setTop (mkF m 0 #[.val (.double x1), .second, .val (.double x2), .second, .val (.double x3), .second, .val (.double x4), .second] [])) _
  have m1 := own_mulb (A := 100000) (B := 1023) b1.1 b1.2 (show -1023 ≤ t by omega) b4.2
  have m2 := own_mulb (A := 100000) (B := 2046) b2.1 b2.2 (show -2046 ≤ H + t by omega) (by omega)
  have m3 : H * u + (sp + u) * t - sp * t = u * (H + t) := by rw [Int.add_mul, Int.mul_add, Int.mul_comm H u]; omega
  refine Go.by (fun tt_ kk_ => XS.dloadN X.here hx rfl (hb hby d1_0) rfl kk_) ?_
  show Go p.tables e below (T.setTop (mkF m 1 #[.val (.double x1), .second, .val (.double x2), .second, .val (.double x3), .second, .val (.double x4), .second] [(.double x2)])) _
  refine Go.by (fun tt_ kk_ => XS.dloadN X.here hx rfl (hb hby d1_1) rfl kk_) ?_
  show Go p.tables e below (T.setTop (mkF m 2 #[.val (.double x1), .second, .val (.double x2), .second, .val (.double x3), .second, .val (.double x4), .second] [(.double x1), (.double x2)])) _
  refine Go.by (fun tt_ kk_ => XS.dload X.here hx rfl (hb hby d1_2) rfl kk_) ?_
  show Go p.tables e below (T.setTop (mkF m 4 #[.val (.double x1), .second, .val (.double x2), .second, .val (.double x3), .second, .val (.double x4), .second] [(.double x4), (.double x1), (.double x2)])) _
  obtain ⟨y1, e_y1⟩ : ∃ z, z = FP.dmul x1 x4 := ⟨_, rfl⟩
  have d_y1 : Dy (sp * t) 0 y1 := by rw [e_y1]; exact d1.mul d4 (by omega) (by decide) (by decide)
  refine Go.by (fun tt_ kk_ => XS.dmulS X.here hx rfl (hb hby d1_4) rfl (e_y1 ▸ d_y1.noNaN) e_y1.symm kk_) ?_
  show Go p.tables e below (T.setTop (mkF m 5 #[.val (.double x1), .second, .val (.double x2), .second, .val (.double x3), .second, .val (.double x4), .second] [(.double y1), (.double x2)])) _
  refine Go.by (X.ldc2DoubleC hx hown (mvT hZ (hw _ (List.mem_of_getElem? (i := 6) rfl))) (g := (mkF m 5 #[.val (.double x1), .second, .val (.double x2), .second, .val (.double x3), .second, .val (.double x4), .second] [(.double y1), (.double x2)])) rfl (hb hby d1_5)) ?_
  show Go p.tables e below (T.setTop (mkF m 8 #[.val (.double x1), .second, .val (.double x2), .second, .val (.double x3), .second, .val (.double x4), .second] [(.double (4611686018427387904 : UInt64)), (.double y1), (.double x2)])) _
  obtain ⟨y2, e_y2⟩ : ∃ z, z = FP.ddiv y1 (4611686018427387904 : UInt64) := ⟨_, rfl⟩
  have d_y2 : Dy (sp * t) (-1) y2 := by rw [e_y2]; exact Dy.div (k := sp * t) (j := 1) (e := 0) (g := 1) (by rw [Int.mul_one]; exact d_y1) own_two (by decide) (by omega) (by decide) (by decide)
  refine Go.by (fun tt_ kk_ => XS.ddivS X.here hx rfl (hb hby d1_8) rfl (e_y2 ▸ d_y2.noNaN) e_y2.symm kk_) ?_
  show Go p.tables e below (T.setTop (mkF m 9 #[.val (.double x1), .second, .val (.double x2), .second, .val (.double x3), .second, .val (.double x4), .second] [(.double y2), (.double x2)])) _
  obtain ⟨y3, e_y3⟩ : ∃ z, z = FP.dsub x2 y2 := ⟨_, rfl⟩
  have d_y3 : Dy (u * (H + t)) (-1) y3 := by rw [e_y3]; exact (m3 ▸ d2.sub d_y2 (by rw [m3]; omega) (by decide) (by decide))
  refine Go.by (fun tt_ kk_ => XS.dsubS X.here hx rfl (hb hby d1_9) rfl (e_y3 ▸ d_y3.noNaN) e_y3.symm kk_) ?_
  show Go p.tables e below (T.setTop (mkF m 10 #[.val (.double x1), .second, .val (.double x2), .second, .val (.double x3), .second, .val (.double x4), .second] [(.double y3)])) _
  refine Go.by (fun tt_ kk_ => XS.dload X.here hx rfl (hb hby d1_10) rfl kk_) ?_
  show Go p.tables e below (T.setTop (mkF m 12 #[.val (.double x1), .second, .val (.double x2), .second, .val (.double x3), .second, .val (.double x4), .second] [(.double x3), (.double y3)])) _
  refine Go.by (fun tt_ kk_ => XS.dload X.here hx rfl (hb hby d1_12) rfl kk_) ?_
  show Go p.tables e below (T.setTop (mkF m 14 #[.val (.double x1), .second, .val (.double x2), .second, .val (.double x3), .second, .val (.double x4), .second] [(.double x4), (.double x3), (.double y3)])) _
  refine Go.by (X.ldc2DoubleC hx hown (mvT hZ (hw _ (List.mem_of_getElem? (i := 6) rfl))) (g := (mkF m 14 #[.val (.double x1), .second, .val (.double x2), .second, .val (.double x3), .second, .val (.double x4), .second] [(.double x4), (.double x3), (.double y3)])) rfl (hb hby d1_14)) ?_
  show Go p.tables e below (T.setTop (mkF m 17 #[.val (.double x1), .second, .val (.double x2), .second, .val (.double x3), .second, .val (.double x4), .second] [(.double (4611686018427387904 : UInt64)), (.double x4), (.double x3), (.double y3)])) _
  obtain ⟨y4, e_y4⟩ : ∃ z, z = FP.ddiv x4 (4611686018427387904 : UInt64) := ⟨_, rfl⟩
  have d_y4 : Dy t (-1) y4 := by rw [e_y4]; exact Dy.div (k := t) (j := 1) (e := 0) (g := 1) (by rw [Int.mul_one]; exact d4) own_two (by decide) (by omega) (by decide) (by decide)
  refine Go.by (fun tt_ kk_ => XS.ddivS X.here hx rfl (hb hby d1_17) rfl (e_y4 ▸ d_y4.noNaN) e_y4.symm kk_) ?_
  show Go p.tables e below (T.setTop (mkF m 18 #[.val (.double x1), .second, .val (.double x2), .second, .val (.double x3), .second, .val (.double x4), .second] [(.double y4), (.double x3), (.double y3)])) _
  obtain ⟨y5, e_y5⟩ : ∃ z, z = FP.dadd x3 y4 := ⟨_, rfl⟩
  have d_y5 : Dy (H + t) (-1) y5 := by rw [e_y5]; exact d3.add d_y4 (by omega) (by decide) (by decide)
  refine Go.by (fun tt_ kk_ => XS.daddS X.here hx rfl (hb hby d1_18) rfl (e_y5 ▸ d_y5.noNaN) e_y5.symm kk_) ?_
  show Go p.tables e below (T.setTop (mkF m 19 #[.val (.double x1), .second, .val (.double x2), .second, .val (.double x3), .second, .val (.double x4), .second] [(.double y5), (.double y3)])) _
  obtain ⟨y6, e_y6⟩ : ∃ z, z = FP.ddiv y3 y5 := ⟨_, rfl⟩
  have d_y6 : Dy u 0 y6 := by rw [e_y6]; exact Dy.div (k := u) (j := H + t) (e := -1) (g := -1) d_y3 d_y5 (by omega) (by omega) (by decide) (by decide)
  refine Go.by (fun tt_ kk_ => XS.ddivS X.here hx rfl (hb hby d1_19) rfl (e_y6 ▸ d_y6.noNaN) e_y6.symm kk_) ?_
  show Go p.tables e below (T.setTop (mkF m 20 #[.val (.double x1), .second, .val (.double x2), .second, .val (.double x3), .second, .val (.double x4), .second] [(.double y6)])) _
  exact Go.done X  (v := some (.double y6)) (fun h => by rw [Bd.returns] at h; cases h) Bd.notSynchronized (fun fs hr => retOut X hx Bd.returns rfl (by simp [Value.isRef, FieldType.isReference]) (hb hby d1_20) hr) (by rw [eT]; exact ⟨y6, rfl, N, d_y6, rfl⟩) (by decide) (by decide)
theorem pn_1 : plainName "com/example/eindhoven/eindhoven/engine/MotionFollowingSpeedPinLaw" = true := by first | (simp [plainName, overriddenIn]; done) | decide +kernel
theorem pd_0 : parseMethodDescriptor "(DDDD)D" = some ⟨[.double, .double, .double, .double], some .double⟩ := by decide +kernel
theorem ef_0 (m : MethodId) (x0 : Int32) (x1 : Int32) (x2 : Int32) (x3 : Int32) : entryFrame m #[(.int x0), (.int x1), (.int x2), (.int x3)] maxLocals = mkF m 0 #[.val (.int x0), .val (.int x1), .val (.int x2), .val (.int x3), .unset, .unset, .unset, .unset, .unset, .unset, .unset, .unset, .unset, .unset, .unset, .unset, .unset, .unset, .unset, .unset] [] := by first | (simp [entryFrame, mkF, argsToLocals, Value.category, maxLocals]; done) | rfl
def Q0 (Z : State) (p0 : Int32) (p1 : Int32) (p2 : Int32) (p3 : Int32)  (h0 : Heap) (n0 : Nat) (v : Option Value) (h : Heap) (L : List Loc) : Prop := v = some (.int 1) ∧ Fr n0 L
set_option maxRecDepth 65536 in
set_option maxHeartbeats 40000000 in
theorem rm0 (l : Launch) (Z : State) (a0 : Array Value) (hw : ∀ d ∈ tables_1, d.before a0 Z = true) (ws : List Jvm.Cond) (p0 : Int32) (p1 : Int32) (p2 : Int32) (p3 : Int32)  (h0 : Heap) (n0 : Nat) (Z0 : n0 ≤ h0.size)  :
    MetFree l x (head1 (Jvm.Cond.code x code maxLocals ret :: ws) room_1) (fun a U => a = #[(.int p0), (.int p1), (.int p2), (.int p3)] ∧ Z.Warmed39 U.vm ∧ U.heap = h0) (fun _ _ _ _ _ => True) (fun _ U o U' => ∃ v L, o = .returned v ∧ Q0 Z p0 p1 p2 p3 h0 n0 v U'.heap L ∧ FrameEnd U o U' L 0 0) := by
  refine MetFree.of_bodySF (plainFor_of_name pn_1) hisR ?_
  intro p e s m args below meth c s₁ Bd hml0 hP hK
  obtain ⟨rfl, hZ, hh⟩ := hP
  have hx := Bd.exec
  have hby := Bd.bytes
  have hml : c.maxLocals = 20 := hml0
  have hown : s.vm.findClass "com/example/eindhoven/eindhoven/engine/MotionFollowingSpeedPinLaw" = some m.cls := findClass_of_methodNamed Bd.named
  have hnm := (name_of_methodNamed Bd.named Bd.method).1
  have X : Stand p l e room_1 s m #[(.int p0), (.int p1), (.int p2), (.int p3)] below meth c s₁ [] 0 0 := Stand.of_body Bd
  have eT : s₁.heap = h0 := by rw [← hh, Bd.state]; rfl
  have N := Fr.nil n0
  have K := Keep.refl h0 []
  refine Go.out ?_
  obtain ⟨T, eTT⟩ : ∃ z, z = s₁ := ⟨_, rfl⟩
  rw [← eTT] at X eT ⊢
  refine Go.by (fun tt_ kk_ => castTop (ef_0 m p0 p1 p2 p3) kk_) ?_
  show Go p.tables e below (T.setTop (mkF m 0 #[.val (.int p0), .val (.int p1), .val (.int p2), .val (.int p3), .unset, .unset, .unset, .unset, .unset, .unset, .unset, .unset, .unset, .unset, .unset, .unset, .unset, .unset, .unset, .unset] [])) _
  refine Go.by (fun tt_ kk_ => XS.iloadN X.here hx rfl (hb hby at_0) rfl kk_) ?_
  show Go p.tables e below (T.setTop (mkF m 1 #[.val (.int p0), .val (.int p1), .val (.int p2), .val (.int p3), .unset, .unset, .unset, .unset, .unset, .unset, .unset, .unset, .unset, .unset, .unset, .unset, .unset, .unset, .unset, .unset] [(.int p0)])) _
  refine Go.by (X.ldcInt hx hown (mvT hZ (hw _ (List.mem_of_getElem? (i := 0) rfl))) (g := (mkF m 1 #[.val (.int p0), .val (.int p1), .val (.int p2), .val (.int p3), .unset, .unset, .unset, .unset, .unset, .unset, .unset, .unset, .unset, .unset, .unset, .unset, .unset, .unset, .unset, .unset] [(.int p0)])) rfl (hb hby at_1)) ?_
  show Go p.tables e below (T.setTop (mkF m 3 #[.val (.int p0), .val (.int p1), .val (.int p2), .val (.int p3), .unset, .unset, .unset, .unset, .unset, .unset, .unset, .unset, .unset, .unset, .unset, .unset, .unset, .unset, .unset, .unset] [(.int (100000 : Int32)), (.int p0)])) _
  refine Go.by (fun tt_ kk_ => iremM X hx rfl (hb hby at_3) rfl (by decide) kk_) ?_
  show Go p.tables e below (T.setTop (mkF m 4 #[.val (.int p0), .val (.int p1), .val (.int p2), .val (.int p3), .unset, .unset, .unset, .unset, .unset, .unset, .unset, .unset, .unset, .unset, .unset, .unset, .unset, .unset, .unset, .unset] [(.int (p0 % (100000 : Int32)))])) _
  refine Go.by (fun tt_ kk_ => XS.i2l X.here hx rfl (hb hby at_4) rfl kk_) ?_
  show Go p.tables e below (T.setTop (mkF m 5 #[.val (.int p0), .val (.int p1), .val (.int p2), .val (.int p3), .unset, .unset, .unset, .unset, .unset, .unset, .unset, .unset, .unset, .unset, .unset, .unset, .unset, .unset, .unset, .unset] [(.long ((p0 % (100000 : Int32)).toInt64))])) _
  obtain ⟨sp, e_sp⟩ : ∃ z, z = ((p0 % (100000 : Int32)).toInt64) := ⟨_, rfl⟩
  rw [← e_sp]
  show Go p.tables e below (T.setTop (mkF m 5 #[.val (.int p0), .val (.int p1), .val (.int p2), .val (.int p3), .unset, .unset, .unset, .unset, .unset, .unset, .unset, .unset, .unset, .unset, .unset, .unset, .unset, .unset, .unset, .unset] [(.long sp)])) _
  have b_sp : -100000 ≤ sp.toInt ∧ sp.toInt ≤ 100000 := by rw [e_sp, own_i2l]; have := own_rem (x := p0) (k := 100000) (K := 100000) (by decide) (by decide); omega
  refine Go.by (fun tt_ kk_ => XS.lstore X.here hx rfl (hb hby at_5) rfl (l' := #[.val (.int p0), .val (.int p1), .val (.int p2), .val (.int p3), .val (.long sp), .second, .unset, .unset, .unset, .unset, .unset, .unset, .unset, .unset, .unset, .unset, .unset, .unset, .unset, .unset]) rfl kk_) ?_
  show Go p.tables e below (T.setTop (mkF m 7 #[.val (.int p0), .val (.int p1), .val (.int p2), .val (.int p3), .val (.long sp), .second, .unset, .unset, .unset, .unset, .unset, .unset, .unset, .unset, .unset, .unset, .unset, .unset, .unset, .unset] [])) _
  refine Go.by (fun tt_ kk_ => XS.iloadN X.here hx rfl (hb hby at_7) rfl kk_) ?_
  show Go p.tables e below (T.setTop (mkF m 8 #[.val (.int p0), .val (.int p1), .val (.int p2), .val (.int p3), .val (.long sp), .second, .unset, .unset, .unset, .unset, .unset, .unset, .unset, .unset, .unset, .unset, .unset, .unset, .unset, .unset] [(.int p1)])) _
  refine Go.by (X.ldcInt hx hown (mvT hZ (hw _ (List.mem_of_getElem? (i := 0) rfl))) (g := (mkF m 8 #[.val (.int p0), .val (.int p1), .val (.int p2), .val (.int p3), .val (.long sp), .second, .unset, .unset, .unset, .unset, .unset, .unset, .unset, .unset, .unset, .unset, .unset, .unset, .unset, .unset] [(.int p1)])) rfl (hb hby at_8)) ?_
  show Go p.tables e below (T.setTop (mkF m 10 #[.val (.int p0), .val (.int p1), .val (.int p2), .val (.int p3), .val (.long sp), .second, .unset, .unset, .unset, .unset, .unset, .unset, .unset, .unset, .unset, .unset, .unset, .unset, .unset, .unset] [(.int (100000 : Int32)), (.int p1)])) _
  refine Go.by (fun tt_ kk_ => iremM X hx rfl (hb hby at_10) rfl (by decide) kk_) ?_
  show Go p.tables e below (T.setTop (mkF m 11 #[.val (.int p0), .val (.int p1), .val (.int p2), .val (.int p3), .val (.long sp), .second, .unset, .unset, .unset, .unset, .unset, .unset, .unset, .unset, .unset, .unset, .unset, .unset, .unset, .unset] [(.int (p1 % (100000 : Int32)))])) _
  refine Go.by (fun tt_ kk_ => XS.i2l X.here hx rfl (hb hby at_11) rfl kk_) ?_
  show Go p.tables e below (T.setTop (mkF m 12 #[.val (.int p0), .val (.int p1), .val (.int p2), .val (.int p3), .val (.long sp), .second, .unset, .unset, .unset, .unset, .unset, .unset, .unset, .unset, .unset, .unset, .unset, .unset, .unset, .unset] [(.long ((p1 % (100000 : Int32)).toInt64))])) _
  obtain ⟨u, e_u⟩ : ∃ z, z = ((p1 % (100000 : Int32)).toInt64) := ⟨_, rfl⟩
  rw [← e_u]
  show Go p.tables e below (T.setTop (mkF m 12 #[.val (.int p0), .val (.int p1), .val (.int p2), .val (.int p3), .val (.long sp), .second, .unset, .unset, .unset, .unset, .unset, .unset, .unset, .unset, .unset, .unset, .unset, .unset, .unset, .unset] [(.long u)])) _
  have b_u : -100000 ≤ u.toInt ∧ u.toInt ≤ 100000 := by rw [e_u, own_i2l]; have := own_rem (x := p1) (k := 100000) (K := 100000) (by decide) (by decide); omega
  refine Go.by (fun tt_ kk_ => XS.lstore X.here hx rfl (hb hby at_12) rfl (l' := #[.val (.int p0), .val (.int p1), .val (.int p2), .val (.int p3), .val (.long sp), .second, .val (.long u), .second, .unset, .unset, .unset, .unset, .unset, .unset, .unset, .unset, .unset, .unset, .unset, .unset]) rfl kk_) ?_
  show Go p.tables e below (T.setTop (mkF m 14 #[.val (.int p0), .val (.int p1), .val (.int p2), .val (.int p3), .val (.long sp), .second, .val (.long u), .second, .unset, .unset, .unset, .unset, .unset, .unset, .unset, .unset, .unset, .unset, .unset, .unset] [])) _
  refine Go.by (fun tt_ kk_ => XS.iloadN X.here hx rfl (hb hby at_14) rfl kk_) ?_
  show Go p.tables e below (T.setTop (mkF m 15 #[.val (.int p0), .val (.int p1), .val (.int p2), .val (.int p3), .val (.long sp), .second, .val (.long u), .second, .unset, .unset, .unset, .unset, .unset, .unset, .unset, .unset, .unset, .unset, .unset, .unset] [(.int p2)])) _
  refine Go.by (fun tt_ kk_ => XS.sipush X.here hx rfl (hb hby at_15) kk_) ?_
  show Go p.tables e below (T.setTop (mkF m 18 #[.val (.int p0), .val (.int p1), .val (.int p2), .val (.int p3), .val (.long sp), .second, .val (.long u), .second, .unset, .unset, .unset, .unset, .unset, .unset, .unset, .unset, .unset, .unset, .unset, .unset] [(.int (1023 : Int32)), (.int p2)])) _
  refine Go.by (fun tt_ kk_ => XS.iand X.here hx rfl (hb hby at_18) rfl kk_) ?_
  show Go p.tables e below (T.setTop (mkF m 19 #[.val (.int p0), .val (.int p1), .val (.int p2), .val (.int p3), .val (.long sp), .second, .val (.long u), .second, .unset, .unset, .unset, .unset, .unset, .unset, .unset, .unset, .unset, .unset, .unset, .unset] [(.int (p2 &&& (1023 : Int32)))])) _
  refine Go.by (fun tt_ kk_ => XS.i2l X.here hx rfl (hb hby at_19) rfl kk_) ?_
  show Go p.tables e below (T.setTop (mkF m 20 #[.val (.int p0), .val (.int p1), .val (.int p2), .val (.int p3), .val (.long sp), .second, .val (.long u), .second, .unset, .unset, .unset, .unset, .unset, .unset, .unset, .unset, .unset, .unset, .unset, .unset] [(.long ((p2 &&& (1023 : Int32)).toInt64))])) _
  obtain ⟨h, e_h⟩ : ∃ z, z = ((p2 &&& (1023 : Int32)).toInt64) := ⟨_, rfl⟩
  rw [← e_h]
  show Go p.tables e below (T.setTop (mkF m 20 #[.val (.int p0), .val (.int p1), .val (.int p2), .val (.int p3), .val (.long sp), .second, .val (.long u), .second, .unset, .unset, .unset, .unset, .unset, .unset, .unset, .unset, .unset, .unset, .unset, .unset] [(.long h)])) _
  have b_h : 0 ≤ h.toInt ∧ h.toInt ≤ 1023 := by rw [e_h, own_i2l]; exact own_and (x := p2) (k := 1023) (K := 1023) (by decide) (by decide)
  refine Go.by (fun tt_ kk_ => XS.lstore X.here hx rfl (hb hby at_20) rfl (l' := #[.val (.int p0), .val (.int p1), .val (.int p2), .val (.int p3), .val (.long sp), .second, .val (.long u), .second, .val (.long h), .second, .unset, .unset, .unset, .unset, .unset, .unset, .unset, .unset, .unset, .unset]) rfl kk_) ?_
  show Go p.tables e below (T.setTop (mkF m 22 #[.val (.int p0), .val (.int p1), .val (.int p2), .val (.int p3), .val (.long sp), .second, .val (.long u), .second, .val (.long h), .second, .unset, .unset, .unset, .unset, .unset, .unset, .unset, .unset, .unset, .unset] [])) _
  refine Go.by (fun tt_ kk_ => XS.iloadN X.here hx rfl (hb hby at_22) rfl kk_) ?_
  show Go p.tables e below (T.setTop (mkF m 23 #[.val (.int p0), .val (.int p1), .val (.int p2), .val (.int p3), .val (.long sp), .second, .val (.long u), .second, .val (.long h), .second, .unset, .unset, .unset, .unset, .unset, .unset, .unset, .unset, .unset, .unset] [(.int p3)])) _
  refine Go.by (fun tt_ kk_ => XS.sipush X.here hx rfl (hb hby at_23) kk_) ?_
  show Go p.tables e below (T.setTop (mkF m 26 #[.val (.int p0), .val (.int p1), .val (.int p2), .val (.int p3), .val (.long sp), .second, .val (.long u), .second, .val (.long h), .second, .unset, .unset, .unset, .unset, .unset, .unset, .unset, .unset, .unset, .unset] [(.int (1023 : Int32)), (.int p3)])) _
  refine Go.by (fun tt_ kk_ => XS.iand X.here hx rfl (hb hby at_26) rfl kk_) ?_
  show Go p.tables e below (T.setTop (mkF m 27 #[.val (.int p0), .val (.int p1), .val (.int p2), .val (.int p3), .val (.long sp), .second, .val (.long u), .second, .val (.long h), .second, .unset, .unset, .unset, .unset, .unset, .unset, .unset, .unset, .unset, .unset] [(.int (p3 &&& (1023 : Int32)))])) _
  refine Go.by (fun tt_ kk_ => XS.i2l X.here hx rfl (hb hby at_27) rfl kk_) ?_
  show Go p.tables e below (T.setTop (mkF m 28 #[.val (.int p0), .val (.int p1), .val (.int p2), .val (.int p3), .val (.long sp), .second, .val (.long u), .second, .val (.long h), .second, .unset, .unset, .unset, .unset, .unset, .unset, .unset, .unset, .unset, .unset] [(.long ((p3 &&& (1023 : Int32)).toInt64))])) _
  obtain ⟨t, e_t⟩ : ∃ z, z = ((p3 &&& (1023 : Int32)).toInt64) := ⟨_, rfl⟩
  rw [← e_t]
  show Go p.tables e below (T.setTop (mkF m 28 #[.val (.int p0), .val (.int p1), .val (.int p2), .val (.int p3), .val (.long sp), .second, .val (.long u), .second, .val (.long h), .second, .unset, .unset, .unset, .unset, .unset, .unset, .unset, .unset, .unset, .unset] [(.long t)])) _
  have b_t : 0 ≤ t.toInt ∧ t.toInt ≤ 1023 := by rw [e_t, own_i2l]; exact own_and (x := p3) (k := 1023) (K := 1023) (by decide) (by decide)
  refine Go.by (fun tt_ kk_ => XS.lstore X.here hx rfl (hb hby at_28) rfl (l' := #[.val (.int p0), .val (.int p1), .val (.int p2), .val (.int p3), .val (.long sp), .second, .val (.long u), .second, .val (.long h), .second, .val (.long t), .second, .unset, .unset, .unset, .unset, .unset, .unset, .unset, .unset]) rfl kk_) ?_
  show Go p.tables e below (T.setTop (mkF m 30 #[.val (.int p0), .val (.int p1), .val (.int p2), .val (.int p3), .val (.long sp), .second, .val (.long u), .second, .val (.long h), .second, .val (.long t), .second, .unset, .unset, .unset, .unset, .unset, .unset, .unset, .unset] [])) _
  refine Go.by (fun tt_ kk_ => XS.lload X.here hx rfl (hb hby at_30) rfl kk_) ?_
  show Go p.tables e below (T.setTop (mkF m 32 #[.val (.int p0), .val (.int p1), .val (.int p2), .val (.int p3), .val (.long sp), .second, .val (.long u), .second, .val (.long h), .second, .val (.long t), .second, .unset, .unset, .unset, .unset, .unset, .unset, .unset, .unset] [(.long h)])) _
  refine Go.by (fun tt_ kk_ => XS.lload X.here hx rfl (hb hby at_32) rfl kk_) ?_
  show Go p.tables e below (T.setTop (mkF m 34 #[.val (.int p0), .val (.int p1), .val (.int p2), .val (.int p3), .val (.long sp), .second, .val (.long u), .second, .val (.long h), .second, .val (.long t), .second, .unset, .unset, .unset, .unset, .unset, .unset, .unset, .unset] [(.long t), (.long h)])) _
  refine Go.by (fun tt_ kk_ => XS.ladd X.here hx rfl (hb hby at_34) rfl kk_) ?_
  show Go p.tables e below (T.setTop (mkF m 35 #[.val (.int p0), .val (.int p1), .val (.int p2), .val (.int p3), .val (.long sp), .second, .val (.long u), .second, .val (.long h), .second, .val (.long t), .second, .unset, .unset, .unset, .unset, .unset, .unset, .unset, .unset] [(.long (h + t))])) _
  refine Go.by (fun tt_ kk_ => XS.lconst X.here hx rfl (hb hby at_35) kk_) ?_
  show Go p.tables e below (T.setTop (mkF m 36 #[.val (.int p0), .val (.int p1), .val (.int p2), .val (.int p3), .val (.long sp), .second, .val (.long u), .second, .val (.long h), .second, .val (.long t), .second, .unset, .unset, .unset, .unset, .unset, .unset, .unset, .unset] [(.long (0 : Int64)), (.long (h + t))])) _
  refine Go.by (fun tt_ kk_ => XS.lcmp X.here hx rfl (hb hby at_36) rfl kk_) ?_
  show Go p.tables e below (T.setTop (mkF m 37 #[.val (.int p0), .val (.int p1), .val (.int p2), .val (.int p3), .val (.long sp), .second, .val (.long u), .second, .val (.long h), .second, .val (.long t), .second, .unset, .unset, .unset, .unset, .unset, .unset, .unset, .unset] [(.int (lcmpW (h + t) (0 : Int64)))])) _
  by_cases hc37 : (lcmpW (h + t) (0 : Int64)) = (0 : Int32)
  · have z37 := (lc_eq _ _).mp (lcW _ _ ▸ hc37)
    have z38 : (h + t).toInt = h.toInt + t.toInt := FP.Core.int64_add (by omega) (by omega)
    refine Go.by (fun tt_ kk_ => XS.ifNo X.here hx rfl (hb hby at_37) rfl ((if0 _ _).trans (teq hc37).2) kk_) ?_
    show Go p.tables e below (T.setTop (mkF m 40 #[.val (.int p0), .val (.int p1), .val (.int p2), .val (.int p3), .val (.long sp), .second, .val (.long u), .second, .val (.long h), .second, .val (.long t), .second, .unset, .unset, .unset, .unset, .unset, .unset, .unset, .unset] [])) _
    refine Go.by (fun tt_ kk_ => XS.lconst X.here hx rfl (hb hby at_40) kk_) ?_
    show Go p.tables e below (T.setTop (mkF m 41 #[.val (.int p0), .val (.int p1), .val (.int p2), .val (.int p3), .val (.long sp), .second, .val (.long u), .second, .val (.long h), .second, .val (.long t), .second, .unset, .unset, .unset, .unset, .unset, .unset, .unset, .unset] [(.long (1 : Int64))])) _
    refine Go.by (fun tt_ kk_ => XS.lstore X.here hx rfl (hb hby at_41) rfl (l' := #[.val (.int p0), .val (.int p1), .val (.int p2), .val (.int p3), .val (.long sp), .second, .val (.long u), .second, .val (.long (1 : Int64)), .second, .val (.long t), .second, .unset, .unset, .unset, .unset, .unset, .unset, .unset, .unset]) rfl kk_) ?_
    show Go p.tables e below (T.setTop (mkF m 43 #[.val (.int p0), .val (.int p1), .val (.int p2), .val (.int p3), .val (.long sp), .second, .val (.long u), .second, .val (.long (1 : Int64)), .second, .val (.long t), .second, .unset, .unset, .unset, .unset, .unset, .unset, .unset, .unset] [])) _
    obtain ⟨H, e_H⟩ : ∃ z, z = (1 : Int64) := ⟨_, rfl⟩
    have b_H : 0 ≤ H.toInt ∧ H.toInt ≤ 1023 ∧ 0 < H.toInt + t.toInt := by rw [e_H, show (1 : Int64).toInt = 1 by decide]; omega
    rw [← e_H]
    show Go p.tables e below (T.setTop (mkF m 43 #[.val (.int p0), .val (.int p1), .val (.int p2), .val (.int p3), .val (.long sp), .second, .val (.long u), .second, .val (.long H), .second, .val (.long t), .second, .unset, .unset, .unset, .unset, .unset, .unset, .unset, .unset] [])) _
    refine Go.by (fun tt_ kk_ => XS.lload X.here hx rfl (hb hby at_43) rfl kk_) ?_
    show Go p.tables e below (T.setTop (mkF m 45 #[.val (.int p0), .val (.int p1), .val (.int p2), .val (.int p3), .val (.long sp), .second, .val (.long u), .second, .val (.long H), .second, .val (.long t), .second, .unset, .unset, .unset, .unset, .unset, .unset, .unset, .unset] [(.long H)])) _
    refine Go.by (fun tt_ kk_ => XS.lload X.here hx rfl (hb hby at_45) rfl kk_) ?_
    show Go p.tables e below (T.setTop (mkF m 47 #[.val (.int p0), .val (.int p1), .val (.int p2), .val (.int p3), .val (.long sp), .second, .val (.long u), .second, .val (.long H), .second, .val (.long t), .second, .unset, .unset, .unset, .unset, .unset, .unset, .unset, .unset] [(.long u), (.long H)])) _
    refine Go.by (fun tt_ kk_ => XS.lmul X.here hx rfl (hb hby at_47) rfl kk_) ?_
    show Go p.tables e below (T.setTop (mkF m 48 #[.val (.int p0), .val (.int p1), .val (.int p2), .val (.int p3), .val (.long sp), .second, .val (.long u), .second, .val (.long H), .second, .val (.long t), .second, .unset, .unset, .unset, .unset, .unset, .unset, .unset, .unset] [(.long (H * u))])) _
    refine Go.by (fun tt_ kk_ => XS.lload X.here hx rfl (hb hby at_48) rfl kk_) ?_
    show Go p.tables e below (T.setTop (mkF m 50 #[.val (.int p0), .val (.int p1), .val (.int p2), .val (.int p3), .val (.long sp), .second, .val (.long u), .second, .val (.long H), .second, .val (.long t), .second, .unset, .unset, .unset, .unset, .unset, .unset, .unset, .unset] [(.long sp), (.long (H * u))])) _
    refine Go.by (fun tt_ kk_ => XS.lload X.here hx rfl (hb hby at_50) rfl kk_) ?_
    show Go p.tables e below (T.setTop (mkF m 52 #[.val (.int p0), .val (.int p1), .val (.int p2), .val (.int p3), .val (.long sp), .second, .val (.long u), .second, .val (.long H), .second, .val (.long t), .second, .unset, .unset, .unset, .unset, .unset, .unset, .unset, .unset] [(.long u), (.long sp), (.long (H * u))])) _
    refine Go.by (fun tt_ kk_ => XS.ladd X.here hx rfl (hb hby at_52) rfl kk_) ?_
    show Go p.tables e below (T.setTop (mkF m 53 #[.val (.int p0), .val (.int p1), .val (.int p2), .val (.int p3), .val (.long sp), .second, .val (.long u), .second, .val (.long H), .second, .val (.long t), .second, .unset, .unset, .unset, .unset, .unset, .unset, .unset, .unset] [(.long (sp + u)), (.long (H * u))])) _
    refine Go.by (fun tt_ kk_ => XS.lload X.here hx rfl (hb hby at_53) rfl kk_) ?_
    show Go p.tables e below (T.setTop (mkF m 55 #[.val (.int p0), .val (.int p1), .val (.int p2), .val (.int p3), .val (.long sp), .second, .val (.long u), .second, .val (.long H), .second, .val (.long t), .second, .unset, .unset, .unset, .unset, .unset, .unset, .unset, .unset] [(.long t), (.long (sp + u)), (.long (H * u))])) _
    refine Go.by (fun tt_ kk_ => XS.lmul X.here hx rfl (hb hby at_55) rfl kk_) ?_
    show Go p.tables e below (T.setTop (mkF m 56 #[.val (.int p0), .val (.int p1), .val (.int p2), .val (.int p3), .val (.long sp), .second, .val (.long u), .second, .val (.long H), .second, .val (.long t), .second, .unset, .unset, .unset, .unset, .unset, .unset, .unset, .unset] [(.long ((sp + u) * t)), (.long (H * u))])) _
    refine Go.by (fun tt_ kk_ => XS.ladd X.here hx rfl (hb hby at_56) rfl kk_) ?_
    show Go p.tables e below (T.setTop (mkF m 57 #[.val (.int p0), .val (.int p1), .val (.int p2), .val (.int p3), .val (.long sp), .second, .val (.long u), .second, .val (.long H), .second, .val (.long t), .second, .unset, .unset, .unset, .unset, .unset, .unset, .unset, .unset] [(.long ((H * u) + ((sp + u) * t)))])) _
    obtain ⟨gg, e_gg⟩ : ∃ z, z = ((H * u) + ((sp + u) * t)) := ⟨_, rfl⟩
    rw [← e_gg]
    show Go p.tables e below (T.setTop (mkF m 57 #[.val (.int p0), .val (.int p1), .val (.int p2), .val (.int p3), .val (.long sp), .second, .val (.long u), .second, .val (.long H), .second, .val (.long t), .second, .unset, .unset, .unset, .unset, .unset, .unset, .unset, .unset] [(.long gg)])) _
    have n1 := own_mulb (A := 1023) (B := 100000) (show -1023 ≤ H.toInt by omega) b_H.2.1 b_u.1 b_u.2
    have n2 := own_mulb (A := 200000) (B := 1023) (show -200000 ≤ sp.toInt + u.toInt by omega) (by omega) (show -1023 ≤ t.toInt by omega) b_t.2
    have n3 : (sp + u).toInt = sp.toInt + u.toInt := FP.Core.int64_add (by omega) (by omega)
    have n4 : (H * u).toInt = H.toInt * u.toInt := FP.Core.int64_mul (by omega) (by omega)
    have n5 : ((sp + u) * t).toInt = (sp.toInt + u.toInt) * t.toInt := by rw [FP.Core.int64_mul (by rw [n3]; omega) (by rw [n3]; omega), n3]
    have n6 : gg.toInt = H.toInt * u.toInt + (sp.toInt + u.toInt) * t.toInt := by rw [e_gg, FP.Core.int64_add (by rw [n4, n5]; omega) (by rw [n4, n5]; omega), n4, n5]
    refine Go.by (fun tt_ kk_ => XS.lstore X.here hx rfl (hb hby at_57) rfl (l' := #[.val (.int p0), .val (.int p1), .val (.int p2), .val (.int p3), .val (.long sp), .second, .val (.long u), .second, .val (.long H), .second, .val (.long t), .second, .val (.long gg), .second, .unset, .unset, .unset, .unset, .unset, .unset]) rfl kk_) ?_
    show Go p.tables e below (T.setTop (mkF m 59 #[.val (.int p0), .val (.int p1), .val (.int p2), .val (.int p3), .val (.long sp), .second, .val (.long u), .second, .val (.long H), .second, .val (.long t), .second, .val (.long gg), .second, .unset, .unset, .unset, .unset, .unset, .unset] [])) _
    refine Go.by (fun tt_ kk_ => XS.lload X.here hx rfl (hb hby at_59) rfl kk_) ?_
    show Go p.tables e below (T.setTop (mkF m 61 #[.val (.int p0), .val (.int p1), .val (.int p2), .val (.int p3), .val (.long sp), .second, .val (.long u), .second, .val (.long H), .second, .val (.long t), .second, .val (.long gg), .second, .unset, .unset, .unset, .unset, .unset, .unset] [(.long gg)])) _
    refine Go.by (fun tt_ kk_ => XS.l2dS X.here hx rfl (hb hby at_61) rfl rfl kk_) ?_
    show Go p.tables e below (T.setTop (mkF m 62 #[.val (.int p0), .val (.int p1), .val (.int p2), .val (.int p3), .val (.long sp), .second, .val (.long u), .second, .val (.long H), .second, .val (.long t), .second, .val (.long gg), .second, .unset, .unset, .unset, .unset, .unset, .unset] [(.double (FP.l2d gg))])) _
    refine Go.by (X.ldc2DoubleC hx hown (mvT hZ (hw _ (List.mem_of_getElem? (i := 1) rfl))) (g := (mkF m 62 #[.val (.int p0), .val (.int p1), .val (.int p2), .val (.int p3), .val (.long sp), .second, .val (.long u), .second, .val (.long H), .second, .val (.long t), .second, .val (.long gg), .second, .unset, .unset, .unset, .unset, .unset, .unset] [(.double (FP.l2d gg))])) rfl (hb hby at_62)) ?_
    show Go p.tables e below (T.setTop (mkF m 65 #[.val (.int p0), .val (.int p1), .val (.int p2), .val (.int p3), .val (.long sp), .second, .val (.long u), .second, .val (.long H), .second, .val (.long t), .second, .val (.long gg), .second, .unset, .unset, .unset, .unset, .unset, .unset] [(.double (4611686018427387904 : UInt64)), (.double (FP.l2d gg))])) _
    obtain ⟨gp, e_gp⟩ : ∃ z, z = FP.ddiv (FP.l2d gg) (4611686018427387904 : UInt64) := ⟨_, rfl⟩
    have d_gp : Dy gg.toInt (-1) gp := by rw [e_gp]; exact Dy.div (k := gg.toInt) (j := 1) (e := 0) (g := 1) (by rw [Int.mul_one]; exact Dy.l2d (by omega)) own_two (by decide) (by omega) (by decide) (by decide)
    refine Go.by (fun tt_ kk_ => XS.ddivS X.here hx rfl (hb hby at_65) rfl (e_gp ▸ d_gp.noNaN) e_gp.symm kk_) ?_
    show Go p.tables e below (T.setTop (mkF m 66 #[.val (.int p0), .val (.int p1), .val (.int p2), .val (.int p3), .val (.long sp), .second, .val (.long u), .second, .val (.long H), .second, .val (.long t), .second, .val (.long gg), .second, .unset, .unset, .unset, .unset, .unset, .unset] [(.double gp)])) _
    refine Go.by (fun tt_ kk_ => XS.dstore X.here hx rfl (hb hby at_66) rfl (l' := #[.val (.int p0), .val (.int p1), .val (.int p2), .val (.int p3), .val (.long sp), .second, .val (.long u), .second, .val (.long H), .second, .val (.long t), .second, .val (.long gg), .second, .val (.double gp), .second, .unset, .unset, .unset, .unset]) rfl kk_) ?_
    show Go p.tables e below (T.setTop (mkF m 68 #[.val (.int p0), .val (.int p1), .val (.int p2), .val (.int p3), .val (.long sp), .second, .val (.long u), .second, .val (.long H), .second, .val (.long t), .second, .val (.long gg), .second, .val (.double gp), .second, .unset, .unset, .unset, .unset] [])) _
    refine Go.by (fun tt_ kk_ => XS.lload X.here hx rfl (hb hby at_68) rfl kk_) ?_
    show Go p.tables e below (T.setTop (mkF m 70 #[.val (.int p0), .val (.int p1), .val (.int p2), .val (.int p3), .val (.long sp), .second, .val (.long u), .second, .val (.long H), .second, .val (.long t), .second, .val (.long gg), .second, .val (.double gp), .second, .unset, .unset, .unset, .unset] [(.long H)])) _
    refine Go.by (fun tt_ kk_ => XS.l2dS X.here hx rfl (hb hby at_70) rfl rfl kk_) ?_
    show Go p.tables e below (T.setTop (mkF m 71 #[.val (.int p0), .val (.int p1), .val (.int p2), .val (.int p3), .val (.long sp), .second, .val (.long u), .second, .val (.long H), .second, .val (.long t), .second, .val (.long gg), .second, .val (.double gp), .second, .unset, .unset, .unset, .unset] [(.double (FP.l2d H))])) _
    refine Go.by (X.ldc2DoubleC hx hown (mvT hZ (hw _ (List.mem_of_getElem? (i := 1) rfl))) (g := (mkF m 71 #[.val (.int p0), .val (.int p1), .val (.int p2), .val (.int p3), .val (.long sp), .second, .val (.long u), .second, .val (.long H), .second, .val (.long t), .second, .val (.long gg), .second, .val (.double gp), .second, .unset, .unset, .unset, .unset] [(.double (FP.l2d H))])) rfl (hb hby at_71)) ?_
    show Go p.tables e below (T.setTop (mkF m 74 #[.val (.int p0), .val (.int p1), .val (.int p2), .val (.int p3), .val (.long sp), .second, .val (.long u), .second, .val (.long H), .second, .val (.long t), .second, .val (.long gg), .second, .val (.double gp), .second, .unset, .unset, .unset, .unset] [(.double (4611686018427387904 : UInt64)), (.double (FP.l2d H))])) _
    obtain ⟨hw', e_hw'⟩ : ∃ z, z = FP.ddiv (FP.l2d H) (4611686018427387904 : UInt64) := ⟨_, rfl⟩
    have d_hw' : Dy H.toInt (-1) hw' := by rw [e_hw']; exact Dy.div (k := H.toInt) (j := 1) (e := 0) (g := 1) (by rw [Int.mul_one]; exact Dy.l2d (by omega)) own_two (by decide) (by omega) (by decide) (by decide)
    refine Go.by (fun tt_ kk_ => XS.ddivS X.here hx rfl (hb hby at_74) rfl (e_hw' ▸ d_hw'.noNaN) e_hw'.symm kk_) ?_
    show Go p.tables e below (T.setTop (mkF m 75 #[.val (.int p0), .val (.int p1), .val (.int p2), .val (.int p3), .val (.long sp), .second, .val (.long u), .second, .val (.long H), .second, .val (.long t), .second, .val (.long gg), .second, .val (.double gp), .second, .unset, .unset, .unset, .unset] [(.double hw')])) _
    refine Go.by (fun tt_ kk_ => XS.dstore X.here hx rfl (hb hby at_75) rfl (l' := #[.val (.int p0), .val (.int p1), .val (.int p2), .val (.int p3), .val (.long sp), .second, .val (.long u), .second, .val (.long H), .second, .val (.long t), .second, .val (.long gg), .second, .val (.double gp), .second, .val (.double hw'), .second, .unset, .unset]) rfl kk_) ?_
    show Go p.tables e below (T.setTop (mkF m 77 #[.val (.int p0), .val (.int p1), .val (.int p2), .val (.int p3), .val (.long sp), .second, .val (.long u), .second, .val (.long H), .second, .val (.long t), .second, .val (.long gg), .second, .val (.double gp), .second, .val (.double hw'), .second, .unset, .unset] [])) _
    refine Go.by (fun tt_ kk_ => XS.lload X.here hx rfl (hb hby at_77) rfl kk_) ?_
    show Go p.tables e below (T.setTop (mkF m 79 #[.val (.int p0), .val (.int p1), .val (.int p2), .val (.int p3), .val (.long sp), .second, .val (.long u), .second, .val (.long H), .second, .val (.long t), .second, .val (.long gg), .second, .val (.double gp), .second, .val (.double hw'), .second, .unset, .unset] [(.long sp)])) _
    refine Go.by (fun tt_ kk_ => XS.l2dS X.here hx rfl (hb hby at_79) rfl rfl kk_) ?_
    show Go p.tables e below (T.setTop (mkF m 80 #[.val (.int p0), .val (.int p1), .val (.int p2), .val (.int p3), .val (.long sp), .second, .val (.long u), .second, .val (.long H), .second, .val (.long t), .second, .val (.long gg), .second, .val (.double gp), .second, .val (.double hw'), .second, .unset, .unset] [(.double (FP.l2d sp))])) _
    refine Go.by (fun tt_ kk_ => XS.dload X.here hx rfl (hb hby at_80) rfl kk_) ?_
    show Go p.tables e below (T.setTop (mkF m 82 #[.val (.int p0), .val (.int p1), .val (.int p2), .val (.int p3), .val (.long sp), .second, .val (.long u), .second, .val (.long H), .second, .val (.long t), .second, .val (.long gg), .second, .val (.double gp), .second, .val (.double hw'), .second, .unset, .unset] [(.double gp), (.double (FP.l2d sp))])) _
    refine Go.by (fun tt_ kk_ => XS.dload X.here hx rfl (hb hby at_82) rfl kk_) ?_
    show Go p.tables e below (T.setTop (mkF m 84 #[.val (.int p0), .val (.int p1), .val (.int p2), .val (.int p3), .val (.long sp), .second, .val (.long u), .second, .val (.long H), .second, .val (.long t), .second, .val (.long gg), .second, .val (.double gp), .second, .val (.double hw'), .second, .unset, .unset] [(.double hw'), (.double gp), (.double (FP.l2d sp))])) _
    refine Go.by (fun tt_ kk_ => XS.lload X.here hx rfl (hb hby at_84) rfl kk_) ?_
    show Go p.tables e below (T.setTop (mkF m 86 #[.val (.int p0), .val (.int p1), .val (.int p2), .val (.int p3), .val (.long sp), .second, .val (.long u), .second, .val (.long H), .second, .val (.long t), .second, .val (.long gg), .second, .val (.double gp), .second, .val (.double hw'), .second, .unset, .unset] [(.long t), (.double hw'), (.double gp), (.double (FP.l2d sp))])) _
    refine Go.by (fun tt_ kk_ => XS.l2dS X.here hx rfl (hb hby at_86) rfl rfl kk_) ?_
    show Go p.tables e below (T.setTop (mkF m 87 #[.val (.int p0), .val (.int p1), .val (.int p2), .val (.int p3), .val (.long sp), .second, .val (.long u), .second, .val (.long H), .second, .val (.long t), .second, .val (.long gg), .second, .val (.double gp), .second, .val (.double hw'), .second, .unset, .unset] [(.double (FP.l2d t)), (.double hw'), (.double gp), (.double (FP.l2d sp))])) _
    obtain ⟨_, _, ⟨T, L_, k_, n_⟩, -, X, ⟨Lc_, hQ, l_, y_, z_⟩, st⟩ := Jvm.LawKit.callS X hx (y := (⟨"com/example/eindhoven/eindhoven/engine/Motion", "followingSpeed", "(DDDD)D"⟩ : MethodName)) hown (mvT hZ (hw _ (List.mem_of_getElem? (i := 2) rfl))) (mvT hZ (hw _ (List.mem_of_getElem? (i := 3) rfl))) (mvT hZ (hw _ (List.mem_of_getElem? (i := 4) rfl))) (mvT hZ (hw _ (List.mem_of_getElem? (i := 5) rfl))) (by decide) (backOf (W := 0) (rm1 l Z a0 hw [] (FP.l2d sp) gp hw' (FP.l2d t) sp.toInt u.toInt H.toInt t.toInt h0 n0 (Nat.le_trans Z0 K.1) (Dy.l2d (by omega)) (n6 ▸ d_gp) d_hw' (Dy.l2d (by omega)) b_sp b_u ⟨b_H.1, b_H.2.1⟩ b_t b_H.2.2) hZ (hw _ (List.mem_of_getElem? (i := 5) rfl)) (hw _ (List.mem_of_getElem? (i := 4) rfl)) (by decide) (by decide)) (g := (mkF m 87 #[.val (.int p0), .val (.int p1), .val (.int p2), .val (.int p3), .val (.long sp), .second, .val (.long u), .second, .val (.long H), .second, .val (.long t), .second, .val (.long gg), .second, .val (.double gp), .second, .val (.double hw'), .second, .unset, .unset] [(.double (FP.l2d t)), (.double hw'), (.double gp), (.double (FP.l2d sp))])) rfl (by rw [hml]; rfl) (argsL := [(.double (FP.l2d sp)), (.double gp), (.double hw'), (.double (FP.l2d t))]) (rest := []) (lenOf pd_0 rfl) rfl (by show 2 * 0 + _ ≤ _; exact Nat.le_of_eq rfl) (hb hby at_87) (fun _ _ => ⟨rfl, eT, (by decide : 0 + 0 ≤ _), (by decide : 0 + 0 ≤ _)⟩)
    dsimp only [Pt.U, Pt.locs, Pt.cells, Pt.slots] at X l_ y_ z_ st hQ
    subst l_ y_ z_
    obtain ⟨r, rfl, Nq, d_r, eh⟩ := hQ
    have N := Fr.app N Nq
    have eT := eh
    refine Go.by st ?_
    show Go p.tables e below (T.setTop (mkF m 90 #[.val (.int p0), .val (.int p1), .val (.int p2), .val (.int p3), .val (.long sp), .second, .val (.long u), .second, .val (.long H), .second, .val (.long t), .second, .val (.long gg), .second, .val (.double gp), .second, .val (.double hw'), .second, .unset, .unset] [(.double r)])) _
    refine Go.by (fun tt_ kk_ => XS.dstore X.here hx rfl (hb hby at_90) rfl (l' := #[.val (.int p0), .val (.int p1), .val (.int p2), .val (.int p3), .val (.long sp), .second, .val (.long u), .second, .val (.long H), .second, .val (.long t), .second, .val (.long gg), .second, .val (.double gp), .second, .val (.double hw'), .second, .val (.double r), .second]) rfl kk_) ?_
    show Go p.tables e below (T.setTop (mkF m 92 #[.val (.int p0), .val (.int p1), .val (.int p2), .val (.int p3), .val (.long sp), .second, .val (.long u), .second, .val (.long H), .second, .val (.long t), .second, .val (.long gg), .second, .val (.double gp), .second, .val (.double hw'), .second, .val (.double r), .second] [])) _
    refine Go.by (fun tt_ kk_ => XS.dload X.here hx rfl (hb hby at_92) rfl kk_) ?_
    show Go p.tables e below (T.setTop (mkF m 94 #[.val (.int p0), .val (.int p1), .val (.int p2), .val (.int p3), .val (.long sp), .second, .val (.long u), .second, .val (.long H), .second, .val (.long t), .second, .val (.long gg), .second, .val (.double gp), .second, .val (.double hw'), .second, .val (.double r), .second] [(.double r)])) _
    refine Go.by (fun tt_ kk_ => XS.lload X.here hx rfl (hb hby at_94) rfl kk_) ?_
    show Go p.tables e below (T.setTop (mkF m 96 #[.val (.int p0), .val (.int p1), .val (.int p2), .val (.int p3), .val (.long sp), .second, .val (.long u), .second, .val (.long H), .second, .val (.long t), .second, .val (.long gg), .second, .val (.double gp), .second, .val (.double hw'), .second, .val (.double r), .second] [(.long u), (.double r)])) _
    refine Go.by (fun tt_ kk_ => XS.l2dS X.here hx rfl (hb hby at_96) rfl rfl kk_) ?_
    show Go p.tables e below (T.setTop (mkF m 97 #[.val (.int p0), .val (.int p1), .val (.int p2), .val (.int p3), .val (.long sp), .second, .val (.long u), .second, .val (.long H), .second, .val (.long t), .second, .val (.long gg), .second, .val (.double gp), .second, .val (.double hw'), .second, .val (.double r), .second] [(.double (FP.l2d u)), (.double r)])) _
    refine Go.by (fun tt_ kk_ => XS.dcmpS X.here hx rfl (hb hby at_97) rfl ((d_r.cmpV (Dy.l2d (by omega)) .l).trans (own_ci_eq.mpr rfl)) kk_) ?_
    show Go p.tables e below (T.setTop (mkF m 98 #[.val (.int p0), .val (.int p1), .val (.int p2), .val (.int p3), .val (.long sp), .second, .val (.long u), .second, .val (.long H), .second, .val (.long t), .second, .val (.long gg), .second, .val (.double gp), .second, .val (.double hw'), .second, .val (.double r), .second] [(.int (0 : Int32))])) _
    refine Go.by (fun tt_ kk_ => XS.ifNo X.here hx rfl (hb hby at_98) rfl ((if0 _ _).trans (teq (rfl : (0 : Int32) = (0 : Int32))).2) kk_) ?_
    show Go p.tables e below (T.setTop (mkF m 101 #[.val (.int p0), .val (.int p1), .val (.int p2), .val (.int p3), .val (.long sp), .second, .val (.long u), .second, .val (.long H), .second, .val (.long t), .second, .val (.long gg), .second, .val (.double gp), .second, .val (.double hw'), .second, .val (.double r), .second] [])) _
    refine Go.by (fun tt_ kk_ => XS.iconst X.here hx rfl (hb hby at_101) kk_) ?_
    show Go p.tables e below (T.setTop (mkF m 102 #[.val (.int p0), .val (.int p1), .val (.int p2), .val (.int p3), .val (.long sp), .second, .val (.long u), .second, .val (.long H), .second, .val (.long t), .second, .val (.long gg), .second, .val (.double gp), .second, .val (.double hw'), .second, .val (.double r), .second] [(.int (1 : Int32))])) _
    refine Go.by (fun tt_ kk_ => XS.goto X.here hx rfl (pc0 := 102) (pc' := 106) rfl (hb hby at_102) (by decide) (by decide) kk_) ?_
    show Go p.tables e below (T.setTop (mkF m 106 #[.val (.int p0), .val (.int p1), .val (.int p2), .val (.int p3), .val (.long sp), .second, .val (.long u), .second, .val (.long H), .second, .val (.long t), .second, .val (.long gg), .second, .val (.double gp), .second, .val (.double hw'), .second, .val (.double r), .second] [(.int (1 : Int32))])) _
    exact Go.done X  (v := some (.int (1 : Int32))) (fun h => by rw [Bd.returns] at h; cases h) Bd.notSynchronized (fun fs hr => retN X hx (z := (1 : Int32)) (t := .boolean) Bd.returns (by simp) (hb hby at_106) hr) (by rw [eT]; exact ⟨rfl, N⟩) (by decide) (by decide)
  · have z37 : ¬ (h + t = 0) := fun q => hc37 ((lcW _ _).trans ((lc_eq _ _).mpr q))
    have z38 : (h + t).toInt = h.toInt + t.toInt := FP.Core.int64_add (by omega) (by omega)
    refine Go.by (fun tt_ kk_ => XS.ifYes X.here hx rfl (pc0 := 37) (pc' := 43) rfl (hb hby at_37) rfl ((if0 _ _).trans (feq hc37).2) (by decide) (by decide) kk_) ?_
    show Go p.tables e below (T.setTop (mkF m 43 #[.val (.int p0), .val (.int p1), .val (.int p2), .val (.int p3), .val (.long sp), .second, .val (.long u), .second, .val (.long h), .second, .val (.long t), .second, .unset, .unset, .unset, .unset, .unset, .unset, .unset, .unset] [])) _
    obtain ⟨H, e_H⟩ : ∃ z, z = h := ⟨_, rfl⟩
    have b_H : 0 ≤ H.toInt ∧ H.toInt ≤ 1023 ∧ 0 < H.toInt + t.toInt := by
      rw [e_H]
      have : ¬ (h.toInt + t.toInt = 0) := fun q => z37 (Int64.toInt_inj.mp (by rw [z38, q]; decide))
      omega
    rw [← e_H]
    show Go p.tables e below (T.setTop (mkF m 43 #[.val (.int p0), .val (.int p1), .val (.int p2), .val (.int p3), .val (.long sp), .second, .val (.long u), .second, .val (.long H), .second, .val (.long t), .second, .unset, .unset, .unset, .unset, .unset, .unset, .unset, .unset] [])) _
    refine Go.by (fun tt_ kk_ => XS.lload X.here hx rfl (hb hby at_43) rfl kk_) ?_
    show Go p.tables e below (T.setTop (mkF m 45 #[.val (.int p0), .val (.int p1), .val (.int p2), .val (.int p3), .val (.long sp), .second, .val (.long u), .second, .val (.long H), .second, .val (.long t), .second, .unset, .unset, .unset, .unset, .unset, .unset, .unset, .unset] [(.long H)])) _
    refine Go.by (fun tt_ kk_ => XS.lload X.here hx rfl (hb hby at_45) rfl kk_) ?_
    show Go p.tables e below (T.setTop (mkF m 47 #[.val (.int p0), .val (.int p1), .val (.int p2), .val (.int p3), .val (.long sp), .second, .val (.long u), .second, .val (.long H), .second, .val (.long t), .second, .unset, .unset, .unset, .unset, .unset, .unset, .unset, .unset] [(.long u), (.long H)])) _
    refine Go.by (fun tt_ kk_ => XS.lmul X.here hx rfl (hb hby at_47) rfl kk_) ?_
    show Go p.tables e below (T.setTop (mkF m 48 #[.val (.int p0), .val (.int p1), .val (.int p2), .val (.int p3), .val (.long sp), .second, .val (.long u), .second, .val (.long H), .second, .val (.long t), .second, .unset, .unset, .unset, .unset, .unset, .unset, .unset, .unset] [(.long (H * u))])) _
    refine Go.by (fun tt_ kk_ => XS.lload X.here hx rfl (hb hby at_48) rfl kk_) ?_
    show Go p.tables e below (T.setTop (mkF m 50 #[.val (.int p0), .val (.int p1), .val (.int p2), .val (.int p3), .val (.long sp), .second, .val (.long u), .second, .val (.long H), .second, .val (.long t), .second, .unset, .unset, .unset, .unset, .unset, .unset, .unset, .unset] [(.long sp), (.long (H * u))])) _
    refine Go.by (fun tt_ kk_ => XS.lload X.here hx rfl (hb hby at_50) rfl kk_) ?_
    show Go p.tables e below (T.setTop (mkF m 52 #[.val (.int p0), .val (.int p1), .val (.int p2), .val (.int p3), .val (.long sp), .second, .val (.long u), .second, .val (.long H), .second, .val (.long t), .second, .unset, .unset, .unset, .unset, .unset, .unset, .unset, .unset] [(.long u), (.long sp), (.long (H * u))])) _
    refine Go.by (fun tt_ kk_ => XS.ladd X.here hx rfl (hb hby at_52) rfl kk_) ?_
    show Go p.tables e below (T.setTop (mkF m 53 #[.val (.int p0), .val (.int p1), .val (.int p2), .val (.int p3), .val (.long sp), .second, .val (.long u), .second, .val (.long H), .second, .val (.long t), .second, .unset, .unset, .unset, .unset, .unset, .unset, .unset, .unset] [(.long (sp + u)), (.long (H * u))])) _
    refine Go.by (fun tt_ kk_ => XS.lload X.here hx rfl (hb hby at_53) rfl kk_) ?_
    show Go p.tables e below (T.setTop (mkF m 55 #[.val (.int p0), .val (.int p1), .val (.int p2), .val (.int p3), .val (.long sp), .second, .val (.long u), .second, .val (.long H), .second, .val (.long t), .second, .unset, .unset, .unset, .unset, .unset, .unset, .unset, .unset] [(.long t), (.long (sp + u)), (.long (H * u))])) _
    refine Go.by (fun tt_ kk_ => XS.lmul X.here hx rfl (hb hby at_55) rfl kk_) ?_
    show Go p.tables e below (T.setTop (mkF m 56 #[.val (.int p0), .val (.int p1), .val (.int p2), .val (.int p3), .val (.long sp), .second, .val (.long u), .second, .val (.long H), .second, .val (.long t), .second, .unset, .unset, .unset, .unset, .unset, .unset, .unset, .unset] [(.long ((sp + u) * t)), (.long (H * u))])) _
    refine Go.by (fun tt_ kk_ => XS.ladd X.here hx rfl (hb hby at_56) rfl kk_) ?_
    show Go p.tables e below (T.setTop (mkF m 57 #[.val (.int p0), .val (.int p1), .val (.int p2), .val (.int p3), .val (.long sp), .second, .val (.long u), .second, .val (.long H), .second, .val (.long t), .second, .unset, .unset, .unset, .unset, .unset, .unset, .unset, .unset] [(.long ((H * u) + ((sp + u) * t)))])) _
    obtain ⟨gg, e_gg⟩ : ∃ z, z = ((H * u) + ((sp + u) * t)) := ⟨_, rfl⟩
    rw [← e_gg]
    show Go p.tables e below (T.setTop (mkF m 57 #[.val (.int p0), .val (.int p1), .val (.int p2), .val (.int p3), .val (.long sp), .second, .val (.long u), .second, .val (.long H), .second, .val (.long t), .second, .unset, .unset, .unset, .unset, .unset, .unset, .unset, .unset] [(.long gg)])) _
    have n1 := own_mulb (A := 1023) (B := 100000) (show -1023 ≤ H.toInt by omega) b_H.2.1 b_u.1 b_u.2
    have n2 := own_mulb (A := 200000) (B := 1023) (show -200000 ≤ sp.toInt + u.toInt by omega) (by omega) (show -1023 ≤ t.toInt by omega) b_t.2
    have n3 : (sp + u).toInt = sp.toInt + u.toInt := FP.Core.int64_add (by omega) (by omega)
    have n4 : (H * u).toInt = H.toInt * u.toInt := FP.Core.int64_mul (by omega) (by omega)
    have n5 : ((sp + u) * t).toInt = (sp.toInt + u.toInt) * t.toInt := by rw [FP.Core.int64_mul (by rw [n3]; omega) (by rw [n3]; omega), n3]
    have n6 : gg.toInt = H.toInt * u.toInt + (sp.toInt + u.toInt) * t.toInt := by rw [e_gg, FP.Core.int64_add (by rw [n4, n5]; omega) (by rw [n4, n5]; omega), n4, n5]
    refine Go.by (fun tt_ kk_ => XS.lstore X.here hx rfl (hb hby at_57) rfl (l' := #[.val (.int p0), .val (.int p1), .val (.int p2), .val (.int p3), .val (.long sp), .second, .val (.long u), .second, .val (.long H), .second, .val (.long t), .second, .val (.long gg), .second, .unset, .unset, .unset, .unset, .unset, .unset]) rfl kk_) ?_
    show Go p.tables e below (T.setTop (mkF m 59 #[.val (.int p0), .val (.int p1), .val (.int p2), .val (.int p3), .val (.long sp), .second, .val (.long u), .second, .val (.long H), .second, .val (.long t), .second, .val (.long gg), .second, .unset, .unset, .unset, .unset, .unset, .unset] [])) _
    refine Go.by (fun tt_ kk_ => XS.lload X.here hx rfl (hb hby at_59) rfl kk_) ?_
    show Go p.tables e below (T.setTop (mkF m 61 #[.val (.int p0), .val (.int p1), .val (.int p2), .val (.int p3), .val (.long sp), .second, .val (.long u), .second, .val (.long H), .second, .val (.long t), .second, .val (.long gg), .second, .unset, .unset, .unset, .unset, .unset, .unset] [(.long gg)])) _
    refine Go.by (fun tt_ kk_ => XS.l2dS X.here hx rfl (hb hby at_61) rfl rfl kk_) ?_
    show Go p.tables e below (T.setTop (mkF m 62 #[.val (.int p0), .val (.int p1), .val (.int p2), .val (.int p3), .val (.long sp), .second, .val (.long u), .second, .val (.long H), .second, .val (.long t), .second, .val (.long gg), .second, .unset, .unset, .unset, .unset, .unset, .unset] [(.double (FP.l2d gg))])) _
    refine Go.by (X.ldc2DoubleC hx hown (mvT hZ (hw _ (List.mem_of_getElem? (i := 1) rfl))) (g := (mkF m 62 #[.val (.int p0), .val (.int p1), .val (.int p2), .val (.int p3), .val (.long sp), .second, .val (.long u), .second, .val (.long H), .second, .val (.long t), .second, .val (.long gg), .second, .unset, .unset, .unset, .unset, .unset, .unset] [(.double (FP.l2d gg))])) rfl (hb hby at_62)) ?_
    show Go p.tables e below (T.setTop (mkF m 65 #[.val (.int p0), .val (.int p1), .val (.int p2), .val (.int p3), .val (.long sp), .second, .val (.long u), .second, .val (.long H), .second, .val (.long t), .second, .val (.long gg), .second, .unset, .unset, .unset, .unset, .unset, .unset] [(.double (4611686018427387904 : UInt64)), (.double (FP.l2d gg))])) _
    obtain ⟨gp, e_gp⟩ : ∃ z, z = FP.ddiv (FP.l2d gg) (4611686018427387904 : UInt64) := ⟨_, rfl⟩
    have d_gp : Dy gg.toInt (-1) gp := by rw [e_gp]; exact Dy.div (k := gg.toInt) (j := 1) (e := 0) (g := 1) (by rw [Int.mul_one]; exact Dy.l2d (by omega)) own_two (by decide) (by omega) (by decide) (by decide)
    refine Go.by (fun tt_ kk_ => XS.ddivS X.here hx rfl (hb hby at_65) rfl (e_gp ▸ d_gp.noNaN) e_gp.symm kk_) ?_
    show Go p.tables e below (T.setTop (mkF m 66 #[.val (.int p0), .val (.int p1), .val (.int p2), .val (.int p3), .val (.long sp), .second, .val (.long u), .second, .val (.long H), .second, .val (.long t), .second, .val (.long gg), .second, .unset, .unset, .unset, .unset, .unset, .unset] [(.double gp)])) _
    refine Go.by (fun tt_ kk_ => XS.dstore X.here hx rfl (hb hby at_66) rfl (l' := #[.val (.int p0), .val (.int p1), .val (.int p2), .val (.int p3), .val (.long sp), .second, .val (.long u), .second, .val (.long H), .second, .val (.long t), .second, .val (.long gg), .second, .val (.double gp), .second, .unset, .unset, .unset, .unset]) rfl kk_) ?_
    show Go p.tables e below (T.setTop (mkF m 68 #[.val (.int p0), .val (.int p1), .val (.int p2), .val (.int p3), .val (.long sp), .second, .val (.long u), .second, .val (.long H), .second, .val (.long t), .second, .val (.long gg), .second, .val (.double gp), .second, .unset, .unset, .unset, .unset] [])) _
    refine Go.by (fun tt_ kk_ => XS.lload X.here hx rfl (hb hby at_68) rfl kk_) ?_
    show Go p.tables e below (T.setTop (mkF m 70 #[.val (.int p0), .val (.int p1), .val (.int p2), .val (.int p3), .val (.long sp), .second, .val (.long u), .second, .val (.long H), .second, .val (.long t), .second, .val (.long gg), .second, .val (.double gp), .second, .unset, .unset, .unset, .unset] [(.long H)])) _
    refine Go.by (fun tt_ kk_ => XS.l2dS X.here hx rfl (hb hby at_70) rfl rfl kk_) ?_
    show Go p.tables e below (T.setTop (mkF m 71 #[.val (.int p0), .val (.int p1), .val (.int p2), .val (.int p3), .val (.long sp), .second, .val (.long u), .second, .val (.long H), .second, .val (.long t), .second, .val (.long gg), .second, .val (.double gp), .second, .unset, .unset, .unset, .unset] [(.double (FP.l2d H))])) _
    refine Go.by (X.ldc2DoubleC hx hown (mvT hZ (hw _ (List.mem_of_getElem? (i := 1) rfl))) (g := (mkF m 71 #[.val (.int p0), .val (.int p1), .val (.int p2), .val (.int p3), .val (.long sp), .second, .val (.long u), .second, .val (.long H), .second, .val (.long t), .second, .val (.long gg), .second, .val (.double gp), .second, .unset, .unset, .unset, .unset] [(.double (FP.l2d H))])) rfl (hb hby at_71)) ?_
    show Go p.tables e below (T.setTop (mkF m 74 #[.val (.int p0), .val (.int p1), .val (.int p2), .val (.int p3), .val (.long sp), .second, .val (.long u), .second, .val (.long H), .second, .val (.long t), .second, .val (.long gg), .second, .val (.double gp), .second, .unset, .unset, .unset, .unset] [(.double (4611686018427387904 : UInt64)), (.double (FP.l2d H))])) _
    obtain ⟨hw', e_hw'⟩ : ∃ z, z = FP.ddiv (FP.l2d H) (4611686018427387904 : UInt64) := ⟨_, rfl⟩
    have d_hw' : Dy H.toInt (-1) hw' := by rw [e_hw']; exact Dy.div (k := H.toInt) (j := 1) (e := 0) (g := 1) (by rw [Int.mul_one]; exact Dy.l2d (by omega)) own_two (by decide) (by omega) (by decide) (by decide)
    refine Go.by (fun tt_ kk_ => XS.ddivS X.here hx rfl (hb hby at_74) rfl (e_hw' ▸ d_hw'.noNaN) e_hw'.symm kk_) ?_
    show Go p.tables e below (T.setTop (mkF m 75 #[.val (.int p0), .val (.int p1), .val (.int p2), .val (.int p3), .val (.long sp), .second, .val (.long u), .second, .val (.long H), .second, .val (.long t), .second, .val (.long gg), .second, .val (.double gp), .second, .unset, .unset, .unset, .unset] [(.double hw')])) _
    refine Go.by (fun tt_ kk_ => XS.dstore X.here hx rfl (hb hby at_75) rfl (l' := #[.val (.int p0), .val (.int p1), .val (.int p2), .val (.int p3), .val (.long sp), .second, .val (.long u), .second, .val (.long H), .second, .val (.long t), .second, .val (.long gg), .second, .val (.double gp), .second, .val (.double hw'), .second, .unset, .unset]) rfl kk_) ?_
    show Go p.tables e below (T.setTop (mkF m 77 #[.val (.int p0), .val (.int p1), .val (.int p2), .val (.int p3), .val (.long sp), .second, .val (.long u), .second, .val (.long H), .second, .val (.long t), .second, .val (.long gg), .second, .val (.double gp), .second, .val (.double hw'), .second, .unset, .unset] [])) _
    refine Go.by (fun tt_ kk_ => XS.lload X.here hx rfl (hb hby at_77) rfl kk_) ?_
    show Go p.tables e below (T.setTop (mkF m 79 #[.val (.int p0), .val (.int p1), .val (.int p2), .val (.int p3), .val (.long sp), .second, .val (.long u), .second, .val (.long H), .second, .val (.long t), .second, .val (.long gg), .second, .val (.double gp), .second, .val (.double hw'), .second, .unset, .unset] [(.long sp)])) _
    refine Go.by (fun tt_ kk_ => XS.l2dS X.here hx rfl (hb hby at_79) rfl rfl kk_) ?_
    show Go p.tables e below (T.setTop (mkF m 80 #[.val (.int p0), .val (.int p1), .val (.int p2), .val (.int p3), .val (.long sp), .second, .val (.long u), .second, .val (.long H), .second, .val (.long t), .second, .val (.long gg), .second, .val (.double gp), .second, .val (.double hw'), .second, .unset, .unset] [(.double (FP.l2d sp))])) _
    refine Go.by (fun tt_ kk_ => XS.dload X.here hx rfl (hb hby at_80) rfl kk_) ?_
    show Go p.tables e below (T.setTop (mkF m 82 #[.val (.int p0), .val (.int p1), .val (.int p2), .val (.int p3), .val (.long sp), .second, .val (.long u), .second, .val (.long H), .second, .val (.long t), .second, .val (.long gg), .second, .val (.double gp), .second, .val (.double hw'), .second, .unset, .unset] [(.double gp), (.double (FP.l2d sp))])) _
    refine Go.by (fun tt_ kk_ => XS.dload X.here hx rfl (hb hby at_82) rfl kk_) ?_
    show Go p.tables e below (T.setTop (mkF m 84 #[.val (.int p0), .val (.int p1), .val (.int p2), .val (.int p3), .val (.long sp), .second, .val (.long u), .second, .val (.long H), .second, .val (.long t), .second, .val (.long gg), .second, .val (.double gp), .second, .val (.double hw'), .second, .unset, .unset] [(.double hw'), (.double gp), (.double (FP.l2d sp))])) _
    refine Go.by (fun tt_ kk_ => XS.lload X.here hx rfl (hb hby at_84) rfl kk_) ?_
    show Go p.tables e below (T.setTop (mkF m 86 #[.val (.int p0), .val (.int p1), .val (.int p2), .val (.int p3), .val (.long sp), .second, .val (.long u), .second, .val (.long H), .second, .val (.long t), .second, .val (.long gg), .second, .val (.double gp), .second, .val (.double hw'), .second, .unset, .unset] [(.long t), (.double hw'), (.double gp), (.double (FP.l2d sp))])) _
    refine Go.by (fun tt_ kk_ => XS.l2dS X.here hx rfl (hb hby at_86) rfl rfl kk_) ?_
    show Go p.tables e below (T.setTop (mkF m 87 #[.val (.int p0), .val (.int p1), .val (.int p2), .val (.int p3), .val (.long sp), .second, .val (.long u), .second, .val (.long H), .second, .val (.long t), .second, .val (.long gg), .second, .val (.double gp), .second, .val (.double hw'), .second, .unset, .unset] [(.double (FP.l2d t)), (.double hw'), (.double gp), (.double (FP.l2d sp))])) _
    obtain ⟨_, _, ⟨T, L_, k_, n_⟩, -, X, ⟨Lc_, hQ, l_, y_, z_⟩, st⟩ := Jvm.LawKit.callS X hx (y := (⟨"com/example/eindhoven/eindhoven/engine/Motion", "followingSpeed", "(DDDD)D"⟩ : MethodName)) hown (mvT hZ (hw _ (List.mem_of_getElem? (i := 2) rfl))) (mvT hZ (hw _ (List.mem_of_getElem? (i := 3) rfl))) (mvT hZ (hw _ (List.mem_of_getElem? (i := 4) rfl))) (mvT hZ (hw _ (List.mem_of_getElem? (i := 5) rfl))) (by decide) (backOf (W := 0) (rm1 l Z a0 hw [] (FP.l2d sp) gp hw' (FP.l2d t) sp.toInt u.toInt H.toInt t.toInt h0 n0 (Nat.le_trans Z0 K.1) (Dy.l2d (by omega)) (n6 ▸ d_gp) d_hw' (Dy.l2d (by omega)) b_sp b_u ⟨b_H.1, b_H.2.1⟩ b_t b_H.2.2) hZ (hw _ (List.mem_of_getElem? (i := 5) rfl)) (hw _ (List.mem_of_getElem? (i := 4) rfl)) (by decide) (by decide)) (g := (mkF m 87 #[.val (.int p0), .val (.int p1), .val (.int p2), .val (.int p3), .val (.long sp), .second, .val (.long u), .second, .val (.long H), .second, .val (.long t), .second, .val (.long gg), .second, .val (.double gp), .second, .val (.double hw'), .second, .unset, .unset] [(.double (FP.l2d t)), (.double hw'), (.double gp), (.double (FP.l2d sp))])) rfl (by rw [hml]; rfl) (argsL := [(.double (FP.l2d sp)), (.double gp), (.double hw'), (.double (FP.l2d t))]) (rest := []) (lenOf pd_0 rfl) rfl (by show 2 * 0 + _ ≤ _; exact Nat.le_of_eq rfl) (hb hby at_87) (fun _ _ => ⟨rfl, eT, (by decide : 0 + 0 ≤ _), (by decide : 0 + 0 ≤ _)⟩)
    dsimp only [Pt.U, Pt.locs, Pt.cells, Pt.slots] at X l_ y_ z_ st hQ
    subst l_ y_ z_
    obtain ⟨r, rfl, Nq, d_r, eh⟩ := hQ
    have N := Fr.app N Nq
    have eT := eh
    refine Go.by st ?_
    show Go p.tables e below (T.setTop (mkF m 90 #[.val (.int p0), .val (.int p1), .val (.int p2), .val (.int p3), .val (.long sp), .second, .val (.long u), .second, .val (.long H), .second, .val (.long t), .second, .val (.long gg), .second, .val (.double gp), .second, .val (.double hw'), .second, .unset, .unset] [(.double r)])) _
    refine Go.by (fun tt_ kk_ => XS.dstore X.here hx rfl (hb hby at_90) rfl (l' := #[.val (.int p0), .val (.int p1), .val (.int p2), .val (.int p3), .val (.long sp), .second, .val (.long u), .second, .val (.long H), .second, .val (.long t), .second, .val (.long gg), .second, .val (.double gp), .second, .val (.double hw'), .second, .val (.double r), .second]) rfl kk_) ?_
    show Go p.tables e below (T.setTop (mkF m 92 #[.val (.int p0), .val (.int p1), .val (.int p2), .val (.int p3), .val (.long sp), .second, .val (.long u), .second, .val (.long H), .second, .val (.long t), .second, .val (.long gg), .second, .val (.double gp), .second, .val (.double hw'), .second, .val (.double r), .second] [])) _
    refine Go.by (fun tt_ kk_ => XS.dload X.here hx rfl (hb hby at_92) rfl kk_) ?_
    show Go p.tables e below (T.setTop (mkF m 94 #[.val (.int p0), .val (.int p1), .val (.int p2), .val (.int p3), .val (.long sp), .second, .val (.long u), .second, .val (.long H), .second, .val (.long t), .second, .val (.long gg), .second, .val (.double gp), .second, .val (.double hw'), .second, .val (.double r), .second] [(.double r)])) _
    refine Go.by (fun tt_ kk_ => XS.lload X.here hx rfl (hb hby at_94) rfl kk_) ?_
    show Go p.tables e below (T.setTop (mkF m 96 #[.val (.int p0), .val (.int p1), .val (.int p2), .val (.int p3), .val (.long sp), .second, .val (.long u), .second, .val (.long H), .second, .val (.long t), .second, .val (.long gg), .second, .val (.double gp), .second, .val (.double hw'), .second, .val (.double r), .second] [(.long u), (.double r)])) _
    refine Go.by (fun tt_ kk_ => XS.l2dS X.here hx rfl (hb hby at_96) rfl rfl kk_) ?_
    show Go p.tables e below (T.setTop (mkF m 97 #[.val (.int p0), .val (.int p1), .val (.int p2), .val (.int p3), .val (.long sp), .second, .val (.long u), .second, .val (.long H), .second, .val (.long t), .second, .val (.long gg), .second, .val (.double gp), .second, .val (.double hw'), .second, .val (.double r), .second] [(.double (FP.l2d u)), (.double r)])) _
    refine Go.by (fun tt_ kk_ => XS.dcmpS X.here hx rfl (hb hby at_97) rfl ((d_r.cmpV (Dy.l2d (by omega)) .l).trans (own_ci_eq.mpr rfl)) kk_) ?_
    show Go p.tables e below (T.setTop (mkF m 98 #[.val (.int p0), .val (.int p1), .val (.int p2), .val (.int p3), .val (.long sp), .second, .val (.long u), .second, .val (.long H), .second, .val (.long t), .second, .val (.long gg), .second, .val (.double gp), .second, .val (.double hw'), .second, .val (.double r), .second] [(.int (0 : Int32))])) _
    refine Go.by (fun tt_ kk_ => XS.ifNo X.here hx rfl (hb hby at_98) rfl ((if0 _ _).trans (teq (rfl : (0 : Int32) = (0 : Int32))).2) kk_) ?_
    show Go p.tables e below (T.setTop (mkF m 101 #[.val (.int p0), .val (.int p1), .val (.int p2), .val (.int p3), .val (.long sp), .second, .val (.long u), .second, .val (.long H), .second, .val (.long t), .second, .val (.long gg), .second, .val (.double gp), .second, .val (.double hw'), .second, .val (.double r), .second] [])) _
    refine Go.by (fun tt_ kk_ => XS.iconst X.here hx rfl (hb hby at_101) kk_) ?_
    show Go p.tables e below (T.setTop (mkF m 102 #[.val (.int p0), .val (.int p1), .val (.int p2), .val (.int p3), .val (.long sp), .second, .val (.long u), .second, .val (.long H), .second, .val (.long t), .second, .val (.long gg), .second, .val (.double gp), .second, .val (.double hw'), .second, .val (.double r), .second] [(.int (1 : Int32))])) _
    refine Go.by (fun tt_ kk_ => XS.goto X.here hx rfl (pc0 := 102) (pc' := 106) rfl (hb hby at_102) (by decide) (by decide) kk_) ?_
    show Go p.tables e below (T.setTop (mkF m 106 #[.val (.int p0), .val (.int p1), .val (.int p2), .val (.int p3), .val (.long sp), .second, .val (.long u), .second, .val (.long H), .second, .val (.long t), .second, .val (.long gg), .second, .val (.double gp), .second, .val (.double hw'), .second, .val (.double r), .second] [(.int (1 : Int32))])) _
    exact Go.done X  (v := some (.int (1 : Int32))) (fun h => by rw [Bd.returns] at h; cases h) Bd.notSynchronized (fun fs hr => retN X hx (z := (1 : Int32)) (t := .boolean) Bd.returns (by simp) (hb hby at_106) hr) (by rw [eT]; exact ⟨rfl, N⟩) (by decide) (by decide)
set_option maxRecDepth 65536 in
set_option maxHeartbeats 40000000 in
theorem comes_1 {Post : Tables → Env → Array Value → State → Outcome → State → Prop} (hpost : ∀ tb e args s v u, (limb_1_1.after args s (.returned v) u = true ∧ limb_1_2.after args s (.returned v) u = true ∧ True) → FrameEnd s (.returned v) u (Jvm.fieldLocs frame_1_writes args s ++ Jvm.arrayLocs frame_1_arrays args s ++ Jvm.staticLocs frame_1_statics s) 0 0 → Post tb e args s (.returned v) u) :
    ArmFor flags0 classFile x code maxLocals ret World_1 tables_1 room_1 Calls_1 rest_1 Pre_1 Post := by
  intro l hfl _ _ p e ha hc hk s m args below hf hA hF happ hP
  obtain ⟨hcalls, hrest, hpre⟩ := hP
  obtain ⟨-, -, -, hnamed, -, -, -, hat⟩ := (Spec.applies_iff hf).mp happ
  obtain ⟨hg, hn⟩ := and_e (Cond.before_iff.mp (show (Jvm.Cond.and given_1 narrow_1).before args s = true from hpre))
  obtain ⟨hcount, hg⟩ := and_e hg
  obtain ⟨hv0, hg⟩ := and_e hg
  obtain ⟨hv1, hg⟩ := and_e hg
  obtain ⟨hv2, hg⟩ := and_e hg
  have hv3 := hg
  obtain ⟨w0, w1, w2, w3, rfl⟩ : ∃ w0 w1 w2 w3 : Value, args = #[w0, w1, w2, w3] := by
    have hs : args.size = 4 := by simpa [Cond.value, given_1] using hcount
    obtain ⟨L⟩ := args
    match L, hs with
    | [w0, w1, w2, w3], _ => exact ⟨w0, w1, w2, w3, rfl⟩
  have hw := fun d (hd : d ∈ tables_1) => atoms_spec (ws := Jvm.Cond.code x code maxLocals ret :: tables_1) hat d (List.mem_cons_of_mem _ hd)
  have hfit : Fit s := fun {y c} hc i hi => by
    obtain ⟨ha, rfl⟩ := Array.getElem?_eq_some_iff.mp hc
    have q := List.all_eq_true.mp ((Array.all_eq_true_iff_forall_mem.mp hF) _ (Array.getElem_mem ha)) i (List.mem_range.mpr hi)
    simpa [Array.getElem?_eq_getElem hi] using q
  obtain ⟨i0, ei0⟩ := is_v hv0
  obtain rfl : w0 = (.int i0) := Option.some.inj ei0
  obtain ⟨i1, ei1⟩ := is_v hv1
  obtain rfl : w1 = (.int i1) := Option.some.inj ei1
  obtain ⟨i2, ei2⟩ := is_v hv2
  obtain rfl : w2 = (.int i2) := Option.some.inj ei2
  obtain ⟨i3, ei3⟩ := is_v hv3
  obtain rfl : w3 = (.int i3) := Option.some.inj ei3
  obtain ⟨n, o, h1, h2, h3, _, L, rfl, ⟨rfl, N⟩, hq⟩ := rm0 l s _ hw tables_1 i0 i1 i2 i3  s.heap s.heap.size (Nat.le_refl _)  p e ha hc hk s m _ below hf ((Spec.applies_iff_loose hf).mp happ).1 ⟨rfl, State.Warmed39.refl s, rfl⟩ trivial
  refine ⟨n, _, h1, h2, h3, hpost _ _ _ _ _ _ ⟨Cond.after_iff.mpr rfl, Cond.after_iff.mpr (eq_i res_at (Term.int_eval (1)) rfl), trivial⟩ ⟨hq.1, hq.2.1, (hq.2.2.sift fun y hy => Or.inr (N y hy)).mono (by decide) (by decide)⟩⟩
theorem main_1_1 : Claimed_1_1 := comes_1 fun _ _ _ _ _ _ h hF => ⟨h.1, hF⟩
theorem main_1_2 : Claimed_1_2 := comes_1 fun _ _ _ _ _ _ h hF => ⟨h.2.1, hF⟩
end Jvm.Pilot.@@N@@
namespace Jvm.Pilot.@@N@@
open Jvm Jvm.ClassFile Sem Op Lib Jvm.Free Jvm.Stand Jvm.Pilot.@@N@@.Jvm.D
/-! MADE BY PROGRAM (witnessworld.py) out of the Statement's table words and the real class files: 9 classes; the members and pool entries that the words name. The judged class is class 1, her method 1. -/
namespace start1
open Jvm.ClassFile
def u (s : String) : CpInfo := .utf8 (stringToUtf16 s)
/-- a pool by its gaps: so many unusable entries, then the entry; so many at the end -/
def gap : Nat → List CpInfo → List CpInfo
  | 0, r => r
  | n + 1, r => .unusable :: gap n r
def poolList (es : List (Nat × CpInfo)) (last : Nat) : List CpInfo := es.foldr (fun e r => gap e.1 (e.2 :: r)) (gap last [])
def pool (es : List (Nat × CpInfo)) (last : Nat) : Array CpInfo := ⟨poolList es last⟩
def fileOf (pool : Array CpInfo) (this : Nat) (attrs : Array Attribute := #[]) (ms : Array MethodInfo := #[]) (fl : Nat := 33) (sup : Nat := 0) (ifs : Array Nat := #[]) (fds : Array FieldInfo := #[]) : ClassFile where
  minorVersion := 0
  majorVersion := 65
  constantPool := pool
  accessFlags := fl
  thisClass := this
  superClass := sup
  interfaces := ifs
  fields := fds
  methods := ms
  attributes := attrs
def plain (name : String) (sup : Option ClassId) : Class where
  name := name
  kind := .ordinary
  loader := none
  accessFlags := 33
  super := sup
  interfaces := #[]
  cf := none
  fields := #[]
  methods := #[]
  instanceTypes := #[]
  staticTypes := #[]
  resolved := #[]
  callSites := []
  init := .initialized
  statics := none
  mirror := none

def pool0 : Array CpInfo := pool [(5, u "<init>"), (0, u "()V"), (1, .class_ 10), (1, u "java/lang/Object")] 113

def k0m0 : Method := { name := "<init>", desc := "()V", sig := { parameters := [], returnType := none }, accessFlags := 1, code := none }
/-- java/lang/Object -/
def k0 : Class := { plain "java/lang/Object" none with
  accessFlags := 33
  interfaces := #[]
  cf := some (fileOf pool0 8 #[] #[{ accessFlags := 1, nameIndex := 5, descriptorIndex := 6, attributes := #[] }] 33 0 #[] #[])
  fields := #[]
  methods := #[k0m0]
  instanceTypes := #[]
  staticTypes := #[]
  resolved := Array.replicate 124 none
  statics := none }

def pool1 : Array CpInfo := pool [(2, .class_ 4), (1, u "java/lang/Object"), (0, u "<init>"), (0, u "()V"), (0, .integer 100000), (0, .double 4611686018427387904), (1, .methodref 11 12), (0, .class_ 13), (0, .nameAndType 14 15), (0, u "com/example/eindhoven/eindhoven/engine/Motion"), (0, u "followingSpeed"), (0, u "(DDDD)D"), (0, .class_ 17), (0, u "com/example/eindhoven/eindhoven/engine/MotionFollowingSpeedPinLaw"), (2, u "law"), (0, u "(IIII)Z")] 3

def k1m0 : Method := { name := "<init>", desc := "()V", sig := { parameters := [], returnType := none }, accessFlags := 1, code := none }
def k1c1 : Code := { maxStack := 8, maxLocals := 20, code := code, exceptionTable := #[], attributes := #[] }
def k1m1 : Method := { name := "law", desc := "(IIII)Z", sig := { parameters := [.int, .int, .int, .int], returnType := some .boolean }, accessFlags := 9, code := some k1c1 }
/-- com/example/eindhoven/eindhoven/engine/MotionFollowingSpeedPinLaw -/
def k1 : Class := { plain "com/example/eindhoven/eindhoven/engine/MotionFollowingSpeedPinLaw" (some 0) with
  accessFlags := 49
  interfaces := #[]
  cf := some (fileOf pool1 16 #[] #[{ accessFlags := 1, nameIndex := 5, descriptorIndex := 6, attributes := #[] }, { accessFlags := 9, nameIndex := 20, descriptorIndex := 21, attributes := #[] }] 49 2 #[] #[])
  fields := #[]
  methods := #[k1m0, k1m1]
  instanceTypes := #[]
  staticTypes := #[]
  resolved := Array.replicate 25 none
  statics := none }

def pool2 : Array CpInfo := pool [(2, .class_ 4), (1, u "java/lang/Object"), (0, u "<init>"), (0, u "()V"), (0, .double 4611686018427387904), (15, .class_ 24), (0, u "com/example/eindhoven/eindhoven/engine/Motion"), (2, u "followingSpeed"), (0, u "(DDDD)D")] 6

def k2m0 : Method := { name := "<init>", desc := "()V", sig := { parameters := [], returnType := none }, accessFlags := 2, code := none }
def k2c1 : Code := { maxStack := 8, maxLocals := 8, code := prog_21_method_2_code, exceptionTable := #[], attributes := #[] }
def k2m1 : Method := { name := "followingSpeed", desc := "(DDDD)D", sig := { parameters := [.double, .double, .double, .double], returnType := some .double }, accessFlags := 8, code := some k2c1 }
/-- com/example/eindhoven/eindhoven/engine/Motion -/
def k2 : Class := { plain "com/example/eindhoven/eindhoven/engine/Motion" (some 0) with
  accessFlags := 48
  interfaces := #[]
  cf := some (fileOf pool2 23 #[] #[{ accessFlags := 2, nameIndex := 5, descriptorIndex := 6, attributes := #[] }, { accessFlags := 8, nameIndex := 27, descriptorIndex := 28, attributes := #[] }] 48 2 #[] #[])
  fields := #[]
  methods := #[k2m0, k2m1]
  instanceTypes := #[]
  staticTypes := #[]
  resolved := Array.replicate 35 none
  statics := none }

def pool3 : Array CpInfo := pool [(1, u "java/lang/Cloneable"), (0, .class_ 1), (0, u "java/lang/Object"), (0, .class_ 3)] 3

/-- java/lang/Cloneable -/
def k3 : Class := { plain "java/lang/Cloneable" (some 0) with
  accessFlags := 1537
  interfaces := #[]
  cf := some (fileOf pool3 2 #[] #[] 1537 4 #[] #[])
  fields := #[]
  methods := #[]
  instanceTypes := #[]
  staticTypes := #[]
  resolved := Array.replicate 8 none
  statics := none }

def pool4 : Array CpInfo := pool [(1, u "java/io/Serializable"), (0, .class_ 1), (0, u "java/lang/Object"), (0, .class_ 3)] 3

/-- java/io/Serializable -/
def k4 : Class := { plain "java/io/Serializable" (some 0) with
  accessFlags := 1537
  interfaces := #[]
  cf := some (fileOf pool4 2 #[] #[] 1537 4 #[] #[])
  fields := #[]
  methods := #[]
  instanceTypes := #[]
  staticTypes := #[]
  resolved := Array.replicate 8 none
  statics := none }

/-- the primitive byte -/
def k5 : Class := { plain "byte" none with kind := .primitive 'B', accessFlags := 0x411 }
/-- [B -/
def k6 : Class := { plain "[B" (some 0) with kind := .array 5 .byte, interfaces := #[3, 4], accessFlags := 1041 }

/-- the primitive int -/
def k7 : Class := { plain "int" none with kind := .primitive 'I', accessFlags := 0x411 }
/-- [I -/
def k8 : Class := { plain "[I" (some 0) with kind := .array 7 .int, interfaces := #[3, 4], accessFlags := 1041 }

def heap : Heap := #[]
def classes : Array Class := #[k0, k1, k2, k3, k4, k5, k6, k7, k8]
def interned : List (Array UInt16 × Addr) := []
def slotsUsed : Nat := 0
def theMethod : MethodId := ⟨1, 1⟩
def args0 : Array Value := #[.int 5, .int 7, .int 3, .int 2]
def aboutOver (below : List Frame) : State where
  vm := { classes := classes, interned := interned.toArray }
  heap := heap
  slotsUsed := slotsUsed
  threads := #[{ frames := .invoking theMethod args0 :: below }]
def below0 : List Frame := [.native { method := ⟨0, 0⟩, args := #[] }]
def about1 : State := aboutOver below0
def p0 : Program := .bare "" "" ""
def e0 : Env := launch0.env 0 0 0
theorem w_frames : about1.frames = Frame.invoking theMethod args0 :: below0 := rfl
set_option maxRecDepth 65536 in
theorem w_args : argsFit about1.vm theMethod args0 = true := by decide +kernel
set_option maxRecDepth 65536 in
theorem w_heap : heapFits about1 = true := by decide +kernel
set_option maxRecDepth 65536 in
theorem w_runnable : about1.curStatus? = some .runnable := by decide +kernel
set_option maxRecDepth 65536 in
theorem w_alone : about1.alone = true := by decide +kernel
set_option maxRecDepth 65536 in
theorem w_named : about1.methodNamed? x = some theMethod := by decide +kernel
set_option maxRecDepth 65536 in
theorem w_hears : about1.hears theMethod below0 = true := by decide +kernel
set_option maxRecDepth 65536 in
theorem w_ripe : about1.ripe theMethod args0 below0 = true := by decide +kernel
theorem w_running : about1.status = .running := rfl
set_option maxRecDepth 65536 in
theorem w_room : about1.hasRoom e0.platform room_1 = true :=
  launch0.hasRoom_least _ room_1 (by decide +kernel) (by decide +kernel) (by decide +kernel) (by decide +kernel) (by decide +kernel) (by decide +kernel)
theorem allAtoms_all (ts : List Jvm.Cond) (a : Array Jvm.Value) (st : Jvm.State) : (allAtoms ts).before a st = ts.all (fun c => c.before a st) := by
  induction ts with
  | nil => rfl
  | cons c t ih =>
    show (Jvm.Cond.and c (allAtoms t)).before a st = _
    rw [Jvm.Cond.before_and, ih, List.all_cons]
def words1 : List Jvm.Cond := Jvm.Cond.code x code maxLocals ret :: tables_1
/-- a 'code' word, met by the world's own term for the bytes: nothing is compared byte by byte -/
theorem code_word {y : MethodName} {bytes : ByteArray} {mx : Nat} {rt : Option FieldType} {a : Array Value} {s : State} {m : MethodId} {meth : Method} {c : Code} (h1 : s.methodNamed? y = some m) (h2 : s.vm.method? m = some meth) (h3 : meth.code = some c) (h4 : c.code = bytes)
    (h5 : (c.maxLocals == mx && c.exceptionTable.isEmpty && decide (c.maxStack ≤ mostOperands) && decide (meth.sig.returnType = rt) && !meth.locks && decide (parseMethodDescriptor y.desc = some meth.sig)) = true) : (Jvm.Cond.code y bytes mx rt).before a s = true := by
  simp only [Bool.and_eq_true, beq_iff_eq, Bool.not_eq_true', decide_eq_true_eq] at h5
  obtain ⟨⟨⟨⟨⟨g1, g2⟩, g3⟩, g4⟩, g5⟩, g6⟩ := h5
  simp [Cond.before, Cond.holds, Cond.value, h1, h2, h3, h4, g1, g2, g3, g4, g5, g6]
def isCode : Jvm.Cond → Bool
  | .code _ _ _ _ => true
  | _ => false
theorem all_split {L : List Jvm.Cond} {P : Jvm.Cond → Bool} (h1 : L.all (fun c => isCode c || P c) = true) (h2 : ∀ c ∈ L.filter isCode, P c = true) : L.all P = true := by
  refine List.all_eq_true.mpr fun c hc => ?_
  have h := List.all_eq_true.mp h1 c hc
  rcases Bool.eq_false_or_eq_true (isCode c) with hi | hi
  · exact h2 c (List.mem_filter.mpr ⟨hc, hi⟩)
  · simpa [hi] using h
set_option maxRecDepth 65536 in
theorem w_c0 : (Jvm.Cond.code x code maxLocals ret).before args0 about1 = true := code_word (m := ⟨1, 1⟩) (meth := k1m1) (c := k1c1) (by decide +kernel) rfl rfl rfl (by decide +kernel)
set_option maxRecDepth 65536 in
theorem w_c1 : (Jvm.Cond.code ({ cls := "com/example/eindhoven/eindhoven/engine/Motion", name := "followingSpeed", desc := "(DDDD)D" } : Jvm.MethodName) prog_21_method_2_code (8 : Nat) (Option.some Jvm.ClassFile.FieldType.double)).before args0 about1 = true := code_word (m := ⟨2, 1⟩) (meth := k2m1) (c := k2c1) (by decide +kernel) rfl rfl rfl (by decide +kernel)
def codes1 : List Jvm.Cond := [Jvm.Cond.code x code maxLocals ret, Jvm.Cond.code ({ cls := "com/example/eindhoven/eindhoven/engine/Motion", name := "followingSpeed", desc := "(DDDD)D" } : Jvm.MethodName) prog_21_method_2_code (8 : Nat) (Option.some Jvm.ClassFile.FieldType.double)]
set_option maxRecDepth 65536 in
theorem codes_eq : words1.filter isCode = codes1 := rfl
theorem w_codes : ∀ c ∈ words1.filter isCode, c.before args0 about1 = true := by
  rw [codes_eq]
  intro c hc
  simp only [codes1, List.mem_cons, List.not_mem_nil, or_false] at hc
  rcases hc with rfl | rfl
  · exact w_c0
  · exact w_c1
set_option maxRecDepth 65536 in
theorem w_t1 : words1.all (fun c => isCode c || c.before args0 about1) = true := by decide +kernel
theorem w_tables : (allAtoms (Jvm.Cond.code x code maxLocals ret :: tables_1)).before args0 about1 = true := by
  rw [allAtoms_all]
  show words1.all (fun c => c.before args0 about1) = true
  refine all_split ?_ w_codes
  rw [w_t1]
set_option maxRecDepth 65536 in
theorem w_case : (Jvm.Cond.and given_1 narrow_1).before args0 about1 = true := by decide +kernel
theorem w_applies : (headSpec (Jvm.Cond.code x code maxLocals ret :: tables_1) room_1).applies x e0.platform about1 = true :=
  (Spec.applies_iff w_frames).mpr ⟨w_running, w_runnable, w_alone, w_named, w_hears, w_ripe, w_room, w_tables⟩
theorem atStart : AtStart classFile x code maxLocals ret World_1 tables_1 room_1 Calls_1 rest_1 Pre_1 launch0 p0 e0 about1 theMethod args0 below0 :=
  ⟨lists_1, trivial, launch0.admits_env _ _ _, launch0.least_env, fairChoices_fair.cas, fairChoices_fair.clock, w_frames, w_args, w_heap, w_applies, trivial, trivial, w_case⟩
end start1
theorem witness_1 : WitnessClaimed_1 := ⟨start1.p0, start1.e0, start1.about1, start1.theMethod, start1.args0, start1.below0, start1.atStart⟩
end Jvm.Pilot.@@N@@
