import JvmDerived
import JvmDerived.Pilot.@@N@@Statement
import JvmDerived.Pilot.@@N@@Code
set_option linter.unusedVariables false
set_option linter.unusedSimpArgs false
namespace Jvm.OwnGo
open Jvm Sem ClassFile Op Lib Jvm.Stand Jvm.Free Jvm.LawKit Jvm.RoadKit
/-- from A the run comes to a state of which K is said -/
def Go (tb : Tables) (e : Env) (below : List Frame) (A : State) (K : State → Prop) : Prop := ∃ u, Steps tb e below A u ∧ K u
theorem Go.by {tb : Tables} {e : Env} {below : List Frame} {A B : State} {K : State → Prop} (h : ∀ t, Steps tb e below B t → Steps tb e below A t) (g : Go tb e below B K) : Go tb e below A K := by
  obtain ⟨u, s, k⟩ := g
  exact ⟨u, h u s, k⟩
theorem Go.tr {tb : Tables} {e : Env} {below : List Frame} {A B : State} {K : State → Prop} (h : Steps tb e below A B) (g : Go tb e below B K) : Go tb e below A K := by
  obtain ⟨u, s, k⟩ := g
  exact ⟨u, h.trans s, k⟩
theorem Go.out {tb : Tables} {e : Env} {below : List Frame} {A : State} {P : State → Outcome → Prop} (g : Go tb e below A (fun u => ∃ o, P u o)) : ∃ u o, Steps tb e below A u ∧ P u o := by
  obtain ⟨u, s, o, k⟩ := g
  exact ⟨u, o, s, k⟩
theorem Go.done {p : Program} {l : Launch} {e : Env} {R : Room} {s : State} {m : MethodId} {args : Array Value} {below : List Frame} {meth : Method} {c : Code} {T : State} {locs : List Loc} {cells slots C D : Nat}
    (X : Stand p l e R s m args below meth c T locs cells slots) {v : Option Value} (hv : meth.sig.returnType = none → v = none) (hlocks : meth.locks = false) {A : State}
    (hst : ∀ fs, (∀ (f : JFrame) (acts : List Action), f.method = m → f.locked = none → f.entered = [] → (doReturn e (T.setTop f) acts v).1 = T.setFrames fs) → Steps p.tables e below A (T.setFrames fs))
    {Q : Option Value → Heap → List Loc → Prop} (hq : Q v T.heap locs) (hc : cells ≤ C) (hs : slots ≤ D) :
    Go p.tables e below A (fun u => ∃ o, u.status = .running ∧ Ended u below o ∧ ∃ v L, o = .returned v ∧ Q v u.heap L ∧ FrameEnd s o u L C D) := by
  obtain ⟨fs, hr, hrun, hended, hW, hsame⟩ := X.leave hv hlocks
  exact ⟨_, hst fs hr, _, hrun, hended, _, _, rfl, hq, ⟨_, rfl⟩, hW, hsame.mono hc hs⟩
theorem Go.doneW {p : Program} {l : Launch} {e : Env} {R : Room} {s : State} {m : MethodId} {args : Array Value} {below : List Frame} {meth : Method} {c : Code} {T : State} {locs : List Loc} {cells slots C D : Nat} {vm1 : Vm}
    (X : Stand p l e R (s.setVm vm1) m args below meth c T locs cells slots) {n : Nat} (hS : s.Since vm1 n) (hn : n ≤ T.heap.size) {v : Option Value} (hv : meth.sig.returnType = none → v = none) (hlocks : meth.locks = false) {A : State}
    (hst : ∀ fs, (∀ (f : JFrame) (acts : List Action), f.method = m → f.locked = none → f.entered = [] → (doReturn e (T.setTop f) acts v).1 = T.setFrames fs) → Steps p.tables e below A (T.setFrames fs))
    {Q : Option Value → Heap → List Loc → Prop} (hq : Q v T.heap locs) (hc : cells ≤ C) (hs : slots ≤ D) :
    Go p.tables e below A (fun u => ∃ o, u.status = .running ∧ Ended u below o ∧ ∃ v L, o = .returned v ∧ Q v u.heap L ∧ ReturnedEndW s o u L C D) := by
  obtain ⟨fs, hr, hrun, hended, h1, h2, h3, h4⟩ := X.leaveW hS hn hv hlocks
  exact ⟨_, hst fs hr, _, hrun, hended, _, _, rfl, hq, h1, h2, h3, h4.mono hc hs⟩
end Jvm.OwnGo
namespace Jvm.OwnFp
open Jvm.FP Jvm.FP.Core Jvm.Free.Fl
/-- the double a is i * 2^e -/
def Dy (i e : Int) (a : UInt64) : Prop := ∃ s c q, val64 a = .fin s c q ∧ Whole i (.fin s c (q - e))
theorem own_const {i e : Int} {a : UInt64} (s : Bool) (c : Nat) (q : Int) (h1 : val64 a = .fin s c q) (h2 : signed s (c * 2 ^ (q - e).toNat) = i * ((2 ^ (-(q - e)).toNat : Nat) : Int)) : Dy i e a := ⟨s, c, q, h1, h2⟩
theorem Dy.noNaN {i e : Int} {a : UInt64} (h : Dy i e a) : NoNaN64 a := by
  obtain ⟨s, c, q, h1, -⟩ := h
  exact val64_no.mpr (by rw [h1]; exact fun q => nomatch q)
theorem Dy.fin {i e : Int} {a : UInt64} (h : Dy i e a) : Fin64 a := by
  obtain ⟨s, c, q, h1, -⟩ := h
  exact fin64_core.mpr ⟨s, c, q, h1⟩
theorem own_fit (s : Bool) {n : Nat} (hn : n ≤ 9007199254740992) {e : Int} (h1 : -1074 ≤ e) (h2 : e ≤ 900) :
    ∃ c q, Core.fits b64 (.fin s c q) ∧ n * 2 ^ (e - q).toNat = c * 1 * 2 ^ (q - e).toNat := by
  have e1 : b64.qmin = -1074 := qmin_b64
  have e2 : b64.qmax = 971 := by decide
  have e3 : b64.tails = 2 ^ 52 := tails_b64
  have e4 : b64.p = 53 := rfl
  have k53 : (9007199254740992 : Nat) = 2 ^ 53 := by decide
  by_cases h0 : n = 0
  · subst h0
    exact ⟨0, b64.qmin, zero_fits good_b64 s, by simp⟩
  by_cases hp : n = 9007199254740992
  · refine ⟨2 ^ 52, e + 1, ⟨by rw [e4]; decide, by rw [e1]; omega, by rw [e2]; omega, Or.inr (by rw [e3]; exact Nat.le_refl _)⟩, ?_⟩
    rw [show (e - (e + 1)).toNat = 0 by omega, show (e + 1 - e).toNat = 1 by omega, hp]
  · have l1 : 2 ^ n.log2 ≤ n := Nat.log2_self_le h0
    have l2 : n < 2 ^ (n.log2 + 1) := Nat.lt_log2_self
    have l3 : n.log2 < 53 := (Nat.pow_lt_pow_iff_right (by decide : 1 < 2)).mp (Nat.lt_of_le_of_lt l1 (by omega))
    generalize n.log2 = L at l1 l2 l3
    by_cases hq : -1074 ≤ e - (52 - (L : Int))
    · refine ⟨n * 2 ^ (52 - L), e - (52 - (L : Int)), ⟨?_, by rw [e1]; omega, by rw [e2]; omega, Or.inr ?_⟩, ?_⟩
      · rw [e4]
        calc n * 2 ^ (52 - L) < 2 ^ (L + 1) * 2 ^ (52 - L) := Nat.mul_lt_mul_of_pos_right l2 (Nat.two_pow_pos _)
          _ = 2 ^ 53 := by rw [← Nat.pow_add]; congr 1; omega
      · rw [e3]
        calc 2 ^ 52 = 2 ^ L * 2 ^ (52 - L) := by rw [← Nat.pow_add]; congr 1; omega
          _ ≤ n * 2 ^ (52 - L) := Nat.mul_le_mul_right _ l1
      · rw [show (e - (e - (52 - (L : Int)))).toNat = 52 - L by omega, show (e - (52 - (L : Int)) - e).toNat = 0 by omega]
        simp
    · refine ⟨n * 2 ^ (e + 1074).toNat, -1074, ⟨?_, by rw [e1]; omega, by rw [e2]; omega, Or.inl e1.symm⟩, ?_⟩
      · rw [e4]
        calc n * 2 ^ (e + 1074).toNat < 2 ^ (L + 1) * 2 ^ (e + 1074).toNat := Nat.mul_lt_mul_of_pos_right l2 (Nat.two_pow_pos _)
          _ = 2 ^ (L + 1 + (e + 1074).toNat) := by rw [← Nat.pow_add]
          _ ≤ 2 ^ 53 := Nat.pow_le_pow_right (by decide) (by omega)
      · rw [show (e - -1074).toNat = (e + 1074).toNat by omega, show (-1074 - e).toNat = 0 by omega]
        simp
theorem own_sg {i : Int} {s : Bool} {c : Nat} {q : Int} (h : Whole i (.fin s c q)) : signed s i.natAbs = i := by
  by_cases hi : i = 0
  · rw [hi]; exact signed_zero s
  · rw [whole_sign h hi]
    unfold signed
    by_cases z : i < 0
    · simp only [z, decide_true, if_true]; omega
    · simp only [z, decide_false]; simp; omega
theorem own_whole {i e : Int} {s : Bool} {c : Nat} {q : Int} (hs : signed s i.natAbs = i) (h : i.natAbs * 2 ^ (e - q).toNat = c * 1 * 2 ^ (q - e).toNat) : Whole i (.fin s c (q - e)) := by
  show signed s (c * 2 ^ (q - e).toNat) = i * ((2 ^ (-(q - e)).toNat : Nat) : Int)
  rw [Nat.mul_one] at h
  rw [← h, signed_mul, hs, show -(q - e) = e - q by omega]
/-- a ratio that is i * 2^e -/
theorem own_ratio {i e : Int} {s : Bool} (hs : signed s i.natAbs = i) (hi : i.natAbs ≤ 9007199254740992) (h1 : -1074 ≤ e) (h2 : e ≤ 900) :
    ∃ c q, roundRatio b64 s i.natAbs 1 e = .fin s c q ∧ Whole i (.fin s c (q - e)) := by
  obtain ⟨c, q, hf, h⟩ := own_fit s hi h1 h2
  exact ⟨c, q, roundRatio_exact good_b64 Nat.one_pos hf h, own_whole hs h⟩
theorem own_round {i e : Int} {s : Bool} {c : Nat} {q : Int} (h : Whole i (.fin s c (q - e))) (hi : i.natAbs ≤ 9007199254740992) (h1 : -1074 ≤ e) (h2 : e ≤ 900) :
    ∃ s' c' q', Core.round b64 (.fin s c q) = .fin s' c' q' ∧ Whole i (.fin s' c' (q' - e)) := by
  obtain ⟨c', q', r1, r2⟩ := own_ratio (own_sg h) hi h1 h2
  refine ⟨s, c', q', ?_, r2⟩
  have w := whole_natAbs h
  show roundRatio b64 s c 1 q = _
  rw [← r1]
  refine roundRatio_congr Nat.one_pos Nat.one_pos ?_
  rw [Nat.mul_one, Nat.mul_one, w, show -(q - e) = e - q by omega]
theorem Dy.add {i j e : Int} {a b : UInt64} (ha : Dy i e a) (hb : Dy j e b) (hi : (i + j).natAbs ≤ 9007199254740992) (h1 : -1074 ≤ e) (h2 : e ≤ 900) : Dy (i + j) e (FP.dadd a b) := by
  obtain ⟨s, c, q, a1, a2⟩ := ha
  obtain ⟨t, d, r, b1, b2⟩ := hb
  have w := whole_sum a2 b2
  have hm : min (q - e) (r - e) = min q r - e := by omega
  have hV : sumUnits s c (q - e) t d (r - e) (min q r - e) = sumUnits s c q t d r (min q r) := by
    unfold sumUnits inUnits
    rw [show q - e - (min q r - e) = q - min q r by omega, show r - e - (min q r - e) = r - min q r by omega]
  simp only [exactSum] at w
  rw [hm, hV] at w
  obtain ⟨s', c', q', r1, r2⟩ := own_round w hi h1 h2
  exact ⟨s', c', q', by rw [val64_dadd, a1, b1]; exact r1, r2⟩
theorem Dy.sub {i j e : Int} {a b : UInt64} (ha : Dy i e a) (hb : Dy j e b) (hi : (i - j).natAbs ≤ 9007199254740992) (h1 : -1074 ≤ e) (h2 : e ≤ 900) : Dy (i - j) e (FP.dsub a b) := by
  obtain ⟨s, c, q, a1, a2⟩ := ha
  obtain ⟨t, d, r, b1, b2⟩ := hb
  have w := whole_sum a2 (whole_negate b2)
  have hm : min (q - e) (r - e) = min q r - e := by omega
  have hV : sumUnits s c (q - e) (!t) d (r - e) (min q r - e) = sumUnits s c q (!t) d r (min q r) := by
    unfold sumUnits inUnits
    rw [show q - e - (min q r - e) = q - min q r by omega, show r - e - (min q r - e) = r - min q r by omega]
  simp only [negate, exactSum] at w
  rw [hm, hV] at w
  obtain ⟨s', c', q', r1, r2⟩ := own_round w hi h1 h2
  exact ⟨s', c', q', by rw [val64_dsub, a1, b1]; exact r1, r2⟩
theorem Dy.mul {i j e g : Int} {a b : UInt64} (ha : Dy i e a) (hb : Dy j g b) (hi : (i * j).natAbs ≤ 9007199254740992) (h1 : -1074 ≤ e + g) (h2 : e + g ≤ 900) : Dy (i * j) (e + g) (FP.dmul a b) := by
  obtain ⟨s, c, q, a1, a2⟩ := ha
  obtain ⟨t, d, r, b1, b2⟩ := hb
  have w := whole_product a2 b2
  simp only [exactProduct] at w
  rw [show q - e + (r - g) = q + r - (e + g) by omega] at w
  obtain ⟨s', c', q', r1, r2⟩ := own_round w hi h1 h2
  exact ⟨s', c', q', by rw [val64_dmul, a1, b1]; exact r1, r2⟩
/-- an exact quotient -/
theorem Dy.div {k j e g : Int} {a b : UInt64} (ha : Dy (k * j) e a) (hb : Dy j g b) (hj : j ≠ 0) (hi : k.natAbs ≤ 9007199254740992) (h1 : -1074 ≤ e - g) (h2 : e - g ≤ 900) : Dy k (e - g) (FP.ddiv a b) := by
  obtain ⟨s, c, q, a1, a2⟩ := ha
  obtain ⟨t, d, r, b1, b2⟩ := hb
  have wa := whole_natAbs a2
  have wb := whole_natAbs b2
  have hd : d ≠ 0 := fun z => hj ((whole_zero b2).mp z)
  have hs : signed (s != t) k.natAbs = k := by
    by_cases hk : k = 0
    · rw [hk]; exact signed_zero _
    · have s1 := whole_sign a2 (Int.mul_ne_zero hk hj)
      have s2 := whole_sign b2 hj
      rw [s1, s2]
      unfold signed
      rcases Int.lt_or_gt_of_ne hk with z | z <;> rcases Int.lt_or_gt_of_ne hj with y | y
      · have := Int.mul_pos_of_neg_of_neg z y
        simp [show ¬ k * j < 0 by omega, y]; omega
      · have := Int.mul_neg_of_neg_of_pos z y
        simp [this, show ¬ j < 0 by omega]; omega
      · have := Int.mul_neg_of_pos_of_neg z y
        simp [this, y]; omega
      · have := Int.mul_pos z y
        simp [show ¬ k * j < 0 by omega, show ¬ j < 0 by omega]; omega
  obtain ⟨c', q', r1, r2⟩ := own_ratio hs hi h1 h2
  refine ⟨_, c', q', ?_, r2⟩
  rw [val64_ddiv, a1, b1]
  show (if d = 0 then _ else roundRatio b64 (s != t) c d (q - r)) = _
  rw [if_neg hd, ← r1]
  refine roundRatio_congr (Nat.pos_of_ne_zero hd) Nat.one_pos ?_
  rw [Nat.mul_one]
  rw [Int.natAbs_mul] at wa
  -- c * 2^(q-e)+ = |k| |j| 2^(q-e)- , d * 2^(r-g)+ = |j| 2^(r-g)-
  have hj' : 0 < j.natAbs := by omega
  apply Nat.eq_of_mul_eq_mul_right (Nat.mul_pos hj' (Nat.mul_pos (Nat.two_pow_pos (q - e).toNat) (Nat.two_pow_pos (-(r - g)).toNat)))
  calc c * 2 ^ (q - r - (e - g)).toNat * (j.natAbs * (2 ^ (q - e).toNat * 2 ^ (-(r - g)).toNat))
      = (c * 2 ^ (q - e).toNat) * (j.natAbs * 2 ^ (-(r - g)).toNat) * 2 ^ (q - r - (e - g)).toNat := by ac_rfl
    _ = (k.natAbs * j.natAbs * 2 ^ (-(q - e)).toNat) * (d * 2 ^ (r - g).toNat) * 2 ^ (q - r - (e - g)).toNat := by rw [wa, wb]
    _ = k.natAbs * d * j.natAbs * 2 ^ ((-(q - e)).toNat + (r - g).toNat + (q - r - (e - g)).toNat) := by rw [Nat.pow_add, Nat.pow_add]; ac_rfl
    _ = k.natAbs * d * j.natAbs * 2 ^ ((e - g - (q - r)).toNat + (q - e).toNat + (-(r - g)).toNat) := by congr 2; omega
    _ = k.natAbs * d * 2 ^ (e - g - (q - r)).toNat * (j.natAbs * (2 ^ (q - e).toNat * 2 ^ (-(r - g)).toNat)) := by rw [Nat.pow_add, Nat.pow_add]; ac_rfl
theorem Dy.scale {i e : Int} {a : UInt64} (h : Dy i e a) (k : Nat) : Dy (i * 2 ^ k) (e - k) a := by
  obtain ⟨s, c, q, a1, a2⟩ := h
  refine ⟨s, c, q, a1, ?_⟩
  have w : signed s (c * 2 ^ (q - e).toNat) = i * ((2 ^ (-(q - e)).toNat : Nat) : Int) := a2
  show signed s (c * 2 ^ (q - (e - k)).toNat) = i * 2 ^ k * ((2 ^ (-(q - (e - k))).toNat : Nat) : Int)
  have p2 : ((2 ^ ((-(q - e)).toNat) : Nat) : Int) ≠ 0 := by
    have := Nat.two_pow_pos ((-(q - e)).toNat); omega
  refine Int.eq_of_mul_eq_mul_right p2 ?_
  have hx : (q - (e - k)).toNat + (-(q - e)).toNat = (q - e).toNat + (k + (-(q - (e - k))).toNat) := by omega
  calc signed s (c * 2 ^ (q - (e - k)).toNat) * ((2 ^ ((-(q - e)).toNat) : Nat) : Int)
      = signed s (c * 2 ^ ((q - (e - k)).toNat + (-(q - e)).toNat)) := by rw [← signed_mul, Nat.pow_add, Nat.mul_assoc]
    _ = signed s (c * 2 ^ (q - e).toNat * 2 ^ (k + (-(q - (e - k))).toNat)) := by rw [hx, Nat.pow_add, Nat.mul_assoc]
    _ = i * ((2 ^ (-(q - e)).toNat : Nat) : Int) * ((2 ^ (k + (-(q - (e - k))).toNat) : Nat) : Int) := by rw [signed_mul, w]
    _ = i * 2 ^ k * ((2 ^ (-(q - (e - k))).toNat : Nat) : Int) * ((2 ^ ((-(q - e)).toNat) : Nat) : Int) := by
        rw [Nat.pow_add, Int.natCast_mul, Int.natCast_pow 2 k]
        show i * _ * ((2 : Int) ^ k * _) = _
        ac_rfl
theorem Dy.unscale {i e : Int} {a : UInt64} (k : Nat) (h : Dy (i * 2 ^ k) e a) : Dy i (e + k) a := by
  obtain ⟨s, c, q, a1, a2⟩ := h
  refine ⟨s, c, q, a1, ?_⟩
  have w : signed s (c * 2 ^ (q - e).toNat) = i * 2 ^ k * ((2 ^ (-(q - e)).toNat : Nat) : Int) := a2
  show signed s (c * 2 ^ (q - (e + k)).toNat) = i * ((2 ^ (-(q - (e + k))).toNat : Nat) : Int)
  have p2 : ((2 ^ (k + (-(q - e)).toNat) : Nat) : Int) ≠ 0 := by
    have := Nat.two_pow_pos (k + (-(q - e)).toNat); omega
  refine Int.eq_of_mul_eq_mul_right p2 ?_
  have hx : (q - (e + k)).toNat + (k + (-(q - e)).toNat) = (q - e).toNat + (-(q - (e + k))).toNat := by omega
  calc signed s (c * 2 ^ (q - (e + k)).toNat) * ((2 ^ (k + (-(q - e)).toNat) : Nat) : Int)
      = signed s (c * 2 ^ ((q - (e + k)).toNat + (k + (-(q - e)).toNat))) := by rw [← signed_mul, Nat.pow_add 2 (q - (e + k)).toNat, Nat.mul_assoc]
    _ = signed s (c * 2 ^ (q - e).toNat * 2 ^ ((-(q - (e + k))).toNat)) := by rw [hx, Nat.pow_add, Nat.mul_assoc]
    _ = i * 2 ^ k * ((2 ^ (-(q - e)).toNat : Nat) : Int) * ((2 ^ ((-(q - (e + k))).toNat) : Nat) : Int) := by rw [signed_mul, w]
    _ = i * ((2 ^ (-(q - (e + k))).toNat : Nat) : Int) * ((2 ^ (k + (-(q - e)).toNat) : Nat) : Int) := by
        rw [Nat.pow_add, Int.natCast_mul, Int.natCast_pow 2 k]
        show i * (2 : Int) ^ k * _ * _ = _ * ((2 : Int) ^ k * _)
        ac_rfl
theorem Dy.cmp {i j e : Int} {a b : UInt64} (ha : Dy i e a) (hb : Dy j e b) : FP.dcmp a b = some (compare i j) := by
  obtain ⟨s, c, q, a1, a2⟩ := ha
  obtain ⟨t, d, r, b1, b2⟩ := hb
  have w := order_whole a2 b2
  have hm : min (q - e) (r - e) = min q r - e := by omega
  simp only [order] at w
  rw [hm] at w
  unfold inUnits at w
  rw [show q - e - (min q r - e) = q - min q r by omega, show r - e - (min q r - e) = r - min q r by omega] at w
  show order (val64 a) (val64 b) = _
  rw [a1, b1]
  exact w
theorem Dy.of_int {i : Int} {a : UInt64} (h : DInt i a) : Dy i 0 a := by
  unfold DInt at h
  cases hv : val64 a with
  | nan => rw [hv] at h; exact h.elim
  | inf => rw [hv] at h; exact h.elim
  | fin s c q => rw [hv] at h; exact ⟨s, c, q, hv, by rw [Int.sub_zero]; exact h⟩
theorem Dy.i2d (x : Int32) : Dy x.toInt 0 (FP.i2d x) := Dy.of_int (i2d_int x)
theorem Dy.l2d {x : Int64} (h : x.toInt.natAbs ≤ 9007199254740992) : Dy x.toInt 0 (FP.l2d x) := Dy.of_int (l2d_int (Nat.le_trans h (by decide)))
/-- the int that a comparison pushes -/
def own_ci (i j : Int) : Int32 := if i < j then -1 else if i = j then 0 else 1
theorem Dy.cmpV {i j e : Int} {a b : UInt64} (ha : Dy i e a) (hb : Dy j e b) (o : Jvm.ClassFile.CmpOp) : Jvm.Op.cmpValue (FP.dcmp a b) o = own_ci i j := by
  rw [ha.cmp hb, compare_ite]
  unfold own_ci
  by_cases h1 : i < j
  · simp only [if_pos h1]; cases o <;> rfl
  · by_cases h2 : i = j
    · simp only [if_neg h1, if_pos h2]; cases o <;> rfl
    · simp only [if_neg h1, if_neg h2]; cases o <;> rfl
theorem own_ci_lt {i j : Int} : own_ci i j < 0 ↔ i < j := by
  unfold own_ci
  by_cases h1 : i < j
  · simp [h1]
  · by_cases h2 : i = j <;> simp [h1, h2]
theorem own_ci_gt {i j : Int} : 0 < own_ci i j ↔ j < i := by
  unfold own_ci
  by_cases h1 : i < j
  · simp [h1]; omega
  · by_cases h2 : i = j
    · simp [h2]
    · simp [h1, h2]; omega
theorem own_ci_eq {i j : Int} : own_ci i j = 0 ↔ i = j := by
  unfold own_ci
  by_cases h1 : i < j
  · simp [h1]; omega
  · by_cases h2 : i = j <;> simp [h1, h2]
theorem Dy.cast {i j e f : Int} {a : UInt64} (h : Dy i e a) (hi : i = j) (he : e = f) : Dy j f a := by subst hi he; exact h
theorem own_zero (e : Int) : Dy 0 e (0 : UInt64) := ⟨false, 0, -1074, by decide +kernel, by
  show signed false (0 * _) = 0 * _
  rw [Nat.zero_mul, Int.zero_mul]; rfl⟩
end Jvm.OwnFp
namespace Jvm.OwnNum
theorem own_mulb {a b A B : Int} (a1 : -A ≤ a) (a2 : a ≤ A) (b1 : -B ≤ b) (b2 : b ≤ B) : -(A * B) ≤ a * b ∧ a * b ≤ A * B := by
  have hm : (a * b).natAbs ≤ A.toNat * B.toNat := by rw [Int.natAbs_mul]; exact Nat.mul_le_mul (by omega) (by omega)
  have hm2 : ((A.toNat * B.toNat : Nat) : Int) = A * B := by rw [Int.natCast_mul, Int.toNat_of_nonneg (by omega), Int.toNat_of_nonneg (by omega)]
  omega
theorem own_i2l (x : Int32) : x.toInt64.toInt = x.toInt := by simp
/-- a remainder by a positive literal -/
theorem own_rem {x k : Int32} {K : Int} (hk : k.toInt = K) (h : 0 < K) : -K < (x % k).toInt ∧ (x % k).toInt < K := by
  rw [Int32.toInt_mod, hk]
  have h1 := Int.tmod_lt_of_pos x.toInt h
  have h2 := Int.lt_tmod_of_pos x.toInt h
  omega
theorem own_and {x k : Int32} {K : Nat} (hk : k.toInt = K) (h0 : K < 2 ^ 31) : 0 ≤ (x &&& k).toInt ∧ (x &&& k).toInt ≤ K := by
  have e : k.toBitVec.toNat = K := by
    have := k.toBitVec.isLt
    have q : k.toInt = k.toBitVec.toInt := rfl
    rw [q, BitVec.toInt_eq_toNat_cond] at hk
    split at hk <;> omega
  have b : (x &&& k).toBitVec.toNat ≤ K := by
    show (x.toBitVec &&& k.toBitVec).toNat ≤ K
    rw [BitVec.toNat_and, e]; exact Nat.and_le_right
  have q : (x &&& k).toInt = (x &&& k).toBitVec.toInt := rfl
  rw [q, BitVec.toInt_eq_toNat_cond]
  split <;> omega
theorem own_add32 {a b : Int32} (h1 : -2147483648 ≤ a.toInt + b.toInt) (h2 : a.toInt + b.toInt < 2147483648) : (a + b).toInt = a.toInt + b.toInt := by
  rw [Int32.toInt_add]; exact Int.bmod_eq_of_le (by omega) (by omega)
theorem own_sub32 {a b : Int32} (h1 : -2147483648 ≤ a.toInt - b.toInt) (h2 : a.toInt - b.toInt < 2147483648) : (a - b).toInt = a.toInt - b.toInt := by
  rw [Int32.toInt_sub]; exact Int.bmod_eq_of_le (by omega) (by omega)
theorem own_mul32 {a b : Int32} (h1 : -2147483648 ≤ a.toInt * b.toInt) (h2 : a.toInt * b.toInt < 2147483648) : (a * b).toInt = a.toInt * b.toInt := by
  rw [Int32.toInt_mul]; exact Int.bmod_eq_of_le (by omega) (by omega)
theorem own_min (a b : Int32) : (if b < a then b else a).toInt = min a.toInt b.toInt := by
  split
  · rename_i h; rw [Int32.lt_iff_toInt_lt] at h; omega
  · rename_i h; rw [Int32.lt_iff_toInt_lt] at h; omega
theorem own_max (a b : Int32) : (if a < b then b else a).toInt = max a.toInt b.toInt := by
  split
  · rename_i h; rw [Int32.lt_iff_toInt_lt] at h; omega
  · rename_i h; rw [Int32.lt_iff_toInt_lt] at h; omega
theorem own_shl {e : Int32} (h0 : 0 ≤ e.toInt) (h1 : e.toInt < 11) : ∃ k : Nat, k ≤ 10 ∧ ((1 : Int32) <<< (e &&& 31)).toInt = 2 ^ k := by
  have hk : e.toInt = 0 ∨ e.toInt = 1 ∨ e.toInt = 2 ∨ e.toInt = 3 ∨ e.toInt = 4 ∨ e.toInt = 5 ∨ e.toInt = 6 ∨ e.toInt = 7 ∨ e.toInt = 8 ∨ e.toInt = 9 ∨ e.toInt = 10 := by omega
  rcases hk with h | h | h | h | h | h | h | h | h | h | h
  · exact ⟨0, by decide, by rw [Int32.toInt_inj.mp (h.trans (by decide : (0 : Int) = (0 : Int32).toInt))]; decide⟩
  · exact ⟨1, by decide, by rw [Int32.toInt_inj.mp (h.trans (by decide : (1 : Int) = (1 : Int32).toInt))]; decide⟩
  · exact ⟨2, by decide, by rw [Int32.toInt_inj.mp (h.trans (by decide : (2 : Int) = (2 : Int32).toInt))]; decide⟩
  · exact ⟨3, by decide, by rw [Int32.toInt_inj.mp (h.trans (by decide : (3 : Int) = (3 : Int32).toInt))]; decide⟩
  · exact ⟨4, by decide, by rw [Int32.toInt_inj.mp (h.trans (by decide : (4 : Int) = (4 : Int32).toInt))]; decide⟩
  · exact ⟨5, by decide, by rw [Int32.toInt_inj.mp (h.trans (by decide : (5 : Int) = (5 : Int32).toInt))]; decide⟩
  · exact ⟨6, by decide, by rw [Int32.toInt_inj.mp (h.trans (by decide : (6 : Int) = (6 : Int32).toInt))]; decide⟩
  · exact ⟨7, by decide, by rw [Int32.toInt_inj.mp (h.trans (by decide : (7 : Int) = (7 : Int32).toInt))]; decide⟩
  · exact ⟨8, by decide, by rw [Int32.toInt_inj.mp (h.trans (by decide : (8 : Int) = (8 : Int32).toInt))]; decide⟩
  · exact ⟨9, by decide, by rw [Int32.toInt_inj.mp (h.trans (by decide : (9 : Int) = (9 : Int32).toInt))]; decide⟩
  · exact ⟨10, by decide, by rw [Int32.toInt_inj.mp (h.trans (by decide : (10 : Int) = (10 : Int32).toInt))]; decide⟩
theorem own_and3 (x : Int32) : (x &&& (3 : Int32)) = (0 : Int32) ∨ (x &&& (3 : Int32)) = (1 : Int32) ∨ (x &&& (3 : Int32)) = (2 : Int32) ∨ (x &&& (3 : Int32)) = (3 : Int32) := by
  have h := own_and (x := x) (k := 3) (K := 3) (by decide) (by decide)
  have q : (x &&& (3 : Int32)).toInt = 0 ∨ (x &&& (3 : Int32)).toInt = 1 ∨ (x &&& (3 : Int32)).toInt = 2 ∨ (x &&& (3 : Int32)).toInt = 3 := by omega
  rcases q with q | q | q | q
  · exact Or.inl (Int32.toInt_inj.mp (q.trans (by decide : (0 : Int) = (0 : Int32).toInt)))
  · exact Or.inr (Or.inl (Int32.toInt_inj.mp (q.trans (by decide : (1 : Int) = (1 : Int32).toInt))))
  · exact Or.inr (Or.inr (Or.inl (Int32.toInt_inj.mp (q.trans (by decide : (2 : Int) = (2 : Int32).toInt)))))
  · exact Or.inr (Or.inr (Or.inr (Int32.toInt_inj.mp (q.trans (by decide : (3 : Int) = (3 : Int32).toInt)))))
theorem own_pow10 {e : Nat} (h : e ≤ 10) : (2 : Int) ^ e ≤ 1024 ∧ 1 ≤ (2 : Int) ^ e := by
  have : ∀ e, e ≤ 10 → (2 : Int) ^ e ≤ 1024 ∧ 1 ≤ (2 : Int) ^ e := by decide
  exact this e h
end Jvm.OwnNum
namespace Jvm.Pilot.@@N@@
open Jvm Jvm.ClassFile Sem Op Lib Jvm.Free Jvm.Stand Jvm.LawKit Jvm.RoadKit Bundle Jvm.OwnGo Jvm.OwnFp Jvm.Pilot.@@N@@.Jvm.D
open Jvm.OwnNum Jvm.FP Jvm.Free.Fl
def own_isp (x : UInt64) : Int32 := if 0 < cmpValue (FP.dcmp x 0) .l ∧ cmpValue (FP.dcmp x 9218868437227405312) .g < 0 then 1 else 0
theorem own_isp_yes {x : UInt64} (h1 : (0 : Int32) < cmpValue (FP.dcmp x 0) .l) (h2 : cmpValue (FP.dcmp x 9218868437227405312) .g < (0 : Int32)) : own_isp x = 1 := if_pos ⟨h1, h2⟩
theorem own_isp_no1 {x : UInt64} (h1 : ¬ (0 : Int32) < cmpValue (FP.dcmp x 0) .l) : own_isp x = 0 := if_neg fun q => h1 q.1
theorem own_isp_no2 {x : UInt64} (h2 : ¬ cmpValue (FP.dcmp x 9218868437227405312) .g < (0 : Int32)) : own_isp x = 0 := if_neg fun q => h2 q.2
theorem own_isp_pos {i e : Int} {x : UInt64} (d : Dy i e x) (h : 0 < i) : own_isp x = 1 :=
  own_isp_yes (by rw [d.cmpV (own_zero e) .l]; exact own_ci_gt.mpr h) (by rw [dcmp_pinf d.fin .g]; decide)
theorem own_isp_neg {i e : Int} {x : UInt64} (d : Dy i e x) (h : ¬ 0 < i) : own_isp x = 0 :=
  own_isp_no1 (by rw [d.cmpV (own_zero e) .l]; exact fun q => h (own_ci_gt.mp q))
theorem own_p1 {n : Int32} (h : (0 : Int32) < n) : 0 < n.toInt := Int32.lt_iff_toInt_lt.mp h
theorem own_n1 {n : Int32} (h : ¬ (0 : Int32) < n) : ¬ 0 < n.toInt := fun q => h (Int32.lt_iff_toInt_lt.mpr q)
theorem own_i32 (n : Int32) : n.toInt.natAbs ≤ 9007199254740992 := Nat.le_trans (Core.int32_abs n) (by decide)
theorem own_1024 : Dy 1 10 (4652218415073722368 : UInt64) := own_const false (2 ^ 52) (-42) (by decide +kernel) (by decide +kernel)
theorem own_least : Dy 1 (-1074) (1 : UInt64) := own_const false (1) (-1074) (by decide +kernel) (by decide +kernel)
/-- the sign of a finite double, as a comparison with 0 says it -/
theorem own_cmp0 {x : UInt64} {s : Bool} {c : Nat} {q : Int} (h : Core.val64 x = .fin s c q) : FP.dcmp x 0 = some (compare (Core.signed s c) 0) := by
  show Core.order (Core.val64 x) (Core.val64 0) = _
  rw [h, show Core.val64 0 = .fin false 0 (-1074) by decide +kernel]
  simp only [Core.order, Core.inUnits]
  have p1 : (0 : Int) < ((2 ^ (q - min q (-1074)).toNat : Nat) : Int) := by have := Nat.two_pow_pos (q - min q (-1074)).toNat; omega
  rw [Core.signed_mul, Nat.zero_mul, show Core.signed false 0 = 0 * ((2 ^ (q - min q (-1074)).toNat : Nat) : Int) by rw [Int.zero_mul]; rfl, Core.compare_mul_pos _ _ _ p1]
theorem own_cv {i : Int} (o : CmpOp) : cmpValue (some (compare i 0)) o = own_ci i 0 := by
  rw [Core.compare_ite]
  unfold own_ci
  by_cases h1 : i < 0
  · simp only [if_pos h1]; cases o <;> rfl
  · by_cases h2 : i = 0
    · simp only [if_neg h1, if_pos h2]; cases o <;> rfl
    · simp only [if_neg h1, if_neg h2]; cases o <;> rfl
theorem own_isp_fin {x : UInt64} {s : Bool} {c : Nat} {q : Int} (h : Core.val64 x = .fin s c q) : own_isp x = if 0 < Core.signed s c then 1 else 0 := by
  by_cases z : 0 < Core.signed s c
  · rw [if_pos z]
    exact own_isp_yes (by rw [own_cmp0 h, own_cv]; exact own_ci_gt.mpr z) (by rw [dcmp_pinf (fin64_core.mpr ⟨s, c, q, h⟩) .g]; decide)
  · rw [if_neg z]
    exact own_isp_no1 (by rw [own_cmp0 h, own_cv]; exact fun r => z (own_ci_gt.mp r))
theorem own_l2d {a : Int64} : ∃ c q, Core.val64 (FP.l2d a) = .fin (decide (a.toInt < 0)) c q ∧ (a.toInt ≠ 0 → c ≠ 0) := by
  obtain ⟨c, q, h⟩ := Core.l2d_shape a
  refine ⟨c, q, h, fun ha hc => ?_⟩
  subst hc
  have z : (Core.l2d a).toNat % 2 ^ 63 = 0 := (Core.zero_bits2 (FP.l2d a)).mp ⟨_, _, h⟩
  have := (Core.l2d_big ha).1
  omega
theorem own_l2dz : FP.l2d 0 = 0 := by decide +kernel
theorem own_isp_lpos {a : Int64} (h : (0 : Int32) < lcmpW a 0) : own_isp (FP.l2d a) = 1 := by
  rw [lcW, lc_gt] at h
  have z : 0 < a.toInt := Int64.lt_iff_toInt_lt.mp h
  obtain ⟨c, q, e, hc⟩ := own_l2d (a := a)
  have := hc (by omega)
  rw [own_isp_fin e, if_pos]
  rw [show decide (a.toInt < 0) = false from decide_eq_false (by omega)]
  show (0 : Int) < (c : Int)
  omega
theorem own_isp_lneg {a : Int64} (h : ¬ (0 : Int32) < lcmpW a 0) : own_isp (FP.l2d a) = 0 := by
  rw [lcW, lc_gt] at h
  have z : ¬ 0 < a.toInt := fun q => h (Int64.lt_iff_toInt_lt.mpr q)
  by_cases y : a.toInt = 0
  · have : a = 0 := Int64.toInt_inj.mp y
    subst this
    rw [own_l2dz]; decide +kernel
  obtain ⟨c, q, e, hc⟩ := own_l2d (a := a)
  rw [own_isp_fin e, if_neg]
  rw [show decide (a.toInt < 0) = true from decide_eq_true (by omega)]
  show ¬ (0 : Int) < -(c : Int)
  omega
/-- 1e290 -/
theorem own_1e290 : Core.val64 8945421882333202015 = .fin false (8945421882333202015 % 2 ^ 52 + 2 ^ 52) 911 := by decide +kernel
theorem own_big_mag (n : Int32) : Core.DFin (FP.dmul (FP.i2d n) 8945421882333202015) := by
  have h := Core.dmul_mag (a := FP.i2d n) (b := 8945421882333202015) (Ka := 1056) (Kb := 1987) (Core.i2d_mag n) (by decide) (by decide) (by decide)
  exact Core.fin_of_lt h (by decide)
theorem own_big_nn (n : Int32) : NoNaN64 (FP.dmul (FP.i2d n) 8945421882333202015) := (fin64_core.mpr (own_big_mag n)).noNaN
theorem own_big (n : Int32) (hn : n.toInt ≠ 0) : ∃ c q, Core.val64 (FP.dmul (FP.i2d n) 8945421882333202015) = .fin (decide (n.toInt < 0)) c q ∧ c ≠ 0 := by
  obtain ⟨s, c, q, h1, h2⟩ := Dy.i2d n
  have hs := Core.whole_sign h2 hn
  have hc : c ≠ 0 := fun z => hn ((Core.whole_zero h2).mp z)
  have hf : Core.fits Core.b64 (.fin s c q) := h1 ▸ Core.val64_fits _
  have hq : -1074 ≤ q := Core.qmin_b64 ▸ hf.2.1
  obtain ⟨s', c', q', h3⟩ := own_big_mag n
  have e : Core.val64 (FP.dmul (FP.i2d n) 8945421882333202015) = Core.roundRatio Core.b64 s (c * (8945421882333202015 % 2 ^ 52 + 2 ^ 52)) 1 (q + 911) := by
    rw [Core.val64_dmul, h1, own_1e290]
    show Core.roundRatio Core.b64 (s != false) _ 1 _ = _
    rw [Bool.bne_false]
  have sg := Core.sgn_roundRatio Core.b64 s (c * (8945421882333202015 % 2 ^ 52 + 2 ^ 52)) 1 (q + 911)
  have mg := Core.zmag_roundRatio_ge Core.good_b64 (s := s) (A := c * (8945421882333202015 % 2 ^ 52 + 2 ^ 52)) (B := 1) (e := q + 911) (e0 := -1074) (V := .fin false 1 (-1074)) Nat.one_pos ⟨by decide, by decide, by decide, Or.inl (by decide)⟩ (by decide) (by omega) (by
    show 1 * 2 ^ _ * 2 ^ _ * 1 ≤ c * _ * 2 ^ _
    rw [show (Core.b64.qmin - -1074).toNat = 0 by decide, show ((-1074 : Int) - Core.b64.qmin).toNat = 0 by decide]
    have : 1 ≤ c * (8945421882333202015 % 2 ^ 52 + 2 ^ 52) := Nat.mul_pos (by omega) (by decide)
    have p := Nat.two_pow_pos (q + 911 - -1074).toNat
    have := Nat.mul_le_mul this p
    simpa using this)
  rw [← e, h3] at sg mg
  have sg' : s' = s := sg
  refine ⟨c', q', by rw [h3, sg', hs], fun z => ?_⟩
  subst z
  have : Core.zmag Core.b64 (.fin false 1 (-1074)) = 1 := by decide
  rw [this] at mg
  have m0 : Core.zmag Core.b64 (.fin s' 0 q') = 0 := by simp [Core.zmag, Core.inUnits]
  omega
theorem own_isp_bigpos {n : Int32} (h : (0 : Int32) < n) : own_isp (FP.dmul (FP.i2d n) 8945421882333202015) = 1 := by
  have z := own_p1 h
  obtain ⟨c, q, e, hc⟩ := own_big n (by omega)
  rw [own_isp_fin e, if_pos]
  rw [show decide (n.toInt < 0) = false from decide_eq_false (by omega)]
  show (0 : Int) < (c : Int)
  omega
theorem own_isp_bigneg {n : Int32} (h : ¬ (0 : Int32) < n) : own_isp (FP.dmul (FP.i2d n) 8945421882333202015) = 0 := by
  have z := own_n1 h
  by_cases y : n.toInt = 0
  · have : n = 0 := Int32.toInt_inj.mp y
    subst this
    decide +kernel
  obtain ⟨c, q, e, hc⟩ := own_big n y
  rw [own_isp_fin e, if_neg]
  rw [show decide (n.toInt < 0) = true from decide_eq_true (by omega)]
  show ¬ (0 : Int) < -(c : Int)
  omega
theorem d1_0 : decode prog_69_method_2_code 0 = .ok (.dload_n 0, 1) := by decide +kernel
theorem d1_1 : decode prog_69_method_2_code 1 = .ok (.dconst 0, 1) := by decide +kernel
theorem d1_2 : decode prog_69_method_2_code 2 = .ok (.dcmp .l, 1) := by decide +kernel
theorem d1_3 : decode prog_69_method_2_code 3 = .ok (.ifCond .le 15, 3) := by decide +kernel
theorem d1_6 : decode prog_69_method_2_code 6 = .ok (.dload_n 0, 1) := by decide +kernel
theorem d1_7 : decode prog_69_method_2_code 7 = .ok (.ldc2_w 9, 3) := by decide +kernel
theorem d1_10 : decode prog_69_method_2_code 10 = .ok (.dcmp .g, 1) := by decide +kernel
theorem d1_11 : decode prog_69_method_2_code 11 = .ok (.ifCond .ge 7, 3) := by decide +kernel
theorem d1_14 : decode prog_69_method_2_code 14 = .ok (.iconst 1, 1) := by decide +kernel
theorem d1_15 : decode prog_69_method_2_code 15 = .ok (.goto 4, 3) := by decide +kernel
theorem d1_18 : decode prog_69_method_2_code 18 = .ok (.iconst 0, 1) := by decide +kernel
theorem d1_19 : decode prog_69_method_2_code 19 = .ok (.ireturn, 1) := by decide +kernel
theorem pn_0 : plainName "com/example/rootward/rootward/online/Timer" = true := by first | (simp [plainName, overriddenIn]; done) | decide +kernel
theorem ef_1 (m : MethodId) (x0 : UInt64) : entryFrame m #[(.double x0)] 2 = mkF m 0 #[.val (.double x0), .second] [] := by first | (simp [entryFrame, mkF, argsToLocals, Value.category]; done) | rfl
def Q1 (Z : State) (x1 : UInt64)  (h0 : Heap) (n0 : Nat) (v : Option Value) (h : Heap) (L : List Loc) : Prop := v = some (.int (own_isp x1)) ∧ Fr n0 L ∧ h = h0
set_option maxRecDepth 65536 in
set_option maxHeartbeats 40000000 in
theorem rm1 (l : Launch) (Z : State) (a0 : Array Value) (hw : ∀ d ∈ tables_1, d.before a0 Z = true) (ws : List Jvm.Cond) (x1 : UInt64)  (h0 : Heap) (n0 : Nat) (Z0 : n0 ≤ h0.size)  :
    MetFree l (⟨"com/example/rootward/rootward/online/Timer", "isPeriod", "(D)Z"⟩ : MethodName) (head1 (Jvm.Cond.code (⟨"com/example/rootward/rootward/online/Timer", "isPeriod", "(D)Z"⟩ : MethodName) prog_69_method_2_code 2 (some .boolean) :: ws) ({ frames := 0, cells := 0, slots := 0, locals := 0 } : Room)) (fun a U => a = #[(.double x1)] ∧ Z.Warmed39 U.vm ∧ U.heap = h0) (fun _ _ _ _ _ => True) (fun _ U o U' => ∃ v L, o = .returned v ∧ Q1 Z x1 h0 n0 v U'.heap L ∧ FrameEnd U o U' L ({ frames := 0, cells := 0, slots := 0, locals := 0 } : Room).cells ({ frames := 0, cells := 0, slots := 0, locals := 0 } : Room).slots) := by
  refine MetFree.of_bodySF (plainFor_of_name pn_0) hisR ?_
  intro p e s m args below meth c s₁ Bd hml0 hP hK
  obtain ⟨rfl, hZ, hh⟩ := hP
  have hx := Bd.exec
  have hby := Bd.bytes
  have hml : c.maxLocals = 2 := hml0
  have hown : s.vm.findClass "com/example/rootward/rootward/online/Timer" = some m.cls := findClass_of_methodNamed Bd.named
  have hnm := (name_of_methodNamed Bd.named Bd.method).1
  have X : Stand p l e ({ frames := 0, cells := 0, slots := 0, locals := 0 } : Room) s m #[(.double x1)] below meth c s₁ [] 0 0 := Stand.of_body Bd
  have eT : s₁.heap = h0 := by rw [← hh, Bd.state]; rfl
  have N := Fr.nil n0
  have K := Keep.refl h0 []
  refine Go.out ?_
  obtain ⟨T, eTT⟩ : ∃ z, z = s₁ := ⟨_, rfl⟩
  rw [← eTT] at X eT ⊢
  refine Go.by (fun tt_ kk_ => castTop (ef_1 m x1) kk_) ?_
  show Go p.tables e below (T.setTop (mkF m 0 #[.val (.double x1), .second] [])) _
  refine Go.by (fun tt_ kk_ => XS.dloadN X.here hx rfl (hb hby d1_0) rfl kk_) ?_
  show Go p.tables e below (T.setTop (mkF m 1 #[.val (.double x1), .second] [(.double x1)])) _
  refine Go.by (fun tt_ kk_ => XS.dconst0 X.here hx rfl (hb hby d1_1) (v := (0 : UInt64)) rfl kk_) ?_
  show Go p.tables e below (T.setTop (mkF m 2 #[.val (.double x1), .second] [(.double (0 : UInt64)), (.double x1)])) _
  refine Go.by (fun tt_ kk_ => XS.dcmpS X.here hx rfl (hb hby d1_2) rfl rfl kk_) ?_
  show Go p.tables e below (T.setTop (mkF m 3 #[.val (.double x1), .second] [(.int (cmpValue (FP.dcmp x1 (0 : UInt64)) .l))])) _
  by_cases hc3 : (0 : Int32) < (cmpValue (FP.dcmp x1 (0 : UInt64)) .l)
  · refine Go.by (fun tt_ kk_ => XS.ifNo X.here hx rfl (hb hby d1_3) rfl ((if0 _ _).trans (tlt hc3).2.2.2) kk_) ?_
    show Go p.tables e below (T.setTop (mkF m 6 #[.val (.double x1), .second] [])) _
    refine Go.by (fun tt_ kk_ => XS.dloadN X.here hx rfl (hb hby d1_6) rfl kk_) ?_
    show Go p.tables e below (T.setTop (mkF m 7 #[.val (.double x1), .second] [(.double x1)])) _
    refine Go.by (X.ldc2DoubleC hx hown (mvT hZ (hw _ (List.mem_of_getElem? (i := 4) rfl))) (g := (mkF m 7 #[.val (.double x1), .second] [(.double x1)])) rfl (hb hby d1_7)) ?_
    show Go p.tables e below (T.setTop (mkF m 10 #[.val (.double x1), .second] [(.double (9218868437227405312 : UInt64)), (.double x1)])) _
    refine Go.by (fun tt_ kk_ => XS.dcmpS X.here hx rfl (hb hby d1_10) rfl rfl kk_) ?_
    show Go p.tables e below (T.setTop (mkF m 11 #[.val (.double x1), .second] [(.int (cmpValue (FP.dcmp x1 (9218868437227405312 : UInt64)) .g))])) _
    by_cases hc11 : (cmpValue (FP.dcmp x1 (9218868437227405312 : UInt64)) .g) < (0 : Int32)
    · refine Go.by (fun tt_ kk_ => XS.ifNo X.here hx rfl (hb hby d1_11) rfl ((if0 _ _).trans (tlt hc11).2.1) kk_) ?_
      show Go p.tables e below (T.setTop (mkF m 14 #[.val (.double x1), .second] [])) _
      refine Go.by (fun tt_ kk_ => XS.iconst X.here hx rfl (hb hby d1_14) kk_) ?_
      show Go p.tables e below (T.setTop (mkF m 15 #[.val (.double x1), .second] [(.int (1 : Int32))])) _
      refine Go.by (fun tt_ kk_ => XS.goto X.here hx rfl (pc0 := 15) (pc' := 19) rfl (hb hby d1_15) (by decide) (by decide) kk_) ?_
      show Go p.tables e below (T.setTop (mkF m 19 #[.val (.double x1), .second] [(.int (1 : Int32))])) _
      exact Go.done X  (v := some (.int (1 : Int32))) (fun h => by rw [Bd.returns] at h; cases h) Bd.notSynchronized (fun fs hr => retN X hx (z := (1 : Int32)) (t := .boolean) Bd.returns (by simp) (hb hby d1_19) hr) (by rw [eT]; exact ⟨by rw [own_isp_yes hc3 hc11], N, rfl⟩) (by decide) (by decide)
    · refine Go.by (fun tt_ kk_ => XS.ifYes X.here hx rfl (pc0 := 11) (pc' := 18) rfl (hb hby d1_11) rfl ((if0 _ _).trans (flt hc11).2.1) (by decide) (by decide) kk_) ?_
      show Go p.tables e below (T.setTop (mkF m 18 #[.val (.double x1), .second] [])) _
      refine Go.by (fun tt_ kk_ => XS.iconst X.here hx rfl (hb hby d1_18) kk_) ?_
      show Go p.tables e below (T.setTop (mkF m 19 #[.val (.double x1), .second] [(.int (0 : Int32))])) _
      exact Go.done X  (v := some (.int (0 : Int32))) (fun h => by rw [Bd.returns] at h; cases h) Bd.notSynchronized (fun fs hr => retN X hx (z := (0 : Int32)) (t := .boolean) Bd.returns (by simp) (hb hby d1_19) hr) (by rw [eT]; exact ⟨by rw [own_isp_no2 hc11], N, rfl⟩) (by decide) (by decide)
  · refine Go.by (fun tt_ kk_ => XS.ifYes X.here hx rfl (pc0 := 3) (pc' := 18) rfl (hb hby d1_3) rfl ((if0 _ _).trans (flt hc3).2.2.2) (by decide) (by decide) kk_) ?_
    show Go p.tables e below (T.setTop (mkF m 18 #[.val (.double x1), .second] [])) _
    refine Go.by (fun tt_ kk_ => XS.iconst X.here hx rfl (hb hby d1_18) kk_) ?_
    show Go p.tables e below (T.setTop (mkF m 19 #[.val (.double x1), .second] [(.int (0 : Int32))])) _
    exact Go.done X  (v := some (.int (0 : Int32))) (fun h => by rw [Bd.returns] at h; cases h) Bd.notSynchronized (fun fs hr => retN X hx (z := (0 : Int32)) (t := .boolean) Bd.returns (by simp) (hb hby d1_19) hr) (by rw [eT]; exact ⟨by rw [own_isp_no1 hc3], N, rfl⟩) (by decide) (by decide)
theorem pn_1 : plainName "com/example/rootward/rootward/online/TimerIsPeriodPinLaw" = true := by first | (simp [plainName, overriddenIn]; done) | decide +kernel
theorem pd_0 : parseMethodDescriptor "(D)Z" = some ⟨[.double], some .boolean⟩ := by decide +kernel
theorem ef_0 (m : MethodId) (x0 : Int32) (x1 : Int32) (x2 : Int64) : entryFrame m #[(.int x0), (.int x1), (.long x2)] maxLocals = mkF m 0 #[.val (.int x0), .val (.int x1), .val (.long x2), .second, .unset, .unset, .unset, .unset, .unset] [] := by first | (simp [entryFrame, mkF, argsToLocals, Value.category, maxLocals]; done) | rfl
def Q0 (Z : State) (p0 : Int32) (p1 : Int32) (q2 : Int64)  (h0 : Heap) (n0 : Nat) (v : Option Value) (h : Heap) (L : List Loc) : Prop := v = some (.int 1) ∧ Fr n0 L
set_option maxRecDepth 65536 in
set_option maxHeartbeats 40000000 in
theorem rm0 (l : Launch) (Z : State) (a0 : Array Value) (hw : ∀ d ∈ tables_1, d.before a0 Z = true) (ws : List Jvm.Cond) (p0 : Int32) (p1 : Int32) (q2 : Int64)  (h0 : Heap) (n0 : Nat) (Z0 : n0 ≤ h0.size)  :
    MetFree l x (head1 (Jvm.Cond.code x code maxLocals ret :: ws) room_1) (fun a U => a = #[(.int p0), (.int p1), (.long q2)] ∧ Z.Warmed39 U.vm ∧ U.heap = h0) (fun _ _ _ _ _ => True) (fun _ U o U' => ∃ v L, o = .returned v ∧ Q0 Z p0 p1 q2 h0 n0 v U'.heap L ∧ FrameEnd U o U' L 0 0) := by
  refine MetFree.of_bodySF (plainFor_of_name pn_1) hisR ?_
  intro p e s m args below meth c s₁ Bd hml0 hP hK
  obtain ⟨rfl, hZ, hh⟩ := hP
  have hx := Bd.exec
  have hby := Bd.bytes
  have hml : c.maxLocals = 9 := hml0
  have hown : s.vm.findClass "com/example/rootward/rootward/online/TimerIsPeriodPinLaw" = some m.cls := findClass_of_methodNamed Bd.named
  have hnm := (name_of_methodNamed Bd.named Bd.method).1
  have X : Stand p l e room_1 s m #[(.int p0), (.int p1), (.long q2)] below meth c s₁ [] 0 0 := Stand.of_body Bd
  have eT : s₁.heap = h0 := by rw [← hh, Bd.state]; rfl
  have N := Fr.nil n0
  have K := Keep.refl h0 []
  refine Go.out ?_
  obtain ⟨T, eTT⟩ : ∃ z, z = s₁ := ⟨_, rfl⟩
  rw [← eTT] at X eT ⊢
  refine Go.by (fun tt_ kk_ => castTop (ef_0 m p0 p1 q2) kk_) ?_
  show Go p.tables e below (T.setTop (mkF m 0 #[.val (.int p0), .val (.int p1), .val (.long q2), .second, .unset, .unset, .unset, .unset, .unset] [])) _
  refine Go.by (fun tt_ kk_ => XS.iloadN X.here hx rfl (hb hby at_0) rfl kk_) ?_
  show Go p.tables e below (T.setTop (mkF m 1 #[.val (.int p0), .val (.int p1), .val (.long q2), .second, .unset, .unset, .unset, .unset, .unset] [(.int p0)])) _
  refine Go.by (fun tt_ kk_ => XS.bipush X.here hx rfl (hb hby at_1) kk_) ?_
  show Go p.tables e below (T.setTop (mkF m 3 #[.val (.int p0), .val (.int p1), .val (.long q2), .second, .unset, .unset, .unset, .unset, .unset] [(.int (7 : Int32)), (.int p0)])) _
  refine Go.by (fun tt_ kk_ => XS.iand X.here hx rfl (hb hby at_3) rfl kk_) ?_
  show Go p.tables e below (T.setTop (mkF m 4 #[.val (.int p0), .val (.int p1), .val (.long q2), .second, .unset, .unset, .unset, .unset, .unset] [(.int (p0 &&& (7 : Int32)))])) _
  refine Go.by (fun tt_ kk_ => XS.istore X.here hx rfl (hb hby at_4) rfl (l' := #[.val (.int p0), .val (.int p1), .val (.long q2), .second, .val (.int (p0 &&& (7 : Int32))), .unset, .unset, .unset, .unset]) rfl kk_) ?_
  show Go p.tables e below (T.setTop (mkF m 6 #[.val (.int p0), .val (.int p1), .val (.long q2), .second, .val (.int (p0 &&& (7 : Int32))), .unset, .unset, .unset, .unset] [])) _
  refine Go.by (fun tt_ kk_ => XS.iload X.here hx rfl (hb hby at_6) rfl kk_) ?_
  show Go p.tables e below (T.setTop (mkF m 8 #[.val (.int p0), .val (.int p1), .val (.long q2), .second, .val (.int (p0 &&& (7 : Int32))), .unset, .unset, .unset, .unset] [(.int (p0 &&& (7 : Int32)))])) _
  by_cases hc8 : (p0 &&& (7 : Int32)) = (0 : Int32)
  · refine Go.by (fun tt_ kk_ => XS.ifNo X.here hx rfl (hb hby at_8) rfl ((if0 _ _).trans (teq hc8).2) kk_) ?_
    show Go p.tables e below (T.setTop (mkF m 11 #[.val (.int p0), .val (.int p1), .val (.long q2), .second, .val (.int (p0 &&& (7 : Int32))), .unset, .unset, .unset, .unset] [])) _
    refine Go.by (fun tt_ kk_ => XS.iloadN X.here hx rfl (hb hby at_11) rfl kk_) ?_
    show Go p.tables e below (T.setTop (mkF m 12 #[.val (.int p0), .val (.int p1), .val (.long q2), .second, .val (.int (p0 &&& (7 : Int32))), .unset, .unset, .unset, .unset] [(.int p1)])) _
    refine Go.by (fun tt_ kk_ => XS.i2dS X.here hx rfl (hb hby at_12) rfl rfl kk_) ?_
    show Go p.tables e below (T.setTop (mkF m 13 #[.val (.int p0), .val (.int p1), .val (.long q2), .second, .val (.int (p0 &&& (7 : Int32))), .unset, .unset, .unset, .unset] [(.double (FP.i2d p1))])) _
    refine Go.by (fun tt_ kk_ => XS.dstore X.here hx rfl (hb hby at_13) rfl (l' := #[.val (.int p0), .val (.int p1), .val (.long q2), .second, .val (.int (p0 &&& (7 : Int32))), .val (.double (FP.i2d p1)), .second, .unset, .unset]) rfl kk_) ?_
    show Go p.tables e below (T.setTop (mkF m 15 #[.val (.int p0), .val (.int p1), .val (.long q2), .second, .val (.int (p0 &&& (7 : Int32))), .val (.double (FP.i2d p1)), .second, .unset, .unset] [])) _
    refine Go.by (fun tt_ kk_ => XS.iloadN X.here hx rfl (hb hby at_15) rfl kk_) ?_
    show Go p.tables e below (T.setTop (mkF m 16 #[.val (.int p0), .val (.int p1), .val (.long q2), .second, .val (.int (p0 &&& (7 : Int32))), .val (.double (FP.i2d p1)), .second, .unset, .unset] [(.int p1)])) _
    by_cases hc16 : (0 : Int32) < p1
    · refine Go.by (fun tt_ kk_ => XS.ifNo X.here hx rfl (hb hby at_16) rfl ((if0 _ _).trans (tlt hc16).2.2.2) kk_) ?_
      show Go p.tables e below (T.setTop (mkF m 19 #[.val (.int p0), .val (.int p1), .val (.long q2), .second, .val (.int (p0 &&& (7 : Int32))), .val (.double (FP.i2d p1)), .second, .unset, .unset] [])) _
      refine Go.by (fun tt_ kk_ => XS.iconst X.here hx rfl (hb hby at_19) kk_) ?_
      show Go p.tables e below (T.setTop (mkF m 20 #[.val (.int p0), .val (.int p1), .val (.long q2), .second, .val (.int (p0 &&& (7 : Int32))), .val (.double (FP.i2d p1)), .second, .unset, .unset] [(.int (1 : Int32))])) _
      refine Go.by (fun tt_ kk_ => XS.goto X.here hx rfl (pc0 := 20) (pc' := 24) rfl (hb hby at_20) (by decide) (by decide) kk_) ?_
      show Go p.tables e below (T.setTop (mkF m 24 #[.val (.int p0), .val (.int p1), .val (.long q2), .second, .val (.int (p0 &&& (7 : Int32))), .val (.double (FP.i2d p1)), .second, .unset, .unset] [(.int (1 : Int32))])) _
      refine Go.by (fun tt_ kk_ => XS.istore X.here hx rfl (hb hby at_24) rfl (l' := #[.val (.int p0), .val (.int p1), .val (.long q2), .second, .val (.int (p0 &&& (7 : Int32))), .val (.double (FP.i2d p1)), .second, .val (.int (1 : Int32)), .unset]) rfl kk_) ?_
      show Go p.tables e below (T.setTop (mkF m 26 #[.val (.int p0), .val (.int p1), .val (.long q2), .second, .val (.int (p0 &&& (7 : Int32))), .val (.double (FP.i2d p1)), .second, .val (.int (1 : Int32)), .unset] [])) _
      refine Go.by (fun tt_ kk_ => XS.goto X.here hx rfl (pc0 := 26) (pc' := 235) rfl (hb hby at_26) (by decide) (by decide) kk_) ?_
      show Go p.tables e below (T.setTop (mkF m 235 #[.val (.int p0), .val (.int p1), .val (.long q2), .second, .val (.int (p0 &&& (7 : Int32))), .val (.double (FP.i2d p1)), .second, .val (.int (1 : Int32)), .unset] [])) _
      refine Go.by (fun tt_ kk_ => XS.dload X.here hx rfl (hb hby at_235) rfl kk_) ?_
      show Go p.tables e below (T.setTop (mkF m 237 #[.val (.int p0), .val (.int p1), .val (.long q2), .second, .val (.int (p0 &&& (7 : Int32))), .val (.double (FP.i2d p1)), .second, .val (.int (1 : Int32)), .unset] [(.double (FP.i2d p1))])) _
      have hz : own_isp (FP.i2d p1) = (1 : Int32) := own_isp_pos (Dy.i2d p1) (own_p1 hc16)
      obtain ⟨_, _, ⟨T, L_, k_, n_⟩, -, X, ⟨Lc_, hQ, l_, y_, z_⟩, st⟩ := Jvm.LawKit.callS X hx (y := (⟨"com/example/rootward/rootward/online/Timer", "isPeriod", "(D)Z"⟩ : MethodName)) hown (mvT hZ (hw _ (List.mem_of_getElem? (i := 0) rfl))) (mvT hZ (hw _ (List.mem_of_getElem? (i := 1) rfl))) (mvT hZ (hw _ (List.mem_of_getElem? (i := 2) rfl))) (mvT hZ (hw _ (List.mem_of_getElem? (i := 3) rfl))) (by decide) (backOf (W := 0) (rm1 l Z a0 hw [] (FP.i2d p1) h0 n0 (Nat.le_trans Z0 K.1) ) hZ (hw _ (List.mem_of_getElem? (i := 3) rfl)) (hw _ (List.mem_of_getElem? (i := 2) rfl)) (by decide) (by decide)) (g := (mkF m 237 #[.val (.int p0), .val (.int p1), .val (.long q2), .second, .val (.int (p0 &&& (7 : Int32))), .val (.double (FP.i2d p1)), .second, .val (.int (1 : Int32)), .unset] [(.double (FP.i2d p1))])) rfl (by rw [hml]; rfl) (argsL := [(.double (FP.i2d p1))]) (rest := []) (lenOf pd_0 rfl) rfl (by show 2 * 0 + _ ≤ _; exact Nat.le_of_eq rfl) (hb hby at_237) (fun _ _ => ⟨rfl, eT, (by decide : 0 + 0 ≤ _), (by decide : 0 + 0 ≤ _)⟩)
      dsimp only [Pt.U, Pt.locs, Pt.cells, Pt.slots] at X l_ y_ z_ st hQ
      subst l_ y_ z_
      obtain ⟨rfl, Nq, eh⟩ := hQ
      have N := Fr.app N Nq
      have eT := eh
      refine Go.by st ?_
      show Go p.tables e below (T.setTop (mkF m 240 #[.val (.int p0), .val (.int p1), .val (.long q2), .second, .val (.int (p0 &&& (7 : Int32))), .val (.double (FP.i2d p1)), .second, .val (.int (1 : Int32)), .unset] [(.int (own_isp (FP.i2d p1)))])) _
      refine Go.by (fun tt_ kk_ => XS.iload X.here hx rfl (hb hby at_240) rfl kk_) ?_
      show Go p.tables e below (T.setTop (mkF m 242 #[.val (.int p0), .val (.int p1), .val (.long q2), .second, .val (.int (p0 &&& (7 : Int32))), .val (.double (FP.i2d p1)), .second, .val (.int (1 : Int32)), .unset] [(.int (1 : Int32)), (.int (own_isp (FP.i2d p1)))])) _
      refine Go.by (fun tt_ kk_ => XS.icmpNo X.here hx rfl (hb hby at_242) rfl (teq hz).2 kk_) ?_
      show Go p.tables e below (T.setTop (mkF m 245 #[.val (.int p0), .val (.int p1), .val (.long q2), .second, .val (.int (p0 &&& (7 : Int32))), .val (.double (FP.i2d p1)), .second, .val (.int (1 : Int32)), .unset] [])) _
      refine Go.by (fun tt_ kk_ => XS.iconst X.here hx rfl (hb hby at_245) kk_) ?_
      show Go p.tables e below (T.setTop (mkF m 246 #[.val (.int p0), .val (.int p1), .val (.long q2), .second, .val (.int (p0 &&& (7 : Int32))), .val (.double (FP.i2d p1)), .second, .val (.int (1 : Int32)), .unset] [(.int (1 : Int32))])) _
      refine Go.by (fun tt_ kk_ => XS.goto X.here hx rfl (pc0 := 246) (pc' := 250) rfl (hb hby at_246) (by decide) (by decide) kk_) ?_
      show Go p.tables e below (T.setTop (mkF m 250 #[.val (.int p0), .val (.int p1), .val (.long q2), .second, .val (.int (p0 &&& (7 : Int32))), .val (.double (FP.i2d p1)), .second, .val (.int (1 : Int32)), .unset] [(.int (1 : Int32))])) _
      exact Go.done X  (v := some (.int (1 : Int32))) (fun h => by rw [Bd.returns] at h; cases h) Bd.notSynchronized (fun fs hr => retN X hx (z := (1 : Int32)) (t := .boolean) Bd.returns (by simp) (hb hby at_250) hr) (by rw [eT]; exact ⟨rfl, N⟩) (by decide) (by decide)
    · refine Go.by (fun tt_ kk_ => XS.ifYes X.here hx rfl (pc0 := 16) (pc' := 23) rfl (hb hby at_16) rfl ((if0 _ _).trans (flt hc16).2.2.2) (by decide) (by decide) kk_) ?_
      show Go p.tables e below (T.setTop (mkF m 23 #[.val (.int p0), .val (.int p1), .val (.long q2), .second, .val (.int (p0 &&& (7 : Int32))), .val (.double (FP.i2d p1)), .second, .unset, .unset] [])) _
      refine Go.by (fun tt_ kk_ => XS.iconst X.here hx rfl (hb hby at_23) kk_) ?_
      show Go p.tables e below (T.setTop (mkF m 24 #[.val (.int p0), .val (.int p1), .val (.long q2), .second, .val (.int (p0 &&& (7 : Int32))), .val (.double (FP.i2d p1)), .second, .unset, .unset] [(.int (0 : Int32))])) _
      refine Go.by (fun tt_ kk_ => XS.istore X.here hx rfl (hb hby at_24) rfl (l' := #[.val (.int p0), .val (.int p1), .val (.long q2), .second, .val (.int (p0 &&& (7 : Int32))), .val (.double (FP.i2d p1)), .second, .val (.int (0 : Int32)), .unset]) rfl kk_) ?_
      show Go p.tables e below (T.setTop (mkF m 26 #[.val (.int p0), .val (.int p1), .val (.long q2), .second, .val (.int (p0 &&& (7 : Int32))), .val (.double (FP.i2d p1)), .second, .val (.int (0 : Int32)), .unset] [])) _
      refine Go.by (fun tt_ kk_ => XS.goto X.here hx rfl (pc0 := 26) (pc' := 235) rfl (hb hby at_26) (by decide) (by decide) kk_) ?_
      show Go p.tables e below (T.setTop (mkF m 235 #[.val (.int p0), .val (.int p1), .val (.long q2), .second, .val (.int (p0 &&& (7 : Int32))), .val (.double (FP.i2d p1)), .second, .val (.int (0 : Int32)), .unset] [])) _
      refine Go.by (fun tt_ kk_ => XS.dload X.here hx rfl (hb hby at_235) rfl kk_) ?_
      show Go p.tables e below (T.setTop (mkF m 237 #[.val (.int p0), .val (.int p1), .val (.long q2), .second, .val (.int (p0 &&& (7 : Int32))), .val (.double (FP.i2d p1)), .second, .val (.int (0 : Int32)), .unset] [(.double (FP.i2d p1))])) _
      have hz : own_isp (FP.i2d p1) = (0 : Int32) := own_isp_neg (Dy.i2d p1) (own_n1 hc16)
      obtain ⟨_, _, ⟨T, L_, k_, n_⟩, -, X, ⟨Lc_, hQ, l_, y_, z_⟩, st⟩ := Jvm.LawKit.callS X hx (y := (⟨"com/example/rootward/rootward/online/Timer", "isPeriod", "(D)Z"⟩ : MethodName)) hown (mvT hZ (hw _ (List.mem_of_getElem? (i := 0) rfl))) (mvT hZ (hw _ (List.mem_of_getElem? (i := 1) rfl))) (mvT hZ (hw _ (List.mem_of_getElem? (i := 2) rfl))) (mvT hZ (hw _ (List.mem_of_getElem? (i := 3) rfl))) (by decide) (backOf (W := 0) (rm1 l Z a0 hw [] (FP.i2d p1) h0 n0 (Nat.le_trans Z0 K.1) ) hZ (hw _ (List.mem_of_getElem? (i := 3) rfl)) (hw _ (List.mem_of_getElem? (i := 2) rfl)) (by decide) (by decide)) (g := (mkF m 237 #[.val (.int p0), .val (.int p1), .val (.long q2), .second, .val (.int (p0 &&& (7 : Int32))), .val (.double (FP.i2d p1)), .second, .val (.int (0 : Int32)), .unset] [(.double (FP.i2d p1))])) rfl (by rw [hml]; rfl) (argsL := [(.double (FP.i2d p1))]) (rest := []) (lenOf pd_0 rfl) rfl (by show 2 * 0 + _ ≤ _; exact Nat.le_of_eq rfl) (hb hby at_237) (fun _ _ => ⟨rfl, eT, (by decide : 0 + 0 ≤ _), (by decide : 0 + 0 ≤ _)⟩)
      dsimp only [Pt.U, Pt.locs, Pt.cells, Pt.slots] at X l_ y_ z_ st hQ
      subst l_ y_ z_
      obtain ⟨rfl, Nq, eh⟩ := hQ
      have N := Fr.app N Nq
      have eT := eh
      refine Go.by st ?_
      show Go p.tables e below (T.setTop (mkF m 240 #[.val (.int p0), .val (.int p1), .val (.long q2), .second, .val (.int (p0 &&& (7 : Int32))), .val (.double (FP.i2d p1)), .second, .val (.int (0 : Int32)), .unset] [(.int (own_isp (FP.i2d p1)))])) _
      refine Go.by (fun tt_ kk_ => XS.iload X.here hx rfl (hb hby at_240) rfl kk_) ?_
      show Go p.tables e below (T.setTop (mkF m 242 #[.val (.int p0), .val (.int p1), .val (.long q2), .second, .val (.int (p0 &&& (7 : Int32))), .val (.double (FP.i2d p1)), .second, .val (.int (0 : Int32)), .unset] [(.int (0 : Int32)), (.int (own_isp (FP.i2d p1)))])) _
      refine Go.by (fun tt_ kk_ => XS.icmpNo X.here hx rfl (hb hby at_242) rfl (teq hz).2 kk_) ?_
      show Go p.tables e below (T.setTop (mkF m 245 #[.val (.int p0), .val (.int p1), .val (.long q2), .second, .val (.int (p0 &&& (7 : Int32))), .val (.double (FP.i2d p1)), .second, .val (.int (0 : Int32)), .unset] [])) _
      refine Go.by (fun tt_ kk_ => XS.iconst X.here hx rfl (hb hby at_245) kk_) ?_
      show Go p.tables e below (T.setTop (mkF m 246 #[.val (.int p0), .val (.int p1), .val (.long q2), .second, .val (.int (p0 &&& (7 : Int32))), .val (.double (FP.i2d p1)), .second, .val (.int (0 : Int32)), .unset] [(.int (1 : Int32))])) _
      refine Go.by (fun tt_ kk_ => XS.goto X.here hx rfl (pc0 := 246) (pc' := 250) rfl (hb hby at_246) (by decide) (by decide) kk_) ?_
      show Go p.tables e below (T.setTop (mkF m 250 #[.val (.int p0), .val (.int p1), .val (.long q2), .second, .val (.int (p0 &&& (7 : Int32))), .val (.double (FP.i2d p1)), .second, .val (.int (0 : Int32)), .unset] [(.int (1 : Int32))])) _
      exact Go.done X  (v := some (.int (1 : Int32))) (fun h => by rw [Bd.returns] at h; cases h) Bd.notSynchronized (fun fs hr => retN X hx (z := (1 : Int32)) (t := .boolean) Bd.returns (by simp) (hb hby at_250) hr) (by rw [eT]; exact ⟨rfl, N⟩) (by decide) (by decide)
  · refine Go.by (fun tt_ kk_ => XS.ifYes X.here hx rfl (pc0 := 8) (pc' := 29) rfl (hb hby at_8) rfl ((if0 _ _).trans (feq hc8).2) (by decide) (by decide) kk_) ?_
    show Go p.tables e below (T.setTop (mkF m 29 #[.val (.int p0), .val (.int p1), .val (.long q2), .second, .val (.int (p0 &&& (7 : Int32))), .unset, .unset, .unset, .unset] [])) _
    refine Go.by (fun tt_ kk_ => XS.iload X.here hx rfl (hb hby at_29) rfl kk_) ?_
    show Go p.tables e below (T.setTop (mkF m 31 #[.val (.int p0), .val (.int p1), .val (.long q2), .second, .val (.int (p0 &&& (7 : Int32))), .unset, .unset, .unset, .unset] [(.int (p0 &&& (7 : Int32)))])) _
    refine Go.by (fun tt_ kk_ => XS.iconst X.here hx rfl (hb hby at_31) kk_) ?_
    show Go p.tables e below (T.setTop (mkF m 32 #[.val (.int p0), .val (.int p1), .val (.long q2), .second, .val (.int (p0 &&& (7 : Int32))), .unset, .unset, .unset, .unset] [(.int (1 : Int32)), (.int (p0 &&& (7 : Int32)))])) _
    by_cases hc32 : (p0 &&& (7 : Int32)) = (1 : Int32)
    · refine Go.by (fun tt_ kk_ => XS.icmpNo X.here hx rfl (hb hby at_32) rfl (teq hc32).2 kk_) ?_
      show Go p.tables e below (T.setTop (mkF m 35 #[.val (.int p0), .val (.int p1), .val (.long q2), .second, .val (.int (p0 &&& (7 : Int32))), .unset, .unset, .unset, .unset] [])) _
      refine Go.by (fun tt_ kk_ => XS.lloadN X.here hx rfl (hb hby at_35) rfl kk_) ?_
      show Go p.tables e below (T.setTop (mkF m 36 #[.val (.int p0), .val (.int p1), .val (.long q2), .second, .val (.int (p0 &&& (7 : Int32))), .unset, .unset, .unset, .unset] [(.long q2)])) _
      refine Go.by (fun tt_ kk_ => XS.l2dS X.here hx rfl (hb hby at_36) rfl rfl kk_) ?_
      show Go p.tables e below (T.setTop (mkF m 37 #[.val (.int p0), .val (.int p1), .val (.long q2), .second, .val (.int (p0 &&& (7 : Int32))), .unset, .unset, .unset, .unset] [(.double (FP.l2d q2))])) _
      refine Go.by (fun tt_ kk_ => XS.dstore X.here hx rfl (hb hby at_37) rfl (l' := #[.val (.int p0), .val (.int p1), .val (.long q2), .second, .val (.int (p0 &&& (7 : Int32))), .val (.double (FP.l2d q2)), .second, .unset, .unset]) rfl kk_) ?_
      show Go p.tables e below (T.setTop (mkF m 39 #[.val (.int p0), .val (.int p1), .val (.long q2), .second, .val (.int (p0 &&& (7 : Int32))), .val (.double (FP.l2d q2)), .second, .unset, .unset] [])) _
      refine Go.by (fun tt_ kk_ => XS.lloadN X.here hx rfl (hb hby at_39) rfl kk_) ?_
      show Go p.tables e below (T.setTop (mkF m 40 #[.val (.int p0), .val (.int p1), .val (.long q2), .second, .val (.int (p0 &&& (7 : Int32))), .val (.double (FP.l2d q2)), .second, .unset, .unset] [(.long q2)])) _
      refine Go.by (fun tt_ kk_ => XS.lconst X.here hx rfl (hb hby at_40) kk_) ?_
      show Go p.tables e below (T.setTop (mkF m 41 #[.val (.int p0), .val (.int p1), .val (.long q2), .second, .val (.int (p0 &&& (7 : Int32))), .val (.double (FP.l2d q2)), .second, .unset, .unset] [(.long (0 : Int64)), (.long q2)])) _
      refine Go.by (fun tt_ kk_ => XS.lcmp X.here hx rfl (hb hby at_41) rfl kk_) ?_
      show Go p.tables e below (T.setTop (mkF m 42 #[.val (.int p0), .val (.int p1), .val (.long q2), .second, .val (.int (p0 &&& (7 : Int32))), .val (.double (FP.l2d q2)), .second, .unset, .unset] [(.int (lcmpW q2 (0 : Int64)))])) _
      by_cases hc42 : (0 : Int32) < (lcmpW q2 (0 : Int64))
      · refine Go.by (fun tt_ kk_ => XS.ifNo X.here hx rfl (hb hby at_42) rfl ((if0 _ _).trans (tlt hc42).2.2.2) kk_) ?_
        show Go p.tables e below (T.setTop (mkF m 45 #[.val (.int p0), .val (.int p1), .val (.long q2), .second, .val (.int (p0 &&& (7 : Int32))), .val (.double (FP.l2d q2)), .second, .unset, .unset] [])) _
        refine Go.by (fun tt_ kk_ => XS.iconst X.here hx rfl (hb hby at_45) kk_) ?_
        show Go p.tables e below (T.setTop (mkF m 46 #[.val (.int p0), .val (.int p1), .val (.long q2), .second, .val (.int (p0 &&& (7 : Int32))), .val (.double (FP.l2d q2)), .second, .unset, .unset] [(.int (1 : Int32))])) _
        refine Go.by (fun tt_ kk_ => XS.goto X.here hx rfl (pc0 := 46) (pc' := 50) rfl (hb hby at_46) (by decide) (by decide) kk_) ?_
        show Go p.tables e below (T.setTop (mkF m 50 #[.val (.int p0), .val (.int p1), .val (.long q2), .second, .val (.int (p0 &&& (7 : Int32))), .val (.double (FP.l2d q2)), .second, .unset, .unset] [(.int (1 : Int32))])) _
        refine Go.by (fun tt_ kk_ => XS.istore X.here hx rfl (hb hby at_50) rfl (l' := #[.val (.int p0), .val (.int p1), .val (.long q2), .second, .val (.int (p0 &&& (7 : Int32))), .val (.double (FP.l2d q2)), .second, .val (.int (1 : Int32)), .unset]) rfl kk_) ?_
        show Go p.tables e below (T.setTop (mkF m 52 #[.val (.int p0), .val (.int p1), .val (.long q2), .second, .val (.int (p0 &&& (7 : Int32))), .val (.double (FP.l2d q2)), .second, .val (.int (1 : Int32)), .unset] [])) _
        refine Go.by (fun tt_ kk_ => XS.goto X.here hx rfl (pc0 := 52) (pc' := 235) rfl (hb hby at_52) (by decide) (by decide) kk_) ?_
        show Go p.tables e below (T.setTop (mkF m 235 #[.val (.int p0), .val (.int p1), .val (.long q2), .second, .val (.int (p0 &&& (7 : Int32))), .val (.double (FP.l2d q2)), .second, .val (.int (1 : Int32)), .unset] [])) _
        refine Go.by (fun tt_ kk_ => XS.dload X.here hx rfl (hb hby at_235) rfl kk_) ?_
        show Go p.tables e below (T.setTop (mkF m 237 #[.val (.int p0), .val (.int p1), .val (.long q2), .second, .val (.int (p0 &&& (7 : Int32))), .val (.double (FP.l2d q2)), .second, .val (.int (1 : Int32)), .unset] [(.double (FP.l2d q2))])) _
        have hz : own_isp (FP.l2d q2) = (1 : Int32) := own_isp_lpos hc42
        obtain ⟨_, _, ⟨T, L_, k_, n_⟩, -, X, ⟨Lc_, hQ, l_, y_, z_⟩, st⟩ := Jvm.LawKit.callS X hx (y := (⟨"com/example/rootward/rootward/online/Timer", "isPeriod", "(D)Z"⟩ : MethodName)) hown (mvT hZ (hw _ (List.mem_of_getElem? (i := 0) rfl))) (mvT hZ (hw _ (List.mem_of_getElem? (i := 1) rfl))) (mvT hZ (hw _ (List.mem_of_getElem? (i := 2) rfl))) (mvT hZ (hw _ (List.mem_of_getElem? (i := 3) rfl))) (by decide) (backOf (W := 0) (rm1 l Z a0 hw [] (FP.l2d q2) h0 n0 (Nat.le_trans Z0 K.1) ) hZ (hw _ (List.mem_of_getElem? (i := 3) rfl)) (hw _ (List.mem_of_getElem? (i := 2) rfl)) (by decide) (by decide)) (g := (mkF m 237 #[.val (.int p0), .val (.int p1), .val (.long q2), .second, .val (.int (p0 &&& (7 : Int32))), .val (.double (FP.l2d q2)), .second, .val (.int (1 : Int32)), .unset] [(.double (FP.l2d q2))])) rfl (by rw [hml]; rfl) (argsL := [(.double (FP.l2d q2))]) (rest := []) (lenOf pd_0 rfl) rfl (by show 2 * 0 + _ ≤ _; exact Nat.le_of_eq rfl) (hb hby at_237) (fun _ _ => ⟨rfl, eT, (by decide : 0 + 0 ≤ _), (by decide : 0 + 0 ≤ _)⟩)
        dsimp only [Pt.U, Pt.locs, Pt.cells, Pt.slots] at X l_ y_ z_ st hQ
        subst l_ y_ z_
        obtain ⟨rfl, Nq, eh⟩ := hQ
        have N := Fr.app N Nq
        have eT := eh
        refine Go.by st ?_
        show Go p.tables e below (T.setTop (mkF m 240 #[.val (.int p0), .val (.int p1), .val (.long q2), .second, .val (.int (p0 &&& (7 : Int32))), .val (.double (FP.l2d q2)), .second, .val (.int (1 : Int32)), .unset] [(.int (own_isp (FP.l2d q2)))])) _
        refine Go.by (fun tt_ kk_ => XS.iload X.here hx rfl (hb hby at_240) rfl kk_) ?_
        show Go p.tables e below (T.setTop (mkF m 242 #[.val (.int p0), .val (.int p1), .val (.long q2), .second, .val (.int (p0 &&& (7 : Int32))), .val (.double (FP.l2d q2)), .second, .val (.int (1 : Int32)), .unset] [(.int (1 : Int32)), (.int (own_isp (FP.l2d q2)))])) _
        refine Go.by (fun tt_ kk_ => XS.icmpNo X.here hx rfl (hb hby at_242) rfl (teq hz).2 kk_) ?_
        show Go p.tables e below (T.setTop (mkF m 245 #[.val (.int p0), .val (.int p1), .val (.long q2), .second, .val (.int (p0 &&& (7 : Int32))), .val (.double (FP.l2d q2)), .second, .val (.int (1 : Int32)), .unset] [])) _
        refine Go.by (fun tt_ kk_ => XS.iconst X.here hx rfl (hb hby at_245) kk_) ?_
        show Go p.tables e below (T.setTop (mkF m 246 #[.val (.int p0), .val (.int p1), .val (.long q2), .second, .val (.int (p0 &&& (7 : Int32))), .val (.double (FP.l2d q2)), .second, .val (.int (1 : Int32)), .unset] [(.int (1 : Int32))])) _
        refine Go.by (fun tt_ kk_ => XS.goto X.here hx rfl (pc0 := 246) (pc' := 250) rfl (hb hby at_246) (by decide) (by decide) kk_) ?_
        show Go p.tables e below (T.setTop (mkF m 250 #[.val (.int p0), .val (.int p1), .val (.long q2), .second, .val (.int (p0 &&& (7 : Int32))), .val (.double (FP.l2d q2)), .second, .val (.int (1 : Int32)), .unset] [(.int (1 : Int32))])) _
        exact Go.done X  (v := some (.int (1 : Int32))) (fun h => by rw [Bd.returns] at h; cases h) Bd.notSynchronized (fun fs hr => retN X hx (z := (1 : Int32)) (t := .boolean) Bd.returns (by simp) (hb hby at_250) hr) (by rw [eT]; exact ⟨rfl, N⟩) (by decide) (by decide)
      · refine Go.by (fun tt_ kk_ => XS.ifYes X.here hx rfl (pc0 := 42) (pc' := 49) rfl (hb hby at_42) rfl ((if0 _ _).trans (flt hc42).2.2.2) (by decide) (by decide) kk_) ?_
        show Go p.tables e below (T.setTop (mkF m 49 #[.val (.int p0), .val (.int p1), .val (.long q2), .second, .val (.int (p0 &&& (7 : Int32))), .val (.double (FP.l2d q2)), .second, .unset, .unset] [])) _
        refine Go.by (fun tt_ kk_ => XS.iconst X.here hx rfl (hb hby at_49) kk_) ?_
        show Go p.tables e below (T.setTop (mkF m 50 #[.val (.int p0), .val (.int p1), .val (.long q2), .second, .val (.int (p0 &&& (7 : Int32))), .val (.double (FP.l2d q2)), .second, .unset, .unset] [(.int (0 : Int32))])) _
        refine Go.by (fun tt_ kk_ => XS.istore X.here hx rfl (hb hby at_50) rfl (l' := #[.val (.int p0), .val (.int p1), .val (.long q2), .second, .val (.int (p0 &&& (7 : Int32))), .val (.double (FP.l2d q2)), .second, .val (.int (0 : Int32)), .unset]) rfl kk_) ?_
        show Go p.tables e below (T.setTop (mkF m 52 #[.val (.int p0), .val (.int p1), .val (.long q2), .second, .val (.int (p0 &&& (7 : Int32))), .val (.double (FP.l2d q2)), .second, .val (.int (0 : Int32)), .unset] [])) _
        refine Go.by (fun tt_ kk_ => XS.goto X.here hx rfl (pc0 := 52) (pc' := 235) rfl (hb hby at_52) (by decide) (by decide) kk_) ?_
        show Go p.tables e below (T.setTop (mkF m 235 #[.val (.int p0), .val (.int p1), .val (.long q2), .second, .val (.int (p0 &&& (7 : Int32))), .val (.double (FP.l2d q2)), .second, .val (.int (0 : Int32)), .unset] [])) _
        refine Go.by (fun tt_ kk_ => XS.dload X.here hx rfl (hb hby at_235) rfl kk_) ?_
        show Go p.tables e below (T.setTop (mkF m 237 #[.val (.int p0), .val (.int p1), .val (.long q2), .second, .val (.int (p0 &&& (7 : Int32))), .val (.double (FP.l2d q2)), .second, .val (.int (0 : Int32)), .unset] [(.double (FP.l2d q2))])) _
        have hz : own_isp (FP.l2d q2) = (0 : Int32) := own_isp_lneg hc42
        obtain ⟨_, _, ⟨T, L_, k_, n_⟩, -, X, ⟨Lc_, hQ, l_, y_, z_⟩, st⟩ := Jvm.LawKit.callS X hx (y := (⟨"com/example/rootward/rootward/online/Timer", "isPeriod", "(D)Z"⟩ : MethodName)) hown (mvT hZ (hw _ (List.mem_of_getElem? (i := 0) rfl))) (mvT hZ (hw _ (List.mem_of_getElem? (i := 1) rfl))) (mvT hZ (hw _ (List.mem_of_getElem? (i := 2) rfl))) (mvT hZ (hw _ (List.mem_of_getElem? (i := 3) rfl))) (by decide) (backOf (W := 0) (rm1 l Z a0 hw [] (FP.l2d q2) h0 n0 (Nat.le_trans Z0 K.1) ) hZ (hw _ (List.mem_of_getElem? (i := 3) rfl)) (hw _ (List.mem_of_getElem? (i := 2) rfl)) (by decide) (by decide)) (g := (mkF m 237 #[.val (.int p0), .val (.int p1), .val (.long q2), .second, .val (.int (p0 &&& (7 : Int32))), .val (.double (FP.l2d q2)), .second, .val (.int (0 : Int32)), .unset] [(.double (FP.l2d q2))])) rfl (by rw [hml]; rfl) (argsL := [(.double (FP.l2d q2))]) (rest := []) (lenOf pd_0 rfl) rfl (by show 2 * 0 + _ ≤ _; exact Nat.le_of_eq rfl) (hb hby at_237) (fun _ _ => ⟨rfl, eT, (by decide : 0 + 0 ≤ _), (by decide : 0 + 0 ≤ _)⟩)
        dsimp only [Pt.U, Pt.locs, Pt.cells, Pt.slots] at X l_ y_ z_ st hQ
        subst l_ y_ z_
        obtain ⟨rfl, Nq, eh⟩ := hQ
        have N := Fr.app N Nq
        have eT := eh
        refine Go.by st ?_
        show Go p.tables e below (T.setTop (mkF m 240 #[.val (.int p0), .val (.int p1), .val (.long q2), .second, .val (.int (p0 &&& (7 : Int32))), .val (.double (FP.l2d q2)), .second, .val (.int (0 : Int32)), .unset] [(.int (own_isp (FP.l2d q2)))])) _
        refine Go.by (fun tt_ kk_ => XS.iload X.here hx rfl (hb hby at_240) rfl kk_) ?_
        show Go p.tables e below (T.setTop (mkF m 242 #[.val (.int p0), .val (.int p1), .val (.long q2), .second, .val (.int (p0 &&& (7 : Int32))), .val (.double (FP.l2d q2)), .second, .val (.int (0 : Int32)), .unset] [(.int (0 : Int32)), (.int (own_isp (FP.l2d q2)))])) _
        refine Go.by (fun tt_ kk_ => XS.icmpNo X.here hx rfl (hb hby at_242) rfl (teq hz).2 kk_) ?_
        show Go p.tables e below (T.setTop (mkF m 245 #[.val (.int p0), .val (.int p1), .val (.long q2), .second, .val (.int (p0 &&& (7 : Int32))), .val (.double (FP.l2d q2)), .second, .val (.int (0 : Int32)), .unset] [])) _
        refine Go.by (fun tt_ kk_ => XS.iconst X.here hx rfl (hb hby at_245) kk_) ?_
        show Go p.tables e below (T.setTop (mkF m 246 #[.val (.int p0), .val (.int p1), .val (.long q2), .second, .val (.int (p0 &&& (7 : Int32))), .val (.double (FP.l2d q2)), .second, .val (.int (0 : Int32)), .unset] [(.int (1 : Int32))])) _
        refine Go.by (fun tt_ kk_ => XS.goto X.here hx rfl (pc0 := 246) (pc' := 250) rfl (hb hby at_246) (by decide) (by decide) kk_) ?_
        show Go p.tables e below (T.setTop (mkF m 250 #[.val (.int p0), .val (.int p1), .val (.long q2), .second, .val (.int (p0 &&& (7 : Int32))), .val (.double (FP.l2d q2)), .second, .val (.int (0 : Int32)), .unset] [(.int (1 : Int32))])) _
        exact Go.done X  (v := some (.int (1 : Int32))) (fun h => by rw [Bd.returns] at h; cases h) Bd.notSynchronized (fun fs hr => retN X hx (z := (1 : Int32)) (t := .boolean) Bd.returns (by simp) (hb hby at_250) hr) (by rw [eT]; exact ⟨rfl, N⟩) (by decide) (by decide)
    · refine Go.by (fun tt_ kk_ => XS.icmpYes X.here hx rfl (pc0 := 32) (pc' := 55) rfl (hb hby at_32) rfl (feq hc32).2 (by decide) (by decide) kk_) ?_
      show Go p.tables e below (T.setTop (mkF m 55 #[.val (.int p0), .val (.int p1), .val (.long q2), .second, .val (.int (p0 &&& (7 : Int32))), .unset, .unset, .unset, .unset] [])) _
      refine Go.by (fun tt_ kk_ => XS.iload X.here hx rfl (hb hby at_55) rfl kk_) ?_
      show Go p.tables e below (T.setTop (mkF m 57 #[.val (.int p0), .val (.int p1), .val (.long q2), .second, .val (.int (p0 &&& (7 : Int32))), .unset, .unset, .unset, .unset] [(.int (p0 &&& (7 : Int32)))])) _
      refine Go.by (fun tt_ kk_ => XS.iconst X.here hx rfl (hb hby at_57) kk_) ?_
      show Go p.tables e below (T.setTop (mkF m 58 #[.val (.int p0), .val (.int p1), .val (.long q2), .second, .val (.int (p0 &&& (7 : Int32))), .unset, .unset, .unset, .unset] [(.int (2 : Int32)), (.int (p0 &&& (7 : Int32)))])) _
      by_cases hc58 : (p0 &&& (7 : Int32)) = (2 : Int32)
      · refine Go.by (fun tt_ kk_ => XS.icmpNo X.here hx rfl (hb hby at_58) rfl (teq hc58).2 kk_) ?_
        show Go p.tables e below (T.setTop (mkF m 61 #[.val (.int p0), .val (.int p1), .val (.long q2), .second, .val (.int (p0 &&& (7 : Int32))), .unset, .unset, .unset, .unset] [])) _
        refine Go.by (fun tt_ kk_ => XS.iloadN X.here hx rfl (hb hby at_61) rfl kk_) ?_
        show Go p.tables e below (T.setTop (mkF m 62 #[.val (.int p0), .val (.int p1), .val (.long q2), .second, .val (.int (p0 &&& (7 : Int32))), .unset, .unset, .unset, .unset] [(.int p1)])) _
        refine Go.by (fun tt_ kk_ => XS.i2dS X.here hx rfl (hb hby at_62) rfl rfl kk_) ?_
        show Go p.tables e below (T.setTop (mkF m 63 #[.val (.int p0), .val (.int p1), .val (.long q2), .second, .val (.int (p0 &&& (7 : Int32))), .unset, .unset, .unset, .unset] [(.double (FP.i2d p1))])) _
        refine Go.by (X.ldc2DoubleC hx hown (mvT hZ (hw _ (List.mem_of_getElem? (i := 10) rfl))) (g := (mkF m 63 #[.val (.int p0), .val (.int p1), .val (.long q2), .second, .val (.int (p0 &&& (7 : Int32))), .unset, .unset, .unset, .unset] [(.double (FP.i2d p1))])) rfl (hb hby at_63)) ?_
        show Go p.tables e below (T.setTop (mkF m 66 #[.val (.int p0), .val (.int p1), .val (.long q2), .second, .val (.int (p0 &&& (7 : Int32))), .unset, .unset, .unset, .unset] [(.double (4652218415073722368 : UInt64)), (.double (FP.i2d p1))])) _
        obtain ⟨y66, e_y66⟩ : ∃ z, z = FP.ddiv (FP.i2d p1) (4652218415073722368 : UInt64) := ⟨_, rfl⟩
        have d_y66 : Dy p1.toInt (-10) y66 := by rw [e_y66]; exact Dy.div (k := p1.toInt) (j := 1) (e := 0) (g := 10) (by rw [Int.mul_one]; exact Dy.i2d p1) own_1024 (by decide) (own_i32 p1) (by decide) (by decide)
        refine Go.by (fun tt_ kk_ => XS.ddivS X.here hx rfl (hb hby at_66) rfl (e_y66 ▸ d_y66.noNaN) e_y66.symm kk_) ?_
        show Go p.tables e below (T.setTop (mkF m 67 #[.val (.int p0), .val (.int p1), .val (.long q2), .second, .val (.int (p0 &&& (7 : Int32))), .unset, .unset, .unset, .unset] [(.double y66)])) _
        refine Go.by (fun tt_ kk_ => XS.dstore X.here hx rfl (hb hby at_67) rfl (l' := #[.val (.int p0), .val (.int p1), .val (.long q2), .second, .val (.int (p0 &&& (7 : Int32))), .val (.double y66), .second, .unset, .unset]) rfl kk_) ?_
        show Go p.tables e below (T.setTop (mkF m 69 #[.val (.int p0), .val (.int p1), .val (.long q2), .second, .val (.int (p0 &&& (7 : Int32))), .val (.double y66), .second, .unset, .unset] [])) _
        refine Go.by (fun tt_ kk_ => XS.iloadN X.here hx rfl (hb hby at_69) rfl kk_) ?_
        show Go p.tables e below (T.setTop (mkF m 70 #[.val (.int p0), .val (.int p1), .val (.long q2), .second, .val (.int (p0 &&& (7 : Int32))), .val (.double y66), .second, .unset, .unset] [(.int p1)])) _
        by_cases hc70 : (0 : Int32) < p1
        · refine Go.by (fun tt_ kk_ => XS.ifNo X.here hx rfl (hb hby at_70) rfl ((if0 _ _).trans (tlt hc70).2.2.2) kk_) ?_
          show Go p.tables e below (T.setTop (mkF m 73 #[.val (.int p0), .val (.int p1), .val (.long q2), .second, .val (.int (p0 &&& (7 : Int32))), .val (.double y66), .second, .unset, .unset] [])) _
          refine Go.by (fun tt_ kk_ => XS.iconst X.here hx rfl (hb hby at_73) kk_) ?_
          show Go p.tables e below (T.setTop (mkF m 74 #[.val (.int p0), .val (.int p1), .val (.long q2), .second, .val (.int (p0 &&& (7 : Int32))), .val (.double y66), .second, .unset, .unset] [(.int (1 : Int32))])) _
          refine Go.by (fun tt_ kk_ => XS.goto X.here hx rfl (pc0 := 74) (pc' := 78) rfl (hb hby at_74) (by decide) (by decide) kk_) ?_
          show Go p.tables e below (T.setTop (mkF m 78 #[.val (.int p0), .val (.int p1), .val (.long q2), .second, .val (.int (p0 &&& (7 : Int32))), .val (.double y66), .second, .unset, .unset] [(.int (1 : Int32))])) _
          refine Go.by (fun tt_ kk_ => XS.istore X.here hx rfl (hb hby at_78) rfl (l' := #[.val (.int p0), .val (.int p1), .val (.long q2), .second, .val (.int (p0 &&& (7 : Int32))), .val (.double y66), .second, .val (.int (1 : Int32)), .unset]) rfl kk_) ?_
          show Go p.tables e below (T.setTop (mkF m 80 #[.val (.int p0), .val (.int p1), .val (.long q2), .second, .val (.int (p0 &&& (7 : Int32))), .val (.double y66), .second, .val (.int (1 : Int32)), .unset] [])) _
          refine Go.by (fun tt_ kk_ => XS.goto X.here hx rfl (pc0 := 80) (pc' := 235) rfl (hb hby at_80) (by decide) (by decide) kk_) ?_
          show Go p.tables e below (T.setTop (mkF m 235 #[.val (.int p0), .val (.int p1), .val (.long q2), .second, .val (.int (p0 &&& (7 : Int32))), .val (.double y66), .second, .val (.int (1 : Int32)), .unset] [])) _
          refine Go.by (fun tt_ kk_ => XS.dload X.here hx rfl (hb hby at_235) rfl kk_) ?_
          show Go p.tables e below (T.setTop (mkF m 237 #[.val (.int p0), .val (.int p1), .val (.long q2), .second, .val (.int (p0 &&& (7 : Int32))), .val (.double y66), .second, .val (.int (1 : Int32)), .unset] [(.double y66)])) _
          have hz : own_isp y66 = (1 : Int32) := own_isp_pos d_y66 (own_p1 hc70)
          obtain ⟨_, _, ⟨T, L_, k_, n_⟩, -, X, ⟨Lc_, hQ, l_, y_, z_⟩, st⟩ := Jvm.LawKit.callS X hx (y := (⟨"com/example/rootward/rootward/online/Timer", "isPeriod", "(D)Z"⟩ : MethodName)) hown (mvT hZ (hw _ (List.mem_of_getElem? (i := 0) rfl))) (mvT hZ (hw _ (List.mem_of_getElem? (i := 1) rfl))) (mvT hZ (hw _ (List.mem_of_getElem? (i := 2) rfl))) (mvT hZ (hw _ (List.mem_of_getElem? (i := 3) rfl))) (by decide) (backOf (W := 0) (rm1 l Z a0 hw [] y66 h0 n0 (Nat.le_trans Z0 K.1) ) hZ (hw _ (List.mem_of_getElem? (i := 3) rfl)) (hw _ (List.mem_of_getElem? (i := 2) rfl)) (by decide) (by decide)) (g := (mkF m 237 #[.val (.int p0), .val (.int p1), .val (.long q2), .second, .val (.int (p0 &&& (7 : Int32))), .val (.double y66), .second, .val (.int (1 : Int32)), .unset] [(.double y66)])) rfl (by rw [hml]; rfl) (argsL := [(.double y66)]) (rest := []) (lenOf pd_0 rfl) rfl (by show 2 * 0 + _ ≤ _; exact Nat.le_of_eq rfl) (hb hby at_237) (fun _ _ => ⟨rfl, eT, (by decide : 0 + 0 ≤ _), (by decide : 0 + 0 ≤ _)⟩)
          dsimp only [Pt.U, Pt.locs, Pt.cells, Pt.slots] at X l_ y_ z_ st hQ
          subst l_ y_ z_
          obtain ⟨rfl, Nq, eh⟩ := hQ
          have N := Fr.app N Nq
          have eT := eh
          refine Go.by st ?_
          show Go p.tables e below (T.setTop (mkF m 240 #[.val (.int p0), .val (.int p1), .val (.long q2), .second, .val (.int (p0 &&& (7 : Int32))), .val (.double y66), .second, .val (.int (1 : Int32)), .unset] [(.int (own_isp y66))])) _
          refine Go.by (fun tt_ kk_ => XS.iload X.here hx rfl (hb hby at_240) rfl kk_) ?_
          show Go p.tables e below (T.setTop (mkF m 242 #[.val (.int p0), .val (.int p1), .val (.long q2), .second, .val (.int (p0 &&& (7 : Int32))), .val (.double y66), .second, .val (.int (1 : Int32)), .unset] [(.int (1 : Int32)), (.int (own_isp y66))])) _
          refine Go.by (fun tt_ kk_ => XS.icmpNo X.here hx rfl (hb hby at_242) rfl (teq hz).2 kk_) ?_
          show Go p.tables e below (T.setTop (mkF m 245 #[.val (.int p0), .val (.int p1), .val (.long q2), .second, .val (.int (p0 &&& (7 : Int32))), .val (.double y66), .second, .val (.int (1 : Int32)), .unset] [])) _
          refine Go.by (fun tt_ kk_ => XS.iconst X.here hx rfl (hb hby at_245) kk_) ?_
          show Go p.tables e below (T.setTop (mkF m 246 #[.val (.int p0), .val (.int p1), .val (.long q2), .second, .val (.int (p0 &&& (7 : Int32))), .val (.double y66), .second, .val (.int (1 : Int32)), .unset] [(.int (1 : Int32))])) _
          refine Go.by (fun tt_ kk_ => XS.goto X.here hx rfl (pc0 := 246) (pc' := 250) rfl (hb hby at_246) (by decide) (by decide) kk_) ?_
          show Go p.tables e below (T.setTop (mkF m 250 #[.val (.int p0), .val (.int p1), .val (.long q2), .second, .val (.int (p0 &&& (7 : Int32))), .val (.double y66), .second, .val (.int (1 : Int32)), .unset] [(.int (1 : Int32))])) _
          exact Go.done X  (v := some (.int (1 : Int32))) (fun h => by rw [Bd.returns] at h; cases h) Bd.notSynchronized (fun fs hr => retN X hx (z := (1 : Int32)) (t := .boolean) Bd.returns (by simp) (hb hby at_250) hr) (by rw [eT]; exact ⟨rfl, N⟩) (by decide) (by decide)
        · refine Go.by (fun tt_ kk_ => XS.ifYes X.here hx rfl (pc0 := 70) (pc' := 77) rfl (hb hby at_70) rfl ((if0 _ _).trans (flt hc70).2.2.2) (by decide) (by decide) kk_) ?_
          show Go p.tables e below (T.setTop (mkF m 77 #[.val (.int p0), .val (.int p1), .val (.long q2), .second, .val (.int (p0 &&& (7 : Int32))), .val (.double y66), .second, .unset, .unset] [])) _
          refine Go.by (fun tt_ kk_ => XS.iconst X.here hx rfl (hb hby at_77) kk_) ?_
          show Go p.tables e below (T.setTop (mkF m 78 #[.val (.int p0), .val (.int p1), .val (.long q2), .second, .val (.int (p0 &&& (7 : Int32))), .val (.double y66), .second, .unset, .unset] [(.int (0 : Int32))])) _
          refine Go.by (fun tt_ kk_ => XS.istore X.here hx rfl (hb hby at_78) rfl (l' := #[.val (.int p0), .val (.int p1), .val (.long q2), .second, .val (.int (p0 &&& (7 : Int32))), .val (.double y66), .second, .val (.int (0 : Int32)), .unset]) rfl kk_) ?_
          show Go p.tables e below (T.setTop (mkF m 80 #[.val (.int p0), .val (.int p1), .val (.long q2), .second, .val (.int (p0 &&& (7 : Int32))), .val (.double y66), .second, .val (.int (0 : Int32)), .unset] [])) _
          refine Go.by (fun tt_ kk_ => XS.goto X.here hx rfl (pc0 := 80) (pc' := 235) rfl (hb hby at_80) (by decide) (by decide) kk_) ?_
          show Go p.tables e below (T.setTop (mkF m 235 #[.val (.int p0), .val (.int p1), .val (.long q2), .second, .val (.int (p0 &&& (7 : Int32))), .val (.double y66), .second, .val (.int (0 : Int32)), .unset] [])) _
          refine Go.by (fun tt_ kk_ => XS.dload X.here hx rfl (hb hby at_235) rfl kk_) ?_
          show Go p.tables e below (T.setTop (mkF m 237 #[.val (.int p0), .val (.int p1), .val (.long q2), .second, .val (.int (p0 &&& (7 : Int32))), .val (.double y66), .second, .val (.int (0 : Int32)), .unset] [(.double y66)])) _
          have hz : own_isp y66 = (0 : Int32) := own_isp_neg d_y66 (own_n1 hc70)
          obtain ⟨_, _, ⟨T, L_, k_, n_⟩, -, X, ⟨Lc_, hQ, l_, y_, z_⟩, st⟩ := Jvm.LawKit.callS X hx (y := (⟨"com/example/rootward/rootward/online/Timer", "isPeriod", "(D)Z"⟩ : MethodName)) hown (mvT hZ (hw _ (List.mem_of_getElem? (i := 0) rfl))) (mvT hZ (hw _ (List.mem_of_getElem? (i := 1) rfl))) (mvT hZ (hw _ (List.mem_of_getElem? (i := 2) rfl))) (mvT hZ (hw _ (List.mem_of_getElem? (i := 3) rfl))) (by decide) (backOf (W := 0) (rm1 l Z a0 hw [] y66 h0 n0 (Nat.le_trans Z0 K.1) ) hZ (hw _ (List.mem_of_getElem? (i := 3) rfl)) (hw _ (List.mem_of_getElem? (i := 2) rfl)) (by decide) (by decide)) (g := (mkF m 237 #[.val (.int p0), .val (.int p1), .val (.long q2), .second, .val (.int (p0 &&& (7 : Int32))), .val (.double y66), .second, .val (.int (0 : Int32)), .unset] [(.double y66)])) rfl (by rw [hml]; rfl) (argsL := [(.double y66)]) (rest := []) (lenOf pd_0 rfl) rfl (by show 2 * 0 + _ ≤ _; exact Nat.le_of_eq rfl) (hb hby at_237) (fun _ _ => ⟨rfl, eT, (by decide : 0 + 0 ≤ _), (by decide : 0 + 0 ≤ _)⟩)
          dsimp only [Pt.U, Pt.locs, Pt.cells, Pt.slots] at X l_ y_ z_ st hQ
          subst l_ y_ z_
          obtain ⟨rfl, Nq, eh⟩ := hQ
          have N := Fr.app N Nq
          have eT := eh
          refine Go.by st ?_
          show Go p.tables e below (T.setTop (mkF m 240 #[.val (.int p0), .val (.int p1), .val (.long q2), .second, .val (.int (p0 &&& (7 : Int32))), .val (.double y66), .second, .val (.int (0 : Int32)), .unset] [(.int (own_isp y66))])) _
          refine Go.by (fun tt_ kk_ => XS.iload X.here hx rfl (hb hby at_240) rfl kk_) ?_
          show Go p.tables e below (T.setTop (mkF m 242 #[.val (.int p0), .val (.int p1), .val (.long q2), .second, .val (.int (p0 &&& (7 : Int32))), .val (.double y66), .second, .val (.int (0 : Int32)), .unset] [(.int (0 : Int32)), (.int (own_isp y66))])) _
          refine Go.by (fun tt_ kk_ => XS.icmpNo X.here hx rfl (hb hby at_242) rfl (teq hz).2 kk_) ?_
          show Go p.tables e below (T.setTop (mkF m 245 #[.val (.int p0), .val (.int p1), .val (.long q2), .second, .val (.int (p0 &&& (7 : Int32))), .val (.double y66), .second, .val (.int (0 : Int32)), .unset] [])) _
          refine Go.by (fun tt_ kk_ => XS.iconst X.here hx rfl (hb hby at_245) kk_) ?_
          show Go p.tables e below (T.setTop (mkF m 246 #[.val (.int p0), .val (.int p1), .val (.long q2), .second, .val (.int (p0 &&& (7 : Int32))), .val (.double y66), .second, .val (.int (0 : Int32)), .unset] [(.int (1 : Int32))])) _
          refine Go.by (fun tt_ kk_ => XS.goto X.here hx rfl (pc0 := 246) (pc' := 250) rfl (hb hby at_246) (by decide) (by decide) kk_) ?_
          show Go p.tables e below (T.setTop (mkF m 250 #[.val (.int p0), .val (.int p1), .val (.long q2), .second, .val (.int (p0 &&& (7 : Int32))), .val (.double y66), .second, .val (.int (0 : Int32)), .unset] [(.int (1 : Int32))])) _
          exact Go.done X  (v := some (.int (1 : Int32))) (fun h => by rw [Bd.returns] at h; cases h) Bd.notSynchronized (fun fs hr => retN X hx (z := (1 : Int32)) (t := .boolean) Bd.returns (by simp) (hb hby at_250) hr) (by rw [eT]; exact ⟨rfl, N⟩) (by decide) (by decide)
      · refine Go.by (fun tt_ kk_ => XS.icmpYes X.here hx rfl (pc0 := 58) (pc' := 83) rfl (hb hby at_58) rfl (feq hc58).2 (by decide) (by decide) kk_) ?_
        show Go p.tables e below (T.setTop (mkF m 83 #[.val (.int p0), .val (.int p1), .val (.long q2), .second, .val (.int (p0 &&& (7 : Int32))), .unset, .unset, .unset, .unset] [])) _
        refine Go.by (fun tt_ kk_ => XS.iload X.here hx rfl (hb hby at_83) rfl kk_) ?_
        show Go p.tables e below (T.setTop (mkF m 85 #[.val (.int p0), .val (.int p1), .val (.long q2), .second, .val (.int (p0 &&& (7 : Int32))), .unset, .unset, .unset, .unset] [(.int (p0 &&& (7 : Int32)))])) _
        refine Go.by (fun tt_ kk_ => XS.iconst X.here hx rfl (hb hby at_85) kk_) ?_
        show Go p.tables e below (T.setTop (mkF m 86 #[.val (.int p0), .val (.int p1), .val (.long q2), .second, .val (.int (p0 &&& (7 : Int32))), .unset, .unset, .unset, .unset] [(.int (3 : Int32)), (.int (p0 &&& (7 : Int32)))])) _
        by_cases hc86 : (p0 &&& (7 : Int32)) = (3 : Int32)
        · refine Go.by (fun tt_ kk_ => XS.icmpNo X.here hx rfl (hb hby at_86) rfl (teq hc86).2 kk_) ?_
          show Go p.tables e below (T.setTop (mkF m 89 #[.val (.int p0), .val (.int p1), .val (.long q2), .second, .val (.int (p0 &&& (7 : Int32))), .unset, .unset, .unset, .unset] [])) _
          refine Go.by (fun tt_ kk_ => XS.iloadN X.here hx rfl (hb hby at_89) rfl kk_) ?_
          show Go p.tables e below (T.setTop (mkF m 90 #[.val (.int p0), .val (.int p1), .val (.long q2), .second, .val (.int (p0 &&& (7 : Int32))), .unset, .unset, .unset, .unset] [(.int p1)])) _
          refine Go.by (fun tt_ kk_ => XS.i2dS X.here hx rfl (hb hby at_90) rfl rfl kk_) ?_
          show Go p.tables e below (T.setTop (mkF m 91 #[.val (.int p0), .val (.int p1), .val (.long q2), .second, .val (.int (p0 &&& (7 : Int32))), .unset, .unset, .unset, .unset] [(.double (FP.i2d p1))])) _
          refine Go.by (X.ldc2DoubleC hx hown (mvT hZ (hw _ (List.mem_of_getElem? (i := 9) rfl))) (g := (mkF m 91 #[.val (.int p0), .val (.int p1), .val (.long q2), .second, .val (.int (p0 &&& (7 : Int32))), .unset, .unset, .unset, .unset] [(.double (FP.i2d p1))])) rfl (hb hby at_91)) ?_
          show Go p.tables e below (T.setTop (mkF m 94 #[.val (.int p0), .val (.int p1), .val (.long q2), .second, .val (.int (p0 &&& (7 : Int32))), .unset, .unset, .unset, .unset] [(.double (1 : UInt64)), (.double (FP.i2d p1))])) _
          obtain ⟨y94, e_y94⟩ : ∃ z, z = FP.dmul (FP.i2d p1) (1 : UInt64) := ⟨_, rfl⟩
          have d_y94 : Dy p1.toInt (-1074) y94 := by rw [e_y94]; exact ((Dy.i2d p1).mul own_least (by rw [Int.mul_one]; exact own_i32 p1) (by decide) (by decide)).cast (Int.mul_one _) (by decide)
          refine Go.by (fun tt_ kk_ => XS.dmulS X.here hx rfl (hb hby at_94) rfl (e_y94 ▸ d_y94.noNaN) e_y94.symm kk_) ?_
          show Go p.tables e below (T.setTop (mkF m 95 #[.val (.int p0), .val (.int p1), .val (.long q2), .second, .val (.int (p0 &&& (7 : Int32))), .unset, .unset, .unset, .unset] [(.double y94)])) _
          refine Go.by (fun tt_ kk_ => XS.dstore X.here hx rfl (hb hby at_95) rfl (l' := #[.val (.int p0), .val (.int p1), .val (.long q2), .second, .val (.int (p0 &&& (7 : Int32))), .val (.double y94), .second, .unset, .unset]) rfl kk_) ?_
          show Go p.tables e below (T.setTop (mkF m 97 #[.val (.int p0), .val (.int p1), .val (.long q2), .second, .val (.int (p0 &&& (7 : Int32))), .val (.double y94), .second, .unset, .unset] [])) _
          refine Go.by (fun tt_ kk_ => XS.iloadN X.here hx rfl (hb hby at_97) rfl kk_) ?_
          show Go p.tables e below (T.setTop (mkF m 98 #[.val (.int p0), .val (.int p1), .val (.long q2), .second, .val (.int (p0 &&& (7 : Int32))), .val (.double y94), .second, .unset, .unset] [(.int p1)])) _
          by_cases hc98 : (0 : Int32) < p1
          · refine Go.by (fun tt_ kk_ => XS.ifNo X.here hx rfl (hb hby at_98) rfl ((if0 _ _).trans (tlt hc98).2.2.2) kk_) ?_
            show Go p.tables e below (T.setTop (mkF m 101 #[.val (.int p0), .val (.int p1), .val (.long q2), .second, .val (.int (p0 &&& (7 : Int32))), .val (.double y94), .second, .unset, .unset] [])) _
            refine Go.by (fun tt_ kk_ => XS.iconst X.here hx rfl (hb hby at_101) kk_) ?_
            show Go p.tables e below (T.setTop (mkF m 102 #[.val (.int p0), .val (.int p1), .val (.long q2), .second, .val (.int (p0 &&& (7 : Int32))), .val (.double y94), .second, .unset, .unset] [(.int (1 : Int32))])) _
            refine Go.by (fun tt_ kk_ => XS.goto X.here hx rfl (pc0 := 102) (pc' := 106) rfl (hb hby at_102) (by decide) (by decide) kk_) ?_
            show Go p.tables e below (T.setTop (mkF m 106 #[.val (.int p0), .val (.int p1), .val (.long q2), .second, .val (.int (p0 &&& (7 : Int32))), .val (.double y94), .second, .unset, .unset] [(.int (1 : Int32))])) _
            refine Go.by (fun tt_ kk_ => XS.istore X.here hx rfl (hb hby at_106) rfl (l' := #[.val (.int p0), .val (.int p1), .val (.long q2), .second, .val (.int (p0 &&& (7 : Int32))), .val (.double y94), .second, .val (.int (1 : Int32)), .unset]) rfl kk_) ?_
            show Go p.tables e below (T.setTop (mkF m 108 #[.val (.int p0), .val (.int p1), .val (.long q2), .second, .val (.int (p0 &&& (7 : Int32))), .val (.double y94), .second, .val (.int (1 : Int32)), .unset] [])) _
            refine Go.by (fun tt_ kk_ => XS.goto X.here hx rfl (pc0 := 108) (pc' := 235) rfl (hb hby at_108) (by decide) (by decide) kk_) ?_
            show Go p.tables e below (T.setTop (mkF m 235 #[.val (.int p0), .val (.int p1), .val (.long q2), .second, .val (.int (p0 &&& (7 : Int32))), .val (.double y94), .second, .val (.int (1 : Int32)), .unset] [])) _
            refine Go.by (fun tt_ kk_ => XS.dload X.here hx rfl (hb hby at_235) rfl kk_) ?_
            show Go p.tables e below (T.setTop (mkF m 237 #[.val (.int p0), .val (.int p1), .val (.long q2), .second, .val (.int (p0 &&& (7 : Int32))), .val (.double y94), .second, .val (.int (1 : Int32)), .unset] [(.double y94)])) _
            have hz : own_isp y94 = (1 : Int32) := own_isp_pos d_y94 (own_p1 hc98)
            obtain ⟨_, _, ⟨T, L_, k_, n_⟩, -, X, ⟨Lc_, hQ, l_, y_, z_⟩, st⟩ := Jvm.LawKit.callS X hx (y := (⟨"com/example/rootward/rootward/online/Timer", "isPeriod", "(D)Z"⟩ : MethodName)) hown (mvT hZ (hw _ (List.mem_of_getElem? (i := 0) rfl))) (mvT hZ (hw _ (List.mem_of_getElem? (i := 1) rfl))) (mvT hZ (hw _ (List.mem_of_getElem? (i := 2) rfl))) (mvT hZ (hw _ (List.mem_of_getElem? (i := 3) rfl))) (by decide) (backOf (W := 0) (rm1 l Z a0 hw [] y94 h0 n0 (Nat.le_trans Z0 K.1) ) hZ (hw _ (List.mem_of_getElem? (i := 3) rfl)) (hw _ (List.mem_of_getElem? (i := 2) rfl)) (by decide) (by decide)) (g := (mkF m 237 #[.val (.int p0), .val (.int p1), .val (.long q2), .second, .val (.int (p0 &&& (7 : Int32))), .val (.double y94), .second, .val (.int (1 : Int32)), .unset] [(.double y94)])) rfl (by rw [hml]; rfl) (argsL := [(.double y94)]) (rest := []) (lenOf pd_0 rfl) rfl (by show 2 * 0 + _ ≤ _; exact Nat.le_of_eq rfl) (hb hby at_237) (fun _ _ => ⟨rfl, eT, (by decide : 0 + 0 ≤ _), (by decide : 0 + 0 ≤ _)⟩)
            dsimp only [Pt.U, Pt.locs, Pt.cells, Pt.slots] at X l_ y_ z_ st hQ
            subst l_ y_ z_
            obtain ⟨rfl, Nq, eh⟩ := hQ
            have N := Fr.app N Nq
            have eT := eh
            refine Go.by st ?_
            show Go p.tables e below (T.setTop (mkF m 240 #[.val (.int p0), .val (.int p1), .val (.long q2), .second, .val (.int (p0 &&& (7 : Int32))), .val (.double y94), .second, .val (.int (1 : Int32)), .unset] [(.int (own_isp y94))])) _
            refine Go.by (fun tt_ kk_ => XS.iload X.here hx rfl (hb hby at_240) rfl kk_) ?_
            show Go p.tables e below (T.setTop (mkF m 242 #[.val (.int p0), .val (.int p1), .val (.long q2), .second, .val (.int (p0 &&& (7 : Int32))), .val (.double y94), .second, .val (.int (1 : Int32)), .unset] [(.int (1 : Int32)), (.int (own_isp y94))])) _
            refine Go.by (fun tt_ kk_ => XS.icmpNo X.here hx rfl (hb hby at_242) rfl (teq hz).2 kk_) ?_
            show Go p.tables e below (T.setTop (mkF m 245 #[.val (.int p0), .val (.int p1), .val (.long q2), .second, .val (.int (p0 &&& (7 : Int32))), .val (.double y94), .second, .val (.int (1 : Int32)), .unset] [])) _
            refine Go.by (fun tt_ kk_ => XS.iconst X.here hx rfl (hb hby at_245) kk_) ?_
            show Go p.tables e below (T.setTop (mkF m 246 #[.val (.int p0), .val (.int p1), .val (.long q2), .second, .val (.int (p0 &&& (7 : Int32))), .val (.double y94), .second, .val (.int (1 : Int32)), .unset] [(.int (1 : Int32))])) _
            refine Go.by (fun tt_ kk_ => XS.goto X.here hx rfl (pc0 := 246) (pc' := 250) rfl (hb hby at_246) (by decide) (by decide) kk_) ?_
            show Go p.tables e below (T.setTop (mkF m 250 #[.val (.int p0), .val (.int p1), .val (.long q2), .second, .val (.int (p0 &&& (7 : Int32))), .val (.double y94), .second, .val (.int (1 : Int32)), .unset] [(.int (1 : Int32))])) _
            exact Go.done X  (v := some (.int (1 : Int32))) (fun h => by rw [Bd.returns] at h; cases h) Bd.notSynchronized (fun fs hr => retN X hx (z := (1 : Int32)) (t := .boolean) Bd.returns (by simp) (hb hby at_250) hr) (by rw [eT]; exact ⟨rfl, N⟩) (by decide) (by decide)
          · refine Go.by (fun tt_ kk_ => XS.ifYes X.here hx rfl (pc0 := 98) (pc' := 105) rfl (hb hby at_98) rfl ((if0 _ _).trans (flt hc98).2.2.2) (by decide) (by decide) kk_) ?_
            show Go p.tables e below (T.setTop (mkF m 105 #[.val (.int p0), .val (.int p1), .val (.long q2), .second, .val (.int (p0 &&& (7 : Int32))), .val (.double y94), .second, .unset, .unset] [])) _
            refine Go.by (fun tt_ kk_ => XS.iconst X.here hx rfl (hb hby at_105) kk_) ?_
            show Go p.tables e below (T.setTop (mkF m 106 #[.val (.int p0), .val (.int p1), .val (.long q2), .second, .val (.int (p0 &&& (7 : Int32))), .val (.double y94), .second, .unset, .unset] [(.int (0 : Int32))])) _
            refine Go.by (fun tt_ kk_ => XS.istore X.here hx rfl (hb hby at_106) rfl (l' := #[.val (.int p0), .val (.int p1), .val (.long q2), .second, .val (.int (p0 &&& (7 : Int32))), .val (.double y94), .second, .val (.int (0 : Int32)), .unset]) rfl kk_) ?_
            show Go p.tables e below (T.setTop (mkF m 108 #[.val (.int p0), .val (.int p1), .val (.long q2), .second, .val (.int (p0 &&& (7 : Int32))), .val (.double y94), .second, .val (.int (0 : Int32)), .unset] [])) _
            refine Go.by (fun tt_ kk_ => XS.goto X.here hx rfl (pc0 := 108) (pc' := 235) rfl (hb hby at_108) (by decide) (by decide) kk_) ?_
            show Go p.tables e below (T.setTop (mkF m 235 #[.val (.int p0), .val (.int p1), .val (.long q2), .second, .val (.int (p0 &&& (7 : Int32))), .val (.double y94), .second, .val (.int (0 : Int32)), .unset] [])) _
            refine Go.by (fun tt_ kk_ => XS.dload X.here hx rfl (hb hby at_235) rfl kk_) ?_
            show Go p.tables e below (T.setTop (mkF m 237 #[.val (.int p0), .val (.int p1), .val (.long q2), .second, .val (.int (p0 &&& (7 : Int32))), .val (.double y94), .second, .val (.int (0 : Int32)), .unset] [(.double y94)])) _
            have hz : own_isp y94 = (0 : Int32) := own_isp_neg d_y94 (own_n1 hc98)
            obtain ⟨_, _, ⟨T, L_, k_, n_⟩, -, X, ⟨Lc_, hQ, l_, y_, z_⟩, st⟩ := Jvm.LawKit.callS X hx (y := (⟨"com/example/rootward/rootward/online/Timer", "isPeriod", "(D)Z"⟩ : MethodName)) hown (mvT hZ (hw _ (List.mem_of_getElem? (i := 0) rfl))) (mvT hZ (hw _ (List.mem_of_getElem? (i := 1) rfl))) (mvT hZ (hw _ (List.mem_of_getElem? (i := 2) rfl))) (mvT hZ (hw _ (List.mem_of_getElem? (i := 3) rfl))) (by decide) (backOf (W := 0) (rm1 l Z a0 hw [] y94 h0 n0 (Nat.le_trans Z0 K.1) ) hZ (hw _ (List.mem_of_getElem? (i := 3) rfl)) (hw _ (List.mem_of_getElem? (i := 2) rfl)) (by decide) (by decide)) (g := (mkF m 237 #[.val (.int p0), .val (.int p1), .val (.long q2), .second, .val (.int (p0 &&& (7 : Int32))), .val (.double y94), .second, .val (.int (0 : Int32)), .unset] [(.double y94)])) rfl (by rw [hml]; rfl) (argsL := [(.double y94)]) (rest := []) (lenOf pd_0 rfl) rfl (by show 2 * 0 + _ ≤ _; exact Nat.le_of_eq rfl) (hb hby at_237) (fun _ _ => ⟨rfl, eT, (by decide : 0 + 0 ≤ _), (by decide : 0 + 0 ≤ _)⟩)
            dsimp only [Pt.U, Pt.locs, Pt.cells, Pt.slots] at X l_ y_ z_ st hQ
            subst l_ y_ z_
            obtain ⟨rfl, Nq, eh⟩ := hQ
            have N := Fr.app N Nq
            have eT := eh
            refine Go.by st ?_
            show Go p.tables e below (T.setTop (mkF m 240 #[.val (.int p0), .val (.int p1), .val (.long q2), .second, .val (.int (p0 &&& (7 : Int32))), .val (.double y94), .second, .val (.int (0 : Int32)), .unset] [(.int (own_isp y94))])) _
            refine Go.by (fun tt_ kk_ => XS.iload X.here hx rfl (hb hby at_240) rfl kk_) ?_
            show Go p.tables e below (T.setTop (mkF m 242 #[.val (.int p0), .val (.int p1), .val (.long q2), .second, .val (.int (p0 &&& (7 : Int32))), .val (.double y94), .second, .val (.int (0 : Int32)), .unset] [(.int (0 : Int32)), (.int (own_isp y94))])) _
            refine Go.by (fun tt_ kk_ => XS.icmpNo X.here hx rfl (hb hby at_242) rfl (teq hz).2 kk_) ?_
            show Go p.tables e below (T.setTop (mkF m 245 #[.val (.int p0), .val (.int p1), .val (.long q2), .second, .val (.int (p0 &&& (7 : Int32))), .val (.double y94), .second, .val (.int (0 : Int32)), .unset] [])) _
            refine Go.by (fun tt_ kk_ => XS.iconst X.here hx rfl (hb hby at_245) kk_) ?_
            show Go p.tables e below (T.setTop (mkF m 246 #[.val (.int p0), .val (.int p1), .val (.long q2), .second, .val (.int (p0 &&& (7 : Int32))), .val (.double y94), .second, .val (.int (0 : Int32)), .unset] [(.int (1 : Int32))])) _
            refine Go.by (fun tt_ kk_ => XS.goto X.here hx rfl (pc0 := 246) (pc' := 250) rfl (hb hby at_246) (by decide) (by decide) kk_) ?_
            show Go p.tables e below (T.setTop (mkF m 250 #[.val (.int p0), .val (.int p1), .val (.long q2), .second, .val (.int (p0 &&& (7 : Int32))), .val (.double y94), .second, .val (.int (0 : Int32)), .unset] [(.int (1 : Int32))])) _
            exact Go.done X  (v := some (.int (1 : Int32))) (fun h => by rw [Bd.returns] at h; cases h) Bd.notSynchronized (fun fs hr => retN X hx (z := (1 : Int32)) (t := .boolean) Bd.returns (by simp) (hb hby at_250) hr) (by rw [eT]; exact ⟨rfl, N⟩) (by decide) (by decide)
        · refine Go.by (fun tt_ kk_ => XS.icmpYes X.here hx rfl (pc0 := 86) (pc' := 111) rfl (hb hby at_86) rfl (feq hc86).2 (by decide) (by decide) kk_) ?_
          show Go p.tables e below (T.setTop (mkF m 111 #[.val (.int p0), .val (.int p1), .val (.long q2), .second, .val (.int (p0 &&& (7 : Int32))), .unset, .unset, .unset, .unset] [])) _
          refine Go.by (fun tt_ kk_ => XS.iload X.here hx rfl (hb hby at_111) rfl kk_) ?_
          show Go p.tables e below (T.setTop (mkF m 113 #[.val (.int p0), .val (.int p1), .val (.long q2), .second, .val (.int (p0 &&& (7 : Int32))), .unset, .unset, .unset, .unset] [(.int (p0 &&& (7 : Int32)))])) _
          refine Go.by (fun tt_ kk_ => XS.iconst X.here hx rfl (hb hby at_113) kk_) ?_
          show Go p.tables e below (T.setTop (mkF m 114 #[.val (.int p0), .val (.int p1), .val (.long q2), .second, .val (.int (p0 &&& (7 : Int32))), .unset, .unset, .unset, .unset] [(.int (4 : Int32)), (.int (p0 &&& (7 : Int32)))])) _
          by_cases hc114 : (p0 &&& (7 : Int32)) = (4 : Int32)
          · refine Go.by (fun tt_ kk_ => XS.icmpNo X.here hx rfl (hb hby at_114) rfl (teq hc114).2 kk_) ?_
            show Go p.tables e below (T.setTop (mkF m 117 #[.val (.int p0), .val (.int p1), .val (.long q2), .second, .val (.int (p0 &&& (7 : Int32))), .unset, .unset, .unset, .unset] [])) _
            refine Go.by (fun tt_ kk_ => XS.iloadN X.here hx rfl (hb hby at_117) rfl kk_) ?_
            show Go p.tables e below (T.setTop (mkF m 118 #[.val (.int p0), .val (.int p1), .val (.long q2), .second, .val (.int (p0 &&& (7 : Int32))), .unset, .unset, .unset, .unset] [(.int p1)])) _
            refine Go.by (fun tt_ kk_ => XS.i2dS X.here hx rfl (hb hby at_118) rfl rfl kk_) ?_
            show Go p.tables e below (T.setTop (mkF m 119 #[.val (.int p0), .val (.int p1), .val (.long q2), .second, .val (.int (p0 &&& (7 : Int32))), .unset, .unset, .unset, .unset] [(.double (FP.i2d p1))])) _
            refine Go.by (X.ldc2DoubleC hx hown (mvT hZ (hw _ (List.mem_of_getElem? (i := 5) rfl))) (g := (mkF m 119 #[.val (.int p0), .val (.int p1), .val (.long q2), .second, .val (.int (p0 &&& (7 : Int32))), .unset, .unset, .unset, .unset] [(.double (FP.i2d p1))])) rfl (hb hby at_119)) ?_
            show Go p.tables e below (T.setTop (mkF m 122 #[.val (.int p0), .val (.int p1), .val (.long q2), .second, .val (.int (p0 &&& (7 : Int32))), .unset, .unset, .unset, .unset] [(.double (8945421882333202015 : UInt64)), (.double (FP.i2d p1))])) _
            refine Go.by (fun tt_ kk_ => XS.dmulS X.here hx rfl (hb hby at_122) rfl (own_big_nn p1) rfl kk_) ?_
            show Go p.tables e below (T.setTop (mkF m 123 #[.val (.int p0), .val (.int p1), .val (.long q2), .second, .val (.int (p0 &&& (7 : Int32))), .unset, .unset, .unset, .unset] [(.double (FP.dmul (FP.i2d p1) (8945421882333202015 : UInt64)))])) _
            refine Go.by (fun tt_ kk_ => XS.dstore X.here hx rfl (hb hby at_123) rfl (l' := #[.val (.int p0), .val (.int p1), .val (.long q2), .second, .val (.int (p0 &&& (7 : Int32))), .val (.double (FP.dmul (FP.i2d p1) (8945421882333202015 : UInt64))), .second, .unset, .unset]) rfl kk_) ?_
            show Go p.tables e below (T.setTop (mkF m 125 #[.val (.int p0), .val (.int p1), .val (.long q2), .second, .val (.int (p0 &&& (7 : Int32))), .val (.double (FP.dmul (FP.i2d p1) (8945421882333202015 : UInt64))), .second, .unset, .unset] [])) _
            refine Go.by (fun tt_ kk_ => XS.iloadN X.here hx rfl (hb hby at_125) rfl kk_) ?_
            show Go p.tables e below (T.setTop (mkF m 126 #[.val (.int p0), .val (.int p1), .val (.long q2), .second, .val (.int (p0 &&& (7 : Int32))), .val (.double (FP.dmul (FP.i2d p1) (8945421882333202015 : UInt64))), .second, .unset, .unset] [(.int p1)])) _
            by_cases hc126 : (0 : Int32) < p1
            · refine Go.by (fun tt_ kk_ => XS.ifNo X.here hx rfl (hb hby at_126) rfl ((if0 _ _).trans (tlt hc126).2.2.2) kk_) ?_
              show Go p.tables e below (T.setTop (mkF m 129 #[.val (.int p0), .val (.int p1), .val (.long q2), .second, .val (.int (p0 &&& (7 : Int32))), .val (.double (FP.dmul (FP.i2d p1) (8945421882333202015 : UInt64))), .second, .unset, .unset] [])) _
              refine Go.by (fun tt_ kk_ => XS.iconst X.here hx rfl (hb hby at_129) kk_) ?_
              show Go p.tables e below (T.setTop (mkF m 130 #[.val (.int p0), .val (.int p1), .val (.long q2), .second, .val (.int (p0 &&& (7 : Int32))), .val (.double (FP.dmul (FP.i2d p1) (8945421882333202015 : UInt64))), .second, .unset, .unset] [(.int (1 : Int32))])) _
              refine Go.by (fun tt_ kk_ => XS.goto X.here hx rfl (pc0 := 130) (pc' := 134) rfl (hb hby at_130) (by decide) (by decide) kk_) ?_
              show Go p.tables e below (T.setTop (mkF m 134 #[.val (.int p0), .val (.int p1), .val (.long q2), .second, .val (.int (p0 &&& (7 : Int32))), .val (.double (FP.dmul (FP.i2d p1) (8945421882333202015 : UInt64))), .second, .unset, .unset] [(.int (1 : Int32))])) _
              refine Go.by (fun tt_ kk_ => XS.istore X.here hx rfl (hb hby at_134) rfl (l' := #[.val (.int p0), .val (.int p1), .val (.long q2), .second, .val (.int (p0 &&& (7 : Int32))), .val (.double (FP.dmul (FP.i2d p1) (8945421882333202015 : UInt64))), .second, .val (.int (1 : Int32)), .unset]) rfl kk_) ?_
              show Go p.tables e below (T.setTop (mkF m 136 #[.val (.int p0), .val (.int p1), .val (.long q2), .second, .val (.int (p0 &&& (7 : Int32))), .val (.double (FP.dmul (FP.i2d p1) (8945421882333202015 : UInt64))), .second, .val (.int (1 : Int32)), .unset] [])) _
              refine Go.by (fun tt_ kk_ => XS.goto X.here hx rfl (pc0 := 136) (pc' := 235) rfl (hb hby at_136) (by decide) (by decide) kk_) ?_
              show Go p.tables e below (T.setTop (mkF m 235 #[.val (.int p0), .val (.int p1), .val (.long q2), .second, .val (.int (p0 &&& (7 : Int32))), .val (.double (FP.dmul (FP.i2d p1) (8945421882333202015 : UInt64))), .second, .val (.int (1 : Int32)), .unset] [])) _
              refine Go.by (fun tt_ kk_ => XS.dload X.here hx rfl (hb hby at_235) rfl kk_) ?_
              show Go p.tables e below (T.setTop (mkF m 237 #[.val (.int p0), .val (.int p1), .val (.long q2), .second, .val (.int (p0 &&& (7 : Int32))), .val (.double (FP.dmul (FP.i2d p1) (8945421882333202015 : UInt64))), .second, .val (.int (1 : Int32)), .unset] [(.double (FP.dmul (FP.i2d p1) (8945421882333202015 : UInt64)))])) _
              have hz : own_isp (FP.dmul (FP.i2d p1) (8945421882333202015 : UInt64)) = (1 : Int32) := own_isp_bigpos hc126
              obtain ⟨_, _, ⟨T, L_, k_, n_⟩, -, X, ⟨Lc_, hQ, l_, y_, z_⟩, st⟩ := Jvm.LawKit.callS X hx (y := (⟨"com/example/rootward/rootward/online/Timer", "isPeriod", "(D)Z"⟩ : MethodName)) hown (mvT hZ (hw _ (List.mem_of_getElem? (i := 0) rfl))) (mvT hZ (hw _ (List.mem_of_getElem? (i := 1) rfl))) (mvT hZ (hw _ (List.mem_of_getElem? (i := 2) rfl))) (mvT hZ (hw _ (List.mem_of_getElem? (i := 3) rfl))) (by decide) (backOf (W := 0) (rm1 l Z a0 hw [] (FP.dmul (FP.i2d p1) (8945421882333202015 : UInt64)) h0 n0 (Nat.le_trans Z0 K.1) ) hZ (hw _ (List.mem_of_getElem? (i := 3) rfl)) (hw _ (List.mem_of_getElem? (i := 2) rfl)) (by decide) (by decide)) (g := (mkF m 237 #[.val (.int p0), .val (.int p1), .val (.long q2), .second, .val (.int (p0 &&& (7 : Int32))), .val (.double (FP.dmul (FP.i2d p1) (8945421882333202015 : UInt64))), .second, .val (.int (1 : Int32)), .unset] [(.double (FP.dmul (FP.i2d p1) (8945421882333202015 : UInt64)))])) rfl (by rw [hml]; rfl) (argsL := [(.double (FP.dmul (FP.i2d p1) (8945421882333202015 : UInt64)))]) (rest := []) (lenOf pd_0 rfl) rfl (by show 2 * 0 + _ ≤ _; exact Nat.le_of_eq rfl) (hb hby at_237) (fun _ _ => ⟨rfl, eT, (by decide : 0 + 0 ≤ _), (by decide : 0 + 0 ≤ _)⟩)
              dsimp only [Pt.U, Pt.locs, Pt.cells, Pt.slots] at X l_ y_ z_ st hQ
              subst l_ y_ z_
              obtain ⟨rfl, Nq, eh⟩ := hQ
              have N := Fr.app N Nq
              have eT := eh
              refine Go.by st ?_
              show Go p.tables e below (T.setTop (mkF m 240 #[.val (.int p0), .val (.int p1), .val (.long q2), .second, .val (.int (p0 &&& (7 : Int32))), .val (.double (FP.dmul (FP.i2d p1) (8945421882333202015 : UInt64))), .second, .val (.int (1 : Int32)), .unset] [(.int (own_isp (FP.dmul (FP.i2d p1) (8945421882333202015 : UInt64))))])) _
              refine Go.by (fun tt_ kk_ => XS.iload X.here hx rfl (hb hby at_240) rfl kk_) ?_
              show Go p.tables e below (T.setTop (mkF m 242 #[.val (.int p0), .val (.int p1), .val (.long q2), .second, .val (.int (p0 &&& (7 : Int32))), .val (.double (FP.dmul (FP.i2d p1) (8945421882333202015 : UInt64))), .second, .val (.int (1 : Int32)), .unset] [(.int (1 : Int32)), (.int (own_isp (FP.dmul (FP.i2d p1) (8945421882333202015 : UInt64))))])) _
              refine Go.by (fun tt_ kk_ => XS.icmpNo X.here hx rfl (hb hby at_242) rfl (teq hz).2 kk_) ?_
              show Go p.tables e below (T.setTop (mkF m 245 #[.val (.int p0), .val (.int p1), .val (.long q2), .second, .val (.int (p0 &&& (7 : Int32))), .val (.double (FP.dmul (FP.i2d p1) (8945421882333202015 : UInt64))), .second, .val (.int (1 : Int32)), .unset] [])) _
              refine Go.by (fun tt_ kk_ => XS.iconst X.here hx rfl (hb hby at_245) kk_) ?_
              show Go p.tables e below (T.setTop (mkF m 246 #[.val (.int p0), .val (.int p1), .val (.long q2), .second, .val (.int (p0 &&& (7 : Int32))), .val (.double (FP.dmul (FP.i2d p1) (8945421882333202015 : UInt64))), .second, .val (.int (1 : Int32)), .unset] [(.int (1 : Int32))])) _
              refine Go.by (fun tt_ kk_ => XS.goto X.here hx rfl (pc0 := 246) (pc' := 250) rfl (hb hby at_246) (by decide) (by decide) kk_) ?_
              show Go p.tables e below (T.setTop (mkF m 250 #[.val (.int p0), .val (.int p1), .val (.long q2), .second, .val (.int (p0 &&& (7 : Int32))), .val (.double (FP.dmul (FP.i2d p1) (8945421882333202015 : UInt64))), .second, .val (.int (1 : Int32)), .unset] [(.int (1 : Int32))])) _
              exact Go.done X  (v := some (.int (1 : Int32))) (fun h => by rw [Bd.returns] at h; cases h) Bd.notSynchronized (fun fs hr => retN X hx (z := (1 : Int32)) (t := .boolean) Bd.returns (by simp) (hb hby at_250) hr) (by rw [eT]; exact ⟨rfl, N⟩) (by decide) (by decide)
            · refine Go.by (fun tt_ kk_ => XS.ifYes X.here hx rfl (pc0 := 126) (pc' := 133) rfl (hb hby at_126) rfl ((if0 _ _).trans (flt hc126).2.2.2) (by decide) (by decide) kk_) ?_
              show Go p.tables e below (T.setTop (mkF m 133 #[.val (.int p0), .val (.int p1), .val (.long q2), .second, .val (.int (p0 &&& (7 : Int32))), .val (.double (FP.dmul (FP.i2d p1) (8945421882333202015 : UInt64))), .second, .unset, .unset] [])) _
              refine Go.by (fun tt_ kk_ => XS.iconst X.here hx rfl (hb hby at_133) kk_) ?_
              show Go p.tables e below (T.setTop (mkF m 134 #[.val (.int p0), .val (.int p1), .val (.long q2), .second, .val (.int (p0 &&& (7 : Int32))), .val (.double (FP.dmul (FP.i2d p1) (8945421882333202015 : UInt64))), .second, .unset, .unset] [(.int (0 : Int32))])) _
              refine Go.by (fun tt_ kk_ => XS.istore X.here hx rfl (hb hby at_134) rfl (l' := #[.val (.int p0), .val (.int p1), .val (.long q2), .second, .val (.int (p0 &&& (7 : Int32))), .val (.double (FP.dmul (FP.i2d p1) (8945421882333202015 : UInt64))), .second, .val (.int (0 : Int32)), .unset]) rfl kk_) ?_
              show Go p.tables e below (T.setTop (mkF m 136 #[.val (.int p0), .val (.int p1), .val (.long q2), .second, .val (.int (p0 &&& (7 : Int32))), .val (.double (FP.dmul (FP.i2d p1) (8945421882333202015 : UInt64))), .second, .val (.int (0 : Int32)), .unset] [])) _
              refine Go.by (fun tt_ kk_ => XS.goto X.here hx rfl (pc0 := 136) (pc' := 235) rfl (hb hby at_136) (by decide) (by decide) kk_) ?_
              show Go p.tables e below (T.setTop (mkF m 235 #[.val (.int p0), .val (.int p1), .val (.long q2), .second, .val (.int (p0 &&& (7 : Int32))), .val (.double (FP.dmul (FP.i2d p1) (8945421882333202015 : UInt64))), .second, .val (.int (0 : Int32)), .unset] [])) _
              refine Go.by (fun tt_ kk_ => XS.dload X.here hx rfl (hb hby at_235) rfl kk_) ?_
              show Go p.tables e below (T.setTop (mkF m 237 #[.val (.int p0), .val (.int p1), .val (.long q2), .second, .val (.int (p0 &&& (7 : Int32))), .val (.double (FP.dmul (FP.i2d p1) (8945421882333202015 : UInt64))), .second, .val (.int (0 : Int32)), .unset] [(.double (FP.dmul (FP.i2d p1) (8945421882333202015 : UInt64)))])) _
              have hz : own_isp (FP.dmul (FP.i2d p1) (8945421882333202015 : UInt64)) = (0 : Int32) := own_isp_bigneg hc126
              obtain ⟨_, _, ⟨T, L_, k_, n_⟩, -, X, ⟨Lc_, hQ, l_, y_, z_⟩, st⟩ := Jvm.LawKit.callS X hx (y := (⟨"com/example/rootward/rootward/online/Timer", "isPeriod", "(D)Z"⟩ : MethodName)) hown (mvT hZ (hw _ (List.mem_of_getElem? (i := 0) rfl))) (mvT hZ (hw _ (List.mem_of_getElem? (i := 1) rfl))) (mvT hZ (hw _ (List.mem_of_getElem? (i := 2) rfl))) (mvT hZ (hw _ (List.mem_of_getElem? (i := 3) rfl))) (by decide) (backOf (W := 0) (rm1 l Z a0 hw [] (FP.dmul (FP.i2d p1) (8945421882333202015 : UInt64)) h0 n0 (Nat.le_trans Z0 K.1) ) hZ (hw _ (List.mem_of_getElem? (i := 3) rfl)) (hw _ (List.mem_of_getElem? (i := 2) rfl)) (by decide) (by decide)) (g := (mkF m 237 #[.val (.int p0), .val (.int p1), .val (.long q2), .second, .val (.int (p0 &&& (7 : Int32))), .val (.double (FP.dmul (FP.i2d p1) (8945421882333202015 : UInt64))), .second, .val (.int (0 : Int32)), .unset] [(.double (FP.dmul (FP.i2d p1) (8945421882333202015 : UInt64)))])) rfl (by rw [hml]; rfl) (argsL := [(.double (FP.dmul (FP.i2d p1) (8945421882333202015 : UInt64)))]) (rest := []) (lenOf pd_0 rfl) rfl (by show 2 * 0 + _ ≤ _; exact Nat.le_of_eq rfl) (hb hby at_237) (fun _ _ => ⟨rfl, eT, (by decide : 0 + 0 ≤ _), (by decide : 0 + 0 ≤ _)⟩)
              dsimp only [Pt.U, Pt.locs, Pt.cells, Pt.slots] at X l_ y_ z_ st hQ
              subst l_ y_ z_
              obtain ⟨rfl, Nq, eh⟩ := hQ
              have N := Fr.app N Nq
              have eT := eh
              refine Go.by st ?_
              show Go p.tables e below (T.setTop (mkF m 240 #[.val (.int p0), .val (.int p1), .val (.long q2), .second, .val (.int (p0 &&& (7 : Int32))), .val (.double (FP.dmul (FP.i2d p1) (8945421882333202015 : UInt64))), .second, .val (.int (0 : Int32)), .unset] [(.int (own_isp (FP.dmul (FP.i2d p1) (8945421882333202015 : UInt64))))])) _
              refine Go.by (fun tt_ kk_ => XS.iload X.here hx rfl (hb hby at_240) rfl kk_) ?_
              show Go p.tables e below (T.setTop (mkF m 242 #[.val (.int p0), .val (.int p1), .val (.long q2), .second, .val (.int (p0 &&& (7 : Int32))), .val (.double (FP.dmul (FP.i2d p1) (8945421882333202015 : UInt64))), .second, .val (.int (0 : Int32)), .unset] [(.int (0 : Int32)), (.int (own_isp (FP.dmul (FP.i2d p1) (8945421882333202015 : UInt64))))])) _
              refine Go.by (fun tt_ kk_ => XS.icmpNo X.here hx rfl (hb hby at_242) rfl (teq hz).2 kk_) ?_
              show Go p.tables e below (T.setTop (mkF m 245 #[.val (.int p0), .val (.int p1), .val (.long q2), .second, .val (.int (p0 &&& (7 : Int32))), .val (.double (FP.dmul (FP.i2d p1) (8945421882333202015 : UInt64))), .second, .val (.int (0 : Int32)), .unset] [])) _
              refine Go.by (fun tt_ kk_ => XS.iconst X.here hx rfl (hb hby at_245) kk_) ?_
              show Go p.tables e below (T.setTop (mkF m 246 #[.val (.int p0), .val (.int p1), .val (.long q2), .second, .val (.int (p0 &&& (7 : Int32))), .val (.double (FP.dmul (FP.i2d p1) (8945421882333202015 : UInt64))), .second, .val (.int (0 : Int32)), .unset] [(.int (1 : Int32))])) _
              refine Go.by (fun tt_ kk_ => XS.goto X.here hx rfl (pc0 := 246) (pc' := 250) rfl (hb hby at_246) (by decide) (by decide) kk_) ?_
              show Go p.tables e below (T.setTop (mkF m 250 #[.val (.int p0), .val (.int p1), .val (.long q2), .second, .val (.int (p0 &&& (7 : Int32))), .val (.double (FP.dmul (FP.i2d p1) (8945421882333202015 : UInt64))), .second, .val (.int (0 : Int32)), .unset] [(.int (1 : Int32))])) _
              exact Go.done X  (v := some (.int (1 : Int32))) (fun h => by rw [Bd.returns] at h; cases h) Bd.notSynchronized (fun fs hr => retN X hx (z := (1 : Int32)) (t := .boolean) Bd.returns (by simp) (hb hby at_250) hr) (by rw [eT]; exact ⟨rfl, N⟩) (by decide) (by decide)
          · refine Go.by (fun tt_ kk_ => XS.icmpYes X.here hx rfl (pc0 := 114) (pc' := 139) rfl (hb hby at_114) rfl (feq hc114).2 (by decide) (by decide) kk_) ?_
            show Go p.tables e below (T.setTop (mkF m 139 #[.val (.int p0), .val (.int p1), .val (.long q2), .second, .val (.int (p0 &&& (7 : Int32))), .unset, .unset, .unset, .unset] [])) _
            refine Go.by (fun tt_ kk_ => XS.iload X.here hx rfl (hb hby at_139) rfl kk_) ?_
            show Go p.tables e below (T.setTop (mkF m 141 #[.val (.int p0), .val (.int p1), .val (.long q2), .second, .val (.int (p0 &&& (7 : Int32))), .unset, .unset, .unset, .unset] [(.int (p0 &&& (7 : Int32)))])) _
            refine Go.by (fun tt_ kk_ => XS.iconst X.here hx rfl (hb hby at_141) kk_) ?_
            show Go p.tables e below (T.setTop (mkF m 142 #[.val (.int p0), .val (.int p1), .val (.long q2), .second, .val (.int (p0 &&& (7 : Int32))), .unset, .unset, .unset, .unset] [(.int (5 : Int32)), (.int (p0 &&& (7 : Int32)))])) _
            by_cases hc142 : (p0 &&& (7 : Int32)) = (5 : Int32)
            · refine Go.by (fun tt_ kk_ => XS.icmpNo X.here hx rfl (hb hby at_142) rfl (teq hc142).2 kk_) ?_
              show Go p.tables e below (T.setTop (mkF m 145 #[.val (.int p0), .val (.int p1), .val (.long q2), .second, .val (.int (p0 &&& (7 : Int32))), .unset, .unset, .unset, .unset] [])) _
              refine Go.by (X.ldc2DoubleC hx hown (mvT hZ (hw _ (List.mem_of_getElem? (i := 11) rfl))) (g := (mkF m 145 #[.val (.int p0), .val (.int p1), .val (.long q2), .second, .val (.int (p0 &&& (7 : Int32))), .unset, .unset, .unset, .unset] [])) rfl (hb hby at_145)) ?_
              show Go p.tables e below (T.setTop (mkF m 148 #[.val (.int p0), .val (.int p1), .val (.long q2), .second, .val (.int (p0 &&& (7 : Int32))), .unset, .unset, .unset, .unset] [(.double (9218868437227405312 : UInt64))])) _
              refine Go.by (fun tt_ kk_ => XS.dstore X.here hx rfl (hb hby at_148) rfl (l' := #[.val (.int p0), .val (.int p1), .val (.long q2), .second, .val (.int (p0 &&& (7 : Int32))), .val (.double (9218868437227405312 : UInt64)), .second, .unset, .unset]) rfl kk_) ?_
              show Go p.tables e below (T.setTop (mkF m 150 #[.val (.int p0), .val (.int p1), .val (.long q2), .second, .val (.int (p0 &&& (7 : Int32))), .val (.double (9218868437227405312 : UInt64)), .second, .unset, .unset] [])) _
              refine Go.by (fun tt_ kk_ => XS.iconst X.here hx rfl (hb hby at_150) kk_) ?_
              show Go p.tables e below (T.setTop (mkF m 151 #[.val (.int p0), .val (.int p1), .val (.long q2), .second, .val (.int (p0 &&& (7 : Int32))), .val (.double (9218868437227405312 : UInt64)), .second, .unset, .unset] [(.int (0 : Int32))])) _
              refine Go.by (fun tt_ kk_ => XS.istore X.here hx rfl (hb hby at_151) rfl (l' := #[.val (.int p0), .val (.int p1), .val (.long q2), .second, .val (.int (p0 &&& (7 : Int32))), .val (.double (9218868437227405312 : UInt64)), .second, .val (.int (0 : Int32)), .unset]) rfl kk_) ?_
              show Go p.tables e below (T.setTop (mkF m 153 #[.val (.int p0), .val (.int p1), .val (.long q2), .second, .val (.int (p0 &&& (7 : Int32))), .val (.double (9218868437227405312 : UInt64)), .second, .val (.int (0 : Int32)), .unset] [])) _
              refine Go.by (fun tt_ kk_ => XS.goto X.here hx rfl (pc0 := 153) (pc' := 235) rfl (hb hby at_153) (by decide) (by decide) kk_) ?_
              show Go p.tables e below (T.setTop (mkF m 235 #[.val (.int p0), .val (.int p1), .val (.long q2), .second, .val (.int (p0 &&& (7 : Int32))), .val (.double (9218868437227405312 : UInt64)), .second, .val (.int (0 : Int32)), .unset] [])) _
              refine Go.by (fun tt_ kk_ => XS.dload X.here hx rfl (hb hby at_235) rfl kk_) ?_
              show Go p.tables e below (T.setTop (mkF m 237 #[.val (.int p0), .val (.int p1), .val (.long q2), .second, .val (.int (p0 &&& (7 : Int32))), .val (.double (9218868437227405312 : UInt64)), .second, .val (.int (0 : Int32)), .unset] [(.double (9218868437227405312 : UInt64))])) _
              have hz : own_isp (9218868437227405312 : UInt64) = (0 : Int32) := (by decide +kernel)
              obtain ⟨_, _, ⟨T, L_, k_, n_⟩, -, X, ⟨Lc_, hQ, l_, y_, z_⟩, st⟩ := Jvm.LawKit.callS X hx (y := (⟨"com/example/rootward/rootward/online/Timer", "isPeriod", "(D)Z"⟩ : MethodName)) hown (mvT hZ (hw _ (List.mem_of_getElem? (i := 0) rfl))) (mvT hZ (hw _ (List.mem_of_getElem? (i := 1) rfl))) (mvT hZ (hw _ (List.mem_of_getElem? (i := 2) rfl))) (mvT hZ (hw _ (List.mem_of_getElem? (i := 3) rfl))) (by decide) (backOf (W := 0) (rm1 l Z a0 hw [] (9218868437227405312 : UInt64) h0 n0 (Nat.le_trans Z0 K.1) ) hZ (hw _ (List.mem_of_getElem? (i := 3) rfl)) (hw _ (List.mem_of_getElem? (i := 2) rfl)) (by decide) (by decide)) (g := (mkF m 237 #[.val (.int p0), .val (.int p1), .val (.long q2), .second, .val (.int (p0 &&& (7 : Int32))), .val (.double (9218868437227405312 : UInt64)), .second, .val (.int (0 : Int32)), .unset] [(.double (9218868437227405312 : UInt64))])) rfl (by rw [hml]; rfl) (argsL := [(.double (9218868437227405312 : UInt64))]) (rest := []) (lenOf pd_0 rfl) rfl (by show 2 * 0 + _ ≤ _; exact Nat.le_of_eq rfl) (hb hby at_237) (fun _ _ => ⟨rfl, eT, (by decide : 0 + 0 ≤ _), (by decide : 0 + 0 ≤ _)⟩)
              dsimp only [Pt.U, Pt.locs, Pt.cells, Pt.slots] at X l_ y_ z_ st hQ
              subst l_ y_ z_
              obtain ⟨rfl, Nq, eh⟩ := hQ
              have N := Fr.app N Nq
              have eT := eh
              refine Go.by st ?_
              show Go p.tables e below (T.setTop (mkF m 240 #[.val (.int p0), .val (.int p1), .val (.long q2), .second, .val (.int (p0 &&& (7 : Int32))), .val (.double (9218868437227405312 : UInt64)), .second, .val (.int (0 : Int32)), .unset] [(.int (own_isp (9218868437227405312 : UInt64)))])) _
              refine Go.by (fun tt_ kk_ => XS.iload X.here hx rfl (hb hby at_240) rfl kk_) ?_
              show Go p.tables e below (T.setTop (mkF m 242 #[.val (.int p0), .val (.int p1), .val (.long q2), .second, .val (.int (p0 &&& (7 : Int32))), .val (.double (9218868437227405312 : UInt64)), .second, .val (.int (0 : Int32)), .unset] [(.int (0 : Int32)), (.int (own_isp (9218868437227405312 : UInt64)))])) _
              refine Go.by (fun tt_ kk_ => XS.icmpNo X.here hx rfl (hb hby at_242) rfl (teq hz).2 kk_) ?_
              show Go p.tables e below (T.setTop (mkF m 245 #[.val (.int p0), .val (.int p1), .val (.long q2), .second, .val (.int (p0 &&& (7 : Int32))), .val (.double (9218868437227405312 : UInt64)), .second, .val (.int (0 : Int32)), .unset] [])) _
              refine Go.by (fun tt_ kk_ => XS.iconst X.here hx rfl (hb hby at_245) kk_) ?_
              show Go p.tables e below (T.setTop (mkF m 246 #[.val (.int p0), .val (.int p1), .val (.long q2), .second, .val (.int (p0 &&& (7 : Int32))), .val (.double (9218868437227405312 : UInt64)), .second, .val (.int (0 : Int32)), .unset] [(.int (1 : Int32))])) _
              refine Go.by (fun tt_ kk_ => XS.goto X.here hx rfl (pc0 := 246) (pc' := 250) rfl (hb hby at_246) (by decide) (by decide) kk_) ?_
              show Go p.tables e below (T.setTop (mkF m 250 #[.val (.int p0), .val (.int p1), .val (.long q2), .second, .val (.int (p0 &&& (7 : Int32))), .val (.double (9218868437227405312 : UInt64)), .second, .val (.int (0 : Int32)), .unset] [(.int (1 : Int32))])) _
              exact Go.done X  (v := some (.int (1 : Int32))) (fun h => by rw [Bd.returns] at h; cases h) Bd.notSynchronized (fun fs hr => retN X hx (z := (1 : Int32)) (t := .boolean) Bd.returns (by simp) (hb hby at_250) hr) (by rw [eT]; exact ⟨rfl, N⟩) (by decide) (by decide)
            · refine Go.by (fun tt_ kk_ => XS.icmpYes X.here hx rfl (pc0 := 142) (pc' := 156) rfl (hb hby at_142) rfl (feq hc142).2 (by decide) (by decide) kk_) ?_
              show Go p.tables e below (T.setTop (mkF m 156 #[.val (.int p0), .val (.int p1), .val (.long q2), .second, .val (.int (p0 &&& (7 : Int32))), .unset, .unset, .unset, .unset] [])) _
              refine Go.by (fun tt_ kk_ => XS.iload X.here hx rfl (hb hby at_156) rfl kk_) ?_
              show Go p.tables e below (T.setTop (mkF m 158 #[.val (.int p0), .val (.int p1), .val (.long q2), .second, .val (.int (p0 &&& (7 : Int32))), .unset, .unset, .unset, .unset] [(.int (p0 &&& (7 : Int32)))])) _
              refine Go.by (fun tt_ kk_ => XS.bipush X.here hx rfl (hb hby at_158) kk_) ?_
              show Go p.tables e below (T.setTop (mkF m 160 #[.val (.int p0), .val (.int p1), .val (.long q2), .second, .val (.int (p0 &&& (7 : Int32))), .unset, .unset, .unset, .unset] [(.int (6 : Int32)), (.int (p0 &&& (7 : Int32)))])) _
              by_cases hc160 : (p0 &&& (7 : Int32)) = (6 : Int32)
              · refine Go.by (fun tt_ kk_ => XS.icmpNo X.here hx rfl (hb hby at_160) rfl (teq hc160).2 kk_) ?_
                show Go p.tables e below (T.setTop (mkF m 163 #[.val (.int p0), .val (.int p1), .val (.long q2), .second, .val (.int (p0 &&& (7 : Int32))), .unset, .unset, .unset, .unset] [])) _
                refine Go.by (X.ldc2DoubleC hx hown (mvT hZ (hw _ (List.mem_of_getElem? (i := 7) rfl))) (g := (mkF m 163 #[.val (.int p0), .val (.int p1), .val (.long q2), .second, .val (.int (p0 &&& (7 : Int32))), .unset, .unset, .unset, .unset] [])) rfl (hb hby at_163)) ?_
                show Go p.tables e below (T.setTop (mkF m 166 #[.val (.int p0), .val (.int p1), .val (.long q2), .second, .val (.int (p0 &&& (7 : Int32))), .unset, .unset, .unset, .unset] [(.double (18442240474082181120 : UInt64))])) _
                refine Go.by (fun tt_ kk_ => XS.dstore X.here hx rfl (hb hby at_166) rfl (l' := #[.val (.int p0), .val (.int p1), .val (.long q2), .second, .val (.int (p0 &&& (7 : Int32))), .val (.double (18442240474082181120 : UInt64)), .second, .unset, .unset]) rfl kk_) ?_
                show Go p.tables e below (T.setTop (mkF m 168 #[.val (.int p0), .val (.int p1), .val (.long q2), .second, .val (.int (p0 &&& (7 : Int32))), .val (.double (18442240474082181120 : UInt64)), .second, .unset, .unset] [])) _
                refine Go.by (fun tt_ kk_ => XS.iconst X.here hx rfl (hb hby at_168) kk_) ?_
                show Go p.tables e below (T.setTop (mkF m 169 #[.val (.int p0), .val (.int p1), .val (.long q2), .second, .val (.int (p0 &&& (7 : Int32))), .val (.double (18442240474082181120 : UInt64)), .second, .unset, .unset] [(.int (0 : Int32))])) _
                refine Go.by (fun tt_ kk_ => XS.istore X.here hx rfl (hb hby at_169) rfl (l' := #[.val (.int p0), .val (.int p1), .val (.long q2), .second, .val (.int (p0 &&& (7 : Int32))), .val (.double (18442240474082181120 : UInt64)), .second, .val (.int (0 : Int32)), .unset]) rfl kk_) ?_
                show Go p.tables e below (T.setTop (mkF m 171 #[.val (.int p0), .val (.int p1), .val (.long q2), .second, .val (.int (p0 &&& (7 : Int32))), .val (.double (18442240474082181120 : UInt64)), .second, .val (.int (0 : Int32)), .unset] [])) _
                refine Go.by (fun tt_ kk_ => XS.goto X.here hx rfl (pc0 := 171) (pc' := 235) rfl (hb hby at_171) (by decide) (by decide) kk_) ?_
                show Go p.tables e below (T.setTop (mkF m 235 #[.val (.int p0), .val (.int p1), .val (.long q2), .second, .val (.int (p0 &&& (7 : Int32))), .val (.double (18442240474082181120 : UInt64)), .second, .val (.int (0 : Int32)), .unset] [])) _
                refine Go.by (fun tt_ kk_ => XS.dload X.here hx rfl (hb hby at_235) rfl kk_) ?_
                show Go p.tables e below (T.setTop (mkF m 237 #[.val (.int p0), .val (.int p1), .val (.long q2), .second, .val (.int (p0 &&& (7 : Int32))), .val (.double (18442240474082181120 : UInt64)), .second, .val (.int (0 : Int32)), .unset] [(.double (18442240474082181120 : UInt64))])) _
                have hz : own_isp (18442240474082181120 : UInt64) = (0 : Int32) := (by decide +kernel)
                obtain ⟨_, _, ⟨T, L_, k_, n_⟩, -, X, ⟨Lc_, hQ, l_, y_, z_⟩, st⟩ := Jvm.LawKit.callS X hx (y := (⟨"com/example/rootward/rootward/online/Timer", "isPeriod", "(D)Z"⟩ : MethodName)) hown (mvT hZ (hw _ (List.mem_of_getElem? (i := 0) rfl))) (mvT hZ (hw _ (List.mem_of_getElem? (i := 1) rfl))) (mvT hZ (hw _ (List.mem_of_getElem? (i := 2) rfl))) (mvT hZ (hw _ (List.mem_of_getElem? (i := 3) rfl))) (by decide) (backOf (W := 0) (rm1 l Z a0 hw [] (18442240474082181120 : UInt64) h0 n0 (Nat.le_trans Z0 K.1) ) hZ (hw _ (List.mem_of_getElem? (i := 3) rfl)) (hw _ (List.mem_of_getElem? (i := 2) rfl)) (by decide) (by decide)) (g := (mkF m 237 #[.val (.int p0), .val (.int p1), .val (.long q2), .second, .val (.int (p0 &&& (7 : Int32))), .val (.double (18442240474082181120 : UInt64)), .second, .val (.int (0 : Int32)), .unset] [(.double (18442240474082181120 : UInt64))])) rfl (by rw [hml]; rfl) (argsL := [(.double (18442240474082181120 : UInt64))]) (rest := []) (lenOf pd_0 rfl) rfl (by show 2 * 0 + _ ≤ _; exact Nat.le_of_eq rfl) (hb hby at_237) (fun _ _ => ⟨rfl, eT, (by decide : 0 + 0 ≤ _), (by decide : 0 + 0 ≤ _)⟩)
                dsimp only [Pt.U, Pt.locs, Pt.cells, Pt.slots] at X l_ y_ z_ st hQ
                subst l_ y_ z_
                obtain ⟨rfl, Nq, eh⟩ := hQ
                have N := Fr.app N Nq
                have eT := eh
                refine Go.by st ?_
                show Go p.tables e below (T.setTop (mkF m 240 #[.val (.int p0), .val (.int p1), .val (.long q2), .second, .val (.int (p0 &&& (7 : Int32))), .val (.double (18442240474082181120 : UInt64)), .second, .val (.int (0 : Int32)), .unset] [(.int (own_isp (18442240474082181120 : UInt64)))])) _
                refine Go.by (fun tt_ kk_ => XS.iload X.here hx rfl (hb hby at_240) rfl kk_) ?_
                show Go p.tables e below (T.setTop (mkF m 242 #[.val (.int p0), .val (.int p1), .val (.long q2), .second, .val (.int (p0 &&& (7 : Int32))), .val (.double (18442240474082181120 : UInt64)), .second, .val (.int (0 : Int32)), .unset] [(.int (0 : Int32)), (.int (own_isp (18442240474082181120 : UInt64)))])) _
                refine Go.by (fun tt_ kk_ => XS.icmpNo X.here hx rfl (hb hby at_242) rfl (teq hz).2 kk_) ?_
                show Go p.tables e below (T.setTop (mkF m 245 #[.val (.int p0), .val (.int p1), .val (.long q2), .second, .val (.int (p0 &&& (7 : Int32))), .val (.double (18442240474082181120 : UInt64)), .second, .val (.int (0 : Int32)), .unset] [])) _
                refine Go.by (fun tt_ kk_ => XS.iconst X.here hx rfl (hb hby at_245) kk_) ?_
                show Go p.tables e below (T.setTop (mkF m 246 #[.val (.int p0), .val (.int p1), .val (.long q2), .second, .val (.int (p0 &&& (7 : Int32))), .val (.double (18442240474082181120 : UInt64)), .second, .val (.int (0 : Int32)), .unset] [(.int (1 : Int32))])) _
                refine Go.by (fun tt_ kk_ => XS.goto X.here hx rfl (pc0 := 246) (pc' := 250) rfl (hb hby at_246) (by decide) (by decide) kk_) ?_
                show Go p.tables e below (T.setTop (mkF m 250 #[.val (.int p0), .val (.int p1), .val (.long q2), .second, .val (.int (p0 &&& (7 : Int32))), .val (.double (18442240474082181120 : UInt64)), .second, .val (.int (0 : Int32)), .unset] [(.int (1 : Int32))])) _
                exact Go.done X  (v := some (.int (1 : Int32))) (fun h => by rw [Bd.returns] at h; cases h) Bd.notSynchronized (fun fs hr => retN X hx (z := (1 : Int32)) (t := .boolean) Bd.returns (by simp) (hb hby at_250) hr) (by rw [eT]; exact ⟨rfl, N⟩) (by decide) (by decide)
              · refine Go.by (fun tt_ kk_ => XS.icmpYes X.here hx rfl (pc0 := 160) (pc' := 174) rfl (hb hby at_160) rfl (feq hc160).2 (by decide) (by decide) kk_) ?_
                show Go p.tables e below (T.setTop (mkF m 174 #[.val (.int p0), .val (.int p1), .val (.long q2), .second, .val (.int (p0 &&& (7 : Int32))), .unset, .unset, .unset, .unset] [])) _
                refine Go.by (fun tt_ kk_ => XS.iloadN X.here hx rfl (hb hby at_174) rfl kk_) ?_
                show Go p.tables e below (T.setTop (mkF m 175 #[.val (.int p0), .val (.int p1), .val (.long q2), .second, .val (.int (p0 &&& (7 : Int32))), .unset, .unset, .unset, .unset] [(.int p1)])) _
                refine Go.by (fun tt_ kk_ => XS.iconst X.here hx rfl (hb hby at_175) kk_) ?_
                show Go p.tables e below (T.setTop (mkF m 176 #[.val (.int p0), .val (.int p1), .val (.long q2), .second, .val (.int (p0 &&& (7 : Int32))), .unset, .unset, .unset, .unset] [(.int (3 : Int32)), (.int p1)])) _
                refine Go.by (fun tt_ kk_ => XS.iand X.here hx rfl (hb hby at_176) rfl kk_) ?_
                show Go p.tables e below (T.setTop (mkF m 177 #[.val (.int p0), .val (.int p1), .val (.long q2), .second, .val (.int (p0 &&& (7 : Int32))), .unset, .unset, .unset, .unset] [(.int (p1 &&& (3 : Int32)))])) _
                refine Go.by (fun tt_ kk_ => XS.istore X.here hx rfl (hb hby at_177) rfl (l' := #[.val (.int p0), .val (.int p1), .val (.long q2), .second, .val (.int (p0 &&& (7 : Int32))), .unset, .unset, .unset, .val (.int (p1 &&& (3 : Int32)))]) rfl kk_) ?_
                show Go p.tables e below (T.setTop (mkF m 179 #[.val (.int p0), .val (.int p1), .val (.long q2), .second, .val (.int (p0 &&& (7 : Int32))), .unset, .unset, .unset, .val (.int (p1 &&& (3 : Int32)))] [])) _
                refine Go.by (fun tt_ kk_ => XS.iload X.here hx rfl (hb hby at_179) rfl kk_) ?_
                show Go p.tables e below (T.setTop (mkF m 181 #[.val (.int p0), .val (.int p1), .val (.long q2), .second, .val (.int (p0 &&& (7 : Int32))), .unset, .unset, .unset, .val (.int (p1 &&& (3 : Int32)))] [(.int (p1 &&& (3 : Int32)))])) _
                by_cases hc181 : (p1 &&& (3 : Int32)) = (0 : Int32)
                · refine Go.by (fun tt_ kk_ => XS.ifNo X.here hx rfl (hb hby at_181) rfl ((if0 _ _).trans (teq hc181).2) kk_) ?_
                  show Go p.tables e below (T.setTop (mkF m 184 #[.val (.int p0), .val (.int p1), .val (.long q2), .second, .val (.int (p0 &&& (7 : Int32))), .unset, .unset, .unset, .val (.int (p1 &&& (3 : Int32)))] [])) _
                  refine Go.by (X.ldc2DoubleC hx hown (mvT hZ (hw _ (List.mem_of_getElem? (i := 8) rfl))) (g := (mkF m 184 #[.val (.int p0), .val (.int p1), .val (.long q2), .second, .val (.int (p0 &&& (7 : Int32))), .unset, .unset, .unset, .val (.int (p1 &&& (3 : Int32)))] [])) rfl (hb hby at_184)) ?_
                  show Go p.tables e below (T.setTop (mkF m 187 #[.val (.int p0), .val (.int p1), .val (.long q2), .second, .val (.int (p0 &&& (7 : Int32))), .unset, .unset, .unset, .val (.int (p1 &&& (3 : Int32)))] [(.double (9223372036854775808 : UInt64))])) _
                  refine Go.by (fun tt_ kk_ => XS.dstore X.here hx rfl (hb hby at_187) rfl (l' := #[.val (.int p0), .val (.int p1), .val (.long q2), .second, .val (.int (p0 &&& (7 : Int32))), .val (.double (9223372036854775808 : UInt64)), .second, .unset, .val (.int (p1 &&& (3 : Int32)))]) rfl kk_) ?_
                  show Go p.tables e below (T.setTop (mkF m 189 #[.val (.int p0), .val (.int p1), .val (.long q2), .second, .val (.int (p0 &&& (7 : Int32))), .val (.double (9223372036854775808 : UInt64)), .second, .unset, .val (.int (p1 &&& (3 : Int32)))] [])) _
                  refine Go.by (fun tt_ kk_ => XS.iconst X.here hx rfl (hb hby at_189) kk_) ?_
                  show Go p.tables e below (T.setTop (mkF m 190 #[.val (.int p0), .val (.int p1), .val (.long q2), .second, .val (.int (p0 &&& (7 : Int32))), .val (.double (9223372036854775808 : UInt64)), .second, .unset, .val (.int (p1 &&& (3 : Int32)))] [(.int (0 : Int32))])) _
                  refine Go.by (fun tt_ kk_ => XS.istore X.here hx rfl (hb hby at_190) rfl (l' := #[.val (.int p0), .val (.int p1), .val (.long q2), .second, .val (.int (p0 &&& (7 : Int32))), .val (.double (9223372036854775808 : UInt64)), .second, .val (.int (0 : Int32)), .val (.int (p1 &&& (3 : Int32)))]) rfl kk_) ?_
                  show Go p.tables e below (T.setTop (mkF m 192 #[.val (.int p0), .val (.int p1), .val (.long q2), .second, .val (.int (p0 &&& (7 : Int32))), .val (.double (9223372036854775808 : UInt64)), .second, .val (.int (0 : Int32)), .val (.int (p1 &&& (3 : Int32)))] [])) _
                  refine Go.by (fun tt_ kk_ => XS.goto X.here hx rfl (pc0 := 192) (pc' := 235) rfl (hb hby at_192) (by decide) (by decide) kk_) ?_
                  show Go p.tables e below (T.setTop (mkF m 235 #[.val (.int p0), .val (.int p1), .val (.long q2), .second, .val (.int (p0 &&& (7 : Int32))), .val (.double (9223372036854775808 : UInt64)), .second, .val (.int (0 : Int32)), .val (.int (p1 &&& (3 : Int32)))] [])) _
                  refine Go.by (fun tt_ kk_ => XS.dload X.here hx rfl (hb hby at_235) rfl kk_) ?_
                  show Go p.tables e below (T.setTop (mkF m 237 #[.val (.int p0), .val (.int p1), .val (.long q2), .second, .val (.int (p0 &&& (7 : Int32))), .val (.double (9223372036854775808 : UInt64)), .second, .val (.int (0 : Int32)), .val (.int (p1 &&& (3 : Int32)))] [(.double (9223372036854775808 : UInt64))])) _
                  have hz : own_isp (9223372036854775808 : UInt64) = (0 : Int32) := (by decide +kernel)
                  obtain ⟨_, _, ⟨T, L_, k_, n_⟩, -, X, ⟨Lc_, hQ, l_, y_, z_⟩, st⟩ := Jvm.LawKit.callS X hx (y := (⟨"com/example/rootward/rootward/online/Timer", "isPeriod", "(D)Z"⟩ : MethodName)) hown (mvT hZ (hw _ (List.mem_of_getElem? (i := 0) rfl))) (mvT hZ (hw _ (List.mem_of_getElem? (i := 1) rfl))) (mvT hZ (hw _ (List.mem_of_getElem? (i := 2) rfl))) (mvT hZ (hw _ (List.mem_of_getElem? (i := 3) rfl))) (by decide) (backOf (W := 0) (rm1 l Z a0 hw [] (9223372036854775808 : UInt64) h0 n0 (Nat.le_trans Z0 K.1) ) hZ (hw _ (List.mem_of_getElem? (i := 3) rfl)) (hw _ (List.mem_of_getElem? (i := 2) rfl)) (by decide) (by decide)) (g := (mkF m 237 #[.val (.int p0), .val (.int p1), .val (.long q2), .second, .val (.int (p0 &&& (7 : Int32))), .val (.double (9223372036854775808 : UInt64)), .second, .val (.int (0 : Int32)), .val (.int (p1 &&& (3 : Int32)))] [(.double (9223372036854775808 : UInt64))])) rfl (by rw [hml]; rfl) (argsL := [(.double (9223372036854775808 : UInt64))]) (rest := []) (lenOf pd_0 rfl) rfl (by show 2 * 0 + _ ≤ _; exact Nat.le_of_eq rfl) (hb hby at_237) (fun _ _ => ⟨rfl, eT, (by decide : 0 + 0 ≤ _), (by decide : 0 + 0 ≤ _)⟩)
                  dsimp only [Pt.U, Pt.locs, Pt.cells, Pt.slots] at X l_ y_ z_ st hQ
                  subst l_ y_ z_
                  obtain ⟨rfl, Nq, eh⟩ := hQ
                  have N := Fr.app N Nq
                  have eT := eh
                  refine Go.by st ?_
                  show Go p.tables e below (T.setTop (mkF m 240 #[.val (.int p0), .val (.int p1), .val (.long q2), .second, .val (.int (p0 &&& (7 : Int32))), .val (.double (9223372036854775808 : UInt64)), .second, .val (.int (0 : Int32)), .val (.int (p1 &&& (3 : Int32)))] [(.int (own_isp (9223372036854775808 : UInt64)))])) _
                  refine Go.by (fun tt_ kk_ => XS.iload X.here hx rfl (hb hby at_240) rfl kk_) ?_
                  show Go p.tables e below (T.setTop (mkF m 242 #[.val (.int p0), .val (.int p1), .val (.long q2), .second, .val (.int (p0 &&& (7 : Int32))), .val (.double (9223372036854775808 : UInt64)), .second, .val (.int (0 : Int32)), .val (.int (p1 &&& (3 : Int32)))] [(.int (0 : Int32)), (.int (own_isp (9223372036854775808 : UInt64)))])) _
                  refine Go.by (fun tt_ kk_ => XS.icmpNo X.here hx rfl (hb hby at_242) rfl (teq hz).2 kk_) ?_
                  show Go p.tables e below (T.setTop (mkF m 245 #[.val (.int p0), .val (.int p1), .val (.long q2), .second, .val (.int (p0 &&& (7 : Int32))), .val (.double (9223372036854775808 : UInt64)), .second, .val (.int (0 : Int32)), .val (.int (p1 &&& (3 : Int32)))] [])) _
                  refine Go.by (fun tt_ kk_ => XS.iconst X.here hx rfl (hb hby at_245) kk_) ?_
                  show Go p.tables e below (T.setTop (mkF m 246 #[.val (.int p0), .val (.int p1), .val (.long q2), .second, .val (.int (p0 &&& (7 : Int32))), .val (.double (9223372036854775808 : UInt64)), .second, .val (.int (0 : Int32)), .val (.int (p1 &&& (3 : Int32)))] [(.int (1 : Int32))])) _
                  refine Go.by (fun tt_ kk_ => XS.goto X.here hx rfl (pc0 := 246) (pc' := 250) rfl (hb hby at_246) (by decide) (by decide) kk_) ?_
                  show Go p.tables e below (T.setTop (mkF m 250 #[.val (.int p0), .val (.int p1), .val (.long q2), .second, .val (.int (p0 &&& (7 : Int32))), .val (.double (9223372036854775808 : UInt64)), .second, .val (.int (0 : Int32)), .val (.int (p1 &&& (3 : Int32)))] [(.int (1 : Int32))])) _
                  exact Go.done X  (v := some (.int (1 : Int32))) (fun h => by rw [Bd.returns] at h; cases h) Bd.notSynchronized (fun fs hr => retN X hx (z := (1 : Int32)) (t := .boolean) Bd.returns (by simp) (hb hby at_250) hr) (by rw [eT]; exact ⟨rfl, N⟩) (by decide) (by decide)
                · refine Go.by (fun tt_ kk_ => XS.ifYes X.here hx rfl (pc0 := 181) (pc' := 195) rfl (hb hby at_181) rfl ((if0 _ _).trans (feq hc181).2) (by decide) (by decide) kk_) ?_
                  show Go p.tables e below (T.setTop (mkF m 195 #[.val (.int p0), .val (.int p1), .val (.long q2), .second, .val (.int (p0 &&& (7 : Int32))), .unset, .unset, .unset, .val (.int (p1 &&& (3 : Int32)))] [])) _
                  refine Go.by (fun tt_ kk_ => XS.iload X.here hx rfl (hb hby at_195) rfl kk_) ?_
                  show Go p.tables e below (T.setTop (mkF m 197 #[.val (.int p0), .val (.int p1), .val (.long q2), .second, .val (.int (p0 &&& (7 : Int32))), .unset, .unset, .unset, .val (.int (p1 &&& (3 : Int32)))] [(.int (p1 &&& (3 : Int32)))])) _
                  refine Go.by (fun tt_ kk_ => XS.iconst X.here hx rfl (hb hby at_197) kk_) ?_
                  show Go p.tables e below (T.setTop (mkF m 198 #[.val (.int p0), .val (.int p1), .val (.long q2), .second, .val (.int (p0 &&& (7 : Int32))), .unset, .unset, .unset, .val (.int (p1 &&& (3 : Int32)))] [(.int (1 : Int32)), (.int (p1 &&& (3 : Int32)))])) _
                  by_cases hc198 : (p1 &&& (3 : Int32)) = (1 : Int32)
                  · refine Go.by (fun tt_ kk_ => XS.icmpNo X.here hx rfl (hb hby at_198) rfl (teq hc198).2 kk_) ?_
                    show Go p.tables e below (T.setTop (mkF m 201 #[.val (.int p0), .val (.int p1), .val (.long q2), .second, .val (.int (p0 &&& (7 : Int32))), .unset, .unset, .unset, .val (.int (p1 &&& (3 : Int32)))] [])) _
                    refine Go.by (fun tt_ kk_ => XS.dconst0 X.here hx rfl (hb hby at_201) (v := (0 : UInt64)) rfl kk_) ?_
                    show Go p.tables e below (T.setTop (mkF m 202 #[.val (.int p0), .val (.int p1), .val (.long q2), .second, .val (.int (p0 &&& (7 : Int32))), .unset, .unset, .unset, .val (.int (p1 &&& (3 : Int32)))] [(.double (0 : UInt64))])) _
                    refine Go.by (fun tt_ kk_ => XS.dstore X.here hx rfl (hb hby at_202) rfl (l' := #[.val (.int p0), .val (.int p1), .val (.long q2), .second, .val (.int (p0 &&& (7 : Int32))), .val (.double (0 : UInt64)), .second, .unset, .val (.int (p1 &&& (3 : Int32)))]) rfl kk_) ?_
                    show Go p.tables e below (T.setTop (mkF m 204 #[.val (.int p0), .val (.int p1), .val (.long q2), .second, .val (.int (p0 &&& (7 : Int32))), .val (.double (0 : UInt64)), .second, .unset, .val (.int (p1 &&& (3 : Int32)))] [])) _
                    refine Go.by (fun tt_ kk_ => XS.iconst X.here hx rfl (hb hby at_204) kk_) ?_
                    show Go p.tables e below (T.setTop (mkF m 205 #[.val (.int p0), .val (.int p1), .val (.long q2), .second, .val (.int (p0 &&& (7 : Int32))), .val (.double (0 : UInt64)), .second, .unset, .val (.int (p1 &&& (3 : Int32)))] [(.int (0 : Int32))])) _
                    refine Go.by (fun tt_ kk_ => XS.istore X.here hx rfl (hb hby at_205) rfl (l' := #[.val (.int p0), .val (.int p1), .val (.long q2), .second, .val (.int (p0 &&& (7 : Int32))), .val (.double (0 : UInt64)), .second, .val (.int (0 : Int32)), .val (.int (p1 &&& (3 : Int32)))]) rfl kk_) ?_
                    show Go p.tables e below (T.setTop (mkF m 207 #[.val (.int p0), .val (.int p1), .val (.long q2), .second, .val (.int (p0 &&& (7 : Int32))), .val (.double (0 : UInt64)), .second, .val (.int (0 : Int32)), .val (.int (p1 &&& (3 : Int32)))] [])) _
                    refine Go.by (fun tt_ kk_ => XS.goto X.here hx rfl (pc0 := 207) (pc' := 235) rfl (hb hby at_207) (by decide) (by decide) kk_) ?_
                    show Go p.tables e below (T.setTop (mkF m 235 #[.val (.int p0), .val (.int p1), .val (.long q2), .second, .val (.int (p0 &&& (7 : Int32))), .val (.double (0 : UInt64)), .second, .val (.int (0 : Int32)), .val (.int (p1 &&& (3 : Int32)))] [])) _
                    refine Go.by (fun tt_ kk_ => XS.dload X.here hx rfl (hb hby at_235) rfl kk_) ?_
                    show Go p.tables e below (T.setTop (mkF m 237 #[.val (.int p0), .val (.int p1), .val (.long q2), .second, .val (.int (p0 &&& (7 : Int32))), .val (.double (0 : UInt64)), .second, .val (.int (0 : Int32)), .val (.int (p1 &&& (3 : Int32)))] [(.double (0 : UInt64))])) _
                    have hz : own_isp (0 : UInt64) = (0 : Int32) := (by decide +kernel)
                    obtain ⟨_, _, ⟨T, L_, k_, n_⟩, -, X, ⟨Lc_, hQ, l_, y_, z_⟩, st⟩ := Jvm.LawKit.callS X hx (y := (⟨"com/example/rootward/rootward/online/Timer", "isPeriod", "(D)Z"⟩ : MethodName)) hown (mvT hZ (hw _ (List.mem_of_getElem? (i := 0) rfl))) (mvT hZ (hw _ (List.mem_of_getElem? (i := 1) rfl))) (mvT hZ (hw _ (List.mem_of_getElem? (i := 2) rfl))) (mvT hZ (hw _ (List.mem_of_getElem? (i := 3) rfl))) (by decide) (backOf (W := 0) (rm1 l Z a0 hw [] (0 : UInt64) h0 n0 (Nat.le_trans Z0 K.1) ) hZ (hw _ (List.mem_of_getElem? (i := 3) rfl)) (hw _ (List.mem_of_getElem? (i := 2) rfl)) (by decide) (by decide)) (g := (mkF m 237 #[.val (.int p0), .val (.int p1), .val (.long q2), .second, .val (.int (p0 &&& (7 : Int32))), .val (.double (0 : UInt64)), .second, .val (.int (0 : Int32)), .val (.int (p1 &&& (3 : Int32)))] [(.double (0 : UInt64))])) rfl (by rw [hml]; rfl) (argsL := [(.double (0 : UInt64))]) (rest := []) (lenOf pd_0 rfl) rfl (by show 2 * 0 + _ ≤ _; exact Nat.le_of_eq rfl) (hb hby at_237) (fun _ _ => ⟨rfl, eT, (by decide : 0 + 0 ≤ _), (by decide : 0 + 0 ≤ _)⟩)
                    dsimp only [Pt.U, Pt.locs, Pt.cells, Pt.slots] at X l_ y_ z_ st hQ
                    subst l_ y_ z_
                    obtain ⟨rfl, Nq, eh⟩ := hQ
                    have N := Fr.app N Nq
                    have eT := eh
                    refine Go.by st ?_
                    show Go p.tables e below (T.setTop (mkF m 240 #[.val (.int p0), .val (.int p1), .val (.long q2), .second, .val (.int (p0 &&& (7 : Int32))), .val (.double (0 : UInt64)), .second, .val (.int (0 : Int32)), .val (.int (p1 &&& (3 : Int32)))] [(.int (own_isp (0 : UInt64)))])) _
                    refine Go.by (fun tt_ kk_ => XS.iload X.here hx rfl (hb hby at_240) rfl kk_) ?_
                    show Go p.tables e below (T.setTop (mkF m 242 #[.val (.int p0), .val (.int p1), .val (.long q2), .second, .val (.int (p0 &&& (7 : Int32))), .val (.double (0 : UInt64)), .second, .val (.int (0 : Int32)), .val (.int (p1 &&& (3 : Int32)))] [(.int (0 : Int32)), (.int (own_isp (0 : UInt64)))])) _
                    refine Go.by (fun tt_ kk_ => XS.icmpNo X.here hx rfl (hb hby at_242) rfl (teq hz).2 kk_) ?_
                    show Go p.tables e below (T.setTop (mkF m 245 #[.val (.int p0), .val (.int p1), .val (.long q2), .second, .val (.int (p0 &&& (7 : Int32))), .val (.double (0 : UInt64)), .second, .val (.int (0 : Int32)), .val (.int (p1 &&& (3 : Int32)))] [])) _
                    refine Go.by (fun tt_ kk_ => XS.iconst X.here hx rfl (hb hby at_245) kk_) ?_
                    show Go p.tables e below (T.setTop (mkF m 246 #[.val (.int p0), .val (.int p1), .val (.long q2), .second, .val (.int (p0 &&& (7 : Int32))), .val (.double (0 : UInt64)), .second, .val (.int (0 : Int32)), .val (.int (p1 &&& (3 : Int32)))] [(.int (1 : Int32))])) _
                    refine Go.by (fun tt_ kk_ => XS.goto X.here hx rfl (pc0 := 246) (pc' := 250) rfl (hb hby at_246) (by decide) (by decide) kk_) ?_
                    show Go p.tables e below (T.setTop (mkF m 250 #[.val (.int p0), .val (.int p1), .val (.long q2), .second, .val (.int (p0 &&& (7 : Int32))), .val (.double (0 : UInt64)), .second, .val (.int (0 : Int32)), .val (.int (p1 &&& (3 : Int32)))] [(.int (1 : Int32))])) _
                    exact Go.done X  (v := some (.int (1 : Int32))) (fun h => by rw [Bd.returns] at h; cases h) Bd.notSynchronized (fun fs hr => retN X hx (z := (1 : Int32)) (t := .boolean) Bd.returns (by simp) (hb hby at_250) hr) (by rw [eT]; exact ⟨rfl, N⟩) (by decide) (by decide)
                  · refine Go.by (fun tt_ kk_ => XS.icmpYes X.here hx rfl (pc0 := 198) (pc' := 210) rfl (hb hby at_198) rfl (feq hc198).2 (by decide) (by decide) kk_) ?_
                    show Go p.tables e below (T.setTop (mkF m 210 #[.val (.int p0), .val (.int p1), .val (.long q2), .second, .val (.int (p0 &&& (7 : Int32))), .unset, .unset, .unset, .val (.int (p1 &&& (3 : Int32)))] [])) _
                    refine Go.by (fun tt_ kk_ => XS.iload X.here hx rfl (hb hby at_210) rfl kk_) ?_
                    show Go p.tables e below (T.setTop (mkF m 212 #[.val (.int p0), .val (.int p1), .val (.long q2), .second, .val (.int (p0 &&& (7 : Int32))), .unset, .unset, .unset, .val (.int (p1 &&& (3 : Int32)))] [(.int (p1 &&& (3 : Int32)))])) _
                    refine Go.by (fun tt_ kk_ => XS.iconst X.here hx rfl (hb hby at_212) kk_) ?_
                    show Go p.tables e below (T.setTop (mkF m 213 #[.val (.int p0), .val (.int p1), .val (.long q2), .second, .val (.int (p0 &&& (7 : Int32))), .unset, .unset, .unset, .val (.int (p1 &&& (3 : Int32)))] [(.int (2 : Int32)), (.int (p1 &&& (3 : Int32)))])) _
                    by_cases hc213 : (p1 &&& (3 : Int32)) = (2 : Int32)
                    · refine Go.by (fun tt_ kk_ => XS.icmpNo X.here hx rfl (hb hby at_213) rfl (teq hc213).2 kk_) ?_
                      show Go p.tables e below (T.setTop (mkF m 216 #[.val (.int p0), .val (.int p1), .val (.long q2), .second, .val (.int (p0 &&& (7 : Int32))), .unset, .unset, .unset, .val (.int (p1 &&& (3 : Int32)))] [])) _
                      refine Go.by (X.ldc2DoubleC hx hown (mvT hZ (hw _ (List.mem_of_getElem? (i := 12) rfl))) (g := (mkF m 216 #[.val (.int p0), .val (.int p1), .val (.long q2), .second, .val (.int (p0 &&& (7 : Int32))), .unset, .unset, .unset, .val (.int (p1 &&& (3 : Int32)))] [])) rfl (hb hby at_216)) ?_
                      show Go p.tables e below (T.setTop (mkF m 219 #[.val (.int p0), .val (.int p1), .val (.long q2), .second, .val (.int (p0 &&& (7 : Int32))), .unset, .unset, .unset, .val (.int (p1 &&& (3 : Int32)))] [(.double (9218868437227405311 : UInt64))])) _
                      refine Go.by (fun tt_ kk_ => XS.dstore X.here hx rfl (hb hby at_219) rfl (l' := #[.val (.int p0), .val (.int p1), .val (.long q2), .second, .val (.int (p0 &&& (7 : Int32))), .val (.double (9218868437227405311 : UInt64)), .second, .unset, .val (.int (p1 &&& (3 : Int32)))]) rfl kk_) ?_
                      show Go p.tables e below (T.setTop (mkF m 221 #[.val (.int p0), .val (.int p1), .val (.long q2), .second, .val (.int (p0 &&& (7 : Int32))), .val (.double (9218868437227405311 : UInt64)), .second, .unset, .val (.int (p1 &&& (3 : Int32)))] [])) _
                      refine Go.by (fun tt_ kk_ => XS.iconst X.here hx rfl (hb hby at_221) kk_) ?_
                      show Go p.tables e below (T.setTop (mkF m 222 #[.val (.int p0), .val (.int p1), .val (.long q2), .second, .val (.int (p0 &&& (7 : Int32))), .val (.double (9218868437227405311 : UInt64)), .second, .unset, .val (.int (p1 &&& (3 : Int32)))] [(.int (1 : Int32))])) _
                      refine Go.by (fun tt_ kk_ => XS.istore X.here hx rfl (hb hby at_222) rfl (l' := #[.val (.int p0), .val (.int p1), .val (.long q2), .second, .val (.int (p0 &&& (7 : Int32))), .val (.double (9218868437227405311 : UInt64)), .second, .val (.int (1 : Int32)), .val (.int (p1 &&& (3 : Int32)))]) rfl kk_) ?_
                      show Go p.tables e below (T.setTop (mkF m 224 #[.val (.int p0), .val (.int p1), .val (.long q2), .second, .val (.int (p0 &&& (7 : Int32))), .val (.double (9218868437227405311 : UInt64)), .second, .val (.int (1 : Int32)), .val (.int (p1 &&& (3 : Int32)))] [])) _
                      refine Go.by (fun tt_ kk_ => XS.goto X.here hx rfl (pc0 := 224) (pc' := 235) rfl (hb hby at_224) (by decide) (by decide) kk_) ?_
                      show Go p.tables e below (T.setTop (mkF m 235 #[.val (.int p0), .val (.int p1), .val (.long q2), .second, .val (.int (p0 &&& (7 : Int32))), .val (.double (9218868437227405311 : UInt64)), .second, .val (.int (1 : Int32)), .val (.int (p1 &&& (3 : Int32)))] [])) _
                      refine Go.by (fun tt_ kk_ => XS.dload X.here hx rfl (hb hby at_235) rfl kk_) ?_
                      show Go p.tables e below (T.setTop (mkF m 237 #[.val (.int p0), .val (.int p1), .val (.long q2), .second, .val (.int (p0 &&& (7 : Int32))), .val (.double (9218868437227405311 : UInt64)), .second, .val (.int (1 : Int32)), .val (.int (p1 &&& (3 : Int32)))] [(.double (9218868437227405311 : UInt64))])) _
                      have hz : own_isp (9218868437227405311 : UInt64) = (1 : Int32) := (by decide +kernel)
                      obtain ⟨_, _, ⟨T, L_, k_, n_⟩, -, X, ⟨Lc_, hQ, l_, y_, z_⟩, st⟩ := Jvm.LawKit.callS X hx (y := (⟨"com/example/rootward/rootward/online/Timer", "isPeriod", "(D)Z"⟩ : MethodName)) hown (mvT hZ (hw _ (List.mem_of_getElem? (i := 0) rfl))) (mvT hZ (hw _ (List.mem_of_getElem? (i := 1) rfl))) (mvT hZ (hw _ (List.mem_of_getElem? (i := 2) rfl))) (mvT hZ (hw _ (List.mem_of_getElem? (i := 3) rfl))) (by decide) (backOf (W := 0) (rm1 l Z a0 hw [] (9218868437227405311 : UInt64) h0 n0 (Nat.le_trans Z0 K.1) ) hZ (hw _ (List.mem_of_getElem? (i := 3) rfl)) (hw _ (List.mem_of_getElem? (i := 2) rfl)) (by decide) (by decide)) (g := (mkF m 237 #[.val (.int p0), .val (.int p1), .val (.long q2), .second, .val (.int (p0 &&& (7 : Int32))), .val (.double (9218868437227405311 : UInt64)), .second, .val (.int (1 : Int32)), .val (.int (p1 &&& (3 : Int32)))] [(.double (9218868437227405311 : UInt64))])) rfl (by rw [hml]; rfl) (argsL := [(.double (9218868437227405311 : UInt64))]) (rest := []) (lenOf pd_0 rfl) rfl (by show 2 * 0 + _ ≤ _; exact Nat.le_of_eq rfl) (hb hby at_237) (fun _ _ => ⟨rfl, eT, (by decide : 0 + 0 ≤ _), (by decide : 0 + 0 ≤ _)⟩)
                      dsimp only [Pt.U, Pt.locs, Pt.cells, Pt.slots] at X l_ y_ z_ st hQ
                      subst l_ y_ z_
                      obtain ⟨rfl, Nq, eh⟩ := hQ
                      have N := Fr.app N Nq
                      have eT := eh
                      refine Go.by st ?_
                      show Go p.tables e below (T.setTop (mkF m 240 #[.val (.int p0), .val (.int p1), .val (.long q2), .second, .val (.int (p0 &&& (7 : Int32))), .val (.double (9218868437227405311 : UInt64)), .second, .val (.int (1 : Int32)), .val (.int (p1 &&& (3 : Int32)))] [(.int (own_isp (9218868437227405311 : UInt64)))])) _
                      refine Go.by (fun tt_ kk_ => XS.iload X.here hx rfl (hb hby at_240) rfl kk_) ?_
                      show Go p.tables e below (T.setTop (mkF m 242 #[.val (.int p0), .val (.int p1), .val (.long q2), .second, .val (.int (p0 &&& (7 : Int32))), .val (.double (9218868437227405311 : UInt64)), .second, .val (.int (1 : Int32)), .val (.int (p1 &&& (3 : Int32)))] [(.int (1 : Int32)), (.int (own_isp (9218868437227405311 : UInt64)))])) _
                      refine Go.by (fun tt_ kk_ => XS.icmpNo X.here hx rfl (hb hby at_242) rfl (teq hz).2 kk_) ?_
                      show Go p.tables e below (T.setTop (mkF m 245 #[.val (.int p0), .val (.int p1), .val (.long q2), .second, .val (.int (p0 &&& (7 : Int32))), .val (.double (9218868437227405311 : UInt64)), .second, .val (.int (1 : Int32)), .val (.int (p1 &&& (3 : Int32)))] [])) _
                      refine Go.by (fun tt_ kk_ => XS.iconst X.here hx rfl (hb hby at_245) kk_) ?_
                      show Go p.tables e below (T.setTop (mkF m 246 #[.val (.int p0), .val (.int p1), .val (.long q2), .second, .val (.int (p0 &&& (7 : Int32))), .val (.double (9218868437227405311 : UInt64)), .second, .val (.int (1 : Int32)), .val (.int (p1 &&& (3 : Int32)))] [(.int (1 : Int32))])) _
                      refine Go.by (fun tt_ kk_ => XS.goto X.here hx rfl (pc0 := 246) (pc' := 250) rfl (hb hby at_246) (by decide) (by decide) kk_) ?_
                      show Go p.tables e below (T.setTop (mkF m 250 #[.val (.int p0), .val (.int p1), .val (.long q2), .second, .val (.int (p0 &&& (7 : Int32))), .val (.double (9218868437227405311 : UInt64)), .second, .val (.int (1 : Int32)), .val (.int (p1 &&& (3 : Int32)))] [(.int (1 : Int32))])) _
                      exact Go.done X  (v := some (.int (1 : Int32))) (fun h => by rw [Bd.returns] at h; cases h) Bd.notSynchronized (fun fs hr => retN X hx (z := (1 : Int32)) (t := .boolean) Bd.returns (by simp) (hb hby at_250) hr) (by rw [eT]; exact ⟨rfl, N⟩) (by decide) (by decide)
                    · refine Go.by (fun tt_ kk_ => XS.icmpYes X.here hx rfl (pc0 := 213) (pc' := 227) rfl (hb hby at_213) rfl (feq hc213).2 (by decide) (by decide) kk_) ?_
                      show Go p.tables e below (T.setTop (mkF m 227 #[.val (.int p0), .val (.int p1), .val (.long q2), .second, .val (.int (p0 &&& (7 : Int32))), .unset, .unset, .unset, .val (.int (p1 &&& (3 : Int32)))] [])) _
                      refine Go.by (X.ldc2DoubleC hx hown (mvT hZ (hw _ (List.mem_of_getElem? (i := 6) rfl))) (g := (mkF m 227 #[.val (.int p0), .val (.int p1), .val (.long q2), .second, .val (.int (p0 &&& (7 : Int32))), .unset, .unset, .unset, .val (.int (p1 &&& (3 : Int32)))] [])) rfl (hb hby at_227)) ?_
                      show Go p.tables e below (T.setTop (mkF m 230 #[.val (.int p0), .val (.int p1), .val (.long q2), .second, .val (.int (p0 &&& (7 : Int32))), .unset, .unset, .unset, .val (.int (p1 &&& (3 : Int32)))] [(.double (18442240474082181119 : UInt64))])) _
                      refine Go.by (fun tt_ kk_ => XS.dstore X.here hx rfl (hb hby at_230) rfl (l' := #[.val (.int p0), .val (.int p1), .val (.long q2), .second, .val (.int (p0 &&& (7 : Int32))), .val (.double (18442240474082181119 : UInt64)), .second, .unset, .val (.int (p1 &&& (3 : Int32)))]) rfl kk_) ?_
                      show Go p.tables e below (T.setTop (mkF m 232 #[.val (.int p0), .val (.int p1), .val (.long q2), .second, .val (.int (p0 &&& (7 : Int32))), .val (.double (18442240474082181119 : UInt64)), .second, .unset, .val (.int (p1 &&& (3 : Int32)))] [])) _
                      refine Go.by (fun tt_ kk_ => XS.iconst X.here hx rfl (hb hby at_232) kk_) ?_
                      show Go p.tables e below (T.setTop (mkF m 233 #[.val (.int p0), .val (.int p1), .val (.long q2), .second, .val (.int (p0 &&& (7 : Int32))), .val (.double (18442240474082181119 : UInt64)), .second, .unset, .val (.int (p1 &&& (3 : Int32)))] [(.int (0 : Int32))])) _
                      refine Go.by (fun tt_ kk_ => XS.istore X.here hx rfl (hb hby at_233) rfl (l' := #[.val (.int p0), .val (.int p1), .val (.long q2), .second, .val (.int (p0 &&& (7 : Int32))), .val (.double (18442240474082181119 : UInt64)), .second, .val (.int (0 : Int32)), .val (.int (p1 &&& (3 : Int32)))]) rfl kk_) ?_
                      show Go p.tables e below (T.setTop (mkF m 235 #[.val (.int p0), .val (.int p1), .val (.long q2), .second, .val (.int (p0 &&& (7 : Int32))), .val (.double (18442240474082181119 : UInt64)), .second, .val (.int (0 : Int32)), .val (.int (p1 &&& (3 : Int32)))] [])) _
                      refine Go.by (fun tt_ kk_ => XS.dload X.here hx rfl (hb hby at_235) rfl kk_) ?_
                      show Go p.tables e below (T.setTop (mkF m 237 #[.val (.int p0), .val (.int p1), .val (.long q2), .second, .val (.int (p0 &&& (7 : Int32))), .val (.double (18442240474082181119 : UInt64)), .second, .val (.int (0 : Int32)), .val (.int (p1 &&& (3 : Int32)))] [(.double (18442240474082181119 : UInt64))])) _
                      have hz : own_isp (18442240474082181119 : UInt64) = (0 : Int32) := (by decide +kernel)
                      obtain ⟨_, _, ⟨T, L_, k_, n_⟩, -, X, ⟨Lc_, hQ, l_, y_, z_⟩, st⟩ := Jvm.LawKit.callS X hx (y := (⟨"com/example/rootward/rootward/online/Timer", "isPeriod", "(D)Z"⟩ : MethodName)) hown (mvT hZ (hw _ (List.mem_of_getElem? (i := 0) rfl))) (mvT hZ (hw _ (List.mem_of_getElem? (i := 1) rfl))) (mvT hZ (hw _ (List.mem_of_getElem? (i := 2) rfl))) (mvT hZ (hw _ (List.mem_of_getElem? (i := 3) rfl))) (by decide) (backOf (W := 0) (rm1 l Z a0 hw [] (18442240474082181119 : UInt64) h0 n0 (Nat.le_trans Z0 K.1) ) hZ (hw _ (List.mem_of_getElem? (i := 3) rfl)) (hw _ (List.mem_of_getElem? (i := 2) rfl)) (by decide) (by decide)) (g := (mkF m 237 #[.val (.int p0), .val (.int p1), .val (.long q2), .second, .val (.int (p0 &&& (7 : Int32))), .val (.double (18442240474082181119 : UInt64)), .second, .val (.int (0 : Int32)), .val (.int (p1 &&& (3 : Int32)))] [(.double (18442240474082181119 : UInt64))])) rfl (by rw [hml]; rfl) (argsL := [(.double (18442240474082181119 : UInt64))]) (rest := []) (lenOf pd_0 rfl) rfl (by show 2 * 0 + _ ≤ _; exact Nat.le_of_eq rfl) (hb hby at_237) (fun _ _ => ⟨rfl, eT, (by decide : 0 + 0 ≤ _), (by decide : 0 + 0 ≤ _)⟩)
                      dsimp only [Pt.U, Pt.locs, Pt.cells, Pt.slots] at X l_ y_ z_ st hQ
                      subst l_ y_ z_
                      obtain ⟨rfl, Nq, eh⟩ := hQ
                      have N := Fr.app N Nq
                      have eT := eh
                      refine Go.by st ?_
                      show Go p.tables e below (T.setTop (mkF m 240 #[.val (.int p0), .val (.int p1), .val (.long q2), .second, .val (.int (p0 &&& (7 : Int32))), .val (.double (18442240474082181119 : UInt64)), .second, .val (.int (0 : Int32)), .val (.int (p1 &&& (3 : Int32)))] [(.int (own_isp (18442240474082181119 : UInt64)))])) _
                      refine Go.by (fun tt_ kk_ => XS.iload X.here hx rfl (hb hby at_240) rfl kk_) ?_
                      show Go p.tables e below (T.setTop (mkF m 242 #[.val (.int p0), .val (.int p1), .val (.long q2), .second, .val (.int (p0 &&& (7 : Int32))), .val (.double (18442240474082181119 : UInt64)), .second, .val (.int (0 : Int32)), .val (.int (p1 &&& (3 : Int32)))] [(.int (0 : Int32)), (.int (own_isp (18442240474082181119 : UInt64)))])) _
                      refine Go.by (fun tt_ kk_ => XS.icmpNo X.here hx rfl (hb hby at_242) rfl (teq hz).2 kk_) ?_
                      show Go p.tables e below (T.setTop (mkF m 245 #[.val (.int p0), .val (.int p1), .val (.long q2), .second, .val (.int (p0 &&& (7 : Int32))), .val (.double (18442240474082181119 : UInt64)), .second, .val (.int (0 : Int32)), .val (.int (p1 &&& (3 : Int32)))] [])) _
                      refine Go.by (fun tt_ kk_ => XS.iconst X.here hx rfl (hb hby at_245) kk_) ?_
                      show Go p.tables e below (T.setTop (mkF m 246 #[.val (.int p0), .val (.int p1), .val (.long q2), .second, .val (.int (p0 &&& (7 : Int32))), .val (.double (18442240474082181119 : UInt64)), .second, .val (.int (0 : Int32)), .val (.int (p1 &&& (3 : Int32)))] [(.int (1 : Int32))])) _
                      refine Go.by (fun tt_ kk_ => XS.goto X.here hx rfl (pc0 := 246) (pc' := 250) rfl (hb hby at_246) (by decide) (by decide) kk_) ?_
                      show Go p.tables e below (T.setTop (mkF m 250 #[.val (.int p0), .val (.int p1), .val (.long q2), .second, .val (.int (p0 &&& (7 : Int32))), .val (.double (18442240474082181119 : UInt64)), .second, .val (.int (0 : Int32)), .val (.int (p1 &&& (3 : Int32)))] [(.int (1 : Int32))])) _
                      exact Go.done X  (v := some (.int (1 : Int32))) (fun h => by rw [Bd.returns] at h; cases h) Bd.notSynchronized (fun fs hr => retN X hx (z := (1 : Int32)) (t := .boolean) Bd.returns (by simp) (hb hby at_250) hr) (by rw [eT]; exact ⟨rfl, N⟩) (by decide) (by decide)
set_option maxRecDepth 65536 in
set_option maxHeartbeats 40000000 in
theorem comes_1 {Post : Tables → Env → Array Value → State → Outcome → State → Prop} (hpost : ∀ tb e args s v u, (limb_1_1.after args s (.returned v) u = true ∧ limb_1_2.after args s (.returned v) u = true ∧ True) → FrameEnd s (.returned v) u (Jvm.fieldLocs frame_1_writes args s ++ Jvm.arrayLocs frame_1_arrays args s ++ Jvm.staticLocs frame_1_statics s) 0 0 → Post tb e args s (.returned v) u) :
    ArmFor flags0 classFile x code maxLocals ret World_1 tables_1 room_1 Calls_1 rest_1 Pre_1 Post := by
  intro l hfl _ _ p e ha hc hk s m args below hf hA hF happ hP
  obtain ⟨hcalls, hrest, hpre⟩ := hP
  obtain ⟨-, -, -, hnamed, -, -, -, hat⟩ := (Spec.applies_iff hf).mp happ
  obtain ⟨hg, hn⟩ := and_e (Cond.before_iff.mp (show (Jvm.Cond.and given_1 narrow_1).before args s = true from hpre))
  obtain ⟨hcount, hg⟩ := and_e hg
  obtain ⟨hv0, hg⟩ := and_e hg
  obtain ⟨hv1, hg⟩ := and_e hg
  have hv2 := hg
  obtain ⟨w0, w1, w2, rfl⟩ : ∃ w0 w1 w2 : Value, args = #[w0, w1, w2] := by
    have hs : args.size = 3 := by simpa [Cond.value, given_1] using hcount
    obtain ⟨L⟩ := args
    match L, hs with
    | [w0, w1, w2], _ => exact ⟨w0, w1, w2, rfl⟩
  have hw := fun d (hd : d ∈ tables_1) => atoms_spec (ws := Jvm.Cond.code x code maxLocals ret :: tables_1) hat d (List.mem_cons_of_mem _ hd)
  have hfit : Fit s := fun {y c} hc i hi => by
    obtain ⟨ha, rfl⟩ := Array.getElem?_eq_some_iff.mp hc
    have q := List.all_eq_true.mp ((Array.all_eq_true_iff_forall_mem.mp hF) _ (Array.getElem_mem ha)) i (List.mem_range.mpr hi)
    simpa [Array.getElem?_eq_getElem hi] using q
  obtain ⟨i0, ei0⟩ := is_v hv0
  obtain rfl : w0 = (.int i0) := Option.some.inj ei0
  obtain ⟨i1, ei1⟩ := is_v hv1
  obtain rfl : w1 = (.int i1) := Option.some.inj ei1
  obtain ⟨i2, ei2⟩ := isL_v hv2
  obtain rfl : w2 = (.long i2) := Option.some.inj ei2
  obtain ⟨n, o, h1, h2, h3, _, L, rfl, ⟨rfl, N⟩, hq⟩ := rm0 l s _ hw tables_1 i0 i1 i2  s.heap s.heap.size (Nat.le_refl _)  p e ha hc hk s m _ below hf ((Spec.applies_iff_loose hf).mp happ).1 ⟨rfl, State.Warmed39.refl s, rfl⟩ trivial
  refine ⟨n, _, h1, h2, h3, hpost _ _ _ _ _ _ ⟨Cond.after_iff.mpr rfl, Cond.after_iff.mpr (eq_i res_at (Term.int_eval (1)) rfl), trivial⟩ ⟨hq.1, hq.2.1, (hq.2.2.sift fun y hy => Or.inr (N y hy)).mono (by decide) (by decide)⟩⟩
theorem main_1_1 : Claimed_1_1 := comes_1 fun _ _ _ _ _ _ h hF => ⟨h.1, hF⟩
theorem main_1_2 : Claimed_1_2 := comes_1 fun _ _ _ _ _ _ h hF => ⟨h.2.1, hF⟩
end Jvm.Pilot.@@N@@
namespace Jvm.Pilot.@@N@@
open Jvm Jvm.ClassFile Sem Op Lib Jvm.Free Jvm.Stand Jvm.Pilot.@@N@@.Jvm.D
/-! MADE BY PROGRAM (witnessworld.py) out of the Statement's table words and the real class files: 10 classes; the members and pool entries that the words name. The judged class is class 1, her method 1. -/
namespace start1
open Jvm.ClassFile
def u (s : String) : CpInfo := .utf8 (stringToUtf16 s)
/-- a pool by its gaps: so many unusable entries, then the entry; so many at the end -/
def gap : Nat → List CpInfo → List CpInfo
  | 0, r => r
  | n + 1, r => .unusable :: gap n r
def poolList (es : List (Nat × CpInfo)) (last : Nat) : List CpInfo := es.foldr (fun e r => gap e.1 (e.2 :: r)) (gap last [])
def pool (es : List (Nat × CpInfo)) (last : Nat) : Array CpInfo := ⟨poolList es last⟩
def fileOf (pool : Array CpInfo) (this : Nat) (attrs : Array Attribute := #[]) (ms : Array MethodInfo := #[]) (fl : Nat := 33) (sup : Nat := 0) (ifs : Array Nat := #[]) (fds : Array FieldInfo := #[]) : ClassFile where
  minorVersion := 0
  majorVersion := 65
  constantPool := pool
  accessFlags := fl
  thisClass := this
  superClass := sup
  interfaces := ifs
  fields := fds
  methods := ms
  attributes := attrs
def plain (name : String) (sup : Option ClassId) : Class where
  name := name
  kind := .ordinary
  loader := none
  accessFlags := 33
  super := sup
  interfaces := #[]
  cf := none
  fields := #[]
  methods := #[]
  instanceTypes := #[]
  staticTypes := #[]
  resolved := #[]
  callSites := []
  init := .initialized
  statics := none
  mirror := none

def pool0 : Array CpInfo := pool [(5, u "<init>"), (0, u "()V"), (1, .class_ 10), (1, u "java/lang/Object")] 113

def k0m0 : Method := { name := "<init>", desc := "()V", sig := { parameters := [], returnType := none }, accessFlags := 1, code := none }
/-- java/lang/Object -/
def k0 : Class := { plain "java/lang/Object" none with
  accessFlags := 33
  interfaces := #[]
  cf := some (fileOf pool0 8 #[] #[{ accessFlags := 1, nameIndex := 5, descriptorIndex := 6, attributes := #[] }] 33 0 #[] #[])
  fields := #[]
  methods := #[k0m0]
  instanceTypes := #[]
  staticTypes := #[]
  resolved := Array.replicate 124 none
  statics := none }

def pool1 : Array CpInfo := pool [(2, .class_ 4), (1, u "java/lang/Object"), (0, u "<init>"), (0, u "()V"), (0, .double 4652218415073722368), (1, .double 1), (1, .double 8945421882333202015), (1, .double 9218868437227405312), (1, .double 18442240474082181120), (1, .double 9223372036854775808), (1, .double 9218868437227405311), (1, .double 18442240474082181119), (1, .methodref 24 25), (0, .class_ 26), (0, .nameAndType 27 28), (0, u "com/example/rootward/rootward/online/Timer"), (0, u "isPeriod"), (0, u "(D)Z"), (0, .class_ 30), (0, u "com/example/rootward/rootward/online/TimerIsPeriodPinLaw"), (2, u "law"), (0, u "(IIJ)Z")] 3

def k1m0 : Method := { name := "<init>", desc := "()V", sig := { parameters := [], returnType := none }, accessFlags := 2, code := none }
def k1c1 : Code := { maxStack := 4, maxLocals := 9, code := code, exceptionTable := #[], attributes := #[] }
def k1m1 : Method := { name := "law", desc := "(IIJ)Z", sig := { parameters := [.int, .int, .long], returnType := some .boolean }, accessFlags := 9, code := some k1c1 }
/-- com/example/rootward/rootward/online/TimerIsPeriodPinLaw -/
def k1 : Class := { plain "com/example/rootward/rootward/online/TimerIsPeriodPinLaw" (some 0) with
  accessFlags := 49
  interfaces := #[]
  cf := some (fileOf pool1 29 #[] #[{ accessFlags := 2, nameIndex := 5, descriptorIndex := 6, attributes := #[] }, { accessFlags := 9, nameIndex := 33, descriptorIndex := 34, attributes := #[] }] 49 2 #[] #[])
  fields := #[]
  methods := #[k1m0, k1m1]
  instanceTypes := #[]
  staticTypes := #[]
  resolved := Array.replicate 38 none
  statics := none }

def pool2 : Array CpInfo := pool [(1, .class_ 2), (0, u "com/example/rootward/rootward/online/Policy"), (0, .class_ 4), (0, u "java/lang/Object")] 12

/-- com/example/rootward/rootward/online/Policy -/
def k2 : Class := { plain "com/example/rootward/rootward/online/Policy" (some 0) with
  accessFlags := 1537
  interfaces := #[]
  cf := some (fileOf pool2 1 #[] #[] 1537 3 #[] #[])
  fields := #[]
  methods := #[]
  instanceTypes := #[]
  staticTypes := #[]
  resolved := Array.replicate 17 none
  statics := none }

def pool3 : Array CpInfo := pool [(2, .class_ 4), (1, u "java/lang/Object"), (4, .double 9218868437227405312), (2, .class_ 14), (1, u "com/example/rootward/rootward/online/Timer"), (0, u "fires"), (0, u "D"), (2, u "isPeriod"), (0, u "(D)Z"), (17, u "period"), (0, u "Ljava/math/BigDecimal;"), (27, .class_ 68), (0, u "com/example/rootward/rootward/online/Policy")] 25

def k3c0 : Code := { maxStack := 4, maxLocals := 2, code := prog_69_method_2_code, exceptionTable := #[], attributes := #[] }
def k3m0 : Method := { name := "isPeriod", desc := "(D)Z", sig := { parameters := [.double], returnType := some .boolean }, accessFlags := 9, code := some k3c0 }
/-- com/example/rootward/rootward/online/Timer -/
def k3 : Class := { plain "com/example/rootward/rootward/online/Timer" (some 0) with
  accessFlags := 49
  interfaces := #[2]
  cf := some (fileOf pool3 12 #[] #[{ accessFlags := 9, nameIndex := 19, descriptorIndex := 20, attributes := #[] }] 49 2 #[67] #[{ accessFlags := 18, nameIndex := 38, descriptorIndex := 39, attributes := #[] }, { accessFlags := 2, nameIndex := 15, descriptorIndex := 16, attributes := #[] }])
  fields := #[{ name := "period", type := (.object "java/math/BigDecimal"), accessFlags := 18, slot := 0, constantValue := 0 }, { name := "fires", type := .double, accessFlags := 2, slot := 1, constantValue := 0 }]
  methods := #[k3m0]
  instanceTypes := #[(.object "java/math/BigDecimal"), .double]
  staticTypes := #[]
  resolved := Array.replicate 94 none
  statics := none }

def pool4 : Array CpInfo := pool [(1, u "java/lang/Cloneable"), (0, .class_ 1), (0, u "java/lang/Object"), (0, .class_ 3)] 3

/-- java/lang/Cloneable -/
def k4 : Class := { plain "java/lang/Cloneable" (some 0) with
  accessFlags := 1537
  interfaces := #[]
  cf := some (fileOf pool4 2 #[] #[] 1537 4 #[] #[])
  fields := #[]
  methods := #[]
  instanceTypes := #[]
  staticTypes := #[]
  resolved := Array.replicate 8 none
  statics := none }

def pool5 : Array CpInfo := pool [(1, u "java/io/Serializable"), (0, .class_ 1), (0, u "java/lang/Object"), (0, .class_ 3)] 3

/-- java/io/Serializable -/
def k5 : Class := { plain "java/io/Serializable" (some 0) with
  accessFlags := 1537
  interfaces := #[]
  cf := some (fileOf pool5 2 #[] #[] 1537 4 #[] #[])
  fields := #[]
  methods := #[]
  instanceTypes := #[]
  staticTypes := #[]
  resolved := Array.replicate 8 none
  statics := none }

/-- the primitive byte -/
def k6 : Class := { plain "byte" none with kind := .primitive 'B', accessFlags := 0x411 }
/-- [B -/
def k7 : Class := { plain "[B" (some 0) with kind := .array 6 .byte, interfaces := #[4, 5], accessFlags := 1041 }

/-- the primitive int -/
def k8 : Class := { plain "int" none with kind := .primitive 'I', accessFlags := 0x411 }
/-- [I -/
def k9 : Class := { plain "[I" (some 0) with kind := .array 8 .int, interfaces := #[4, 5], accessFlags := 1041 }

def heap : Heap := #[]
def classes : Array Class := #[k0, k1, k2, k3, k4, k5, k6, k7, k8, k9]
def interned : List (Array UInt16 × Addr) := []
def slotsUsed : Nat := 0
def theMethod : MethodId := ⟨1, 1⟩
def args0 : Array Value := #[.int 0, .int 5, .long 9]
def aboutOver (below : List Frame) : State where
  vm := { classes := classes, interned := interned.toArray }
  heap := heap
  slotsUsed := slotsUsed
  threads := #[{ frames := .invoking theMethod args0 :: below }]
def below0 : List Frame := [.native { method := ⟨0, 0⟩, args := #[] }]
def about1 : State := aboutOver below0
def p0 : Program := .bare "" "" ""
def e0 : Env := launch0.env 0 0 0
theorem w_frames : about1.frames = Frame.invoking theMethod args0 :: below0 := rfl
set_option maxRecDepth 65536 in
theorem w_args : argsFit about1.vm theMethod args0 = true := by decide +kernel
set_option maxRecDepth 65536 in
theorem w_heap : heapFits about1 = true := by decide +kernel
set_option maxRecDepth 65536 in
theorem w_runnable : about1.curStatus? = some .runnable := by decide +kernel
set_option maxRecDepth 65536 in
theorem w_alone : about1.alone = true := by decide +kernel
set_option maxRecDepth 65536 in
theorem w_named : about1.methodNamed? x = some theMethod := by decide +kernel
set_option maxRecDepth 65536 in
theorem w_hears : about1.hears theMethod below0 = true := by decide +kernel
set_option maxRecDepth 65536 in
theorem w_ripe : about1.ripe theMethod args0 below0 = true := by decide +kernel
theorem w_running : about1.status = .running := rfl
set_option maxRecDepth 65536 in
theorem w_room : about1.hasRoom e0.platform room_1 = true :=
  launch0.hasRoom_least _ room_1 (by decide +kernel) (by decide +kernel) (by decide +kernel) (by decide +kernel) (by decide +kernel) (by decide +kernel)
theorem allAtoms_all (ts : List Jvm.Cond) (a : Array Jvm.Value) (st : Jvm.State) : (allAtoms ts).before a st = ts.all (fun c => c.before a st) := by
  induction ts with
  | nil => rfl
  | cons c t ih =>
    show (Jvm.Cond.and c (allAtoms t)).before a st = _
    rw [Jvm.Cond.before_and, ih, List.all_cons]
def words1 : List Jvm.Cond := Jvm.Cond.code x code maxLocals ret :: tables_1
/-- a 'code' word, met by the world's own term for the bytes: nothing is compared byte by byte -/
theorem code_word {y : MethodName} {bytes : ByteArray} {mx : Nat} {rt : Option FieldType} {a : Array Value} {s : State} {m : MethodId} {meth : Method} {c : Code} (h1 : s.methodNamed? y = some m) (h2 : s.vm.method? m = some meth) (h3 : meth.code = some c) (h4 : c.code = bytes)
    (h5 : (c.maxLocals == mx && c.exceptionTable.isEmpty && decide (c.maxStack ≤ mostOperands) && decide (meth.sig.returnType = rt) && !meth.locks && decide (parseMethodDescriptor y.desc = some meth.sig)) = true) : (Jvm.Cond.code y bytes mx rt).before a s = true := by
  simp only [Bool.and_eq_true, beq_iff_eq, Bool.not_eq_true', decide_eq_true_eq] at h5
  obtain ⟨⟨⟨⟨⟨g1, g2⟩, g3⟩, g4⟩, g5⟩, g6⟩ := h5
  simp [Cond.before, Cond.holds, Cond.value, h1, h2, h3, h4, g1, g2, g3, g4, g5, g6]
def isCode : Jvm.Cond → Bool
  | .code _ _ _ _ => true
  | _ => false
theorem all_split {L : List Jvm.Cond} {P : Jvm.Cond → Bool} (h1 : L.all (fun c => isCode c || P c) = true) (h2 : ∀ c ∈ L.filter isCode, P c = true) : L.all P = true := by
  refine List.all_eq_true.mpr fun c hc => ?_
  have h := List.all_eq_true.mp h1 c hc
  rcases Bool.eq_false_or_eq_true (isCode c) with hi | hi
  · exact h2 c (List.mem_filter.mpr ⟨hc, hi⟩)
  · simpa [hi] using h
set_option maxRecDepth 65536 in
theorem w_c0 : (Jvm.Cond.code x code maxLocals ret).before args0 about1 = true := code_word (m := ⟨1, 1⟩) (meth := k1m1) (c := k1c1) (by decide +kernel) rfl rfl rfl (by decide +kernel)
set_option maxRecDepth 65536 in
theorem w_c1 : (Jvm.Cond.code ({ cls := "com/example/rootward/rootward/online/Timer", name := "isPeriod", desc := "(D)Z" } : Jvm.MethodName) prog_69_method_2_code (2 : Nat) (Option.some Jvm.ClassFile.FieldType.boolean)).before args0 about1 = true := code_word (m := ⟨3, 0⟩) (meth := k3m0) (c := k3c0) (by decide +kernel) rfl rfl rfl (by decide +kernel)
def codes1 : List Jvm.Cond := [Jvm.Cond.code x code maxLocals ret, Jvm.Cond.code ({ cls := "com/example/rootward/rootward/online/Timer", name := "isPeriod", desc := "(D)Z" } : Jvm.MethodName) prog_69_method_2_code (2 : Nat) (Option.some Jvm.ClassFile.FieldType.boolean)]
set_option maxRecDepth 65536 in
theorem codes_eq : words1.filter isCode = codes1 := rfl
theorem w_codes : ∀ c ∈ words1.filter isCode, c.before args0 about1 = true := by
  rw [codes_eq]
  intro c hc
  simp only [codes1, List.mem_cons, List.not_mem_nil, or_false] at hc
  rcases hc with rfl | rfl
  · exact w_c0
  · exact w_c1
set_option maxRecDepth 65536 in
theorem w_t1 : words1.all (fun c => isCode c || c.before args0 about1) = true := by decide +kernel
theorem w_tables : (allAtoms (Jvm.Cond.code x code maxLocals ret :: tables_1)).before args0 about1 = true := by
  rw [allAtoms_all]
  show words1.all (fun c => c.before args0 about1) = true
  refine all_split ?_ w_codes
  rw [w_t1]
set_option maxRecDepth 65536 in
theorem w_case : (Jvm.Cond.and given_1 narrow_1).before args0 about1 = true := by decide +kernel
theorem w_applies : (headSpec (Jvm.Cond.code x code maxLocals ret :: tables_1) room_1).applies x e0.platform about1 = true :=
  (Spec.applies_iff w_frames).mpr ⟨w_running, w_runnable, w_alone, w_named, w_hears, w_ripe, w_room, w_tables⟩
theorem atStart : AtStart classFile x code maxLocals ret World_1 tables_1 room_1 Calls_1 rest_1 Pre_1 launch0 p0 e0 about1 theMethod args0 below0 :=
  ⟨lists_1, trivial, launch0.admits_env _ _ _, launch0.least_env, fairChoices_fair.cas, fairChoices_fair.clock, w_frames, w_args, w_heap, w_applies, trivial, trivial, w_case⟩
end start1
theorem witness_1 : WitnessClaimed_1 := ⟨start1.p0, start1.e0, start1.about1, start1.theMethod, start1.args0, start1.below0, start1.atStart⟩
end Jvm.Pilot.@@N@@
