import JvmDerived
import JvmDerived.Pilot.@@N@@Statement
import JvmDerived.Pilot.@@N@@Code
set_option linter.unusedVariables false
set_option linter.unusedSimpArgs false
namespace Jvm.OwnGo
open Jvm Sem ClassFile Op Lib Jvm.Stand Jvm.Free Jvm.LawKit Jvm.RoadKit
/-- from A the run comes to a state of which K is said -/
def Go (tb : Tables) (e : Env) (below : List Frame) (A : State) (K : State → Prop) : Prop := ∃ u, Steps tb e below A u ∧ K u
theorem Go.by {tb : Tables} {e : Env} {below : List Frame} {A B : State} {K : State → Prop} (h : ∀ t, Steps tb e below B t → Steps tb e below A t) (g : Go tb e below B K) : Go tb e below A K := by
  obtain ⟨u, s, k⟩ := g
  exact ⟨u, h u s, k⟩
theorem Go.tr {tb : Tables} {e : Env} {below : List Frame} {A B : State} {K : State → Prop} (h : Steps tb e below A B) (g : Go tb e below B K) : Go tb e below A K := by
  obtain ⟨u, s, k⟩ := g
  exact ⟨u, h.trans s, k⟩
theorem Go.out {tb : Tables} {e : Env} {below : List Frame} {A : State} {P : State → Outcome → Prop} (g : Go tb e below A (fun u => ∃ o, P u o)) : ∃ u o, Steps tb e below A u ∧ P u o := by
  obtain ⟨u, s, o, k⟩ := g
  exact ⟨u, o, s, k⟩
theorem Go.done {p : Program} {l : Launch} {e : Env} {R : Room} {s : State} {m : MethodId} {args : Array Value} {below : List Frame} {meth : Method} {c : Code} {T : State} {locs : List Loc} {cells slots C D : Nat}
    (X : Stand p l e R s m args below meth c T locs cells slots) {v : Option Value} (hv : meth.sig.returnType = none → v = none) (hlocks : meth.locks = false) {A : State}
    (hst : ∀ fs, (∀ (f : JFrame) (acts : List Action), f.method = m → f.locked = none → f.entered = [] → (doReturn e (T.setTop f) acts v).1 = T.setFrames fs) → Steps p.tables e below A (T.setFrames fs))
    {Q : Option Value → Heap → List Loc → Prop} (hq : Q v T.heap locs) (hc : cells ≤ C) (hs : slots ≤ D) :
    Go p.tables e below A (fun u => ∃ o, u.status = .running ∧ Ended u below o ∧ ∃ v L, o = .returned v ∧ Q v u.heap L ∧ FrameEnd s o u L C D) := by
  obtain ⟨fs, hr, hrun, hended, hW, hsame⟩ := X.leave hv hlocks
  exact ⟨_, hst fs hr, _, hrun, hended, _, _, rfl, hq, ⟨_, rfl⟩, hW, hsame.mono hc hs⟩
theorem Go.doneW {p : Program} {l : Launch} {e : Env} {R : Room} {s : State} {m : MethodId} {args : Array Value} {below : List Frame} {meth : Method} {c : Code} {T : State} {locs : List Loc} {cells slots C D : Nat} {vm1 : Vm}
    (X : Stand p l e R (s.setVm vm1) m args below meth c T locs cells slots) {n : Nat} (hS : s.Since vm1 n) (hn : n ≤ T.heap.size) {v : Option Value} (hv : meth.sig.returnType = none → v = none) (hlocks : meth.locks = false) {A : State}
    (hst : ∀ fs, (∀ (f : JFrame) (acts : List Action), f.method = m → f.locked = none → f.entered = [] → (doReturn e (T.setTop f) acts v).1 = T.setFrames fs) → Steps p.tables e below A (T.setFrames fs))
    {Q : Option Value → Heap → List Loc → Prop} (hq : Q v T.heap locs) (hc : cells ≤ C) (hs : slots ≤ D) :
    Go p.tables e below A (fun u => ∃ o, u.status = .running ∧ Ended u below o ∧ ∃ v L, o = .returned v ∧ Q v u.heap L ∧ ReturnedEndW s o u L C D) := by
  obtain ⟨fs, hr, hrun, hended, h1, h2, h3, h4⟩ := X.leaveW hS hn hv hlocks
  exact ⟨_, hst fs hr, _, hrun, hended, _, _, rfl, hq, h1, h2, h3, h4.mono hc hs⟩
end Jvm.OwnGo
namespace Jvm.OwnFp
open Jvm.FP Jvm.FP.Core Jvm.Free.Fl
/-- the double a is i * 2^e -/
def Dy (i e : Int) (a : UInt64) : Prop := ∃ s c q, val64 a = .fin s c q ∧ Whole i (.fin s c (q - e))
theorem own_const {i e : Int} {a : UInt64} (s : Bool) (c : Nat) (q : Int) (h1 : val64 a = .fin s c q) (h2 : signed s (c * 2 ^ (q - e).toNat) = i * ((2 ^ (-(q - e)).toNat : Nat) : Int)) : Dy i e a := ⟨s, c, q, h1, h2⟩
theorem Dy.noNaN {i e : Int} {a : UInt64} (h : Dy i e a) : NoNaN64 a := by
  obtain ⟨s, c, q, h1, -⟩ := h
  exact val64_no.mpr (by rw [h1]; exact fun q => nomatch q)
theorem Dy.fin {i e : Int} {a : UInt64} (h : Dy i e a) : Fin64 a := by
  obtain ⟨s, c, q, h1, -⟩ := h
  exact fin64_core.mpr ⟨s, c, q, h1⟩
theorem own_fit (s : Bool) {n : Nat} (hn : n ≤ 9007199254740992) {e : Int} (h1 : -1074 ≤ e) (h2 : e ≤ 900) :
    ∃ c q, Core.fits b64 (.fin s c q) ∧ n * 2 ^ (e - q).toNat = c * 1 * 2 ^ (q - e).toNat := by
  have e1 : b64.qmin = -1074 := qmin_b64
  have e2 : b64.qmax = 971 := by decide
  have e3 : b64.tails = 2 ^ 52 := tails_b64
  have e4 : b64.p = 53 := rfl
  have k53 : (9007199254740992 : Nat) = 2 ^ 53 := by decide
  by_cases h0 : n = 0
  · subst h0
    exact ⟨0, b64.qmin, zero_fits good_b64 s, by simp⟩
  by_cases hp : n = 9007199254740992
  · refine ⟨2 ^ 52, e + 1, ⟨by rw [e4]; decide, by rw [e1]; omega, by rw [e2]; omega, Or.inr (by rw [e3]; exact Nat.le_refl _)⟩, ?_⟩
    rw [show (e - (e + 1)).toNat = 0 by omega, show (e + 1 - e).toNat = 1 by omega, hp]
  · have l1 : 2 ^ n.log2 ≤ n := Nat.log2_self_le h0
    have l2 : n < 2 ^ (n.log2 + 1) := Nat.lt_log2_self
    have l3 : n.log2 < 53 := (Nat.pow_lt_pow_iff_right (by decide : 1 < 2)).mp (Nat.lt_of_le_of_lt l1 (by omega))
    generalize n.log2 = L at l1 l2 l3
    by_cases hq : -1074 ≤ e - (52 - (L : Int))
    · refine ⟨n * 2 ^ (52 - L), e - (52 - (L : Int)), ⟨?_, by rw [e1]; omega, by rw [e2]; omega, Or.inr ?_⟩, ?_⟩
      · rw [e4]
        calc n * 2 ^ (52 - L) < 2 ^ (L + 1) * 2 ^ (52 - L) := Nat.mul_lt_mul_of_pos_right l2 (Nat.two_pow_pos _)
          _ = 2 ^ 53 := by rw [← Nat.pow_add]; congr 1; omega
      · rw [e3]
        calc 2 ^ 52 = 2 ^ L * 2 ^ (52 - L) := by rw [← Nat.pow_add]; congr 1; omega
          _ ≤ n * 2 ^ (52 - L) := Nat.mul_le_mul_right _ l1
      · rw [show (e - (e - (52 - (L : Int)))).toNat = 52 - L by omega, show (e - (52 - (L : Int)) - e).toNat = 0 by omega]
        simp
    · refine ⟨n * 2 ^ (e + 1074).toNat, -1074, ⟨?_, by rw [e1]; omega, by rw [e2]; omega, Or.inl e1.symm⟩, ?_⟩
      · rw [e4]
        calc n * 2 ^ (e + 1074).toNat < 2 ^ (L + 1) * 2 ^ (e + 1074).toNat := Nat.mul_lt_mul_of_pos_right l2 (Nat.two_pow_pos _)
          _ = 2 ^ (L + 1 + (e + 1074).toNat) := by rw [← Nat.pow_add]
          _ ≤ 2 ^ 53 := Nat.pow_le_pow_right (by decide) (by omega)
      · rw [show (e - -1074).toNat = (e + 1074).toNat by omega, show (-1074 - e).toNat = 0 by omega]
        simp
theorem own_sg {i : Int} {s : Bool} {c : Nat} {q : Int} (h : Whole i (.fin s c q)) : signed s i.natAbs = i := by
  by_cases hi : i = 0
  · rw [hi]; exact signed_zero s
  · rw [whole_sign h hi]
    unfold signed
    by_cases z : i < 0
    · simp only [z, decide_true, if_true]; omega
    · simp only [z, decide_false]; simp; omega
theorem own_whole {i e : Int} {s : Bool} {c : Nat} {q : Int} (hs : signed s i.natAbs = i) (h : i.natAbs * 2 ^ (e - q).toNat = c * 1 * 2 ^ (q - e).toNat) : Whole i (.fin s c (q - e)) := by
  show signed s (c * 2 ^ (q - e).toNat) = i * ((2 ^ (-(q - e)).toNat : Nat) : Int)
  rw [Nat.mul_one] at h
  rw [← h, signed_mul, hs, show -(q - e) = e - q by omega]
/-- a ratio that is i * 2^e -/
theorem own_ratio {i e : Int} {s : Bool} (hs : signed s i.natAbs = i) (hi : i.natAbs ≤ 9007199254740992) (h1 : -1074 ≤ e) (h2 : e ≤ 900) :
    ∃ c q, roundRatio b64 s i.natAbs 1 e = .fin s c q ∧ Whole i (.fin s c (q - e)) := by
  obtain ⟨c, q, hf, h⟩ := own_fit s hi h1 h2
  exact ⟨c, q, roundRatio_exact good_b64 Nat.one_pos hf h, own_whole hs h⟩
theorem own_round {i e : Int} {s : Bool} {c : Nat} {q : Int} (h : Whole i (.fin s c (q - e))) (hi : i.natAbs ≤ 9007199254740992) (h1 : -1074 ≤ e) (h2 : e ≤ 900) :
    ∃ s' c' q', Core.round b64 (.fin s c q) = .fin s' c' q' ∧ Whole i (.fin s' c' (q' - e)) := by
  obtain ⟨c', q', r1, r2⟩ := own_ratio (own_sg h) hi h1 h2
  refine ⟨s, c', q', ?_, r2⟩
  have w := whole_natAbs h
  show roundRatio b64 s c 1 q = _
  rw [← r1]
  refine roundRatio_congr Nat.one_pos Nat.one_pos ?_
  rw [Nat.mul_one, Nat.mul_one, w, show -(q - e) = e - q by omega]
theorem Dy.add {i j e : Int} {a b : UInt64} (ha : Dy i e a) (hb : Dy j e b) (hi : (i + j).natAbs ≤ 9007199254740992) (h1 : -1074 ≤ e) (h2 : e ≤ 900) : Dy (i + j) e (FP.dadd a b) := by
  obtain ⟨s, c, q, a1, a2⟩ := ha
  obtain ⟨t, d, r, b1, b2⟩ := hb
  have w := whole_sum a2 b2
  have hm : min (q - e) (r - e) = min q r - e := by omega
  have hV : sumUnits s c (q - e) t d (r - e) (min q r - e) = sumUnits s c q t d r (min q r) := by
    unfold sumUnits inUnits
    rw [show q - e - (min q r - e) = q - min q r by omega, show r - e - (min q r - e) = r - min q r by omega]
  simp only [exactSum] at w
  rw [hm, hV] at w
  obtain ⟨s', c', q', r1, r2⟩ := own_round w hi h1 h2
  exact ⟨s', c', q', by rw [val64_dadd, a1, b1]; exact r1, r2⟩
theorem Dy.sub {i j e : Int} {a b : UInt64} (ha : Dy i e a) (hb : Dy j e b) (hi : (i - j).natAbs ≤ 9007199254740992) (h1 : -1074 ≤ e) (h2 : e ≤ 900) : Dy (i - j) e (FP.dsub a b) := by
  obtain ⟨s, c, q, a1, a2⟩ := ha
  obtain ⟨t, d, r, b1, b2⟩ := hb
  have w := whole_sum a2 (whole_negate b2)
  have hm : min (q - e) (r - e) = min q r - e := by omega
  have hV : sumUnits s c (q - e) (!t) d (r - e) (min q r - e) = sumUnits s c q (!t) d r (min q r) := by
    unfold sumUnits inUnits
    rw [show q - e - (min q r - e) = q - min q r by omega, show r - e - (min q r - e) = r - min q r by omega]
  simp only [negate, exactSum] at w
  rw [hm, hV] at w
  obtain ⟨s', c', q', r1, r2⟩ := own_round w hi h1 h2
  exact ⟨s', c', q', by rw [val64_dsub, a1, b1]; exact r1, r2⟩
theorem Dy.mul {i j e g : Int} {a b : UInt64} (ha : Dy i e a) (hb : Dy j g b) (hi : (i * j).natAbs ≤ 9007199254740992) (h1 : -1074 ≤ e + g) (h2 : e + g ≤ 900) : Dy (i * j) (e + g) (FP.dmul a b) := by
  obtain ⟨s, c, q, a1, a2⟩ := ha
  obtain ⟨t, d, r, b1, b2⟩ := hb
  have w := whole_product a2 b2
  simp only [exactProduct] at w
  rw [show q - e + (r - g) = q + r - (e + g) by omega] at w
  obtain ⟨s', c', q', r1, r2⟩ := own_round w hi h1 h2
  exact ⟨s', c', q', by rw [val64_dmul, a1, b1]; exact r1, r2⟩
/-- an exact quotient -/
theorem Dy.div {k j e g : Int} {a b : UInt64} (ha : Dy (k * j) e a) (hb : Dy j g b) (hj : j ≠ 0) (hi : k.natAbs ≤ 9007199254740992) (h1 : -1074 ≤ e - g) (h2 : e - g ≤ 900) : Dy k (e - g) (FP.ddiv a b) := by
  obtain ⟨s, c, q, a1, a2⟩ := ha
  obtain ⟨t, d, r, b1, b2⟩ := hb
  have wa := whole_natAbs a2
  have wb := whole_natAbs b2
  have hd : d ≠ 0 := fun z => hj ((whole_zero b2).mp z)
  have hs : signed (s != t) k.natAbs = k := by
    by_cases hk : k = 0
    · rw [hk]; exact signed_zero _
    · have s1 := whole_sign a2 (Int.mul_ne_zero hk hj)
      have s2 := whole_sign b2 hj
      rw [s1, s2]
      unfold signed
      rcases Int.lt_or_gt_of_ne hk with z | z <;> rcases Int.lt_or_gt_of_ne hj with y | y
      · have := Int.mul_pos_of_neg_of_neg z y
        simp [show ¬ k * j < 0 by omega, y]; omega
      · have := Int.mul_neg_of_neg_of_pos z y
        simp [this, show ¬ j < 0 by omega]; omega
      · have := Int.mul_neg_of_pos_of_neg z y
        simp [this, y]; omega
      · have := Int.mul_pos z y
        simp [show ¬ k * j < 0 by omega, show ¬ j < 0 by omega]; omega
  obtain ⟨c', q', r1, r2⟩ := own_ratio hs hi h1 h2
  refine ⟨_, c', q', ?_, r2⟩
  rw [val64_ddiv, a1, b1]
  show (if d = 0 then _ else roundRatio b64 (s != t) c d (q - r)) = _
  rw [if_neg hd, ← r1]
  refine roundRatio_congr (Nat.pos_of_ne_zero hd) Nat.one_pos ?_
  rw [Nat.mul_one]
  rw [Int.natAbs_mul] at wa
  -- c * 2^(q-e)+ = |k| |j| 2^(q-e)- , d * 2^(r-g)+ = |j| 2^(r-g)-
  have hj' : 0 < j.natAbs := by omega
  apply Nat.eq_of_mul_eq_mul_right (Nat.mul_pos hj' (Nat.mul_pos (Nat.two_pow_pos (q - e).toNat) (Nat.two_pow_pos (-(r - g)).toNat)))
  calc c * 2 ^ (q - r - (e - g)).toNat * (j.natAbs * (2 ^ (q - e).toNat * 2 ^ (-(r - g)).toNat))
      = (c * 2 ^ (q - e).toNat) * (j.natAbs * 2 ^ (-(r - g)).toNat) * 2 ^ (q - r - (e - g)).toNat := by ac_rfl
    _ = (k.natAbs * j.natAbs * 2 ^ (-(q - e)).toNat) * (d * 2 ^ (r - g).toNat) * 2 ^ (q - r - (e - g)).toNat := by rw [wa, wb]
    _ = k.natAbs * d * j.natAbs * 2 ^ ((-(q - e)).toNat + (r - g).toNat + (q - r - (e - g)).toNat) := by rw [Nat.pow_add, Nat.pow_add]; ac_rfl
    _ = k.natAbs * d * j.natAbs * 2 ^ ((e - g - (q - r)).toNat + (q - e).toNat + (-(r - g)).toNat) := by congr 2; omega
    _ = k.natAbs * d * 2 ^ (e - g - (q - r)).toNat * (j.natAbs * (2 ^ (q - e).toNat * 2 ^ (-(r - g)).toNat)) := by rw [Nat.pow_add, Nat.pow_add]; ac_rfl
theorem Dy.scale {i e : Int} {a : UInt64} (h : Dy i e a) (k : Nat) : Dy (i * 2 ^ k) (e - k) a := by
  obtain ⟨s, c, q, a1, a2⟩ := h
  refine ⟨s, c, q, a1, ?_⟩
  have w : signed s (c * 2 ^ (q - e).toNat) = i * ((2 ^ (-(q - e)).toNat : Nat) : Int) := a2
  show signed s (c * 2 ^ (q - (e - k)).toNat) = i * 2 ^ k * ((2 ^ (-(q - (e - k))).toNat : Nat) : Int)
  have p2 : ((2 ^ ((-(q - e)).toNat) : Nat) : Int) ≠ 0 := by
    have := Nat.two_pow_pos ((-(q - e)).toNat); omega
  refine Int.eq_of_mul_eq_mul_right p2 ?_
  have hx : (q - (e - k)).toNat + (-(q - e)).toNat = (q - e).toNat + (k + (-(q - (e - k))).toNat) := by omega
  calc signed s (c * 2 ^ (q - (e - k)).toNat) * ((2 ^ ((-(q - e)).toNat) : Nat) : Int)
      = signed s (c * 2 ^ ((q - (e - k)).toNat + (-(q - e)).toNat)) := by rw [← signed_mul, Nat.pow_add, Nat.mul_assoc]
    _ = signed s (c * 2 ^ (q - e).toNat * 2 ^ (k + (-(q - (e - k))).toNat)) := by rw [hx, Nat.pow_add, Nat.mul_assoc]
    _ = i * ((2 ^ (-(q - e)).toNat : Nat) : Int) * ((2 ^ (k + (-(q - (e - k))).toNat) : Nat) : Int) := by rw [signed_mul, w]
    _ = i * 2 ^ k * ((2 ^ (-(q - (e - k))).toNat : Nat) : Int) * ((2 ^ ((-(q - e)).toNat) : Nat) : Int) := by
        rw [Nat.pow_add, Int.natCast_mul, Int.natCast_pow 2 k]
        show i * _ * ((2 : Int) ^ k * _) = _
        ac_rfl
theorem Dy.unscale {i e : Int} {a : UInt64} (k : Nat) (h : Dy (i * 2 ^ k) e a) : Dy i (e + k) a := by
  obtain ⟨s, c, q, a1, a2⟩ := h
  refine ⟨s, c, q, a1, ?_⟩
  have w : signed s (c * 2 ^ (q - e).toNat) = i * 2 ^ k * ((2 ^ (-(q - e)).toNat : Nat) : Int) := a2
  show signed s (c * 2 ^ (q - (e + k)).toNat) = i * ((2 ^ (-(q - (e + k))).toNat : Nat) : Int)
  have p2 : ((2 ^ (k + (-(q - e)).toNat) : Nat) : Int) ≠ 0 := by
    have := Nat.two_pow_pos (k + (-(q - e)).toNat); omega
  refine Int.eq_of_mul_eq_mul_right p2 ?_
  have hx : (q - (e + k)).toNat + (k + (-(q - e)).toNat) = (q - e).toNat + (-(q - (e + k))).toNat := by omega
  calc signed s (c * 2 ^ (q - (e + k)).toNat) * ((2 ^ (k + (-(q - e)).toNat) : Nat) : Int)
      = signed s (c * 2 ^ ((q - (e + k)).toNat + (k + (-(q - e)).toNat))) := by rw [← signed_mul, Nat.pow_add 2 (q - (e + k)).toNat, Nat.mul_assoc]
    _ = signed s (c * 2 ^ (q - e).toNat * 2 ^ ((-(q - (e + k))).toNat)) := by rw [hx, Nat.pow_add, Nat.mul_assoc]
    _ = i * 2 ^ k * ((2 ^ (-(q - e)).toNat : Nat) : Int) * ((2 ^ ((-(q - (e + k))).toNat) : Nat) : Int) := by rw [signed_mul, w]
    _ = i * ((2 ^ (-(q - (e + k))).toNat : Nat) : Int) * ((2 ^ (k + (-(q - e)).toNat) : Nat) : Int) := by
        rw [Nat.pow_add, Int.natCast_mul, Int.natCast_pow 2 k]
        show i * (2 : Int) ^ k * _ * _ = _ * ((2 : Int) ^ k * _)
        ac_rfl
theorem Dy.cmp {i j e : Int} {a b : UInt64} (ha : Dy i e a) (hb : Dy j e b) : FP.dcmp a b = some (compare i j) := by
  obtain ⟨s, c, q, a1, a2⟩ := ha
  obtain ⟨t, d, r, b1, b2⟩ := hb
  have w := order_whole a2 b2
  have hm : min (q - e) (r - e) = min q r - e := by omega
  simp only [order] at w
  rw [hm] at w
  unfold inUnits at w
  rw [show q - e - (min q r - e) = q - min q r by omega, show r - e - (min q r - e) = r - min q r by omega] at w
  show order (val64 a) (val64 b) = _
  rw [a1, b1]
  exact w
theorem Dy.of_int {i : Int} {a : UInt64} (h : DInt i a) : Dy i 0 a := by
  unfold DInt at h
  cases hv : val64 a with
  | nan => rw [hv] at h; exact h.elim
  | inf => rw [hv] at h; exact h.elim
  | fin s c q => rw [hv] at h; exact ⟨s, c, q, hv, by rw [Int.sub_zero]; exact h⟩
theorem Dy.i2d (x : Int32) : Dy x.toInt 0 (FP.i2d x) := Dy.of_int (i2d_int x)
theorem Dy.l2d {x : Int64} (h : x.toInt.natAbs ≤ 9007199254740992) : Dy x.toInt 0 (FP.l2d x) := Dy.of_int (l2d_int (Nat.le_trans h (by decide)))
/-- the int that a comparison pushes -/
def own_ci (i j : Int) : Int32 := if i < j then -1 else if i = j then 0 else 1
theorem Dy.cmpV {i j e : Int} {a b : UInt64} (ha : Dy i e a) (hb : Dy j e b) (o : Jvm.ClassFile.CmpOp) : Jvm.Op.cmpValue (FP.dcmp a b) o = own_ci i j := by
  rw [ha.cmp hb, compare_ite]
  unfold own_ci
  by_cases h1 : i < j
  · simp only [if_pos h1]; cases o <;> rfl
  · by_cases h2 : i = j
    · simp only [if_neg h1, if_pos h2]; cases o <;> rfl
    · simp only [if_neg h1, if_neg h2]; cases o <;> rfl
theorem own_ci_lt {i j : Int} : own_ci i j < 0 ↔ i < j := by
  unfold own_ci
  by_cases h1 : i < j
  · simp [h1]
  · by_cases h2 : i = j <;> simp [h1, h2]
theorem own_ci_gt {i j : Int} : 0 < own_ci i j ↔ j < i := by
  unfold own_ci
  by_cases h1 : i < j
  · simp [h1]; omega
  · by_cases h2 : i = j
    · simp [h2]
    · simp [h1, h2]; omega
theorem own_ci_eq {i j : Int} : own_ci i j = 0 ↔ i = j := by
  unfold own_ci
  by_cases h1 : i < j
  · simp [h1]; omega
  · by_cases h2 : i = j <;> simp [h1, h2]
theorem Dy.cast {i j e f : Int} {a : UInt64} (h : Dy i e a) (hi : i = j) (he : e = f) : Dy j f a := by subst hi he; exact h
theorem own_zero (e : Int) : Dy 0 e (0 : UInt64) := ⟨false, 0, -1074, by decide +kernel, by
  show signed false (0 * _) = 0 * _
  rw [Nat.zero_mul, Int.zero_mul]; rfl⟩
end Jvm.OwnFp
namespace Jvm.OwnNum
theorem own_mulb {a b A B : Int} (a1 : -A ≤ a) (a2 : a ≤ A) (b1 : -B ≤ b) (b2 : b ≤ B) : -(A * B) ≤ a * b ∧ a * b ≤ A * B := by
  have hm : (a * b).natAbs ≤ A.toNat * B.toNat := by rw [Int.natAbs_mul]; exact Nat.mul_le_mul (by omega) (by omega)
  have hm2 : ((A.toNat * B.toNat : Nat) : Int) = A * B := by rw [Int.natCast_mul, Int.toNat_of_nonneg (by omega), Int.toNat_of_nonneg (by omega)]
  omega
theorem own_i2l (x : Int32) : x.toInt64.toInt = x.toInt := by simp
/-- a remainder by a positive literal -/
theorem own_rem {x k : Int32} {K : Int} (hk : k.toInt = K) (h : 0 < K) : -K < (x % k).toInt ∧ (x % k).toInt < K := by
  rw [Int32.toInt_mod, hk]
  have h1 := Int.tmod_lt_of_pos x.toInt h
  have h2 := Int.lt_tmod_of_pos x.toInt h
  omega
theorem own_and {x k : Int32} {K : Nat} (hk : k.toInt = K) (h0 : K < 2 ^ 31) : 0 ≤ (x &&& k).toInt ∧ (x &&& k).toInt ≤ K := by
  have e : k.toBitVec.toNat = K := by
    have := k.toBitVec.isLt
    have q : k.toInt = k.toBitVec.toInt := rfl
    rw [q, BitVec.toInt_eq_toNat_cond] at hk
    split at hk <;> omega
  have b : (x &&& k).toBitVec.toNat ≤ K := by
    show (x.toBitVec &&& k.toBitVec).toNat ≤ K
    rw [BitVec.toNat_and, e]; exact Nat.and_le_right
  have q : (x &&& k).toInt = (x &&& k).toBitVec.toInt := rfl
  rw [q, BitVec.toInt_eq_toNat_cond]
  split <;> omega
theorem own_add32 {a b : Int32} (h1 : -2147483648 ≤ a.toInt + b.toInt) (h2 : a.toInt + b.toInt < 2147483648) : (a + b).toInt = a.toInt + b.toInt := by
  rw [Int32.toInt_add]; exact Int.bmod_eq_of_le (by omega) (by omega)
theorem own_sub32 {a b : Int32} (h1 : -2147483648 ≤ a.toInt - b.toInt) (h2 : a.toInt - b.toInt < 2147483648) : (a - b).toInt = a.toInt - b.toInt := by
  rw [Int32.toInt_sub]; exact Int.bmod_eq_of_le (by omega) (by omega)
theorem own_mul32 {a b : Int32} (h1 : -2147483648 ≤ a.toInt * b.toInt) (h2 : a.toInt * b.toInt < 2147483648) : (a * b).toInt = a.toInt * b.toInt := by
  rw [Int32.toInt_mul]; exact Int.bmod_eq_of_le (by omega) (by omega)
theorem own_min (a b : Int32) : (if b < a then b else a).toInt = min a.toInt b.toInt := by
  split
  · rename_i h; rw [Int32.lt_iff_toInt_lt] at h; omega
  · rename_i h; rw [Int32.lt_iff_toInt_lt] at h; omega
theorem own_max (a b : Int32) : (if a < b then b else a).toInt = max a.toInt b.toInt := by
  split
  · rename_i h; rw [Int32.lt_iff_toInt_lt] at h; omega
  · rename_i h; rw [Int32.lt_iff_toInt_lt] at h; omega
theorem own_shl {e : Int32} (h0 : 0 ≤ e.toInt) (h1 : e.toInt < 11) : ∃ k : Nat, k ≤ 10 ∧ ((1 : Int32) <<< (e &&& 31)).toInt = 2 ^ k := by
  have hk : e.toInt = 0 ∨ e.toInt = 1 ∨ e.toInt = 2 ∨ e.toInt = 3 ∨ e.toInt = 4 ∨ e.toInt = 5 ∨ e.toInt = 6 ∨ e.toInt = 7 ∨ e.toInt = 8 ∨ e.toInt = 9 ∨ e.toInt = 10 := by omega
  rcases hk with h | h | h | h | h | h | h | h | h | h | h
  · exact ⟨0, by decide, by rw [Int32.toInt_inj.mp (h.trans (by decide : (0 : Int) = (0 : Int32).toInt))]; decide⟩
  · exact ⟨1, by decide, by rw [Int32.toInt_inj.mp (h.trans (by decide : (1 : Int) = (1 : Int32).toInt))]; decide⟩
  · exact ⟨2, by decide, by rw [Int32.toInt_inj.mp (h.trans (by decide : (2 : Int) = (2 : Int32).toInt))]; decide⟩
  · exact ⟨3, by decide, by rw [Int32.toInt_inj.mp (h.trans (by decide : (3 : Int) = (3 : Int32).toInt))]; decide⟩
  · exact ⟨4, by decide, by rw [Int32.toInt_inj.mp (h.trans (by decide : (4 : Int) = (4 : Int32).toInt))]; decide⟩
  · exact ⟨5, by decide, by rw [Int32.toInt_inj.mp (h.trans (by decide : (5 : Int) = (5 : Int32).toInt))]; decide⟩
  · exact ⟨6, by decide, by rw [Int32.toInt_inj.mp (h.trans (by decide : (6 : Int) = (6 : Int32).toInt))]; decide⟩
  · exact ⟨7, by decide, by rw [Int32.toInt_inj.mp (h.trans (by decide : (7 : Int) = (7 : Int32).toInt))]; decide⟩
  · exact ⟨8, by decide, by rw [Int32.toInt_inj.mp (h.trans (by decide : (8 : Int) = (8 : Int32).toInt))]; decide⟩
  · exact ⟨9, by decide, by rw [Int32.toInt_inj.mp (h.trans (by decide : (9 : Int) = (9 : Int32).toInt))]; decide⟩
  · exact ⟨10, by decide, by rw [Int32.toInt_inj.mp (h.trans (by decide : (10 : Int) = (10 : Int32).toInt))]; decide⟩
theorem own_and3 (x : Int32) : (x &&& (3 : Int32)) = (0 : Int32) ∨ (x &&& (3 : Int32)) = (1 : Int32) ∨ (x &&& (3 : Int32)) = (2 : Int32) ∨ (x &&& (3 : Int32)) = (3 : Int32) := by
  have h := own_and (x := x) (k := 3) (K := 3) (by decide) (by decide)
  have q : (x &&& (3 : Int32)).toInt = 0 ∨ (x &&& (3 : Int32)).toInt = 1 ∨ (x &&& (3 : Int32)).toInt = 2 ∨ (x &&& (3 : Int32)).toInt = 3 := by omega
  rcases q with q | q | q | q
  · exact Or.inl (Int32.toInt_inj.mp (q.trans (by decide : (0 : Int) = (0 : Int32).toInt)))
  · exact Or.inr (Or.inl (Int32.toInt_inj.mp (q.trans (by decide : (1 : Int) = (1 : Int32).toInt))))
  · exact Or.inr (Or.inr (Or.inl (Int32.toInt_inj.mp (q.trans (by decide : (2 : Int) = (2 : Int32).toInt)))))
  · exact Or.inr (Or.inr (Or.inr (Int32.toInt_inj.mp (q.trans (by decide : (3 : Int) = (3 : Int32).toInt)))))
theorem own_pow10 {e : Nat} (h : e ≤ 10) : (2 : Int) ^ e ≤ 1024 ∧ 1 ≤ (2 : Int) ^ e := by
  have : ∀ e, e ≤ 10 → (2 : Int) ^ e ≤ 1024 ∧ 1 ≤ (2 : Int) ^ e := by decide
  exact this e h
end Jvm.OwnNum
namespace Jvm.Pilot.@@N@@
open Jvm Jvm.ClassFile Sem Op Lib Jvm.Free Jvm.Stand Jvm.LawKit Jvm.RoadKit Bundle Jvm.OwnGo Jvm.OwnFp Jvm.Pilot.@@N@@.Jvm.D
open Jvm.OwnNum Jvm.FP Jvm.Free.Fl
def own_hd (x : UInt64) : Int32 := if cmpValue (FP.dcmp x 9218868437227405312) .g < 0 then 1 else 0
theorem own_hd_yes {x : UInt64} (h : cmpValue (FP.dcmp x 9218868437227405312) .g < (0 : Int32)) : own_hd x = 1 := if_pos h
theorem own_hd_no {x : UInt64} (h : ¬ cmpValue (FP.dcmp x 9218868437227405312) .g < (0 : Int32)) : own_hd x = 0 := if_neg h
theorem own_hd_fin {x : UInt64} (h : Fin64 x) : own_hd x = 1 := own_hd_yes (by rw [dcmp_pinf h .g]; decide)
theorem own_hd_inf : own_hd 9218868437227405312 = 0 := by decide +kernel
/-- the sum of a whole number of 32 and one of 64 digits is finite -/
theorem own_sum (n : Int32) (a : Int64) : Fin64 (FP.dadd (FP.i2d n) (FP.l2d a)) := by
  have h := Core.dadd_mag (a := FP.i2d n) (b := FP.l2d a) (K := 1088) (Nat.lt_of_lt_of_le (Core.i2d_mag n) (by decide)) (Core.l2d_mag a) (by decide)
  exact fin64_core.mpr (Core.fin_of_lt h (by decide))
theorem d3_0 : decode jdk_30_method_1_code 0 = .ok (.aload_n 0, 1) := by decide +kernel
theorem d3_1 : decode jdk_30_method_1_code 1 = .ok (.invokespecial 1, 3) := by decide +kernel
theorem d3_4 : decode jdk_30_method_1_code 4 = .ok (.return_, 1) := by decide +kernel
theorem pn_0 : plainName "java/lang/Record" = true := by first | (simp [plainName, overriddenIn]; done) | decide +kernel
theorem ef_3 (m : MethodId) (x0 : Addr) : entryFrame m #[(.ref x0)] 1 = mkF m 0 #[.val (.ref x0)] [] := by first | (simp [entryFrame, mkF, argsToLocals, Value.category]; done) | rfl
def Q3 (Z : State) (a1 : Addr)  (h0 : Heap) (n0 : Nat) (v : Option Value) (h : Heap) (L : List Loc) : Prop := v = none ∧ Fr n0 L ∧ h = h0
set_option maxRecDepth 65536 in
set_option maxHeartbeats 40000000 in
theorem rm3 (l : Launch) (Z : State) (a0 : Array Value) (hw : ∀ d ∈ tables_1, d.before a0 Z = true) (ws : List Jvm.Cond) (a1 : Addr)  (h0 : Heap) (n0 : Nat) (Z0 : n0 ≤ h0.size)  :
    MetFree l (⟨"java/lang/Record", "<init>", "()V"⟩ : MethodName) (head1 (Jvm.Cond.code (⟨"java/lang/Record", "<init>", "()V"⟩ : MethodName) jdk_30_method_1_code 1 none :: ws) ({ frames := 1, cells := 0, slots := 0, locals := 12 } : Room)) (fun a U => a = #[(.ref a1)] ∧ Z.Warmed39 U.vm ∧ U.heap = h0) (fun _ _ _ _ _ => True) (fun _ U o U' => ∃ v L, o = .returned v ∧ Q3 Z a1 h0 n0 v U'.heap L ∧ FrameEnd U o U' L ({ frames := 1, cells := 0, slots := 0, locals := 12 } : Room).cells ({ frames := 1, cells := 0, slots := 0, locals := 12 } : Room).slots) := by
  refine MetFree.of_bodySF (plainFor_of_name pn_0) hisR ?_
  intro p e s m args below meth c s₁ Bd hml0 hP hK
  obtain ⟨rfl, hZ, hh⟩ := hP
  have hx := Bd.exec
  have hby := Bd.bytes
  have hml : c.maxLocals = 1 := hml0
  have hown : s.vm.findClass "java/lang/Record" = some m.cls := findClass_of_methodNamed Bd.named
  have hnm := (name_of_methodNamed Bd.named Bd.method).1
  have X : Stand p l e ({ frames := 1, cells := 0, slots := 0, locals := 12 } : Room) s m #[(.ref a1)] below meth c s₁ [] 0 0 := Stand.of_body Bd
  have eT : s₁.heap = h0 := by rw [← hh, Bd.state]; rfl
  have N := Fr.nil n0
  have K := Keep.refl h0 []
  refine Go.out ?_
  obtain ⟨T, eTT⟩ : ∃ z, z = s₁ := ⟨_, rfl⟩
  rw [← eTT] at X eT ⊢
  refine Go.by (fun tt_ kk_ => castTop (ef_3 m a1) kk_) ?_
  show Go p.tables e below (T.setTop (mkF m 0 #[.val (.ref a1)] [])) _
  refine Go.by (fun tt_ kk_ => XS.aloadN X.here hx rfl (hb hby d3_0) rfl rfl kk_) ?_
  show Go p.tables e below (T.setTop (mkF m 1 #[.val (.ref a1)] [(.ref a1)])) _
  obtain ⟨T, X, eT, st⟩ := initO X hx hZ hown (hw _ (List.mem_of_getElem? (i := 17) rfl)) (hw _ (List.mem_of_getElem? (i := 18) rfl)) (hw _ (List.mem_of_getElem? (i := 19) rfl)) eT (g := (mkF m 1 #[.val (.ref a1)] [(.ref a1)])) rfl (by rw [hml]; rfl) rfl (hb hby d3_1) (by decide) (W := 0) (by show 2 * 0 + _ ≤ _; exact Nat.le_of_eq rfl) (by decide)
  refine Go.by st ?_
  show Go p.tables e below (T.setTop (mkF m 4 #[.val (.ref a1)] [])) _
  exact Go.done X  (v := none) (fun _ => rfl) Bd.notSynchronized (fun fs hr => X.returnOut hx Bd.returns (hb hby d3_4) hr) (by rw [eT]; exact ⟨rfl, N, rfl⟩) (by decide) (by decide)
theorem d2_0 : decode prog_21_method_1_code 0 = .ok (.aload_n 0, 1) := by decide +kernel
theorem d2_1 : decode prog_21_method_1_code 1 = .ok (.invokespecial 1, 3) := by decide +kernel
theorem d2_4 : decode prog_21_method_1_code 4 = .ok (.aload_n 0, 1) := by decide +kernel
theorem d2_5 : decode prog_21_method_1_code 5 = .ok (.iload_n 1, 1) := by decide +kernel
theorem d2_6 : decode prog_21_method_1_code 6 = .ok (.putfield 7, 3) := by decide +kernel
theorem d2_9 : decode prog_21_method_1_code 9 = .ok (.aload_n 0, 1) := by decide +kernel
theorem d2_10 : decode prog_21_method_1_code 10 = .ok (.iload_n 2, 1) := by decide +kernel
theorem d2_11 : decode prog_21_method_1_code 11 = .ok (.putfield 13, 3) := by decide +kernel
theorem d2_14 : decode prog_21_method_1_code 14 = .ok (.aload_n 0, 1) := by decide +kernel
theorem d2_15 : decode prog_21_method_1_code 15 = .ok (.dload_n 3, 1) := by decide +kernel
theorem d2_16 : decode prog_21_method_1_code 16 = .ok (.putfield 16, 3) := by decide +kernel
theorem d2_19 : decode prog_21_method_1_code 19 = .ok (.aload_n 0, 1) := by decide +kernel
theorem d2_20 : decode prog_21_method_1_code 20 = .ok (.dload 5, 2) := by decide +kernel
theorem d2_22 : decode prog_21_method_1_code 22 = .ok (.putfield 20, 3) := by decide +kernel
theorem d2_25 : decode prog_21_method_1_code 25 = .ok (.aload_n 0, 1) := by decide +kernel
theorem d2_26 : decode prog_21_method_1_code 26 = .ok (.dload 7, 2) := by decide +kernel
theorem d2_28 : decode prog_21_method_1_code 28 = .ok (.putfield 23, 3) := by decide +kernel
theorem d2_31 : decode prog_21_method_1_code 31 = .ok (.return_, 1) := by decide +kernel
theorem pn_1 : plainName "com/example/rootward/rootward/model/Request" = true := by first | (simp [plainName, overriddenIn]; done) | decide +kernel
theorem pd_0 : parseMethodDescriptor "()V" = some ⟨[], none⟩ := by decide +kernel
theorem ef_2 (m : MethodId) (x0 : Addr) (x1 : Int32) (x2 : Int32) (x3 : UInt64) (x4 : UInt64) (x5 : UInt64) : entryFrame m #[(.ref x0), (.int x1), (.int x2), (.double x3), (.double x4), (.double x5)] 9 = mkF m 0 #[.val (.ref x0), .val (.int x1), .val (.int x2), .val (.double x3), .second, .val (.double x4), .second, .val (.double x5), .second] [] := by first | (simp [entryFrame, mkF, argsToLocals, Value.category]; done) | rfl
def Q2 (Z : State) (a1 : Addr) (p1 : Int32) (p2 : Int32) (x3 : UInt64) (x4 : UInt64) (x5 : UInt64)  (h0 : Heap) (n0 : Nat) (v : Option Value) (h : Heap) (L : List Loc) : Prop := v = none ∧ Fr n0 L ∧ Keep h0 h [a1] ∧ Exa Z h a1 "com/example/rootward/rootward/model/Request" ∧ Fld Z h a1 "com/example/rootward/rootward/model/Request" "deadline" "D" (.double x4)
set_option maxRecDepth 65536 in
set_option maxHeartbeats 40000000 in
theorem rm2 (l : Launch) (Z : State) (a0 : Array Value) (hw : ∀ d ∈ tables_1, d.before a0 Z = true) (ws : List Jvm.Cond) (a1 : Addr) (p1 : Int32) (p2 : Int32) (x3 : UInt64) (x4 : UInt64) (x5 : UInt64)  (h0 : Heap) (n0 : Nat) (Z0 : n0 ≤ h0.size) (E_a1 : Exa Z h0 a1 "com/example/rootward/rootward/model/Request") (g_a1 : n0 ≤ a1) (F_index_a1 : Fld Z h0 a1 "com/example/rootward/rootward/model/Request" "index" "I" (.int (0 : Int32))) (F_node_a1 : Fld Z h0 a1 "com/example/rootward/rootward/model/Request" "node" "I" (.int (0 : Int32))) (F_arrival_a1 : Fld Z h0 a1 "com/example/rootward/rootward/model/Request" "arrival" "D" (.double (0 : UInt64))) (F_deadline_a1 : Fld Z h0 a1 "com/example/rootward/rootward/model/Request" "deadline" "D" (.double (0 : UInt64))) (F_rate_a1 : Fld Z h0 a1 "com/example/rootward/rootward/model/Request" "rate" "D" (.double (0 : UInt64))) :
    MetFree l (⟨"com/example/rootward/rootward/model/Request", "<init>", "(IIDDD)V"⟩ : MethodName) (head1 (Jvm.Cond.code (⟨"com/example/rootward/rootward/model/Request", "<init>", "(IIDDD)V"⟩ : MethodName) prog_21_method_1_code 9 none :: ws) ({ frames := 2, cells := 0, slots := 0, locals := 24 } : Room)) (fun a U => a = #[(.ref a1), (.int p1), (.int p2), (.double x3), (.double x4), (.double x5)] ∧ Z.Warmed39 U.vm ∧ U.heap = h0) (fun _ _ _ _ _ => True) (fun _ U o U' => ∃ v L, o = .returned v ∧ Q2 Z a1 p1 p2 x3 x4 x5 h0 n0 v U'.heap L ∧ FrameEnd U o U' L ({ frames := 2, cells := 0, slots := 0, locals := 24 } : Room).cells ({ frames := 2, cells := 0, slots := 0, locals := 24 } : Room).slots) := by
  refine MetFree.of_bodySF (plainFor_of_name pn_1) hisR ?_
  intro p e s m args below meth c s₁ Bd hml0 hP hK
  obtain ⟨rfl, hZ, hh⟩ := hP
  have hx := Bd.exec
  have hby := Bd.bytes
  have hml : c.maxLocals = 9 := hml0
  have hown : s.vm.findClass "com/example/rootward/rootward/model/Request" = some m.cls := findClass_of_methodNamed Bd.named
  have hnm := (name_of_methodNamed Bd.named Bd.method).1
  have X : Stand p l e ({ frames := 2, cells := 0, slots := 0, locals := 24 } : Room) s m #[(.ref a1), (.int p1), (.int p2), (.double x3), (.double x4), (.double x5)] below meth c s₁ [] 0 0 := Stand.of_body Bd
  have eT : s₁.heap = h0 := by rw [← hh, Bd.state]; rfl
  have N := Fr.nil n0
  have K := Keep.refl h0 [a1]
  refine Go.out ?_
  obtain ⟨T, eTT⟩ : ∃ z, z = s₁ := ⟨_, rfl⟩
  rw [← eTT] at X eT ⊢
  refine Go.by (fun tt_ kk_ => castTop (ef_2 m a1 p1 p2 x3 x4 x5) kk_) ?_
  show Go p.tables e below (T.setTop (mkF m 0 #[.val (.ref a1), .val (.int p1), .val (.int p2), .val (.double x3), .second, .val (.double x4), .second, .val (.double x5), .second] [])) _
  refine Go.by (fun tt_ kk_ => XS.aloadN X.here hx rfl (hb hby d2_0) rfl rfl kk_) ?_
  show Go p.tables e below (T.setTop (mkF m 1 #[.val (.ref a1), .val (.int p1), .val (.int p2), .val (.double x3), .second, .val (.double x4), .second, .val (.double x5), .second] [(.ref a1)])) _
  obtain ⟨_, _, ⟨T, L_, k_, n_⟩, -, X, ⟨Lc_, hQ, l_, y_, z_⟩, st⟩ := X.specialBack hx (y := (⟨"java/lang/Record", "<init>", "()V"⟩ : MethodName)) rfl hown (mvT hZ (hw _ (List.mem_of_getElem? (i := 12) rfl))) (mvT hZ (hw _ (List.mem_of_getElem? (i := 13) rfl))) (mvT hZ (hw _ (List.mem_of_getElem? (i := 16) rfl))) (by decide) (backOf (W := 0) (rm3 l Z a0 hw [] a1 h0 n0 (Nat.le_trans Z0 K.1) ) hZ (hw _ (List.mem_of_getElem? (i := 16) rfl)) (hw _ (List.mem_of_getElem? (i := 15) rfl)) (by decide) (by decide)) (g := (mkF m 1 #[.val (.ref a1), .val (.int p1), .val (.int p2), .val (.double x3), .second, .val (.double x4), .second, .val (.double x5), .second] [(.ref a1)])) rfl (by rw [hml]; rfl) (Steps.refl _) (a := a1) (argsL := []) (rest := []) (lenOf pd_0 rfl) rfl (by show 2 * 0 + _ ≤ _; exact Nat.le_of_eq rfl) (hb hby d2_1) (fun _ _ => ⟨rfl, eT, (by decide : 0 + 0 ≤ _), (by decide : 0 + 0 ≤ _)⟩)
  dsimp only [Pt.U, Pt.locs, Pt.cells, Pt.slots] at X l_ y_ z_ st hQ
  subst l_ y_ z_
  obtain ⟨rfl, Nq, eh⟩ := hQ
  have N := Fr.app N Nq
  have eT := eh
  refine Go.tr st ?_
  show Go p.tables e below (T.setTop (mkF m 4 #[.val (.ref a1), .val (.int p1), .val (.int p2), .val (.double x3), .second, .val (.double x4), .second, .val (.double x5), .second] [])) _
  refine Go.by (fun tt_ kk_ => XS.aloadN X.here hx rfl (hb hby d2_4) rfl rfl kk_) ?_
  show Go p.tables e below (T.setTop (mkF m 5 #[.val (.ref a1), .val (.int p1), .val (.int p2), .val (.double x3), .second, .val (.double x4), .second, .val (.double x5), .second] [(.ref a1)])) _
  refine Go.by (fun tt_ kk_ => XS.iloadN X.here hx rfl (hb hby d2_5) rfl kk_) ?_
  show Go p.tables e below (T.setTop (mkF m 6 #[.val (.ref a1), .val (.int p1), .val (.int p2), .val (.double x3), .second, .val (.double x4), .second, .val (.double x5), .second] [(.int p1), (.ref a1)])) _
  obtain ⟨T, h2, X, eT, Wh2, st⟩ := putF X hx hZ hown (host := "") (Or.inl (hw _ (List.mem_of_getElem? (i := 20) rfl))) Via.refl eT F_index_a1 E_a1 (Or.inr ⟨(hw _ (List.mem_of_getElem? (i := 21) rfl)), rfl, hnm⟩) (hw _ (List.mem_of_getElem? (i := 7) rfl)) (ty := .int) (by decide) rfl rfl (g := (mkF m 6 #[.val (.ref a1), .val (.int p1), .val (.int p2), .val (.double x3), .second, .val (.double x4), .second, .val (.double x5), .second] [(.int p1), (.ref a1)])) rfl rfl (hb hby d2_6)
  have F_index_a1 := Fld.same Wh2 F_index_a1
  have E_a1 := Exa.wr Wh2 E_a1
  have F_node_a1 := Fld.other Wh2 F_node_a1 (Or.inr (slot_ne (Or.inr (hw _ (List.mem_of_getElem? (i := 23) rfl))) (Or.inr (hw _ (List.mem_of_getElem? (i := 21) rfl))) (by decide) (t := .int) (t' := .int) (by decide) (by decide)))
  have F_arrival_a1 := Fld.other Wh2 F_arrival_a1 (Or.inr (slot_ne (Or.inr (hw _ (List.mem_of_getElem? (i := 25) rfl))) (Or.inr (hw _ (List.mem_of_getElem? (i := 21) rfl))) (by decide) (t := .double) (t' := .int) (by decide) (by decide)))
  have F_deadline_a1 := Fld.other Wh2 F_deadline_a1 (Or.inr (slot_ne (Or.inr (hw _ (List.mem_of_getElem? (i := 27) rfl))) (Or.inr (hw _ (List.mem_of_getElem? (i := 21) rfl))) (by decide) (t := .double) (t' := .int) (by decide) (by decide)))
  have F_rate_a1 := Fld.other Wh2 F_rate_a1 (Or.inr (slot_ne (Or.inr (hw _ (List.mem_of_getElem? (i := 29) rfl))) (Or.inr (hw _ (List.mem_of_getElem? (i := 21) rfl))) (by decide) (t := .double) (t' := .int) (by decide) (by decide)))
  have N := Fr.snoc X N g_a1
  have K := K.wr Wh2 (Or.inl (List.mem_of_getElem? (i := 0) rfl))
  refine Go.by st ?_
  show Go p.tables e below (T.setTop (mkF m 9 #[.val (.ref a1), .val (.int p1), .val (.int p2), .val (.double x3), .second, .val (.double x4), .second, .val (.double x5), .second] [])) _
  refine Go.by (fun tt_ kk_ => XS.aloadN X.here hx rfl (hb hby d2_9) rfl rfl kk_) ?_
  show Go p.tables e below (T.setTop (mkF m 10 #[.val (.ref a1), .val (.int p1), .val (.int p2), .val (.double x3), .second, .val (.double x4), .second, .val (.double x5), .second] [(.ref a1)])) _
  refine Go.by (fun tt_ kk_ => XS.iloadN X.here hx rfl (hb hby d2_10) rfl kk_) ?_
  show Go p.tables e below (T.setTop (mkF m 11 #[.val (.ref a1), .val (.int p1), .val (.int p2), .val (.double x3), .second, .val (.double x4), .second, .val (.double x5), .second] [(.int p2), (.ref a1)])) _
  obtain ⟨T, h3, X, eT, Wh3, st⟩ := putF X hx hZ hown (host := "") (Or.inl (hw _ (List.mem_of_getElem? (i := 22) rfl))) Via.refl eT F_node_a1 E_a1 (Or.inr ⟨(hw _ (List.mem_of_getElem? (i := 23) rfl)), rfl, hnm⟩) (hw _ (List.mem_of_getElem? (i := 7) rfl)) (ty := .int) (by decide) rfl rfl (g := (mkF m 11 #[.val (.ref a1), .val (.int p1), .val (.int p2), .val (.double x3), .second, .val (.double x4), .second, .val (.double x5), .second] [(.int p2), (.ref a1)])) rfl rfl (hb hby d2_11)
  have F_node_a1 := Fld.same Wh3 F_node_a1
  have E_a1 := Exa.wr Wh3 E_a1
  have F_index_a1 := Fld.other Wh3 F_index_a1 (Or.inr (slot_ne (Or.inr (hw _ (List.mem_of_getElem? (i := 21) rfl))) (Or.inr (hw _ (List.mem_of_getElem? (i := 23) rfl))) (by decide) (t := .int) (t' := .int) (by decide) (by decide)))
  have F_arrival_a1 := Fld.other Wh3 F_arrival_a1 (Or.inr (slot_ne (Or.inr (hw _ (List.mem_of_getElem? (i := 25) rfl))) (Or.inr (hw _ (List.mem_of_getElem? (i := 23) rfl))) (by decide) (t := .double) (t' := .int) (by decide) (by decide)))
  have F_deadline_a1 := Fld.other Wh3 F_deadline_a1 (Or.inr (slot_ne (Or.inr (hw _ (List.mem_of_getElem? (i := 27) rfl))) (Or.inr (hw _ (List.mem_of_getElem? (i := 23) rfl))) (by decide) (t := .double) (t' := .int) (by decide) (by decide)))
  have F_rate_a1 := Fld.other Wh3 F_rate_a1 (Or.inr (slot_ne (Or.inr (hw _ (List.mem_of_getElem? (i := 29) rfl))) (Or.inr (hw _ (List.mem_of_getElem? (i := 23) rfl))) (by decide) (t := .double) (t' := .int) (by decide) (by decide)))
  have N := Fr.snoc X N g_a1
  have K := K.wr Wh3 (Or.inl (List.mem_of_getElem? (i := 0) rfl))
  refine Go.by st ?_
  show Go p.tables e below (T.setTop (mkF m 14 #[.val (.ref a1), .val (.int p1), .val (.int p2), .val (.double x3), .second, .val (.double x4), .second, .val (.double x5), .second] [])) _
  refine Go.by (fun tt_ kk_ => XS.aloadN X.here hx rfl (hb hby d2_14) rfl rfl kk_) ?_
  show Go p.tables e below (T.setTop (mkF m 15 #[.val (.ref a1), .val (.int p1), .val (.int p2), .val (.double x3), .second, .val (.double x4), .second, .val (.double x5), .second] [(.ref a1)])) _
  refine Go.by (fun tt_ kk_ => XS.dloadN X.here hx rfl (hb hby d2_15) rfl kk_) ?_
  show Go p.tables e below (T.setTop (mkF m 16 #[.val (.ref a1), .val (.int p1), .val (.int p2), .val (.double x3), .second, .val (.double x4), .second, .val (.double x5), .second] [(.double x3), (.ref a1)])) _
  obtain ⟨T, h4, X, eT, Wh4, st⟩ := putF X hx hZ hown (host := "") (Or.inl (hw _ (List.mem_of_getElem? (i := 24) rfl))) Via.refl eT F_arrival_a1 E_a1 (Or.inr ⟨(hw _ (List.mem_of_getElem? (i := 25) rfl)), rfl, hnm⟩) (hw _ (List.mem_of_getElem? (i := 7) rfl)) (ty := .double) (by decide) rfl rfl (g := (mkF m 16 #[.val (.ref a1), .val (.int p1), .val (.int p2), .val (.double x3), .second, .val (.double x4), .second, .val (.double x5), .second] [(.double x3), (.ref a1)])) rfl rfl (hb hby d2_16)
  have F_arrival_a1 := Fld.same Wh4 F_arrival_a1
  have E_a1 := Exa.wr Wh4 E_a1
  have F_index_a1 := Fld.other Wh4 F_index_a1 (Or.inr (slot_ne (Or.inr (hw _ (List.mem_of_getElem? (i := 21) rfl))) (Or.inr (hw _ (List.mem_of_getElem? (i := 25) rfl))) (by decide) (t := .int) (t' := .double) (by decide) (by decide)))
  have F_node_a1 := Fld.other Wh4 F_node_a1 (Or.inr (slot_ne (Or.inr (hw _ (List.mem_of_getElem? (i := 23) rfl))) (Or.inr (hw _ (List.mem_of_getElem? (i := 25) rfl))) (by decide) (t := .int) (t' := .double) (by decide) (by decide)))
  have F_deadline_a1 := Fld.other Wh4 F_deadline_a1 (Or.inr (slot_ne (Or.inr (hw _ (List.mem_of_getElem? (i := 27) rfl))) (Or.inr (hw _ (List.mem_of_getElem? (i := 25) rfl))) (by decide) (t := .double) (t' := .double) (by decide) (by decide)))
  have F_rate_a1 := Fld.other Wh4 F_rate_a1 (Or.inr (slot_ne (Or.inr (hw _ (List.mem_of_getElem? (i := 29) rfl))) (Or.inr (hw _ (List.mem_of_getElem? (i := 25) rfl))) (by decide) (t := .double) (t' := .double) (by decide) (by decide)))
  have N := Fr.snoc X N g_a1
  have K := K.wr Wh4 (Or.inl (List.mem_of_getElem? (i := 0) rfl))
  refine Go.by st ?_
  show Go p.tables e below (T.setTop (mkF m 19 #[.val (.ref a1), .val (.int p1), .val (.int p2), .val (.double x3), .second, .val (.double x4), .second, .val (.double x5), .second] [])) _
  refine Go.by (fun tt_ kk_ => XS.aloadN X.here hx rfl (hb hby d2_19) rfl rfl kk_) ?_
  show Go p.tables e below (T.setTop (mkF m 20 #[.val (.ref a1), .val (.int p1), .val (.int p2), .val (.double x3), .second, .val (.double x4), .second, .val (.double x5), .second] [(.ref a1)])) _
  refine Go.by (fun tt_ kk_ => XS.dload X.here hx rfl (hb hby d2_20) rfl kk_) ?_
  show Go p.tables e below (T.setTop (mkF m 22 #[.val (.ref a1), .val (.int p1), .val (.int p2), .val (.double x3), .second, .val (.double x4), .second, .val (.double x5), .second] [(.double x4), (.ref a1)])) _
  obtain ⟨T, h5, X, eT, Wh5, st⟩ := putF X hx hZ hown (host := "") (Or.inl (hw _ (List.mem_of_getElem? (i := 26) rfl))) Via.refl eT F_deadline_a1 E_a1 (Or.inr ⟨(hw _ (List.mem_of_getElem? (i := 27) rfl)), rfl, hnm⟩) (hw _ (List.mem_of_getElem? (i := 7) rfl)) (ty := .double) (by decide) rfl rfl (g := (mkF m 22 #[.val (.ref a1), .val (.int p1), .val (.int p2), .val (.double x3), .second, .val (.double x4), .second, .val (.double x5), .second] [(.double x4), (.ref a1)])) rfl rfl (hb hby d2_22)
  have F_deadline_a1 := Fld.same Wh5 F_deadline_a1
  have E_a1 := Exa.wr Wh5 E_a1
  have F_index_a1 := Fld.other Wh5 F_index_a1 (Or.inr (slot_ne (Or.inr (hw _ (List.mem_of_getElem? (i := 21) rfl))) (Or.inr (hw _ (List.mem_of_getElem? (i := 27) rfl))) (by decide) (t := .int) (t' := .double) (by decide) (by decide)))
  have F_node_a1 := Fld.other Wh5 F_node_a1 (Or.inr (slot_ne (Or.inr (hw _ (List.mem_of_getElem? (i := 23) rfl))) (Or.inr (hw _ (List.mem_of_getElem? (i := 27) rfl))) (by decide) (t := .int) (t' := .double) (by decide) (by decide)))
  have F_arrival_a1 := Fld.other Wh5 F_arrival_a1 (Or.inr (slot_ne (Or.inr (hw _ (List.mem_of_getElem? (i := 25) rfl))) (Or.inr (hw _ (List.mem_of_getElem? (i := 27) rfl))) (by decide) (t := .double) (t' := .double) (by decide) (by decide)))
  have F_rate_a1 := Fld.other Wh5 F_rate_a1 (Or.inr (slot_ne (Or.inr (hw _ (List.mem_of_getElem? (i := 29) rfl))) (Or.inr (hw _ (List.mem_of_getElem? (i := 27) rfl))) (by decide) (t := .double) (t' := .double) (by decide) (by decide)))
  have N := Fr.snoc X N g_a1
  have K := K.wr Wh5 (Or.inl (List.mem_of_getElem? (i := 0) rfl))
  refine Go.by st ?_
  show Go p.tables e below (T.setTop (mkF m 25 #[.val (.ref a1), .val (.int p1), .val (.int p2), .val (.double x3), .second, .val (.double x4), .second, .val (.double x5), .second] [])) _
  refine Go.by (fun tt_ kk_ => XS.aloadN X.here hx rfl (hb hby d2_25) rfl rfl kk_) ?_
  show Go p.tables e below (T.setTop (mkF m 26 #[.val (.ref a1), .val (.int p1), .val (.int p2), .val (.double x3), .second, .val (.double x4), .second, .val (.double x5), .second] [(.ref a1)])) _
  refine Go.by (fun tt_ kk_ => XS.dload X.here hx rfl (hb hby d2_26) rfl kk_) ?_
  show Go p.tables e below (T.setTop (mkF m 28 #[.val (.ref a1), .val (.int p1), .val (.int p2), .val (.double x3), .second, .val (.double x4), .second, .val (.double x5), .second] [(.double x5), (.ref a1)])) _
  obtain ⟨T, h6, X, eT, Wh6, st⟩ := putF X hx hZ hown (host := "") (Or.inl (hw _ (List.mem_of_getElem? (i := 28) rfl))) Via.refl eT F_rate_a1 E_a1 (Or.inr ⟨(hw _ (List.mem_of_getElem? (i := 29) rfl)), rfl, hnm⟩) (hw _ (List.mem_of_getElem? (i := 7) rfl)) (ty := .double) (by decide) rfl rfl (g := (mkF m 28 #[.val (.ref a1), .val (.int p1), .val (.int p2), .val (.double x3), .second, .val (.double x4), .second, .val (.double x5), .second] [(.double x5), (.ref a1)])) rfl rfl (hb hby d2_28)
  have F_rate_a1 := Fld.same Wh6 F_rate_a1
  have E_a1 := Exa.wr Wh6 E_a1
  have F_index_a1 := Fld.other Wh6 F_index_a1 (Or.inr (slot_ne (Or.inr (hw _ (List.mem_of_getElem? (i := 21) rfl))) (Or.inr (hw _ (List.mem_of_getElem? (i := 29) rfl))) (by decide) (t := .int) (t' := .double) (by decide) (by decide)))
  have F_node_a1 := Fld.other Wh6 F_node_a1 (Or.inr (slot_ne (Or.inr (hw _ (List.mem_of_getElem? (i := 23) rfl))) (Or.inr (hw _ (List.mem_of_getElem? (i := 29) rfl))) (by decide) (t := .int) (t' := .double) (by decide) (by decide)))
  have F_arrival_a1 := Fld.other Wh6 F_arrival_a1 (Or.inr (slot_ne (Or.inr (hw _ (List.mem_of_getElem? (i := 25) rfl))) (Or.inr (hw _ (List.mem_of_getElem? (i := 29) rfl))) (by decide) (t := .double) (t' := .double) (by decide) (by decide)))
  have F_deadline_a1 := Fld.other Wh6 F_deadline_a1 (Or.inr (slot_ne (Or.inr (hw _ (List.mem_of_getElem? (i := 27) rfl))) (Or.inr (hw _ (List.mem_of_getElem? (i := 29) rfl))) (by decide) (t := .double) (t' := .double) (by decide) (by decide)))
  have N := Fr.snoc X N g_a1
  have K := K.wr Wh6 (Or.inl (List.mem_of_getElem? (i := 0) rfl))
  refine Go.by st ?_
  show Go p.tables e below (T.setTop (mkF m 31 #[.val (.ref a1), .val (.int p1), .val (.int p2), .val (.double x3), .second, .val (.double x4), .second, .val (.double x5), .second] [])) _
  exact Go.done X  (v := none) (fun _ => rfl) Bd.notSynchronized (fun fs hr => X.returnOut hx Bd.returns (hb hby d2_31) hr) (by rw [eT]; exact ⟨rfl, N, K, E_a1, F_deadline_a1⟩) (by decide) (by decide)
theorem d1_0 : decode prog_21_method_3_code 0 = .ok (.new 8, 3) := by decide +kernel
theorem d1_3 : decode prog_21_method_3_code 3 = .ok (.dup, 1) := by decide +kernel
theorem d1_4 : decode prog_21_method_3_code 4 = .ok (.iload_n 0, 1) := by decide +kernel
theorem d1_5 : decode prog_21_method_3_code 5 = .ok (.iload_n 1, 1) := by decide +kernel
theorem d1_6 : decode prog_21_method_3_code 6 = .ok (.dload_n 2, 1) := by decide +kernel
theorem d1_7 : decode prog_21_method_3_code 7 = .ok (.ldc2_w 31, 3) := by decide +kernel
theorem d1_10 : decode prog_21_method_3_code 10 = .ok (.dload 4, 2) := by decide +kernel
theorem d1_12 : decode prog_21_method_3_code 12 = .ok (.invokespecial 26, 3) := by decide +kernel
theorem d1_15 : decode prog_21_method_3_code 15 = .ok (.areturn, 1) := by decide +kernel
theorem pd_1 : parseMethodDescriptor "(IIDDD)V" = some ⟨[.int, .int, .double, .double, .double], none⟩ := by decide +kernel
theorem ef_1 (m : MethodId) (x0 : Int32) (x1 : Int32) (x2 : UInt64) (x3 : UInt64) : entryFrame m #[(.int x0), (.int x1), (.double x2), (.double x3)] 6 = mkF m 0 #[.val (.int x0), .val (.int x1), .val (.double x2), .second, .val (.double x3), .second] [] := by first | (simp [entryFrame, mkF, argsToLocals, Value.category]; done) | rfl
def Q1 (Z : State) (p1 : Int32) (p2 : Int32) (x3 : UInt64) (x4 : UInt64)  (h0 : Heap) (n0 : Nat) (v : Option Value) (h : Heap) (L : List Loc) : Prop := ∃ b : Addr, n0 ≤ b ∧ h0.size ≤ b ∧ b < h.size ∧ v = some (.ref b) ∧ Fr n0 L ∧ Keep h0 h [] ∧ Exa Z h b "com/example/rootward/rootward/model/Request" ∧ Fld Z h b "com/example/rootward/rootward/model/Request" "deadline" "D" (.double 9218868437227405312)
set_option maxRecDepth 65536 in
set_option maxHeartbeats 40000000 in
theorem rm1 (l : Launch) (Z : State) (a0 : Array Value) (hw : ∀ d ∈ tables_1, d.before a0 Z = true) (ws : List Jvm.Cond) (p1 : Int32) (p2 : Int32) (x3 : UInt64) (x4 : UInt64)  (h0 : Heap) (n0 : Nat) (Z0 : n0 ≤ h0.size)  :
    MetFree l (⟨"com/example/rootward/rootward/model/Request", "withRate", "(IIDD)Lcom/example/rootward/rootward/model/Request;"⟩ : MethodName) (head1 (Jvm.Cond.code (⟨"com/example/rootward/rootward/model/Request", "withRate", "(IIDD)Lcom/example/rootward/rootward/model/Request;"⟩ : MethodName) prog_21_method_3_code 6 (some (.object "com/example/rootward/rootward/model/Request")) :: ws) ({ frames := 3, cells := 1, slots := 5, locals := 48 } : Room)) (fun a U => a = #[(.int p1), (.int p2), (.double x3), (.double x4)] ∧ Z.Warmed39 U.vm ∧ U.heap = h0) (fun _ _ _ _ _ => True) (fun _ U o U' => ∃ v L, o = .returned v ∧ Q1 Z p1 p2 x3 x4 h0 n0 v U'.heap L ∧ FrameEnd U o U' L ({ frames := 3, cells := 1, slots := 5, locals := 48 } : Room).cells ({ frames := 3, cells := 1, slots := 5, locals := 48 } : Room).slots) := by
  refine MetFree.of_bodySF (plainFor_of_name pn_1) hisR ?_
  intro p e s m args below meth c s₁ Bd hml0 hP hK
  obtain ⟨rfl, hZ, hh⟩ := hP
  have hx := Bd.exec
  have hby := Bd.bytes
  have hml : c.maxLocals = 6 := hml0
  have hown : s.vm.findClass "com/example/rootward/rootward/model/Request" = some m.cls := findClass_of_methodNamed Bd.named
  have hnm := (name_of_methodNamed Bd.named Bd.method).1
  have X : Stand p l e ({ frames := 3, cells := 1, slots := 5, locals := 48 } : Room) s m #[(.int p1), (.int p2), (.double x3), (.double x4)] below meth c s₁ [] 0 0 := Stand.of_body Bd
  have eT : s₁.heap = h0 := by rw [← hh, Bd.state]; rfl
  have N := Fr.nil n0
  have K := Keep.refl h0 []
  refine Go.out ?_
  obtain ⟨T, eTT⟩ : ∃ z, z = s₁ := ⟨_, rfl⟩
  rw [← eTT] at X eT ⊢
  refine Go.by (fun tt_ kk_ => castTop (ef_1 m p1 p2 x3 x4) kk_) ?_
  show Go p.tables e below (T.setTop (mkF m 0 #[.val (.int p1), .val (.int p2), .val (.double x3), .second, .val (.double x4), .second] [])) _
  obtain ⟨T, h1, X, eT, E_, A_, D_, -, st⟩ := newO X hx hZ hown (hw _ (List.mem_of_getElem? (i := 6) rfl)) (hw _ (List.mem_of_getElem? (i := 7) rfl)) (hw _ (List.mem_of_getElem? (i := 4) rfl)) eT (g := (mkF m 0 #[.val (.int p1), .val (.int p2), .val (.double x3), .second, .val (.double x4), .second] [])) rfl (hb hby d1_0) (by decide) (by decide)
  obtain ⟨b1, g_b1'⟩ : ∃ z, z = h0.size := ⟨_, rfl⟩
  rw [← g_b1'] at A_ D_ st
  have g_b1 : n0 ≤ b1 := Nat.le_trans Z0 (Nat.le_trans K.1 (Nat.le_of_eq g_b1'.symm))
  have sz_b1 : h0.size ≤ b1 := Nat.le_trans K.1 (Nat.le_of_eq g_b1'.symm)
  have K := K.ext E_
  have E_b1 := A_
  have F_index_b1 : Fld Z h1 b1 "com/example/rootward/rootward/model/Request" "index" "I" (.int (0 : Int32)) := D_ (Or.inr (hw _ (List.mem_of_getElem? (i := 21) rfl))) (ty := .int) (by decide)
  have F_node_b1 : Fld Z h1 b1 "com/example/rootward/rootward/model/Request" "node" "I" (.int (0 : Int32)) := D_ (Or.inr (hw _ (List.mem_of_getElem? (i := 23) rfl))) (ty := .int) (by decide)
  have F_arrival_b1 : Fld Z h1 b1 "com/example/rootward/rootward/model/Request" "arrival" "D" (.double (0 : UInt64)) := D_ (Or.inr (hw _ (List.mem_of_getElem? (i := 25) rfl))) (ty := .double) (by decide)
  have F_deadline_b1 : Fld Z h1 b1 "com/example/rootward/rootward/model/Request" "deadline" "D" (.double (0 : UInt64)) := D_ (Or.inr (hw _ (List.mem_of_getElem? (i := 27) rfl))) (ty := .double) (by decide)
  have F_rate_b1 : Fld Z h1 b1 "com/example/rootward/rootward/model/Request" "rate" "D" (.double (0 : UInt64)) := D_ (Or.inr (hw _ (List.mem_of_getElem? (i := 29) rfl))) (ty := .double) (by decide)
  refine Go.by st ?_
  show Go p.tables e below (T.setTop (mkF m 3 #[.val (.int p1), .val (.int p2), .val (.double x3), .second, .val (.double x4), .second] [(.ref b1)])) _
  refine Go.by (fun tt_ kk_ => XS.dup X.here hx rfl (hb hby d1_3) rfl rfl kk_) ?_
  show Go p.tables e below (T.setTop (mkF m 4 #[.val (.int p1), .val (.int p2), .val (.double x3), .second, .val (.double x4), .second] [(.ref b1), (.ref b1)])) _
  refine Go.by (fun tt_ kk_ => XS.iloadN X.here hx rfl (hb hby d1_4) rfl kk_) ?_
  show Go p.tables e below (T.setTop (mkF m 5 #[.val (.int p1), .val (.int p2), .val (.double x3), .second, .val (.double x4), .second] [(.int p1), (.ref b1), (.ref b1)])) _
  refine Go.by (fun tt_ kk_ => XS.iloadN X.here hx rfl (hb hby d1_5) rfl kk_) ?_
  show Go p.tables e below (T.setTop (mkF m 6 #[.val (.int p1), .val (.int p2), .val (.double x3), .second, .val (.double x4), .second] [(.int p2), (.int p1), (.ref b1), (.ref b1)])) _
  refine Go.by (fun tt_ kk_ => XS.dloadN X.here hx rfl (hb hby d1_6) rfl kk_) ?_
  show Go p.tables e below (T.setTop (mkF m 7 #[.val (.int p1), .val (.int p2), .val (.double x3), .second, .val (.double x4), .second] [(.double x3), (.int p2), (.int p1), (.ref b1), (.ref b1)])) _
  refine Go.by (X.ldc2DoubleC hx hown (mvT hZ (hw _ (List.mem_of_getElem? (i := 8) rfl))) (g := (mkF m 7 #[.val (.int p1), .val (.int p2), .val (.double x3), .second, .val (.double x4), .second] [(.double x3), (.int p2), (.int p1), (.ref b1), (.ref b1)])) rfl (hb hby d1_7)) ?_
  show Go p.tables e below (T.setTop (mkF m 10 #[.val (.int p1), .val (.int p2), .val (.double x3), .second, .val (.double x4), .second] [(.double (9218868437227405312 : UInt64)), (.double x3), (.int p2), (.int p1), (.ref b1), (.ref b1)])) _
  refine Go.by (fun tt_ kk_ => XS.dload X.here hx rfl (hb hby d1_10) rfl kk_) ?_
  show Go p.tables e below (T.setTop (mkF m 12 #[.val (.int p1), .val (.int p2), .val (.double x3), .second, .val (.double x4), .second] [(.double x4), (.double (9218868437227405312 : UInt64)), (.double x3), (.int p2), (.int p1), (.ref b1), (.ref b1)])) _
  obtain ⟨_, _, ⟨T, L_, k_, n_⟩, -, X, ⟨Lc_, hQ, l_, y_, z_⟩, st⟩ := X.specialBack hx (y := (⟨"com/example/rootward/rootward/model/Request", "<init>", "(IIDDD)V"⟩ : MethodName)) rfl hown (mvT hZ (hw _ (List.mem_of_getElem? (i := 9) rfl))) (mvT hZ (hw _ (List.mem_of_getElem? (i := 10) rfl))) (mvT hZ (hw _ (List.mem_of_getElem? (i := 11) rfl))) (by decide) (backOf (W := 1) (rm2 l Z a0 hw [] b1 p1 p2 x3 (9218868437227405312 : UInt64) x4 h1 n0 (Nat.le_trans Z0 K.1) E_b1 g_b1 F_index_b1 F_node_b1 F_arrival_b1 F_deadline_b1 F_rate_b1) hZ (hw _ (List.mem_of_getElem? (i := 11) rfl)) (hw _ (List.mem_of_getElem? (i := 4) rfl)) (by decide) (by decide)) (g := (mkF m 12 #[.val (.int p1), .val (.int p2), .val (.double x3), .second, .val (.double x4), .second] [(.double x4), (.double (9218868437227405312 : UInt64)), (.double x3), (.int p2), (.int p1), (.ref b1), (.ref b1)])) rfl (by rw [hml]; rfl) (Steps.refl _) (a := b1) (argsL := [(.int p1), (.int p2), (.double x3), (.double (9218868437227405312 : UInt64)), (.double x4)]) (rest := [(.ref b1)]) (lenOf pd_1 rfl) rfl (by show 2 * 0 + _ ≤ _; exact Nat.le_of_eq rfl) (hb hby d1_12) (fun _ _ => ⟨rfl, eT, (by decide : 1 + 0 ≤ _), (by decide : 5 + 0 ≤ _)⟩)
  dsimp only [Pt.U, Pt.locs, Pt.cells, Pt.slots] at X l_ y_ z_ st hQ
  subst l_ y_ z_
  obtain ⟨h2, eT⟩ : ∃ z, T.heap = z := ⟨_, rfl⟩
  rw [eT] at hQ
  obtain ⟨rfl, Nq, Kq, Eq_, Fq_⟩ := hQ
  have N := Fr.app N Nq
  have E_b1 := Eq_
  have F_deadline_b1 := Fq_
  have K := K.trans Kq (allS (Or.inr sz_b1) all0)
  refine Go.tr st ?_
  show Go p.tables e below (T.setTop (mkF m 15 #[.val (.int p1), .val (.int p2), .val (.double x3), .second, .val (.double x4), .second] [(.ref b1)])) _
  exact Go.done X  (v := some (.ref b1)) (fun h => by rw [Bd.returns] at h; cases h) Bd.notSynchronized (fun fs hr => retOut X hx Bd.returns rfl (by simp [Value.isRef, FieldType.isReference]) (hb hby d1_15) hr) (by rw [eT]; exact ⟨b1, g_b1, sz_b1, E_b1.lt, rfl, N, K, E_b1, F_deadline_b1⟩) (by decide) (by decide)
theorem d7_0 : decode prog_21_method_2_code 0 = .ok (.new 8, 3) := by decide +kernel
theorem d7_3 : decode prog_21_method_2_code 3 = .ok (.dup, 1) := by decide +kernel
theorem d7_4 : decode prog_21_method_2_code 4 = .ok (.iload_n 0, 1) := by decide +kernel
theorem d7_5 : decode prog_21_method_2_code 5 = .ok (.iload_n 1, 1) := by decide +kernel
theorem d7_6 : decode prog_21_method_2_code 6 = .ok (.dload_n 2, 1) := by decide +kernel
theorem d7_7 : decode prog_21_method_2_code 7 = .ok (.dload 4, 2) := by decide +kernel
theorem d7_9 : decode prog_21_method_2_code 9 = .ok (.dconst 0, 1) := by decide +kernel
theorem d7_10 : decode prog_21_method_2_code 10 = .ok (.invokespecial 26, 3) := by decide +kernel
theorem d7_13 : decode prog_21_method_2_code 13 = .ok (.areturn, 1) := by decide +kernel
theorem ef_7 (m : MethodId) (x0 : Int32) (x1 : Int32) (x2 : UInt64) (x3 : UInt64) : entryFrame m #[(.int x0), (.int x1), (.double x2), (.double x3)] 6 = mkF m 0 #[.val (.int x0), .val (.int x1), .val (.double x2), .second, .val (.double x3), .second] [] := by first | (simp [entryFrame, mkF, argsToLocals, Value.category]; done) | rfl
def Q7 (Z : State) (p1 : Int32) (p2 : Int32) (x3 : UInt64) (x4 : UInt64)  (h0 : Heap) (n0 : Nat) (v : Option Value) (h : Heap) (L : List Loc) : Prop := ∃ b : Addr, n0 ≤ b ∧ h0.size ≤ b ∧ b < h.size ∧ v = some (.ref b) ∧ Fr n0 L ∧ Keep h0 h [] ∧ Exa Z h b "com/example/rootward/rootward/model/Request" ∧ Fld Z h b "com/example/rootward/rootward/model/Request" "deadline" "D" (.double x4)
set_option maxRecDepth 65536 in
set_option maxHeartbeats 40000000 in
theorem rm7 (l : Launch) (Z : State) (a0 : Array Value) (hw : ∀ d ∈ tables_1, d.before a0 Z = true) (ws : List Jvm.Cond) (p1 : Int32) (p2 : Int32) (x3 : UInt64) (x4 : UInt64)  (h0 : Heap) (n0 : Nat) (Z0 : n0 ≤ h0.size)  :
    MetFree l (⟨"com/example/rootward/rootward/model/Request", "withDeadline", "(IIDD)Lcom/example/rootward/rootward/model/Request;"⟩ : MethodName) (head1 (Jvm.Cond.code (⟨"com/example/rootward/rootward/model/Request", "withDeadline", "(IIDD)Lcom/example/rootward/rootward/model/Request;"⟩ : MethodName) prog_21_method_2_code 6 (some (.object "com/example/rootward/rootward/model/Request")) :: ws) ({ frames := 3, cells := 1, slots := 5, locals := 48 } : Room)) (fun a U => a = #[(.int p1), (.int p2), (.double x3), (.double x4)] ∧ Z.Warmed39 U.vm ∧ U.heap = h0) (fun _ _ _ _ _ => True) (fun _ U o U' => ∃ v L, o = .returned v ∧ Q7 Z p1 p2 x3 x4 h0 n0 v U'.heap L ∧ FrameEnd U o U' L ({ frames := 3, cells := 1, slots := 5, locals := 48 } : Room).cells ({ frames := 3, cells := 1, slots := 5, locals := 48 } : Room).slots) := by
  refine MetFree.of_bodySF (plainFor_of_name pn_1) hisR ?_
  intro p e s m args below meth c s₁ Bd hml0 hP hK
  obtain ⟨rfl, hZ, hh⟩ := hP
  have hx := Bd.exec
  have hby := Bd.bytes
  have hml : c.maxLocals = 6 := hml0
  have hown : s.vm.findClass "com/example/rootward/rootward/model/Request" = some m.cls := findClass_of_methodNamed Bd.named
  have hnm := (name_of_methodNamed Bd.named Bd.method).1
  have X : Stand p l e ({ frames := 3, cells := 1, slots := 5, locals := 48 } : Room) s m #[(.int p1), (.int p2), (.double x3), (.double x4)] below meth c s₁ [] 0 0 := Stand.of_body Bd
  have eT : s₁.heap = h0 := by rw [← hh, Bd.state]; rfl
  have N := Fr.nil n0
  have K := Keep.refl h0 []
  refine Go.out ?_
  obtain ⟨T, eTT⟩ : ∃ z, z = s₁ := ⟨_, rfl⟩
  rw [← eTT] at X eT ⊢
  refine Go.by (fun tt_ kk_ => castTop (ef_7 m p1 p2 x3 x4) kk_) ?_
  show Go p.tables e below (T.setTop (mkF m 0 #[.val (.int p1), .val (.int p2), .val (.double x3), .second, .val (.double x4), .second] [])) _
  obtain ⟨T, h1, X, eT, E_, A_, D_, -, st⟩ := newO X hx hZ hown (hw _ (List.mem_of_getElem? (i := 6) rfl)) (hw _ (List.mem_of_getElem? (i := 7) rfl)) (hw _ (List.mem_of_getElem? (i := 4) rfl)) eT (g := (mkF m 0 #[.val (.int p1), .val (.int p2), .val (.double x3), .second, .val (.double x4), .second] [])) rfl (hb hby d7_0) (by decide) (by decide)
  obtain ⟨b1, g_b1'⟩ : ∃ z, z = h0.size := ⟨_, rfl⟩
  rw [← g_b1'] at A_ D_ st
  have g_b1 : n0 ≤ b1 := Nat.le_trans Z0 (Nat.le_trans K.1 (Nat.le_of_eq g_b1'.symm))
  have sz_b1 : h0.size ≤ b1 := Nat.le_trans K.1 (Nat.le_of_eq g_b1'.symm)
  have K := K.ext E_
  have E_b1 := A_
  have F_index_b1 : Fld Z h1 b1 "com/example/rootward/rootward/model/Request" "index" "I" (.int (0 : Int32)) := D_ (Or.inr (hw _ (List.mem_of_getElem? (i := 21) rfl))) (ty := .int) (by decide)
  have F_node_b1 : Fld Z h1 b1 "com/example/rootward/rootward/model/Request" "node" "I" (.int (0 : Int32)) := D_ (Or.inr (hw _ (List.mem_of_getElem? (i := 23) rfl))) (ty := .int) (by decide)
  have F_arrival_b1 : Fld Z h1 b1 "com/example/rootward/rootward/model/Request" "arrival" "D" (.double (0 : UInt64)) := D_ (Or.inr (hw _ (List.mem_of_getElem? (i := 25) rfl))) (ty := .double) (by decide)
  have F_deadline_b1 : Fld Z h1 b1 "com/example/rootward/rootward/model/Request" "deadline" "D" (.double (0 : UInt64)) := D_ (Or.inr (hw _ (List.mem_of_getElem? (i := 27) rfl))) (ty := .double) (by decide)
  have F_rate_b1 : Fld Z h1 b1 "com/example/rootward/rootward/model/Request" "rate" "D" (.double (0 : UInt64)) := D_ (Or.inr (hw _ (List.mem_of_getElem? (i := 29) rfl))) (ty := .double) (by decide)
  refine Go.by st ?_
  show Go p.tables e below (T.setTop (mkF m 3 #[.val (.int p1), .val (.int p2), .val (.double x3), .second, .val (.double x4), .second] [(.ref b1)])) _
  refine Go.by (fun tt_ kk_ => XS.dup X.here hx rfl (hb hby d7_3) rfl rfl kk_) ?_
  show Go p.tables e below (T.setTop (mkF m 4 #[.val (.int p1), .val (.int p2), .val (.double x3), .second, .val (.double x4), .second] [(.ref b1), (.ref b1)])) _
  refine Go.by (fun tt_ kk_ => XS.iloadN X.here hx rfl (hb hby d7_4) rfl kk_) ?_
  show Go p.tables e below (T.setTop (mkF m 5 #[.val (.int p1), .val (.int p2), .val (.double x3), .second, .val (.double x4), .second] [(.int p1), (.ref b1), (.ref b1)])) _
  refine Go.by (fun tt_ kk_ => XS.iloadN X.here hx rfl (hb hby d7_5) rfl kk_) ?_
  show Go p.tables e below (T.setTop (mkF m 6 #[.val (.int p1), .val (.int p2), .val (.double x3), .second, .val (.double x4), .second] [(.int p2), (.int p1), (.ref b1), (.ref b1)])) _
  refine Go.by (fun tt_ kk_ => XS.dloadN X.here hx rfl (hb hby d7_6) rfl kk_) ?_
  show Go p.tables e below (T.setTop (mkF m 7 #[.val (.int p1), .val (.int p2), .val (.double x3), .second, .val (.double x4), .second] [(.double x3), (.int p2), (.int p1), (.ref b1), (.ref b1)])) _
  refine Go.by (fun tt_ kk_ => XS.dload X.here hx rfl (hb hby d7_7) rfl kk_) ?_
  show Go p.tables e below (T.setTop (mkF m 9 #[.val (.int p1), .val (.int p2), .val (.double x3), .second, .val (.double x4), .second] [(.double x4), (.double x3), (.int p2), (.int p1), (.ref b1), (.ref b1)])) _
  refine Go.by (fun tt_ kk_ => XS.dconst0 X.here hx rfl (hb hby d7_9) (v := (0 : UInt64)) rfl kk_) ?_
  show Go p.tables e below (T.setTop (mkF m 10 #[.val (.int p1), .val (.int p2), .val (.double x3), .second, .val (.double x4), .second] [(.double (0 : UInt64)), (.double x4), (.double x3), (.int p2), (.int p1), (.ref b1), (.ref b1)])) _
  obtain ⟨_, _, ⟨T, L_, k_, n_⟩, -, X, ⟨Lc_, hQ, l_, y_, z_⟩, st⟩ := X.specialBack hx (y := (⟨"com/example/rootward/rootward/model/Request", "<init>", "(IIDDD)V"⟩ : MethodName)) rfl hown (mvT hZ (hw _ (List.mem_of_getElem? (i := 9) rfl))) (mvT hZ (hw _ (List.mem_of_getElem? (i := 10) rfl))) (mvT hZ (hw _ (List.mem_of_getElem? (i := 11) rfl))) (by decide) (backOf (W := 1) (rm2 l Z a0 hw [] b1 p1 p2 x3 x4 (0 : UInt64) h1 n0 (Nat.le_trans Z0 K.1) E_b1 g_b1 F_index_b1 F_node_b1 F_arrival_b1 F_deadline_b1 F_rate_b1) hZ (hw _ (List.mem_of_getElem? (i := 11) rfl)) (hw _ (List.mem_of_getElem? (i := 4) rfl)) (by decide) (by decide)) (g := (mkF m 10 #[.val (.int p1), .val (.int p2), .val (.double x3), .second, .val (.double x4), .second] [(.double (0 : UInt64)), (.double x4), (.double x3), (.int p2), (.int p1), (.ref b1), (.ref b1)])) rfl (by rw [hml]; rfl) (Steps.refl _) (a := b1) (argsL := [(.int p1), (.int p2), (.double x3), (.double x4), (.double (0 : UInt64))]) (rest := [(.ref b1)]) (lenOf pd_1 rfl) rfl (by show 2 * 0 + _ ≤ _; exact Nat.le_of_eq rfl) (hb hby d7_10) (fun _ _ => ⟨rfl, eT, (by decide : 1 + 0 ≤ _), (by decide : 5 + 0 ≤ _)⟩)
  dsimp only [Pt.U, Pt.locs, Pt.cells, Pt.slots] at X l_ y_ z_ st hQ
  subst l_ y_ z_
  obtain ⟨h2, eT⟩ : ∃ z, T.heap = z := ⟨_, rfl⟩
  rw [eT] at hQ
  obtain ⟨rfl, Nq, Kq, Eq_, Fq_⟩ := hQ
  have N := Fr.app N Nq
  have E_b1 := Eq_
  have F_deadline_b1 := Fq_
  have K := K.trans Kq (allS (Or.inr sz_b1) all0)
  refine Go.tr st ?_
  show Go p.tables e below (T.setTop (mkF m 13 #[.val (.int p1), .val (.int p2), .val (.double x3), .second, .val (.double x4), .second] [(.ref b1)])) _
  exact Go.done X  (v := some (.ref b1)) (fun h => by rw [Bd.returns] at h; cases h) Bd.notSynchronized (fun fs hr => retOut X hx Bd.returns rfl (by simp [Value.isRef, FieldType.isReference]) (hb hby d7_13) hr) (by rw [eT]; exact ⟨b1, g_b1, sz_b1, E_b1.lt, rfl, N, K, E_b1, F_deadline_b1⟩) (by decide) (by decide)
theorem d5_0 : decode prog_21_method_4_code 0 = .ok (.aload_n 0, 1) := by decide +kernel
theorem d5_1 : decode prog_21_method_4_code 1 = .ok (.getfield 20, 3) := by decide +kernel
theorem d5_4 : decode prog_21_method_4_code 4 = .ok (.ldc2_w 31, 3) := by decide +kernel
theorem d5_7 : decode prog_21_method_4_code 7 = .ok (.dcmp .g, 1) := by decide +kernel
theorem d5_8 : decode prog_21_method_4_code 8 = .ok (.ifCond .ge 7, 3) := by decide +kernel
theorem d5_11 : decode prog_21_method_4_code 11 = .ok (.iconst 1, 1) := by decide +kernel
theorem d5_12 : decode prog_21_method_4_code 12 = .ok (.goto 4, 3) := by decide +kernel
theorem d5_15 : decode prog_21_method_4_code 15 = .ok (.iconst 0, 1) := by decide +kernel
theorem d5_16 : decode prog_21_method_4_code 16 = .ok (.ireturn, 1) := by decide +kernel
theorem ef_5 (m : MethodId) (x0 : Addr) : entryFrame m #[(.ref x0)] 1 = mkF m 0 #[.val (.ref x0)] [] := by first | (simp [entryFrame, mkF, argsToLocals, Value.category]; done) | rfl
def Q5 (Z : State) (a1 : Addr) (x : UInt64) (h0 : Heap) (n0 : Nat) (v : Option Value) (h : Heap) (L : List Loc) : Prop := v = some (.int (own_hd x)) ∧ Fr n0 L ∧ h = h0
set_option maxRecDepth 65536 in
set_option maxHeartbeats 40000000 in
theorem rm5 (l : Launch) (Z : State) (a0 : Array Value) (hw : ∀ d ∈ tables_1, d.before a0 Z = true) (ws : List Jvm.Cond) (a1 : Addr) (x : UInt64) (h0 : Heap) (n0 : Nat) (Z0 : n0 ≤ h0.size) (F_a1 : Fld Z h0 a1 "com/example/rootward/rootward/model/Request" "deadline" "D" (.double x)) :
    MetFree l (⟨"com/example/rootward/rootward/model/Request", "hasDeadline", "()Z"⟩ : MethodName) (head1 (Jvm.Cond.code (⟨"com/example/rootward/rootward/model/Request", "hasDeadline", "()Z"⟩ : MethodName) prog_21_method_4_code 1 (some .boolean) :: ws) ({ frames := 0, cells := 0, slots := 0, locals := 0 } : Room)) (fun a U => a = #[(.ref a1)] ∧ Z.Warmed39 U.vm ∧ U.heap = h0) (fun _ _ _ _ _ => True) (fun _ U o U' => ∃ v L, o = .returned v ∧ Q5 Z a1 x h0 n0 v U'.heap L ∧ FrameEnd U o U' L ({ frames := 0, cells := 0, slots := 0, locals := 0 } : Room).cells ({ frames := 0, cells := 0, slots := 0, locals := 0 } : Room).slots) := by
  refine MetFree.of_bodySF (plainFor_of_name pn_1) hisR ?_
  intro p e s m args below meth c s₁ Bd hml0 hP hK
  obtain ⟨rfl, hZ, hh⟩ := hP
  have hx := Bd.exec
  have hby := Bd.bytes
  have hml : c.maxLocals = 1 := hml0
  have hown : s.vm.findClass "com/example/rootward/rootward/model/Request" = some m.cls := findClass_of_methodNamed Bd.named
  have hnm := (name_of_methodNamed Bd.named Bd.method).1
  have X : Stand p l e ({ frames := 0, cells := 0, slots := 0, locals := 0 } : Room) s m #[(.ref a1)] below meth c s₁ [] 0 0 := Stand.of_body Bd
  have eT : s₁.heap = h0 := by rw [← hh, Bd.state]; rfl
  have N := Fr.nil n0
  have K := Keep.refl h0 []
  refine Go.out ?_
  obtain ⟨T, eTT⟩ : ∃ z, z = s₁ := ⟨_, rfl⟩
  rw [← eTT] at X eT ⊢
  refine Go.by (fun tt_ kk_ => castTop (ef_5 m a1) kk_) ?_
  show Go p.tables e below (T.setTop (mkF m 0 #[.val (.ref a1)] [])) _
  refine Go.by (fun tt_ kk_ => XS.aloadN X.here hx rfl (hb hby d5_0) rfl rfl kk_) ?_
  show Go p.tables e below (T.setTop (mkF m 1 #[.val (.ref a1)] [(.ref a1)])) _
  obtain ⟨T, X, eT, st⟩ := getF X hx hZ hown (host := "") (Or.inl (hw _ (List.mem_of_getElem? (i := 26) rfl))) Via.refl eT F_a1 (g := (mkF m 1 #[.val (.ref a1)] [(.ref a1)])) rfl rfl (hb hby d5_1)
  refine Go.by st ?_
  show Go p.tables e below (T.setTop (mkF m 4 #[.val (.ref a1)] [(.double x)])) _
  refine Go.by (X.ldc2DoubleC hx hown (mvT hZ (hw _ (List.mem_of_getElem? (i := 8) rfl))) (g := (mkF m 4 #[.val (.ref a1)] [(.double x)])) rfl (hb hby d5_4)) ?_
  show Go p.tables e below (T.setTop (mkF m 7 #[.val (.ref a1)] [(.double (9218868437227405312 : UInt64)), (.double x)])) _
  refine Go.by (fun tt_ kk_ => XS.dcmpS X.here hx rfl (hb hby d5_7) rfl rfl kk_) ?_
  show Go p.tables e below (T.setTop (mkF m 8 #[.val (.ref a1)] [(.int (cmpValue (FP.dcmp x (9218868437227405312 : UInt64)) .g))])) _
  by_cases hc8 : (cmpValue (FP.dcmp x (9218868437227405312 : UInt64)) .g) < (0 : Int32)
  · refine Go.by (fun tt_ kk_ => XS.ifNo X.here hx rfl (hb hby d5_8) rfl ((if0 _ _).trans (tlt hc8).2.1) kk_) ?_
    show Go p.tables e below (T.setTop (mkF m 11 #[.val (.ref a1)] [])) _
    refine Go.by (fun tt_ kk_ => XS.iconst X.here hx rfl (hb hby d5_11) kk_) ?_
    show Go p.tables e below (T.setTop (mkF m 12 #[.val (.ref a1)] [(.int (1 : Int32))])) _
    refine Go.by (fun tt_ kk_ => XS.goto X.here hx rfl (pc0 := 12) (pc' := 16) rfl (hb hby d5_12) (by decide) (by decide) kk_) ?_
    show Go p.tables e below (T.setTop (mkF m 16 #[.val (.ref a1)] [(.int (1 : Int32))])) _
    exact Go.done X  (v := some (.int (1 : Int32))) (fun h => by rw [Bd.returns] at h; cases h) Bd.notSynchronized (fun fs hr => retN X hx (z := (1 : Int32)) (t := .boolean) Bd.returns (by simp) (hb hby d5_16) hr) (by rw [eT]; exact ⟨by rw [own_hd_yes hc8], N, rfl⟩) (by decide) (by decide)
  · refine Go.by (fun tt_ kk_ => XS.ifYes X.here hx rfl (pc0 := 8) (pc' := 15) rfl (hb hby d5_8) rfl ((if0 _ _).trans (flt hc8).2.1) (by decide) (by decide) kk_) ?_
    show Go p.tables e below (T.setTop (mkF m 15 #[.val (.ref a1)] [])) _
    refine Go.by (fun tt_ kk_ => XS.iconst X.here hx rfl (hb hby d5_15) kk_) ?_
    show Go p.tables e below (T.setTop (mkF m 16 #[.val (.ref a1)] [(.int (0 : Int32))])) _
    exact Go.done X  (v := some (.int (0 : Int32))) (fun h => by rw [Bd.returns] at h; cases h) Bd.notSynchronized (fun fs hr => retN X hx (z := (0 : Int32)) (t := .boolean) Bd.returns (by simp) (hb hby d5_16) hr) (by rw [eT]; exact ⟨by rw [own_hd_no hc8], N, rfl⟩) (by decide) (by decide)
theorem d6_0 : decode prog_21_method_11_code 0 = .ok (.aload_n 0, 1) := by decide +kernel
theorem d6_1 : decode prog_21_method_11_code 1 = .ok (.getfield 20, 3) := by decide +kernel
theorem d6_4 : decode prog_21_method_11_code 4 = .ok (.dreturn, 1) := by decide +kernel
theorem ef_6 (m : MethodId) (x0 : Addr) : entryFrame m #[(.ref x0)] 1 = mkF m 0 #[.val (.ref x0)] [] := by first | (simp [entryFrame, mkF, argsToLocals, Value.category]; done) | rfl
def Q6 (Z : State) (a1 : Addr) (x : UInt64) (h0 : Heap) (n0 : Nat) (v : Option Value) (h : Heap) (L : List Loc) : Prop := v = some (.double x) ∧ Fr n0 L ∧ h = h0
set_option maxRecDepth 65536 in
set_option maxHeartbeats 40000000 in
theorem rm6 (l : Launch) (Z : State) (a0 : Array Value) (hw : ∀ d ∈ tables_1, d.before a0 Z = true) (ws : List Jvm.Cond) (a1 : Addr) (x : UInt64) (h0 : Heap) (n0 : Nat) (Z0 : n0 ≤ h0.size) (F_a1 : Fld Z h0 a1 "com/example/rootward/rootward/model/Request" "deadline" "D" (.double x)) :
    MetFree l (⟨"com/example/rootward/rootward/model/Request", "deadline", "()D"⟩ : MethodName) (head1 (Jvm.Cond.code (⟨"com/example/rootward/rootward/model/Request", "deadline", "()D"⟩ : MethodName) prog_21_method_11_code 1 (some .double) :: ws) ({ frames := 0, cells := 0, slots := 0, locals := 0 } : Room)) (fun a U => a = #[(.ref a1)] ∧ Z.Warmed39 U.vm ∧ U.heap = h0) (fun _ _ _ _ _ => True) (fun _ U o U' => ∃ v L, o = .returned v ∧ Q6 Z a1 x h0 n0 v U'.heap L ∧ FrameEnd U o U' L ({ frames := 0, cells := 0, slots := 0, locals := 0 } : Room).cells ({ frames := 0, cells := 0, slots := 0, locals := 0 } : Room).slots) := by
  refine MetFree.of_bodySF (plainFor_of_name pn_1) hisR ?_
  intro p e s m args below meth c s₁ Bd hml0 hP hK
  obtain ⟨rfl, hZ, hh⟩ := hP
  have hx := Bd.exec
  have hby := Bd.bytes
  have hml : c.maxLocals = 1 := hml0
  have hown : s.vm.findClass "com/example/rootward/rootward/model/Request" = some m.cls := findClass_of_methodNamed Bd.named
  have hnm := (name_of_methodNamed Bd.named Bd.method).1
  have X : Stand p l e ({ frames := 0, cells := 0, slots := 0, locals := 0 } : Room) s m #[(.ref a1)] below meth c s₁ [] 0 0 := Stand.of_body Bd
  have eT : s₁.heap = h0 := by rw [← hh, Bd.state]; rfl
  have N := Fr.nil n0
  have K := Keep.refl h0 []
  refine Go.out ?_
  obtain ⟨T, eTT⟩ : ∃ z, z = s₁ := ⟨_, rfl⟩
  rw [← eTT] at X eT ⊢
  refine Go.by (fun tt_ kk_ => castTop (ef_6 m a1) kk_) ?_
  show Go p.tables e below (T.setTop (mkF m 0 #[.val (.ref a1)] [])) _
  refine Go.by (fun tt_ kk_ => XS.aloadN X.here hx rfl (hb hby d6_0) rfl rfl kk_) ?_
  show Go p.tables e below (T.setTop (mkF m 1 #[.val (.ref a1)] [(.ref a1)])) _
  obtain ⟨T, X, eT, st⟩ := getF X hx hZ hown (host := "") (Or.inl (hw _ (List.mem_of_getElem? (i := 26) rfl))) Via.refl eT F_a1 (g := (mkF m 1 #[.val (.ref a1)] [(.ref a1)])) rfl rfl (hb hby d6_1)
  refine Go.by st ?_
  show Go p.tables e below (T.setTop (mkF m 4 #[.val (.ref a1)] [(.double x)])) _
  exact Go.done X  (v := some (.double x)) (fun h => by rw [Bd.returns] at h; cases h) Bd.notSynchronized (fun fs hr => retOut X hx Bd.returns rfl (by simp [Value.isRef, FieldType.isReference]) (hb hby d6_4) hr) (by rw [eT]; exact ⟨rfl, N, rfl⟩) (by decide) (by decide)
theorem pn_2 : plainName "com/example/rootward/rootward/model/RequestHasDeadlinePinLaw" = true := by first | (simp [plainName, overriddenIn]; done) | decide +kernel
theorem pd_2 : parseMethodDescriptor "()Z" = some ⟨[], some .boolean⟩ := by decide +kernel
theorem pd_3 : parseMethodDescriptor "(IIDD)Lcom/example/rootward/rootward/model/Request;" = some ⟨[.int, .int, .double, .double], some (.object "com/example/rootward/rootward/model/Request")⟩ := by decide +kernel
theorem pd_4 : parseMethodDescriptor "()D" = some ⟨[], some .double⟩ := by decide +kernel
theorem ef_0 (m : MethodId) (x0 : Int32) (x1 : Int32) (x2 : Int32) (x3 : Int64) (x4 : Int32) (x5 : Int32) : entryFrame m #[(.int x0), (.int x1), (.int x2), (.long x3), (.int x4), (.int x5)] maxLocals = mkF m 0 #[.val (.int x0), .val (.int x1), .val (.int x2), .val (.long x3), .second, .val (.int x4), .val (.int x5), .unset, .unset, .unset, .unset, .unset, .unset, .unset, .unset, .unset] [] := by first | (simp [entryFrame, mkF, argsToLocals, Value.category, maxLocals]; done) | rfl
def Q0 (Z : State) (p0 : Int32) (p1 : Int32) (p2 : Int32) (q3 : Int64) (p4 : Int32) (p5 : Int32)  (h0 : Heap) (n0 : Nat) (v : Option Value) (h : Heap) (L : List Loc) : Prop := v = some (.int 1) ∧ Fr n0 L
set_option maxRecDepth 65536 in
set_option maxHeartbeats 40000000 in
theorem rm0 (l : Launch) (Z : State) (a0 : Array Value) (hw : ∀ d ∈ tables_1, d.before a0 Z = true) (ws : List Jvm.Cond) (p0 : Int32) (p1 : Int32) (p2 : Int32) (q3 : Int64) (p4 : Int32) (p5 : Int32)  (h0 : Heap) (n0 : Nat) (Z0 : n0 ≤ h0.size)  :
    MetFree l x (head1 (Jvm.Cond.code x code maxLocals ret :: ws) room_1) (fun a U => a = #[(.int p0), (.int p1), (.int p2), (.long q3), (.int p4), (.int p5)] ∧ Z.Warmed39 U.vm ∧ U.heap = h0) (fun _ _ _ _ _ => True) (fun _ U o U' => ∃ v L, o = .returned v ∧ Q0 Z p0 p1 p2 q3 p4 p5 h0 n0 v U'.heap L ∧ FrameEnd U o U' L 16 128) := by
  refine MetFree.of_bodySF (plainFor_of_name pn_2) hisR ?_
  intro p e s m args below meth c s₁ Bd hml0 hP hK
  obtain ⟨rfl, hZ, hh⟩ := hP
  have hx := Bd.exec
  have hby := Bd.bytes
  have hml : c.maxLocals = 16 := hml0
  have hown : s.vm.findClass "com/example/rootward/rootward/model/RequestHasDeadlinePinLaw" = some m.cls := findClass_of_methodNamed Bd.named
  have hnm := (name_of_methodNamed Bd.named Bd.method).1
  have X : Stand p l e room_1 s m #[(.int p0), (.int p1), (.int p2), (.long q3), (.int p4), (.int p5)] below meth c s₁ [] 0 0 := Stand.of_body Bd
  have eT : s₁.heap = h0 := by rw [← hh, Bd.state]; rfl
  have N := Fr.nil n0
  have K := Keep.refl h0 []
  refine Go.out ?_
  obtain ⟨T, eTT⟩ : ∃ z, z = s₁ := ⟨_, rfl⟩
  rw [← eTT] at X eT ⊢
  refine Go.by (fun tt_ kk_ => castTop (ef_0 m p0 p1 p2 q3 p4 p5) kk_) ?_
  show Go p.tables e below (T.setTop (mkF m 0 #[.val (.int p0), .val (.int p1), .val (.int p2), .val (.long q3), .second, .val (.int p4), .val (.int p5), .unset, .unset, .unset, .unset, .unset, .unset, .unset, .unset, .unset] [])) _
  refine Go.by (fun tt_ kk_ => XS.iloadN X.here hx rfl (hb hby at_0) rfl kk_) ?_
  show Go p.tables e below (T.setTop (mkF m 1 #[.val (.int p0), .val (.int p1), .val (.int p2), .val (.long q3), .second, .val (.int p4), .val (.int p5), .unset, .unset, .unset, .unset, .unset, .unset, .unset, .unset, .unset] [(.int p2)])) _
  refine Go.by (X.ldcInt hx hown (mvT hZ (hw _ (List.mem_of_getElem? (i := 0) rfl))) (g := (mkF m 1 #[.val (.int p0), .val (.int p1), .val (.int p2), .val (.long q3), .second, .val (.int p4), .val (.int p5), .unset, .unset, .unset, .unset, .unset, .unset, .unset, .unset, .unset] [(.int p2)])) rfl (hb hby at_1)) ?_
  show Go p.tables e below (T.setTop (mkF m 3 #[.val (.int p0), .val (.int p1), .val (.int p2), .val (.long q3), .second, .val (.int p4), .val (.int p5), .unset, .unset, .unset, .unset, .unset, .unset, .unset, .unset, .unset] [(.int (2147483647 : Int32)), (.int p2)])) _
  refine Go.by (fun tt_ kk_ => XS.iand X.here hx rfl (hb hby at_3) rfl kk_) ?_
  show Go p.tables e below (T.setTop (mkF m 4 #[.val (.int p0), .val (.int p1), .val (.int p2), .val (.long q3), .second, .val (.int p4), .val (.int p5), .unset, .unset, .unset, .unset, .unset, .unset, .unset, .unset, .unset] [(.int (p2 &&& (2147483647 : Int32)))])) _
  refine Go.by (fun tt_ kk_ => XS.i2dS X.here hx rfl (hb hby at_4) rfl rfl kk_) ?_
  show Go p.tables e below (T.setTop (mkF m 5 #[.val (.int p0), .val (.int p1), .val (.int p2), .val (.long q3), .second, .val (.int p4), .val (.int p5), .unset, .unset, .unset, .unset, .unset, .unset, .unset, .unset, .unset] [(.double (FP.i2d (p2 &&& (2147483647 : Int32))))])) _
  refine Go.by (fun tt_ kk_ => XS.dstore X.here hx rfl (hb hby at_5) rfl (l' := #[.val (.int p0), .val (.int p1), .val (.int p2), .val (.long q3), .second, .val (.int p4), .val (.int p5), .val (.double (FP.i2d (p2 &&& (2147483647 : Int32)))), .second, .unset, .unset, .unset, .unset, .unset, .unset, .unset]) rfl kk_) ?_
  show Go p.tables e below (T.setTop (mkF m 7 #[.val (.int p0), .val (.int p1), .val (.int p2), .val (.long q3), .second, .val (.int p4), .val (.int p5), .val (.double (FP.i2d (p2 &&& (2147483647 : Int32)))), .second, .unset, .unset, .unset, .unset, .unset, .unset, .unset] [])) _
  refine Go.by (fun tt_ kk_ => XS.dload X.here hx rfl (hb hby at_7) rfl kk_) ?_
  show Go p.tables e below (T.setTop (mkF m 9 #[.val (.int p0), .val (.int p1), .val (.int p2), .val (.long q3), .second, .val (.int p4), .val (.int p5), .val (.double (FP.i2d (p2 &&& (2147483647 : Int32)))), .second, .unset, .unset, .unset, .unset, .unset, .unset, .unset] [(.double (FP.i2d (p2 &&& (2147483647 : Int32))))])) _
  refine Go.by (fun tt_ kk_ => XS.lloadN X.here hx rfl (hb hby at_9) rfl kk_) ?_
  show Go p.tables e below (T.setTop (mkF m 10 #[.val (.int p0), .val (.int p1), .val (.int p2), .val (.long q3), .second, .val (.int p4), .val (.int p5), .val (.double (FP.i2d (p2 &&& (2147483647 : Int32)))), .second, .unset, .unset, .unset, .unset, .unset, .unset, .unset] [(.long q3), (.double (FP.i2d (p2 &&& (2147483647 : Int32))))])) _
  refine Go.by (X.ldc2Long hx hown (mvT hZ (hw _ (List.mem_of_getElem? (i := 1) rfl))) (g := (mkF m 10 #[.val (.int p0), .val (.int p1), .val (.int p2), .val (.long q3), .second, .val (.int p4), .val (.int p5), .val (.double (FP.i2d (p2 &&& (2147483647 : Int32)))), .second, .unset, .unset, .unset, .unset, .unset, .unset, .unset] [(.long q3), (.double (FP.i2d (p2 &&& (2147483647 : Int32))))])) rfl (hb hby at_10)) ?_
  show Go p.tables e below (T.setTop (mkF m 13 #[.val (.int p0), .val (.int p1), .val (.int p2), .val (.long q3), .second, .val (.int p4), .val (.int p5), .val (.double (FP.i2d (p2 &&& (2147483647 : Int32)))), .second, .unset, .unset, .unset, .unset, .unset, .unset, .unset] [(.long (9223372036854775807 : Int64)), (.long q3), (.double (FP.i2d (p2 &&& (2147483647 : Int32))))])) _
  refine Go.by (fun tt_ kk_ => XS.land X.here hx rfl (hb hby at_13) rfl kk_) ?_
  show Go p.tables e below (T.setTop (mkF m 14 #[.val (.int p0), .val (.int p1), .val (.int p2), .val (.long q3), .second, .val (.int p4), .val (.int p5), .val (.double (FP.i2d (p2 &&& (2147483647 : Int32)))), .second, .unset, .unset, .unset, .unset, .unset, .unset, .unset] [(.long (q3 &&& (9223372036854775807 : Int64))), (.double (FP.i2d (p2 &&& (2147483647 : Int32))))])) _
  refine Go.by (fun tt_ kk_ => XS.l2dS X.here hx rfl (hb hby at_14) rfl rfl kk_) ?_
  show Go p.tables e below (T.setTop (mkF m 15 #[.val (.int p0), .val (.int p1), .val (.int p2), .val (.long q3), .second, .val (.int p4), .val (.int p5), .val (.double (FP.i2d (p2 &&& (2147483647 : Int32)))), .second, .unset, .unset, .unset, .unset, .unset, .unset, .unset] [(.double (FP.l2d (q3 &&& (9223372036854775807 : Int64)))), (.double (FP.i2d (p2 &&& (2147483647 : Int32))))])) _
  refine Go.by (fun tt_ kk_ => XS.daddS X.here hx rfl (hb hby at_15) rfl (own_sum _ _).noNaN rfl kk_) ?_
  show Go p.tables e below (T.setTop (mkF m 16 #[.val (.int p0), .val (.int p1), .val (.int p2), .val (.long q3), .second, .val (.int p4), .val (.int p5), .val (.double (FP.i2d (p2 &&& (2147483647 : Int32)))), .second, .unset, .unset, .unset, .unset, .unset, .unset, .unset] [(.double (FP.dadd (FP.i2d (p2 &&& (2147483647 : Int32))) (FP.l2d (q3 &&& (9223372036854775807 : Int64)))))])) _
  obtain ⟨dd, e_dd⟩ : ∃ z, z = (FP.dadd (FP.i2d (p2 &&& (2147483647 : Int32))) (FP.l2d (q3 &&& (9223372036854775807 : Int64)))) := ⟨_, rfl⟩
  rw [← e_dd]
  show Go p.tables e below (T.setTop (mkF m 16 #[.val (.int p0), .val (.int p1), .val (.int p2), .val (.long q3), .second, .val (.int p4), .val (.int p5), .val (.double (FP.i2d (p2 &&& (2147483647 : Int32)))), .second, .unset, .unset, .unset, .unset, .unset, .unset, .unset] [(.double dd)])) _
  refine Go.by (fun tt_ kk_ => XS.dstore X.here hx rfl (hb hby at_16) rfl (l' := #[.val (.int p0), .val (.int p1), .val (.int p2), .val (.long q3), .second, .val (.int p4), .val (.int p5), .val (.double (FP.i2d (p2 &&& (2147483647 : Int32)))), .second, .val (.double dd), .second, .unset, .unset, .unset, .unset, .unset]) rfl kk_) ?_
  show Go p.tables e below (T.setTop (mkF m 18 #[.val (.int p0), .val (.int p1), .val (.int p2), .val (.long q3), .second, .val (.int p4), .val (.int p5), .val (.double (FP.i2d (p2 &&& (2147483647 : Int32)))), .second, .val (.double dd), .second, .unset, .unset, .unset, .unset, .unset] [])) _
  refine Go.by (fun tt_ kk_ => XS.iload X.here hx rfl (hb hby at_18) rfl kk_) ?_
  show Go p.tables e below (T.setTop (mkF m 20 #[.val (.int p0), .val (.int p1), .val (.int p2), .val (.long q3), .second, .val (.int p4), .val (.int p5), .val (.double (FP.i2d (p2 &&& (2147483647 : Int32)))), .second, .val (.double dd), .second, .unset, .unset, .unset, .unset, .unset] [(.int p4)])) _
  refine Go.by (X.ldcInt hx hown (mvT hZ (hw _ (List.mem_of_getElem? (i := 0) rfl))) (g := (mkF m 20 #[.val (.int p0), .val (.int p1), .val (.int p2), .val (.long q3), .second, .val (.int p4), .val (.int p5), .val (.double (FP.i2d (p2 &&& (2147483647 : Int32)))), .second, .val (.double dd), .second, .unset, .unset, .unset, .unset, .unset] [(.int p4)])) rfl (hb hby at_20)) ?_
  show Go p.tables e below (T.setTop (mkF m 22 #[.val (.int p0), .val (.int p1), .val (.int p2), .val (.long q3), .second, .val (.int p4), .val (.int p5), .val (.double (FP.i2d (p2 &&& (2147483647 : Int32)))), .second, .val (.double dd), .second, .unset, .unset, .unset, .unset, .unset] [(.int (2147483647 : Int32)), (.int p4)])) _
  refine Go.by (fun tt_ kk_ => XS.iand X.here hx rfl (hb hby at_22) rfl kk_) ?_
  show Go p.tables e below (T.setTop (mkF m 23 #[.val (.int p0), .val (.int p1), .val (.int p2), .val (.long q3), .second, .val (.int p4), .val (.int p5), .val (.double (FP.i2d (p2 &&& (2147483647 : Int32)))), .second, .val (.double dd), .second, .unset, .unset, .unset, .unset, .unset] [(.int (p4 &&& (2147483647 : Int32)))])) _
  refine Go.by (fun tt_ kk_ => XS.i2dS X.here hx rfl (hb hby at_23) rfl rfl kk_) ?_
  show Go p.tables e below (T.setTop (mkF m 24 #[.val (.int p0), .val (.int p1), .val (.int p2), .val (.long q3), .second, .val (.int p4), .val (.int p5), .val (.double (FP.i2d (p2 &&& (2147483647 : Int32)))), .second, .val (.double dd), .second, .unset, .unset, .unset, .unset, .unset] [(.double (FP.i2d (p4 &&& (2147483647 : Int32))))])) _
  refine Go.by (fun tt_ kk_ => XS.dstore X.here hx rfl (hb hby at_24) rfl (l' := #[.val (.int p0), .val (.int p1), .val (.int p2), .val (.long q3), .second, .val (.int p4), .val (.int p5), .val (.double (FP.i2d (p2 &&& (2147483647 : Int32)))), .second, .val (.double dd), .second, .val (.double (FP.i2d (p4 &&& (2147483647 : Int32)))), .second, .unset, .unset, .unset]) rfl kk_) ?_
  show Go p.tables e below (T.setTop (mkF m 26 #[.val (.int p0), .val (.int p1), .val (.int p2), .val (.long q3), .second, .val (.int p4), .val (.int p5), .val (.double (FP.i2d (p2 &&& (2147483647 : Int32)))), .second, .val (.double dd), .second, .val (.double (FP.i2d (p4 &&& (2147483647 : Int32)))), .second, .unset, .unset, .unset] [])) _
  refine Go.by (fun tt_ kk_ => XS.iload X.here hx rfl (hb hby at_26) rfl kk_) ?_
  show Go p.tables e below (T.setTop (mkF m 28 #[.val (.int p0), .val (.int p1), .val (.int p2), .val (.long q3), .second, .val (.int p4), .val (.int p5), .val (.double (FP.i2d (p2 &&& (2147483647 : Int32)))), .second, .val (.double dd), .second, .val (.double (FP.i2d (p4 &&& (2147483647 : Int32)))), .second, .unset, .unset, .unset] [(.int p5)])) _
  refine Go.by (fun tt_ kk_ => XS.iconst X.here hx rfl (hb hby at_28) kk_) ?_
  show Go p.tables e below (T.setTop (mkF m 29 #[.val (.int p0), .val (.int p1), .val (.int p2), .val (.long q3), .second, .val (.int p4), .val (.int p5), .val (.double (FP.i2d (p2 &&& (2147483647 : Int32)))), .second, .val (.double dd), .second, .val (.double (FP.i2d (p4 &&& (2147483647 : Int32)))), .second, .unset, .unset, .unset] [(.int (3 : Int32)), (.int p5)])) _
  refine Go.by (fun tt_ kk_ => XS.iand X.here hx rfl (hb hby at_29) rfl kk_) ?_
  show Go p.tables e below (T.setTop (mkF m 30 #[.val (.int p0), .val (.int p1), .val (.int p2), .val (.long q3), .second, .val (.int p4), .val (.int p5), .val (.double (FP.i2d (p2 &&& (2147483647 : Int32)))), .second, .val (.double dd), .second, .val (.double (FP.i2d (p4 &&& (2147483647 : Int32)))), .second, .unset, .unset, .unset] [(.int (p5 &&& (3 : Int32)))])) _
  refine Go.by (fun tt_ kk_ => XS.istore X.here hx rfl (hb hby at_30) rfl (l' := #[.val (.int p0), .val (.int p1), .val (.int p2), .val (.long q3), .second, .val (.int p4), .val (.int p5), .val (.double (FP.i2d (p2 &&& (2147483647 : Int32)))), .second, .val (.double dd), .second, .val (.double (FP.i2d (p4 &&& (2147483647 : Int32)))), .second, .val (.int (p5 &&& (3 : Int32))), .unset, .unset]) rfl kk_) ?_
  show Go p.tables e below (T.setTop (mkF m 32 #[.val (.int p0), .val (.int p1), .val (.int p2), .val (.long q3), .second, .val (.int p4), .val (.int p5), .val (.double (FP.i2d (p2 &&& (2147483647 : Int32)))), .second, .val (.double dd), .second, .val (.double (FP.i2d (p4 &&& (2147483647 : Int32)))), .second, .val (.int (p5 &&& (3 : Int32))), .unset, .unset] [])) _
  refine Go.by (fun tt_ kk_ => XS.iload X.here hx rfl (hb hby at_32) rfl kk_) ?_
  show Go p.tables e below (T.setTop (mkF m 34 #[.val (.int p0), .val (.int p1), .val (.int p2), .val (.long q3), .second, .val (.int p4), .val (.int p5), .val (.double (FP.i2d (p2 &&& (2147483647 : Int32)))), .second, .val (.double dd), .second, .val (.double (FP.i2d (p4 &&& (2147483647 : Int32)))), .second, .val (.int (p5 &&& (3 : Int32))), .unset, .unset] [(.int (p5 &&& (3 : Int32)))])) _
  by_cases hc34 : (p5 &&& (3 : Int32)) = (0 : Int32)
  · refine Go.by (fun tt_ kk_ => XS.ifNo X.here hx rfl (hb hby at_34) rfl ((if0 _ _).trans (teq hc34).2) kk_) ?_
    show Go p.tables e below (T.setTop (mkF m 37 #[.val (.int p0), .val (.int p1), .val (.int p2), .val (.long q3), .second, .val (.int p4), .val (.int p5), .val (.double (FP.i2d (p2 &&& (2147483647 : Int32)))), .second, .val (.double dd), .second, .val (.double (FP.i2d (p4 &&& (2147483647 : Int32)))), .second, .val (.int (p5 &&& (3 : Int32))), .unset, .unset] [])) _
    obtain ⟨T, h1, X, eT, E_, A_, D_, -, st⟩ := newO X hx hZ hown (hw _ (List.mem_of_getElem? (i := 35) rfl)) (hw _ (List.mem_of_getElem? (i := 7) rfl)) (hw _ (List.mem_of_getElem? (i := 4) rfl)) eT (g := (mkF m 37 #[.val (.int p0), .val (.int p1), .val (.int p2), .val (.long q3), .second, .val (.int p4), .val (.int p5), .val (.double (FP.i2d (p2 &&& (2147483647 : Int32)))), .second, .val (.double dd), .second, .val (.double (FP.i2d (p4 &&& (2147483647 : Int32)))), .second, .val (.int (p5 &&& (3 : Int32))), .unset, .unset] [])) rfl (hb hby at_37) (by decide) (by decide)
    obtain ⟨b1, g_b1'⟩ : ∃ z, z = h0.size := ⟨_, rfl⟩
    rw [← g_b1'] at A_ D_ st
    have g_b1 : n0 ≤ b1 := Nat.le_trans Z0 (Nat.le_trans K.1 (Nat.le_of_eq g_b1'.symm))
    have sz_b1 : h0.size ≤ b1 := Nat.le_trans K.1 (Nat.le_of_eq g_b1'.symm)
    have K := K.ext E_
    have E_b1 := A_
    have F_index_b1 : Fld Z h1 b1 "com/example/rootward/rootward/model/Request" "index" "I" (.int (0 : Int32)) := D_ (Or.inr (hw _ (List.mem_of_getElem? (i := 21) rfl))) (ty := .int) (by decide)
    have F_node_b1 : Fld Z h1 b1 "com/example/rootward/rootward/model/Request" "node" "I" (.int (0 : Int32)) := D_ (Or.inr (hw _ (List.mem_of_getElem? (i := 23) rfl))) (ty := .int) (by decide)
    have F_arrival_b1 : Fld Z h1 b1 "com/example/rootward/rootward/model/Request" "arrival" "D" (.double (0 : UInt64)) := D_ (Or.inr (hw _ (List.mem_of_getElem? (i := 25) rfl))) (ty := .double) (by decide)
    have F_deadline_b1 : Fld Z h1 b1 "com/example/rootward/rootward/model/Request" "deadline" "D" (.double (0 : UInt64)) := D_ (Or.inr (hw _ (List.mem_of_getElem? (i := 27) rfl))) (ty := .double) (by decide)
    have F_rate_b1 : Fld Z h1 b1 "com/example/rootward/rootward/model/Request" "rate" "D" (.double (0 : UInt64)) := D_ (Or.inr (hw _ (List.mem_of_getElem? (i := 29) rfl))) (ty := .double) (by decide)
    refine Go.by st ?_
    show Go p.tables e below (T.setTop (mkF m 40 #[.val (.int p0), .val (.int p1), .val (.int p2), .val (.long q3), .second, .val (.int p4), .val (.int p5), .val (.double (FP.i2d (p2 &&& (2147483647 : Int32)))), .second, .val (.double dd), .second, .val (.double (FP.i2d (p4 &&& (2147483647 : Int32)))), .second, .val (.int (p5 &&& (3 : Int32))), .unset, .unset] [(.ref b1)])) _
    refine Go.by (fun tt_ kk_ => XS.dup X.here hx rfl (hb hby at_40) rfl rfl kk_) ?_
    show Go p.tables e below (T.setTop (mkF m 41 #[.val (.int p0), .val (.int p1), .val (.int p2), .val (.long q3), .second, .val (.int p4), .val (.int p5), .val (.double (FP.i2d (p2 &&& (2147483647 : Int32)))), .second, .val (.double dd), .second, .val (.double (FP.i2d (p4 &&& (2147483647 : Int32)))), .second, .val (.int (p5 &&& (3 : Int32))), .unset, .unset] [(.ref b1), (.ref b1)])) _
    refine Go.by (fun tt_ kk_ => XS.iloadN X.here hx rfl (hb hby at_41) rfl kk_) ?_
    show Go p.tables e below (T.setTop (mkF m 42 #[.val (.int p0), .val (.int p1), .val (.int p2), .val (.long q3), .second, .val (.int p4), .val (.int p5), .val (.double (FP.i2d (p2 &&& (2147483647 : Int32)))), .second, .val (.double dd), .second, .val (.double (FP.i2d (p4 &&& (2147483647 : Int32)))), .second, .val (.int (p5 &&& (3 : Int32))), .unset, .unset] [(.int p0), (.ref b1), (.ref b1)])) _
    refine Go.by (fun tt_ kk_ => XS.iloadN X.here hx rfl (hb hby at_42) rfl kk_) ?_
    show Go p.tables e below (T.setTop (mkF m 43 #[.val (.int p0), .val (.int p1), .val (.int p2), .val (.long q3), .second, .val (.int p4), .val (.int p5), .val (.double (FP.i2d (p2 &&& (2147483647 : Int32)))), .second, .val (.double dd), .second, .val (.double (FP.i2d (p4 &&& (2147483647 : Int32)))), .second, .val (.int (p5 &&& (3 : Int32))), .unset, .unset] [(.int p1), (.int p0), (.ref b1), (.ref b1)])) _
    refine Go.by (fun tt_ kk_ => XS.dload X.here hx rfl (hb hby at_43) rfl kk_) ?_
    show Go p.tables e below (T.setTop (mkF m 45 #[.val (.int p0), .val (.int p1), .val (.int p2), .val (.long q3), .second, .val (.int p4), .val (.int p5), .val (.double (FP.i2d (p2 &&& (2147483647 : Int32)))), .second, .val (.double dd), .second, .val (.double (FP.i2d (p4 &&& (2147483647 : Int32)))), .second, .val (.int (p5 &&& (3 : Int32))), .unset, .unset] [(.double (FP.i2d (p2 &&& (2147483647 : Int32)))), (.int p1), (.int p0), (.ref b1), (.ref b1)])) _
    refine Go.by (fun tt_ kk_ => XS.dload X.here hx rfl (hb hby at_45) rfl kk_) ?_
    show Go p.tables e below (T.setTop (mkF m 47 #[.val (.int p0), .val (.int p1), .val (.int p2), .val (.long q3), .second, .val (.int p4), .val (.int p5), .val (.double (FP.i2d (p2 &&& (2147483647 : Int32)))), .second, .val (.double dd), .second, .val (.double (FP.i2d (p4 &&& (2147483647 : Int32)))), .second, .val (.int (p5 &&& (3 : Int32))), .unset, .unset] [(.double dd), (.double (FP.i2d (p2 &&& (2147483647 : Int32)))), (.int p1), (.int p0), (.ref b1), (.ref b1)])) _
    refine Go.by (fun tt_ kk_ => XS.dconst0 X.here hx rfl (hb hby at_47) (v := (0 : UInt64)) rfl kk_) ?_
    show Go p.tables e below (T.setTop (mkF m 48 #[.val (.int p0), .val (.int p1), .val (.int p2), .val (.long q3), .second, .val (.int p4), .val (.int p5), .val (.double (FP.i2d (p2 &&& (2147483647 : Int32)))), .second, .val (.double dd), .second, .val (.double (FP.i2d (p4 &&& (2147483647 : Int32)))), .second, .val (.int (p5 &&& (3 : Int32))), .unset, .unset] [(.double (0 : UInt64)), (.double dd), (.double (FP.i2d (p2 &&& (2147483647 : Int32)))), (.int p1), (.int p0), (.ref b1), (.ref b1)])) _
    obtain ⟨_, _, ⟨T, L_, k_, n_⟩, -, X, ⟨Lc_, hQ, l_, y_, z_⟩, st⟩ := X.specialBack hx (y := (⟨"com/example/rootward/rootward/model/Request", "<init>", "(IIDDD)V"⟩ : MethodName)) rfl hown (mvT hZ (hw _ (List.mem_of_getElem? (i := 36) rfl))) (mvT hZ (hw _ (List.mem_of_getElem? (i := 10) rfl))) (mvT hZ (hw _ (List.mem_of_getElem? (i := 11) rfl))) (by decide) (backOf (W := 1) (rm2 l Z a0 hw [] b1 p0 p1 (FP.i2d (p2 &&& (2147483647 : Int32))) dd (0 : UInt64) h1 n0 (Nat.le_trans Z0 K.1) E_b1 g_b1 F_index_b1 F_node_b1 F_arrival_b1 F_deadline_b1 F_rate_b1) hZ (hw _ (List.mem_of_getElem? (i := 11) rfl)) (hw _ (List.mem_of_getElem? (i := 4) rfl)) (by decide) (by decide)) (g := (mkF m 48 #[.val (.int p0), .val (.int p1), .val (.int p2), .val (.long q3), .second, .val (.int p4), .val (.int p5), .val (.double (FP.i2d (p2 &&& (2147483647 : Int32)))), .second, .val (.double dd), .second, .val (.double (FP.i2d (p4 &&& (2147483647 : Int32)))), .second, .val (.int (p5 &&& (3 : Int32))), .unset, .unset] [(.double (0 : UInt64)), (.double dd), (.double (FP.i2d (p2 &&& (2147483647 : Int32)))), (.int p1), (.int p0), (.ref b1), (.ref b1)])) rfl (by rw [hml]; rfl) (Steps.refl _) (a := b1) (argsL := [(.int p0), (.int p1), (.double (FP.i2d (p2 &&& (2147483647 : Int32)))), (.double dd), (.double (0 : UInt64))]) (rest := [(.ref b1)]) (lenOf pd_1 rfl) rfl (by show 2 * 0 + _ ≤ _; exact Nat.le_of_eq rfl) (hb hby at_48) (fun _ _ => ⟨rfl, eT, (by decide : 1 + 0 ≤ _), (by decide : 5 + 0 ≤ _)⟩)
    dsimp only [Pt.U, Pt.locs, Pt.cells, Pt.slots] at X l_ y_ z_ st hQ
    subst l_ y_ z_
    obtain ⟨h2, eT⟩ : ∃ z, T.heap = z := ⟨_, rfl⟩
    rw [eT] at hQ
    obtain ⟨rfl, Nq, Kq, Eq_, Fq_⟩ := hQ
    have N := Fr.app N Nq
    have E_b1 := Eq_
    have F_deadline_b1 := Fq_
    have K := K.trans Kq (allS (Or.inr sz_b1) all0)
    refine Go.tr st ?_
    show Go p.tables e below (T.setTop (mkF m 51 #[.val (.int p0), .val (.int p1), .val (.int p2), .val (.long q3), .second, .val (.int p4), .val (.int p5), .val (.double (FP.i2d (p2 &&& (2147483647 : Int32)))), .second, .val (.double dd), .second, .val (.double (FP.i2d (p4 &&& (2147483647 : Int32)))), .second, .val (.int (p5 &&& (3 : Int32))), .unset, .unset] [(.ref b1)])) _
    refine Go.by (fun tt_ kk_ => XS.astore X.here hx rfl (hb hby at_51) rfl rfl (l' := #[.val (.int p0), .val (.int p1), .val (.int p2), .val (.long q3), .second, .val (.int p4), .val (.int p5), .val (.double (FP.i2d (p2 &&& (2147483647 : Int32)))), .second, .val (.double dd), .second, .val (.double (FP.i2d (p4 &&& (2147483647 : Int32)))), .second, .val (.int (p5 &&& (3 : Int32))), .val (.ref b1), .unset]) rfl kk_) ?_
    show Go p.tables e below (T.setTop (mkF m 53 #[.val (.int p0), .val (.int p1), .val (.int p2), .val (.long q3), .second, .val (.int p4), .val (.int p5), .val (.double (FP.i2d (p2 &&& (2147483647 : Int32)))), .second, .val (.double dd), .second, .val (.double (FP.i2d (p4 &&& (2147483647 : Int32)))), .second, .val (.int (p5 &&& (3 : Int32))), .val (.ref b1), .unset] [])) _
    refine Go.by (fun tt_ kk_ => XS.aload X.here hx rfl (hb hby at_53) rfl rfl kk_) ?_
    show Go p.tables e below (T.setTop (mkF m 55 #[.val (.int p0), .val (.int p1), .val (.int p2), .val (.long q3), .second, .val (.int p4), .val (.int p5), .val (.double (FP.i2d (p2 &&& (2147483647 : Int32)))), .second, .val (.double dd), .second, .val (.double (FP.i2d (p4 &&& (2147483647 : Int32)))), .second, .val (.int (p5 &&& (3 : Int32))), .val (.ref b1), .unset] [(.ref b1)])) _
    have hz : own_hd dd = (1 : Int32) := own_hd_fin (e_dd ▸ own_sum _ _)
    obtain ⟨cq_, kq_, qa_, qb_, qc_⟩ := isOf hZ eT E_b1
    obtain ⟨_, _, ⟨T, L_, k_, n_⟩, -, X, ⟨Lc_, hQ, l_, y_, z_⟩, st⟩ := X.virtualBack hx (y := (⟨"com/example/rootward/rootward/model/Request", "hasDeadline", "()Z"⟩ : MethodName)) (z := (⟨"com/example/rootward/rootward/model/Request", "hasDeadline", "()Z"⟩ : MethodName)) hown (mvT hZ (hw _ (List.mem_of_getElem? (i := 30) rfl))) (mvT hZ (hw _ (List.mem_of_getElem? (i := 31) rfl))) (notFace_of_selects (args := #[]) (mvT hZ (hw _ (List.mem_of_getElem? (i := 33) rfl)))) (mvT hZ (hw _ (List.mem_of_getElem? (i := 33) rfl))) (mvT hZ (hw _ (List.mem_of_getElem? (i := 32) rfl))) (by decide) (backOf (W := 0) (rm5 l Z a0 hw [] b1 dd h2 n0 (Nat.le_trans Z0 K.1) F_deadline_b1) hZ (hw _ (List.mem_of_getElem? (i := 34) rfl)) (hw _ (List.mem_of_getElem? (i := 4) rfl)) (by decide) (by decide)) qa_ qc_ (g := (mkF m 55 #[.val (.int p0), .val (.int p1), .val (.int p2), .val (.long q3), .second, .val (.int p4), .val (.int p5), .val (.double (FP.i2d (p2 &&& (2147483647 : Int32)))), .second, .val (.double dd), .second, .val (.double (FP.i2d (p4 &&& (2147483647 : Int32)))), .second, .val (.int (p5 &&& (3 : Int32))), .val (.ref b1), .unset] [(.ref b1)])) rfl (by rw [hml]; rfl) (Steps.refl _) (argsL := []) (rest := []) (lenOf pd_2 rfl) rfl (by show 2 * 0 + _ ≤ _; exact Nat.le_of_eq rfl) (hb hby at_55) (fun _ _ => ⟨rfl, eT, (by decide : 1 + 0 ≤ _), (by decide : 5 + 0 ≤ _)⟩)
    dsimp only [Pt.U, Pt.locs, Pt.cells, Pt.slots] at X l_ y_ z_ st hQ
    subst l_ y_ z_
    obtain ⟨e_v, Nq, eh⟩ := hQ
    rw [hz] at e_v
    subst e_v
    have N := Fr.app N Nq
    have eT := eh
    refine Go.tr st ?_
    show Go p.tables e below (T.setTop (mkF m 58 #[.val (.int p0), .val (.int p1), .val (.int p2), .val (.long q3), .second, .val (.int p4), .val (.int p5), .val (.double (FP.i2d (p2 &&& (2147483647 : Int32)))), .second, .val (.double dd), .second, .val (.double (FP.i2d (p4 &&& (2147483647 : Int32)))), .second, .val (.int (p5 &&& (3 : Int32))), .val (.ref b1), .unset] [(.int (1 : Int32))])) _
    exact Go.done X  (v := some (.int (1 : Int32))) (fun h => by rw [Bd.returns] at h; cases h) Bd.notSynchronized (fun fs hr => retN X hx (z := (1 : Int32)) (t := .boolean) Bd.returns (by simp) (hb hby at_58) hr) (by rw [eT]; exact ⟨rfl, N⟩) (by decide) (by decide)
  · refine Go.by (fun tt_ kk_ => XS.ifYes X.here hx rfl (pc0 := 34) (pc' := 59) rfl (hb hby at_34) rfl ((if0 _ _).trans (feq hc34).2) (by decide) (by decide) kk_) ?_
    show Go p.tables e below (T.setTop (mkF m 59 #[.val (.int p0), .val (.int p1), .val (.int p2), .val (.long q3), .second, .val (.int p4), .val (.int p5), .val (.double (FP.i2d (p2 &&& (2147483647 : Int32)))), .second, .val (.double dd), .second, .val (.double (FP.i2d (p4 &&& (2147483647 : Int32)))), .second, .val (.int (p5 &&& (3 : Int32))), .unset, .unset] [])) _
    refine Go.by (fun tt_ kk_ => XS.iload X.here hx rfl (hb hby at_59) rfl kk_) ?_
    show Go p.tables e below (T.setTop (mkF m 61 #[.val (.int p0), .val (.int p1), .val (.int p2), .val (.long q3), .second, .val (.int p4), .val (.int p5), .val (.double (FP.i2d (p2 &&& (2147483647 : Int32)))), .second, .val (.double dd), .second, .val (.double (FP.i2d (p4 &&& (2147483647 : Int32)))), .second, .val (.int (p5 &&& (3 : Int32))), .unset, .unset] [(.int (p5 &&& (3 : Int32)))])) _
    refine Go.by (fun tt_ kk_ => XS.iconst X.here hx rfl (hb hby at_61) kk_) ?_
    show Go p.tables e below (T.setTop (mkF m 62 #[.val (.int p0), .val (.int p1), .val (.int p2), .val (.long q3), .second, .val (.int p4), .val (.int p5), .val (.double (FP.i2d (p2 &&& (2147483647 : Int32)))), .second, .val (.double dd), .second, .val (.double (FP.i2d (p4 &&& (2147483647 : Int32)))), .second, .val (.int (p5 &&& (3 : Int32))), .unset, .unset] [(.int (1 : Int32)), (.int (p5 &&& (3 : Int32)))])) _
    by_cases hc62 : (p5 &&& (3 : Int32)) = (1 : Int32)
    · refine Go.by (fun tt_ kk_ => XS.icmpNo X.here hx rfl (hb hby at_62) rfl (teq hc62).2 kk_) ?_
      show Go p.tables e below (T.setTop (mkF m 65 #[.val (.int p0), .val (.int p1), .val (.int p2), .val (.long q3), .second, .val (.int p4), .val (.int p5), .val (.double (FP.i2d (p2 &&& (2147483647 : Int32)))), .second, .val (.double dd), .second, .val (.double (FP.i2d (p4 &&& (2147483647 : Int32)))), .second, .val (.int (p5 &&& (3 : Int32))), .unset, .unset] [])) _
      refine Go.by (fun tt_ kk_ => XS.iloadN X.here hx rfl (hb hby at_65) rfl kk_) ?_
      show Go p.tables e below (T.setTop (mkF m 66 #[.val (.int p0), .val (.int p1), .val (.int p2), .val (.long q3), .second, .val (.int p4), .val (.int p5), .val (.double (FP.i2d (p2 &&& (2147483647 : Int32)))), .second, .val (.double dd), .second, .val (.double (FP.i2d (p4 &&& (2147483647 : Int32)))), .second, .val (.int (p5 &&& (3 : Int32))), .unset, .unset] [(.int p0)])) _
      refine Go.by (fun tt_ kk_ => XS.iloadN X.here hx rfl (hb hby at_66) rfl kk_) ?_
      show Go p.tables e below (T.setTop (mkF m 67 #[.val (.int p0), .val (.int p1), .val (.int p2), .val (.long q3), .second, .val (.int p4), .val (.int p5), .val (.double (FP.i2d (p2 &&& (2147483647 : Int32)))), .second, .val (.double dd), .second, .val (.double (FP.i2d (p4 &&& (2147483647 : Int32)))), .second, .val (.int (p5 &&& (3 : Int32))), .unset, .unset] [(.int p1), (.int p0)])) _
      refine Go.by (fun tt_ kk_ => XS.dload X.here hx rfl (hb hby at_67) rfl kk_) ?_
      show Go p.tables e below (T.setTop (mkF m 69 #[.val (.int p0), .val (.int p1), .val (.int p2), .val (.long q3), .second, .val (.int p4), .val (.int p5), .val (.double (FP.i2d (p2 &&& (2147483647 : Int32)))), .second, .val (.double dd), .second, .val (.double (FP.i2d (p4 &&& (2147483647 : Int32)))), .second, .val (.int (p5 &&& (3 : Int32))), .unset, .unset] [(.double (FP.i2d (p2 &&& (2147483647 : Int32)))), (.int p1), (.int p0)])) _
      refine Go.by (fun tt_ kk_ => XS.dload X.here hx rfl (hb hby at_69) rfl kk_) ?_
      show Go p.tables e below (T.setTop (mkF m 71 #[.val (.int p0), .val (.int p1), .val (.int p2), .val (.long q3), .second, .val (.int p4), .val (.int p5), .val (.double (FP.i2d (p2 &&& (2147483647 : Int32)))), .second, .val (.double dd), .second, .val (.double (FP.i2d (p4 &&& (2147483647 : Int32)))), .second, .val (.int (p5 &&& (3 : Int32))), .unset, .unset] [(.double dd), (.double (FP.i2d (p2 &&& (2147483647 : Int32)))), (.int p1), (.int p0)])) _
      obtain ⟨_, _, ⟨T, L_, k_, n_⟩, -, X, ⟨Lc_, hQ, l_, y_, z_⟩, st⟩ := Jvm.LawKit.callS X hx (y := (⟨"com/example/rootward/rootward/model/Request", "withDeadline", "(IIDD)Lcom/example/rootward/rootward/model/Request;"⟩ : MethodName)) hown (mvT hZ (hw _ (List.mem_of_getElem? (i := 42) rfl))) (mvT hZ (hw _ (List.mem_of_getElem? (i := 43) rfl))) (mvT hZ (hw _ (List.mem_of_getElem? (i := 4) rfl))) (mvT hZ (hw _ (List.mem_of_getElem? (i := 44) rfl))) (by decide) (backOf (W := 0) (rm7 l Z a0 hw [] p0 p1 (FP.i2d (p2 &&& (2147483647 : Int32))) dd h0 n0 (Nat.le_trans Z0 K.1) ) hZ (hw _ (List.mem_of_getElem? (i := 44) rfl)) (hw _ (List.mem_of_getElem? (i := 4) rfl)) (by decide) (by decide)) (g := (mkF m 71 #[.val (.int p0), .val (.int p1), .val (.int p2), .val (.long q3), .second, .val (.int p4), .val (.int p5), .val (.double (FP.i2d (p2 &&& (2147483647 : Int32)))), .second, .val (.double dd), .second, .val (.double (FP.i2d (p4 &&& (2147483647 : Int32)))), .second, .val (.int (p5 &&& (3 : Int32))), .unset, .unset] [(.double dd), (.double (FP.i2d (p2 &&& (2147483647 : Int32)))), (.int p1), (.int p0)])) rfl (by rw [hml]; rfl) (argsL := [(.int p0), (.int p1), (.double (FP.i2d (p2 &&& (2147483647 : Int32)))), (.double dd)]) (rest := []) (lenOf pd_3 rfl) rfl (by show 2 * 0 + _ ≤ _; exact Nat.le_of_eq rfl) (hb hby at_71) (fun _ _ => ⟨rfl, eT, (by decide : 0 + 1 ≤ _), (by decide : 0 + 5 ≤ _)⟩)
      dsimp only [Pt.U, Pt.locs, Pt.cells, Pt.slots] at X l_ y_ z_ st hQ
      subst l_ y_ z_
      obtain ⟨h5, eT⟩ : ∃ z, T.heap = z := ⟨_, rfl⟩
      rw [eT] at hQ
      obtain ⟨b4, g_b4, sq_b4, lt_b4, rfl, Nq, Kq, E_b4, F_deadline_b4⟩ := hQ
      have N := Fr.app N Nq
      have sz_b4 : h0.size ≤ b4 := Nat.le_trans K.1 sq_b4
      have K := K.trans Kq all0
      refine Go.by st ?_
      show Go p.tables e below (T.setTop (mkF m 74 #[.val (.int p0), .val (.int p1), .val (.int p2), .val (.long q3), .second, .val (.int p4), .val (.int p5), .val (.double (FP.i2d (p2 &&& (2147483647 : Int32)))), .second, .val (.double dd), .second, .val (.double (FP.i2d (p4 &&& (2147483647 : Int32)))), .second, .val (.int (p5 &&& (3 : Int32))), .unset, .unset] [(.ref b4)])) _
      have hz : own_hd dd = (1 : Int32) := own_hd_fin (e_dd ▸ own_sum _ _)
      obtain ⟨cq_, kq_, qa_, qb_, qc_⟩ := isOf hZ eT E_b4
      obtain ⟨_, _, ⟨T, L_, k_, n_⟩, -, X, ⟨Lc_, hQ, l_, y_, z_⟩, st⟩ := X.virtualBack hx (y := (⟨"com/example/rootward/rootward/model/Request", "hasDeadline", "()Z"⟩ : MethodName)) (z := (⟨"com/example/rootward/rootward/model/Request", "hasDeadline", "()Z"⟩ : MethodName)) hown (mvT hZ (hw _ (List.mem_of_getElem? (i := 30) rfl))) (mvT hZ (hw _ (List.mem_of_getElem? (i := 31) rfl))) (notFace_of_selects (args := #[]) (mvT hZ (hw _ (List.mem_of_getElem? (i := 33) rfl)))) (mvT hZ (hw _ (List.mem_of_getElem? (i := 33) rfl))) (mvT hZ (hw _ (List.mem_of_getElem? (i := 32) rfl))) (by decide) (backOf (W := 0) (rm5 l Z a0 hw [] b4 dd h5 n0 (Nat.le_trans Z0 K.1) F_deadline_b4) hZ (hw _ (List.mem_of_getElem? (i := 34) rfl)) (hw _ (List.mem_of_getElem? (i := 4) rfl)) (by decide) (by decide)) qa_ qc_ (g := (mkF m 74 #[.val (.int p0), .val (.int p1), .val (.int p2), .val (.long q3), .second, .val (.int p4), .val (.int p5), .val (.double (FP.i2d (p2 &&& (2147483647 : Int32)))), .second, .val (.double dd), .second, .val (.double (FP.i2d (p4 &&& (2147483647 : Int32)))), .second, .val (.int (p5 &&& (3 : Int32))), .unset, .unset] [(.ref b4)])) rfl (by rw [hml]; rfl) (Steps.refl _) (argsL := []) (rest := []) (lenOf pd_2 rfl) rfl (by show 2 * 0 + _ ≤ _; exact Nat.le_of_eq rfl) (hb hby at_74) (fun _ _ => ⟨rfl, eT, (by decide : 1 + 0 ≤ _), (by decide : 5 + 0 ≤ _)⟩)
      dsimp only [Pt.U, Pt.locs, Pt.cells, Pt.slots] at X l_ y_ z_ st hQ
      subst l_ y_ z_
      obtain ⟨e_v, Nq, eh⟩ := hQ
      rw [hz] at e_v
      subst e_v
      have N := Fr.app N Nq
      have eT := eh
      refine Go.tr st ?_
      show Go p.tables e below (T.setTop (mkF m 77 #[.val (.int p0), .val (.int p1), .val (.int p2), .val (.long q3), .second, .val (.int p4), .val (.int p5), .val (.double (FP.i2d (p2 &&& (2147483647 : Int32)))), .second, .val (.double dd), .second, .val (.double (FP.i2d (p4 &&& (2147483647 : Int32)))), .second, .val (.int (p5 &&& (3 : Int32))), .unset, .unset] [(.int (1 : Int32))])) _
      exact Go.done X  (v := some (.int (1 : Int32))) (fun h => by rw [Bd.returns] at h; cases h) Bd.notSynchronized (fun fs hr => retN X hx (z := (1 : Int32)) (t := .boolean) Bd.returns (by simp) (hb hby at_77) hr) (by rw [eT]; exact ⟨rfl, N⟩) (by decide) (by decide)
    · refine Go.by (fun tt_ kk_ => XS.icmpYes X.here hx rfl (pc0 := 62) (pc' := 78) rfl (hb hby at_62) rfl (feq hc62).2 (by decide) (by decide) kk_) ?_
      show Go p.tables e below (T.setTop (mkF m 78 #[.val (.int p0), .val (.int p1), .val (.int p2), .val (.long q3), .second, .val (.int p4), .val (.int p5), .val (.double (FP.i2d (p2 &&& (2147483647 : Int32)))), .second, .val (.double dd), .second, .val (.double (FP.i2d (p4 &&& (2147483647 : Int32)))), .second, .val (.int (p5 &&& (3 : Int32))), .unset, .unset] [])) _
      refine Go.by (fun tt_ kk_ => XS.iloadN X.here hx rfl (hb hby at_78) rfl kk_) ?_
      show Go p.tables e below (T.setTop (mkF m 79 #[.val (.int p0), .val (.int p1), .val (.int p2), .val (.long q3), .second, .val (.int p4), .val (.int p5), .val (.double (FP.i2d (p2 &&& (2147483647 : Int32)))), .second, .val (.double dd), .second, .val (.double (FP.i2d (p4 &&& (2147483647 : Int32)))), .second, .val (.int (p5 &&& (3 : Int32))), .unset, .unset] [(.int p0)])) _
      refine Go.by (fun tt_ kk_ => XS.iloadN X.here hx rfl (hb hby at_79) rfl kk_) ?_
      show Go p.tables e below (T.setTop (mkF m 80 #[.val (.int p0), .val (.int p1), .val (.int p2), .val (.long q3), .second, .val (.int p4), .val (.int p5), .val (.double (FP.i2d (p2 &&& (2147483647 : Int32)))), .second, .val (.double dd), .second, .val (.double (FP.i2d (p4 &&& (2147483647 : Int32)))), .second, .val (.int (p5 &&& (3 : Int32))), .unset, .unset] [(.int p1), (.int p0)])) _
      refine Go.by (fun tt_ kk_ => XS.dload X.here hx rfl (hb hby at_80) rfl kk_) ?_
      show Go p.tables e below (T.setTop (mkF m 82 #[.val (.int p0), .val (.int p1), .val (.int p2), .val (.long q3), .second, .val (.int p4), .val (.int p5), .val (.double (FP.i2d (p2 &&& (2147483647 : Int32)))), .second, .val (.double dd), .second, .val (.double (FP.i2d (p4 &&& (2147483647 : Int32)))), .second, .val (.int (p5 &&& (3 : Int32))), .unset, .unset] [(.double (FP.i2d (p2 &&& (2147483647 : Int32)))), (.int p1), (.int p0)])) _
      refine Go.by (fun tt_ kk_ => XS.dload X.here hx rfl (hb hby at_82) rfl kk_) ?_
      show Go p.tables e below (T.setTop (mkF m 84 #[.val (.int p0), .val (.int p1), .val (.int p2), .val (.long q3), .second, .val (.int p4), .val (.int p5), .val (.double (FP.i2d (p2 &&& (2147483647 : Int32)))), .second, .val (.double dd), .second, .val (.double (FP.i2d (p4 &&& (2147483647 : Int32)))), .second, .val (.int (p5 &&& (3 : Int32))), .unset, .unset] [(.double (FP.i2d (p4 &&& (2147483647 : Int32)))), (.double (FP.i2d (p2 &&& (2147483647 : Int32)))), (.int p1), (.int p0)])) _
      obtain ⟨_, _, ⟨T, L_, k_, n_⟩, -, X, ⟨Lc_, hQ, l_, y_, z_⟩, st⟩ := Jvm.LawKit.callS X hx (y := (⟨"com/example/rootward/rootward/model/Request", "withRate", "(IIDD)Lcom/example/rootward/rootward/model/Request;"⟩ : MethodName)) hown (mvT hZ (hw _ (List.mem_of_getElem? (i := 2) rfl))) (mvT hZ (hw _ (List.mem_of_getElem? (i := 3) rfl))) (mvT hZ (hw _ (List.mem_of_getElem? (i := 4) rfl))) (mvT hZ (hw _ (List.mem_of_getElem? (i := 5) rfl))) (by decide) (backOf (W := 0) (rm1 l Z a0 hw [] p0 p1 (FP.i2d (p2 &&& (2147483647 : Int32))) (FP.i2d (p4 &&& (2147483647 : Int32))) h0 n0 (Nat.le_trans Z0 K.1) ) hZ (hw _ (List.mem_of_getElem? (i := 5) rfl)) (hw _ (List.mem_of_getElem? (i := 4) rfl)) (by decide) (by decide)) (g := (mkF m 84 #[.val (.int p0), .val (.int p1), .val (.int p2), .val (.long q3), .second, .val (.int p4), .val (.int p5), .val (.double (FP.i2d (p2 &&& (2147483647 : Int32)))), .second, .val (.double dd), .second, .val (.double (FP.i2d (p4 &&& (2147483647 : Int32)))), .second, .val (.int (p5 &&& (3 : Int32))), .unset, .unset] [(.double (FP.i2d (p4 &&& (2147483647 : Int32)))), (.double (FP.i2d (p2 &&& (2147483647 : Int32)))), (.int p1), (.int p0)])) rfl (by rw [hml]; rfl) (argsL := [(.int p0), (.int p1), (.double (FP.i2d (p2 &&& (2147483647 : Int32)))), (.double (FP.i2d (p4 &&& (2147483647 : Int32))))]) (rest := []) (lenOf pd_3 rfl) rfl (by show 2 * 0 + _ ≤ _; exact Nat.le_of_eq rfl) (hb hby at_84) (fun _ _ => ⟨rfl, eT, (by decide : 0 + 1 ≤ _), (by decide : 0 + 5 ≤ _)⟩)
      dsimp only [Pt.U, Pt.locs, Pt.cells, Pt.slots] at X l_ y_ z_ st hQ
      subst l_ y_ z_
      obtain ⟨h8, eT⟩ : ∃ z, T.heap = z := ⟨_, rfl⟩
      rw [eT] at hQ
      obtain ⟨b7, g_b7, sq_b7, lt_b7, rfl, Nq, Kq, E_b7, F_deadline_b7⟩ := hQ
      have N := Fr.app N Nq
      have sz_b7 : h0.size ≤ b7 := Nat.le_trans K.1 sq_b7
      have K := K.trans Kq all0
      refine Go.by st ?_
      show Go p.tables e below (T.setTop (mkF m 87 #[.val (.int p0), .val (.int p1), .val (.int p2), .val (.long q3), .second, .val (.int p4), .val (.int p5), .val (.double (FP.i2d (p2 &&& (2147483647 : Int32)))), .second, .val (.double dd), .second, .val (.double (FP.i2d (p4 &&& (2147483647 : Int32)))), .second, .val (.int (p5 &&& (3 : Int32))), .unset, .unset] [(.ref b7)])) _
      refine Go.by (fun tt_ kk_ => XS.astore X.here hx rfl (hb hby at_87) rfl rfl (l' := #[.val (.int p0), .val (.int p1), .val (.int p2), .val (.long q3), .second, .val (.int p4), .val (.int p5), .val (.double (FP.i2d (p2 &&& (2147483647 : Int32)))), .second, .val (.double dd), .second, .val (.double (FP.i2d (p4 &&& (2147483647 : Int32)))), .second, .val (.int (p5 &&& (3 : Int32))), .val (.ref b7), .unset]) rfl kk_) ?_
      show Go p.tables e below (T.setTop (mkF m 89 #[.val (.int p0), .val (.int p1), .val (.int p2), .val (.long q3), .second, .val (.int p4), .val (.int p5), .val (.double (FP.i2d (p2 &&& (2147483647 : Int32)))), .second, .val (.double dd), .second, .val (.double (FP.i2d (p4 &&& (2147483647 : Int32)))), .second, .val (.int (p5 &&& (3 : Int32))), .val (.ref b7), .unset] [])) _
      refine Go.by (fun tt_ kk_ => XS.iload X.here hx rfl (hb hby at_89) rfl kk_) ?_
      show Go p.tables e below (T.setTop (mkF m 91 #[.val (.int p0), .val (.int p1), .val (.int p2), .val (.long q3), .second, .val (.int p4), .val (.int p5), .val (.double (FP.i2d (p2 &&& (2147483647 : Int32)))), .second, .val (.double dd), .second, .val (.double (FP.i2d (p4 &&& (2147483647 : Int32)))), .second, .val (.int (p5 &&& (3 : Int32))), .val (.ref b7), .unset] [(.int (p5 &&& (3 : Int32)))])) _
      refine Go.by (fun tt_ kk_ => XS.iconst X.here hx rfl (hb hby at_91) kk_) ?_
      show Go p.tables e below (T.setTop (mkF m 92 #[.val (.int p0), .val (.int p1), .val (.int p2), .val (.long q3), .second, .val (.int p4), .val (.int p5), .val (.double (FP.i2d (p2 &&& (2147483647 : Int32)))), .second, .val (.double dd), .second, .val (.double (FP.i2d (p4 &&& (2147483647 : Int32)))), .second, .val (.int (p5 &&& (3 : Int32))), .val (.ref b7), .unset] [(.int (2 : Int32)), (.int (p5 &&& (3 : Int32)))])) _
      by_cases hc92 : (p5 &&& (3 : Int32)) = (2 : Int32)
      · refine Go.by (fun tt_ kk_ => XS.icmpNo X.here hx rfl (hb hby at_92) rfl (teq hc92).2 kk_) ?_
        show Go p.tables e below (T.setTop (mkF m 95 #[.val (.int p0), .val (.int p1), .val (.int p2), .val (.long q3), .second, .val (.int p4), .val (.int p5), .val (.double (FP.i2d (p2 &&& (2147483647 : Int32)))), .second, .val (.double dd), .second, .val (.double (FP.i2d (p4 &&& (2147483647 : Int32)))), .second, .val (.int (p5 &&& (3 : Int32))), .val (.ref b7), .unset] [])) _
        refine Go.by (fun tt_ kk_ => XS.aload X.here hx rfl (hb hby at_95) rfl rfl kk_) ?_
        show Go p.tables e below (T.setTop (mkF m 97 #[.val (.int p0), .val (.int p1), .val (.int p2), .val (.long q3), .second, .val (.int p4), .val (.int p5), .val (.double (FP.i2d (p2 &&& (2147483647 : Int32)))), .second, .val (.double dd), .second, .val (.double (FP.i2d (p4 &&& (2147483647 : Int32)))), .second, .val (.int (p5 &&& (3 : Int32))), .val (.ref b7), .unset] [(.ref b7)])) _
        have hz : own_hd (9218868437227405312 : UInt64) = (0 : Int32) := own_hd_inf
        obtain ⟨cq_, kq_, qa_, qb_, qc_⟩ := isOf hZ eT E_b7
        obtain ⟨_, _, ⟨T, L_, k_, n_⟩, -, X, ⟨Lc_, hQ, l_, y_, z_⟩, st⟩ := X.virtualBack hx (y := (⟨"com/example/rootward/rootward/model/Request", "hasDeadline", "()Z"⟩ : MethodName)) (z := (⟨"com/example/rootward/rootward/model/Request", "hasDeadline", "()Z"⟩ : MethodName)) hown (mvT hZ (hw _ (List.mem_of_getElem? (i := 30) rfl))) (mvT hZ (hw _ (List.mem_of_getElem? (i := 31) rfl))) (notFace_of_selects (args := #[]) (mvT hZ (hw _ (List.mem_of_getElem? (i := 33) rfl)))) (mvT hZ (hw _ (List.mem_of_getElem? (i := 33) rfl))) (mvT hZ (hw _ (List.mem_of_getElem? (i := 32) rfl))) (by decide) (backOf (W := 0) (rm5 l Z a0 hw [] b7 (9218868437227405312 : UInt64) h8 n0 (Nat.le_trans Z0 K.1) F_deadline_b7) hZ (hw _ (List.mem_of_getElem? (i := 34) rfl)) (hw _ (List.mem_of_getElem? (i := 4) rfl)) (by decide) (by decide)) qa_ qc_ (g := (mkF m 97 #[.val (.int p0), .val (.int p1), .val (.int p2), .val (.long q3), .second, .val (.int p4), .val (.int p5), .val (.double (FP.i2d (p2 &&& (2147483647 : Int32)))), .second, .val (.double dd), .second, .val (.double (FP.i2d (p4 &&& (2147483647 : Int32)))), .second, .val (.int (p5 &&& (3 : Int32))), .val (.ref b7), .unset] [(.ref b7)])) rfl (by rw [hml]; rfl) (Steps.refl _) (argsL := []) (rest := []) (lenOf pd_2 rfl) rfl (by show 2 * 0 + _ ≤ _; exact Nat.le_of_eq rfl) (hb hby at_97) (fun _ _ => ⟨rfl, eT, (by decide : 1 + 0 ≤ _), (by decide : 5 + 0 ≤ _)⟩)
        dsimp only [Pt.U, Pt.locs, Pt.cells, Pt.slots] at X l_ y_ z_ st hQ
        subst l_ y_ z_
        obtain ⟨e_v, Nq, eh⟩ := hQ
        rw [hz] at e_v
        subst e_v
        have N := Fr.app N Nq
        have eT := eh
        refine Go.tr st ?_
        show Go p.tables e below (T.setTop (mkF m 100 #[.val (.int p0), .val (.int p1), .val (.int p2), .val (.long q3), .second, .val (.int p4), .val (.int p5), .val (.double (FP.i2d (p2 &&& (2147483647 : Int32)))), .second, .val (.double dd), .second, .val (.double (FP.i2d (p4 &&& (2147483647 : Int32)))), .second, .val (.int (p5 &&& (3 : Int32))), .val (.ref b7), .unset] [(.int (0 : Int32))])) _
        refine Go.by (fun tt_ kk_ => XS.ifNo X.here hx rfl (hb hby at_100) rfl ((if0 _ _).trans (teq (rfl : (0 : Int32) = (0 : Int32))).2) kk_) ?_
        show Go p.tables e below (T.setTop (mkF m 103 #[.val (.int p0), .val (.int p1), .val (.int p2), .val (.long q3), .second, .val (.int p4), .val (.int p5), .val (.double (FP.i2d (p2 &&& (2147483647 : Int32)))), .second, .val (.double dd), .second, .val (.double (FP.i2d (p4 &&& (2147483647 : Int32)))), .second, .val (.int (p5 &&& (3 : Int32))), .val (.ref b7), .unset] [])) _
        refine Go.by (fun tt_ kk_ => XS.iconst X.here hx rfl (hb hby at_103) kk_) ?_
        show Go p.tables e below (T.setTop (mkF m 104 #[.val (.int p0), .val (.int p1), .val (.int p2), .val (.long q3), .second, .val (.int p4), .val (.int p5), .val (.double (FP.i2d (p2 &&& (2147483647 : Int32)))), .second, .val (.double dd), .second, .val (.double (FP.i2d (p4 &&& (2147483647 : Int32)))), .second, .val (.int (p5 &&& (3 : Int32))), .val (.ref b7), .unset] [(.int (1 : Int32))])) _
        refine Go.by (fun tt_ kk_ => XS.goto X.here hx rfl (pc0 := 104) (pc' := 108) rfl (hb hby at_104) (by decide) (by decide) kk_) ?_
        show Go p.tables e below (T.setTop (mkF m 108 #[.val (.int p0), .val (.int p1), .val (.int p2), .val (.long q3), .second, .val (.int p4), .val (.int p5), .val (.double (FP.i2d (p2 &&& (2147483647 : Int32)))), .second, .val (.double dd), .second, .val (.double (FP.i2d (p4 &&& (2147483647 : Int32)))), .second, .val (.int (p5 &&& (3 : Int32))), .val (.ref b7), .unset] [(.int (1 : Int32))])) _
        exact Go.done X  (v := some (.int (1 : Int32))) (fun h => by rw [Bd.returns] at h; cases h) Bd.notSynchronized (fun fs hr => retN X hx (z := (1 : Int32)) (t := .boolean) Bd.returns (by simp) (hb hby at_108) hr) (by rw [eT]; exact ⟨rfl, N⟩) (by decide) (by decide)
      · refine Go.by (fun tt_ kk_ => XS.icmpYes X.here hx rfl (pc0 := 92) (pc' := 109) rfl (hb hby at_92) rfl (feq hc92).2 (by decide) (by decide) kk_) ?_
        show Go p.tables e below (T.setTop (mkF m 109 #[.val (.int p0), .val (.int p1), .val (.int p2), .val (.long q3), .second, .val (.int p4), .val (.int p5), .val (.double (FP.i2d (p2 &&& (2147483647 : Int32)))), .second, .val (.double dd), .second, .val (.double (FP.i2d (p4 &&& (2147483647 : Int32)))), .second, .val (.int (p5 &&& (3 : Int32))), .val (.ref b7), .unset] [])) _
        obtain ⟨T, h10, X, eT, E_, A_, D_, -, st⟩ := newO X hx hZ hown (hw _ (List.mem_of_getElem? (i := 35) rfl)) (hw _ (List.mem_of_getElem? (i := 7) rfl)) (hw _ (List.mem_of_getElem? (i := 4) rfl)) eT (g := (mkF m 109 #[.val (.int p0), .val (.int p1), .val (.int p2), .val (.long q3), .second, .val (.int p4), .val (.int p5), .val (.double (FP.i2d (p2 &&& (2147483647 : Int32)))), .second, .val (.double dd), .second, .val (.double (FP.i2d (p4 &&& (2147483647 : Int32)))), .second, .val (.int (p5 &&& (3 : Int32))), .val (.ref b7), .unset] [])) rfl (hb hby at_109) (by decide) (by decide)
        obtain ⟨b10, g_b10'⟩ : ∃ z, z = h8.size := ⟨_, rfl⟩
        rw [← g_b10'] at A_ D_ st
        have ne_b7_b10 : b7 ≠ b10 := Nat.ne_of_lt (Nat.lt_of_lt_of_le E_b7.lt (Nat.le_of_eq g_b10'.symm))
        have ne_b10_b7 : b10 ≠ b7 := Ne.symm ne_b7_b10
        have g_b10 : n0 ≤ b10 := Nat.le_trans Z0 (Nat.le_trans K.1 (Nat.le_of_eq g_b10'.symm))
        have sz_b10 : h0.size ≤ b10 := Nat.le_trans K.1 (Nat.le_of_eq g_b10'.symm)
        have K := K.ext E_
        have E_b7 := Exa.ext E_ E_b7
        have F_deadline_b7 := Fld.ext E_ F_deadline_b7
        have E_b10 := A_
        have F_index_b10 : Fld Z h10 b10 "com/example/rootward/rootward/model/Request" "index" "I" (.int (0 : Int32)) := D_ (Or.inr (hw _ (List.mem_of_getElem? (i := 21) rfl))) (ty := .int) (by decide)
        have F_node_b10 : Fld Z h10 b10 "com/example/rootward/rootward/model/Request" "node" "I" (.int (0 : Int32)) := D_ (Or.inr (hw _ (List.mem_of_getElem? (i := 23) rfl))) (ty := .int) (by decide)
        have F_arrival_b10 : Fld Z h10 b10 "com/example/rootward/rootward/model/Request" "arrival" "D" (.double (0 : UInt64)) := D_ (Or.inr (hw _ (List.mem_of_getElem? (i := 25) rfl))) (ty := .double) (by decide)
        have F_deadline_b10 : Fld Z h10 b10 "com/example/rootward/rootward/model/Request" "deadline" "D" (.double (0 : UInt64)) := D_ (Or.inr (hw _ (List.mem_of_getElem? (i := 27) rfl))) (ty := .double) (by decide)
        have F_rate_b10 : Fld Z h10 b10 "com/example/rootward/rootward/model/Request" "rate" "D" (.double (0 : UInt64)) := D_ (Or.inr (hw _ (List.mem_of_getElem? (i := 29) rfl))) (ty := .double) (by decide)
        refine Go.by st ?_
        show Go p.tables e below (T.setTop (mkF m 112 #[.val (.int p0), .val (.int p1), .val (.int p2), .val (.long q3), .second, .val (.int p4), .val (.int p5), .val (.double (FP.i2d (p2 &&& (2147483647 : Int32)))), .second, .val (.double dd), .second, .val (.double (FP.i2d (p4 &&& (2147483647 : Int32)))), .second, .val (.int (p5 &&& (3 : Int32))), .val (.ref b7), .unset] [(.ref b10)])) _
        refine Go.by (fun tt_ kk_ => XS.dup X.here hx rfl (hb hby at_112) rfl rfl kk_) ?_
        show Go p.tables e below (T.setTop (mkF m 113 #[.val (.int p0), .val (.int p1), .val (.int p2), .val (.long q3), .second, .val (.int p4), .val (.int p5), .val (.double (FP.i2d (p2 &&& (2147483647 : Int32)))), .second, .val (.double dd), .second, .val (.double (FP.i2d (p4 &&& (2147483647 : Int32)))), .second, .val (.int (p5 &&& (3 : Int32))), .val (.ref b7), .unset] [(.ref b10), (.ref b10)])) _
        refine Go.by (fun tt_ kk_ => XS.iloadN X.here hx rfl (hb hby at_113) rfl kk_) ?_
        show Go p.tables e below (T.setTop (mkF m 114 #[.val (.int p0), .val (.int p1), .val (.int p2), .val (.long q3), .second, .val (.int p4), .val (.int p5), .val (.double (FP.i2d (p2 &&& (2147483647 : Int32)))), .second, .val (.double dd), .second, .val (.double (FP.i2d (p4 &&& (2147483647 : Int32)))), .second, .val (.int (p5 &&& (3 : Int32))), .val (.ref b7), .unset] [(.int p0), (.ref b10), (.ref b10)])) _
        refine Go.by (fun tt_ kk_ => XS.iloadN X.here hx rfl (hb hby at_114) rfl kk_) ?_
        show Go p.tables e below (T.setTop (mkF m 115 #[.val (.int p0), .val (.int p1), .val (.int p2), .val (.long q3), .second, .val (.int p4), .val (.int p5), .val (.double (FP.i2d (p2 &&& (2147483647 : Int32)))), .second, .val (.double dd), .second, .val (.double (FP.i2d (p4 &&& (2147483647 : Int32)))), .second, .val (.int (p5 &&& (3 : Int32))), .val (.ref b7), .unset] [(.int p1), (.int p0), (.ref b10), (.ref b10)])) _
        refine Go.by (fun tt_ kk_ => XS.dload X.here hx rfl (hb hby at_115) rfl kk_) ?_
        show Go p.tables e below (T.setTop (mkF m 117 #[.val (.int p0), .val (.int p1), .val (.int p2), .val (.long q3), .second, .val (.int p4), .val (.int p5), .val (.double (FP.i2d (p2 &&& (2147483647 : Int32)))), .second, .val (.double dd), .second, .val (.double (FP.i2d (p4 &&& (2147483647 : Int32)))), .second, .val (.int (p5 &&& (3 : Int32))), .val (.ref b7), .unset] [(.double (FP.i2d (p2 &&& (2147483647 : Int32)))), (.int p1), (.int p0), (.ref b10), (.ref b10)])) _
        refine Go.by (fun tt_ kk_ => XS.aload X.here hx rfl (hb hby at_117) rfl rfl kk_) ?_
        show Go p.tables e below (T.setTop (mkF m 119 #[.val (.int p0), .val (.int p1), .val (.int p2), .val (.long q3), .second, .val (.int p4), .val (.int p5), .val (.double (FP.i2d (p2 &&& (2147483647 : Int32)))), .second, .val (.double dd), .second, .val (.double (FP.i2d (p4 &&& (2147483647 : Int32)))), .second, .val (.int (p5 &&& (3 : Int32))), .val (.ref b7), .unset] [(.ref b7), (.double (FP.i2d (p2 &&& (2147483647 : Int32)))), (.int p1), (.int p0), (.ref b10), (.ref b10)])) _
        obtain ⟨cq_, kq_, qa_, qb_, qc_⟩ := isOf hZ eT E_b7
        obtain ⟨_, _, ⟨T, L_, k_, n_⟩, -, X, ⟨Lc_, hQ, l_, y_, z_⟩, st⟩ := X.virtualBack hx (y := (⟨"com/example/rootward/rootward/model/Request", "deadline", "()D"⟩ : MethodName)) (z := (⟨"com/example/rootward/rootward/model/Request", "deadline", "()D"⟩ : MethodName)) hown (mvT hZ (hw _ (List.mem_of_getElem? (i := 37) rfl))) (mvT hZ (hw _ (List.mem_of_getElem? (i := 38) rfl))) (notFace_of_selects (args := #[]) (mvT hZ (hw _ (List.mem_of_getElem? (i := 40) rfl)))) (mvT hZ (hw _ (List.mem_of_getElem? (i := 40) rfl))) (mvT hZ (hw _ (List.mem_of_getElem? (i := 39) rfl))) (by decide) (backOf (W := 6) (rm6 l Z a0 hw [] b7 (9218868437227405312 : UInt64) h10 n0 (Nat.le_trans Z0 K.1) F_deadline_b7) hZ (hw _ (List.mem_of_getElem? (i := 41) rfl)) (hw _ (List.mem_of_getElem? (i := 4) rfl)) (by decide) (by decide)) qa_ qc_ (g := (mkF m 119 #[.val (.int p0), .val (.int p1), .val (.int p2), .val (.long q3), .second, .val (.int p4), .val (.int p5), .val (.double (FP.i2d (p2 &&& (2147483647 : Int32)))), .second, .val (.double dd), .second, .val (.double (FP.i2d (p4 &&& (2147483647 : Int32)))), .second, .val (.int (p5 &&& (3 : Int32))), .val (.ref b7), .unset] [(.ref b7), (.double (FP.i2d (p2 &&& (2147483647 : Int32)))), (.int p1), (.int p0), (.ref b10), (.ref b10)])) rfl (by rw [hml]; rfl) (Steps.refl _) (argsL := []) (rest := [(.double (FP.i2d (p2 &&& (2147483647 : Int32)))), (.int p1), (.int p0), (.ref b10), (.ref b10)]) (lenOf pd_4 rfl) rfl (by show 2 * 0 + _ ≤ _; exact Nat.le_of_eq rfl) (hb hby at_119) (fun _ _ => ⟨rfl, eT, (by decide : 2 + 0 ≤ _), (by decide : 10 + 0 ≤ _)⟩)
        dsimp only [Pt.U, Pt.locs, Pt.cells, Pt.slots] at X l_ y_ z_ st hQ
        subst l_ y_ z_
        obtain ⟨rfl, Nq, eh⟩ := hQ
        have N := Fr.app N Nq
        have eT := eh
        refine Go.tr st ?_
        show Go p.tables e below (T.setTop (mkF m 122 #[.val (.int p0), .val (.int p1), .val (.int p2), .val (.long q3), .second, .val (.int p4), .val (.int p5), .val (.double (FP.i2d (p2 &&& (2147483647 : Int32)))), .second, .val (.double dd), .second, .val (.double (FP.i2d (p4 &&& (2147483647 : Int32)))), .second, .val (.int (p5 &&& (3 : Int32))), .val (.ref b7), .unset] [(.double (9218868437227405312 : UInt64)), (.double (FP.i2d (p2 &&& (2147483647 : Int32)))), (.int p1), (.int p0), (.ref b10), (.ref b10)])) _
        refine Go.by (fun tt_ kk_ => XS.dload X.here hx rfl (hb hby at_122) rfl kk_) ?_
        show Go p.tables e below (T.setTop (mkF m 124 #[.val (.int p0), .val (.int p1), .val (.int p2), .val (.long q3), .second, .val (.int p4), .val (.int p5), .val (.double (FP.i2d (p2 &&& (2147483647 : Int32)))), .second, .val (.double dd), .second, .val (.double (FP.i2d (p4 &&& (2147483647 : Int32)))), .second, .val (.int (p5 &&& (3 : Int32))), .val (.ref b7), .unset] [(.double (FP.i2d (p4 &&& (2147483647 : Int32)))), (.double (9218868437227405312 : UInt64)), (.double (FP.i2d (p2 &&& (2147483647 : Int32)))), (.int p1), (.int p0), (.ref b10), (.ref b10)])) _
        obtain ⟨_, _, ⟨T, L_, k_, n_⟩, -, X, ⟨Lc_, hQ, l_, y_, z_⟩, st⟩ := X.specialBack hx (y := (⟨"com/example/rootward/rootward/model/Request", "<init>", "(IIDDD)V"⟩ : MethodName)) rfl hown (mvT hZ (hw _ (List.mem_of_getElem? (i := 36) rfl))) (mvT hZ (hw _ (List.mem_of_getElem? (i := 10) rfl))) (mvT hZ (hw _ (List.mem_of_getElem? (i := 11) rfl))) (by decide) (backOf (W := 1) (rm2 l Z a0 hw [] b10 p0 p1 (FP.i2d (p2 &&& (2147483647 : Int32))) (9218868437227405312 : UInt64) (FP.i2d (p4 &&& (2147483647 : Int32))) h10 n0 (Nat.le_trans Z0 K.1) E_b10 g_b10 F_index_b10 F_node_b10 F_arrival_b10 F_deadline_b10 F_rate_b10) hZ (hw _ (List.mem_of_getElem? (i := 11) rfl)) (hw _ (List.mem_of_getElem? (i := 4) rfl)) (by decide) (by decide)) (g := (mkF m 124 #[.val (.int p0), .val (.int p1), .val (.int p2), .val (.long q3), .second, .val (.int p4), .val (.int p5), .val (.double (FP.i2d (p2 &&& (2147483647 : Int32)))), .second, .val (.double dd), .second, .val (.double (FP.i2d (p4 &&& (2147483647 : Int32)))), .second, .val (.int (p5 &&& (3 : Int32))), .val (.ref b7), .unset] [(.double (FP.i2d (p4 &&& (2147483647 : Int32)))), (.double (9218868437227405312 : UInt64)), (.double (FP.i2d (p2 &&& (2147483647 : Int32)))), (.int p1), (.int p0), (.ref b10), (.ref b10)])) rfl (by rw [hml]; rfl) (Steps.refl _) (a := b10) (argsL := [(.int p0), (.int p1), (.double (FP.i2d (p2 &&& (2147483647 : Int32)))), (.double (9218868437227405312 : UInt64)), (.double (FP.i2d (p4 &&& (2147483647 : Int32))))]) (rest := [(.ref b10)]) (lenOf pd_1 rfl) rfl (by show 2 * 0 + _ ≤ _; exact Nat.le_of_eq rfl) (hb hby at_124) (fun _ _ => ⟨rfl, eT, (by decide : 2 + 0 ≤ _), (by decide : 10 + 0 ≤ _)⟩)
        dsimp only [Pt.U, Pt.locs, Pt.cells, Pt.slots] at X l_ y_ z_ st hQ
        subst l_ y_ z_
        obtain ⟨h12, eT⟩ : ∃ z, T.heap = z := ⟨_, rfl⟩
        rw [eT] at hQ
        obtain ⟨rfl, Nq, Kq, Eq_, Fq_⟩ := hQ
        have N := Fr.app N Nq
        have E_b7 := Exa.keep E_b7 Kq
        have F_deadline_b7 := Fld.keep F_deadline_b7 Kq (ninS ne_b7_b10 nin0)
        have E_b10 := Eq_
        have F_deadline_b10 := Fq_
        have K := K.trans Kq (allS (Or.inr sz_b10) all0)
        refine Go.tr st ?_
        show Go p.tables e below (T.setTop (mkF m 127 #[.val (.int p0), .val (.int p1), .val (.int p2), .val (.long q3), .second, .val (.int p4), .val (.int p5), .val (.double (FP.i2d (p2 &&& (2147483647 : Int32)))), .second, .val (.double dd), .second, .val (.double (FP.i2d (p4 &&& (2147483647 : Int32)))), .second, .val (.int (p5 &&& (3 : Int32))), .val (.ref b7), .unset] [(.ref b10)])) _
        refine Go.by (fun tt_ kk_ => XS.astore X.here hx rfl (hb hby at_127) rfl rfl (l' := #[.val (.int p0), .val (.int p1), .val (.int p2), .val (.long q3), .second, .val (.int p4), .val (.int p5), .val (.double (FP.i2d (p2 &&& (2147483647 : Int32)))), .second, .val (.double dd), .second, .val (.double (FP.i2d (p4 &&& (2147483647 : Int32)))), .second, .val (.int (p5 &&& (3 : Int32))), .val (.ref b7), .val (.ref b10)]) rfl kk_) ?_
        show Go p.tables e below (T.setTop (mkF m 129 #[.val (.int p0), .val (.int p1), .val (.int p2), .val (.long q3), .second, .val (.int p4), .val (.int p5), .val (.double (FP.i2d (p2 &&& (2147483647 : Int32)))), .second, .val (.double dd), .second, .val (.double (FP.i2d (p4 &&& (2147483647 : Int32)))), .second, .val (.int (p5 &&& (3 : Int32))), .val (.ref b7), .val (.ref b10)] [])) _
        refine Go.by (fun tt_ kk_ => XS.aload X.here hx rfl (hb hby at_129) rfl rfl kk_) ?_
        show Go p.tables e below (T.setTop (mkF m 131 #[.val (.int p0), .val (.int p1), .val (.int p2), .val (.long q3), .second, .val (.int p4), .val (.int p5), .val (.double (FP.i2d (p2 &&& (2147483647 : Int32)))), .second, .val (.double dd), .second, .val (.double (FP.i2d (p4 &&& (2147483647 : Int32)))), .second, .val (.int (p5 &&& (3 : Int32))), .val (.ref b7), .val (.ref b10)] [(.ref b10)])) _
        have hz : own_hd (9218868437227405312 : UInt64) = (0 : Int32) := own_hd_inf
        obtain ⟨cq_, kq_, qa_, qb_, qc_⟩ := isOf hZ eT E_b10
        obtain ⟨_, _, ⟨T, L_, k_, n_⟩, -, X, ⟨Lc_, hQ, l_, y_, z_⟩, st⟩ := X.virtualBack hx (y := (⟨"com/example/rootward/rootward/model/Request", "hasDeadline", "()Z"⟩ : MethodName)) (z := (⟨"com/example/rootward/rootward/model/Request", "hasDeadline", "()Z"⟩ : MethodName)) hown (mvT hZ (hw _ (List.mem_of_getElem? (i := 30) rfl))) (mvT hZ (hw _ (List.mem_of_getElem? (i := 31) rfl))) (notFace_of_selects (args := #[]) (mvT hZ (hw _ (List.mem_of_getElem? (i := 33) rfl)))) (mvT hZ (hw _ (List.mem_of_getElem? (i := 33) rfl))) (mvT hZ (hw _ (List.mem_of_getElem? (i := 32) rfl))) (by decide) (backOf (W := 0) (rm5 l Z a0 hw [] b10 (9218868437227405312 : UInt64) h12 n0 (Nat.le_trans Z0 K.1) F_deadline_b10) hZ (hw _ (List.mem_of_getElem? (i := 34) rfl)) (hw _ (List.mem_of_getElem? (i := 4) rfl)) (by decide) (by decide)) qa_ qc_ (g := (mkF m 131 #[.val (.int p0), .val (.int p1), .val (.int p2), .val (.long q3), .second, .val (.int p4), .val (.int p5), .val (.double (FP.i2d (p2 &&& (2147483647 : Int32)))), .second, .val (.double dd), .second, .val (.double (FP.i2d (p4 &&& (2147483647 : Int32)))), .second, .val (.int (p5 &&& (3 : Int32))), .val (.ref b7), .val (.ref b10)] [(.ref b10)])) rfl (by rw [hml]; rfl) (Steps.refl _) (argsL := []) (rest := []) (lenOf pd_2 rfl) rfl (by show 2 * 0 + _ ≤ _; exact Nat.le_of_eq rfl) (hb hby at_131) (fun _ _ => ⟨rfl, eT, (by decide : 2 + 0 ≤ _), (by decide : 10 + 0 ≤ _)⟩)
        dsimp only [Pt.U, Pt.locs, Pt.cells, Pt.slots] at X l_ y_ z_ st hQ
        subst l_ y_ z_
        obtain ⟨e_v, Nq, eh⟩ := hQ
        rw [hz] at e_v
        subst e_v
        have N := Fr.app N Nq
        have eT := eh
        refine Go.tr st ?_
        show Go p.tables e below (T.setTop (mkF m 134 #[.val (.int p0), .val (.int p1), .val (.int p2), .val (.long q3), .second, .val (.int p4), .val (.int p5), .val (.double (FP.i2d (p2 &&& (2147483647 : Int32)))), .second, .val (.double dd), .second, .val (.double (FP.i2d (p4 &&& (2147483647 : Int32)))), .second, .val (.int (p5 &&& (3 : Int32))), .val (.ref b7), .val (.ref b10)] [(.int (0 : Int32))])) _
        refine Go.by (fun tt_ kk_ => XS.ifNo X.here hx rfl (hb hby at_134) rfl ((if0 _ _).trans (teq (rfl : (0 : Int32) = (0 : Int32))).2) kk_) ?_
        show Go p.tables e below (T.setTop (mkF m 137 #[.val (.int p0), .val (.int p1), .val (.int p2), .val (.long q3), .second, .val (.int p4), .val (.int p5), .val (.double (FP.i2d (p2 &&& (2147483647 : Int32)))), .second, .val (.double dd), .second, .val (.double (FP.i2d (p4 &&& (2147483647 : Int32)))), .second, .val (.int (p5 &&& (3 : Int32))), .val (.ref b7), .val (.ref b10)] [])) _
        refine Go.by (fun tt_ kk_ => XS.iconst X.here hx rfl (hb hby at_137) kk_) ?_
        show Go p.tables e below (T.setTop (mkF m 138 #[.val (.int p0), .val (.int p1), .val (.int p2), .val (.long q3), .second, .val (.int p4), .val (.int p5), .val (.double (FP.i2d (p2 &&& (2147483647 : Int32)))), .second, .val (.double dd), .second, .val (.double (FP.i2d (p4 &&& (2147483647 : Int32)))), .second, .val (.int (p5 &&& (3 : Int32))), .val (.ref b7), .val (.ref b10)] [(.int (1 : Int32))])) _
        refine Go.by (fun tt_ kk_ => XS.goto X.here hx rfl (pc0 := 138) (pc' := 142) rfl (hb hby at_138) (by decide) (by decide) kk_) ?_
        show Go p.tables e below (T.setTop (mkF m 142 #[.val (.int p0), .val (.int p1), .val (.int p2), .val (.long q3), .second, .val (.int p4), .val (.int p5), .val (.double (FP.i2d (p2 &&& (2147483647 : Int32)))), .second, .val (.double dd), .second, .val (.double (FP.i2d (p4 &&& (2147483647 : Int32)))), .second, .val (.int (p5 &&& (3 : Int32))), .val (.ref b7), .val (.ref b10)] [(.int (1 : Int32))])) _
        exact Go.done X  (v := some (.int (1 : Int32))) (fun h => by rw [Bd.returns] at h; cases h) Bd.notSynchronized (fun fs hr => retN X hx (z := (1 : Int32)) (t := .boolean) Bd.returns (by simp) (hb hby at_142) hr) (by rw [eT]; exact ⟨rfl, N⟩) (by decide) (by decide)
set_option maxRecDepth 65536 in
set_option maxHeartbeats 40000000 in
theorem comes_1 {Post : Tables → Env → Array Value → State → Outcome → State → Prop} (hpost : ∀ tb e args s v u, (limb_1_1.after args s (.returned v) u = true ∧ limb_1_2.after args s (.returned v) u = true ∧ True) → FrameEnd s (.returned v) u (Jvm.fieldLocs frame_1_writes args s ++ Jvm.arrayLocs frame_1_arrays args s ++ Jvm.staticLocs frame_1_statics s) 16 128 → Post tb e args s (.returned v) u) :
    ArmFor flags0 classFile x code maxLocals ret World_1 tables_1 room_1 Calls_1 rest_1 Pre_1 Post := by
  intro l hfl _ _ p e ha hc hk s m args below hf hA hF happ hP
  obtain ⟨hcalls, hrest, hpre⟩ := hP
  obtain ⟨-, -, -, hnamed, -, -, -, hat⟩ := (Spec.applies_iff hf).mp happ
  obtain ⟨hg, hn⟩ := and_e (Cond.before_iff.mp (show (Jvm.Cond.and given_1 narrow_1).before args s = true from hpre))
  obtain ⟨hcount, hg⟩ := and_e hg
  obtain ⟨hv0, hg⟩ := and_e hg
  obtain ⟨hv1, hg⟩ := and_e hg
  obtain ⟨hv2, hg⟩ := and_e hg
  obtain ⟨hv3, hg⟩ := and_e hg
  obtain ⟨hv4, hg⟩ := and_e hg
  have hv5 := hg
  obtain ⟨w0, w1, w2, w3, w4, w5, rfl⟩ : ∃ w0 w1 w2 w3 w4 w5 : Value, args = #[w0, w1, w2, w3, w4, w5] := by
    have hs : args.size = 6 := by simpa [Cond.value, given_1] using hcount
    obtain ⟨L⟩ := args
    match L, hs with
    | [w0, w1, w2, w3, w4, w5], _ => exact ⟨w0, w1, w2, w3, w4, w5, rfl⟩
  have hw := fun d (hd : d ∈ tables_1) => atoms_spec (ws := Jvm.Cond.code x code maxLocals ret :: tables_1) hat d (List.mem_cons_of_mem _ hd)
  have hfit : Fit s := fun {y c} hc i hi => by
    obtain ⟨ha, rfl⟩ := Array.getElem?_eq_some_iff.mp hc
    have q := List.all_eq_true.mp ((Array.all_eq_true_iff_forall_mem.mp hF) _ (Array.getElem_mem ha)) i (List.mem_range.mpr hi)
    simpa [Array.getElem?_eq_getElem hi] using q
  obtain ⟨i0, ei0⟩ := is_v hv0
  obtain rfl : w0 = (.int i0) := Option.some.inj ei0
  obtain ⟨i1, ei1⟩ := is_v hv1
  obtain rfl : w1 = (.int i1) := Option.some.inj ei1
  obtain ⟨i2, ei2⟩ := is_v hv2
  obtain rfl : w2 = (.int i2) := Option.some.inj ei2
  obtain ⟨i3, ei3⟩ := isL_v hv3
  obtain rfl : w3 = (.long i3) := Option.some.inj ei3
  obtain ⟨i4, ei4⟩ := is_v hv4
  obtain rfl : w4 = (.int i4) := Option.some.inj ei4
  obtain ⟨i5, ei5⟩ := is_v hv5
  obtain rfl : w5 = (.int i5) := Option.some.inj ei5
  obtain ⟨n, o, h1, h2, h3, _, L, rfl, ⟨rfl, N⟩, hq⟩ := rm0 l s _ hw tables_1 i0 i1 i2 i3 i4 i5  s.heap s.heap.size (Nat.le_refl _)  p e ha hc hk s m _ below hf ((Spec.applies_iff_loose hf).mp happ).1 ⟨rfl, State.Warmed39.refl s, rfl⟩ trivial
  refine ⟨n, _, h1, h2, h3, hpost _ _ _ _ _ _ ⟨Cond.after_iff.mpr rfl, Cond.after_iff.mpr (eq_i res_at (Term.int_eval (1)) rfl), trivial⟩ ⟨hq.1, hq.2.1, (hq.2.2.sift fun y hy => Or.inr (N y hy)).mono (by decide) (by decide)⟩⟩
theorem main_1_1 : Claimed_1_1 := comes_1 fun _ _ _ _ _ _ h hF => ⟨h.1, hF⟩
theorem main_1_2 : Claimed_1_2 := comes_1 fun _ _ _ _ _ _ h hF => ⟨h.2.1, hF⟩
end Jvm.Pilot.@@N@@
namespace Jvm.Pilot.@@N@@
open Jvm Jvm.ClassFile Sem Op Lib Jvm.Free Jvm.Stand Jvm.Pilot.@@N@@.Jvm.D
/-! MADE BY PROGRAM (witnessworld.py) out of the Statement's table words and the real class files: 10 classes; the members and pool entries that the words name. The judged class is class 1, her method 1. -/
namespace start1
open Jvm.ClassFile
def u (s : String) : CpInfo := .utf8 (stringToUtf16 s)
/-- a pool by its gaps: so many unusable entries, then the entry; so many at the end -/
def gap : Nat → List CpInfo → List CpInfo
  | 0, r => r
  | n + 1, r => .unusable :: gap n r
def poolList (es : List (Nat × CpInfo)) (last : Nat) : List CpInfo := es.foldr (fun e r => gap e.1 (e.2 :: r)) (gap last [])
def pool (es : List (Nat × CpInfo)) (last : Nat) : Array CpInfo := ⟨poolList es last⟩
def fileOf (pool : Array CpInfo) (this : Nat) (attrs : Array Attribute := #[]) (ms : Array MethodInfo := #[]) (fl : Nat := 33) (sup : Nat := 0) (ifs : Array Nat := #[]) (fds : Array FieldInfo := #[]) : ClassFile where
  minorVersion := 0
  majorVersion := 65
  constantPool := pool
  accessFlags := fl
  thisClass := this
  superClass := sup
  interfaces := ifs
  fields := fds
  methods := ms
  attributes := attrs
def plain (name : String) (sup : Option ClassId) : Class where
  name := name
  kind := .ordinary
  loader := none
  accessFlags := 33
  super := sup
  interfaces := #[]
  cf := none
  fields := #[]
  methods := #[]
  instanceTypes := #[]
  staticTypes := #[]
  resolved := #[]
  callSites := []
  init := .initialized
  statics := none
  mirror := none

def pool0 : Array CpInfo := pool [(5, u "<init>"), (0, u "()V"), (1, .class_ 10), (1, u "java/lang/Object")] 113

def k0c0 : Code := { maxStack := 0, maxLocals := 1, code := object_method_1_code, exceptionTable := #[], attributes := #[] }
def k0m0 : Method := { name := "<init>", desc := "()V", sig := { parameters := [], returnType := none }, accessFlags := 1, code := some k0c0 }
/-- java/lang/Object -/
def k0 : Class := { plain "java/lang/Object" none with
  accessFlags := 33
  interfaces := #[]
  cf := some (fileOf pool0 8 #[] #[{ accessFlags := 1, nameIndex := 5, descriptorIndex := 6, attributes := #[] }] 33 0 #[] #[])
  fields := #[]
  methods := #[k0m0]
  instanceTypes := #[]
  staticTypes := #[]
  resolved := Array.replicate 124 none
  statics := none }

def pool1 : Array CpInfo := pool [(2, .class_ 4), (1, u "java/lang/Object"), (0, u "<init>"), (0, u "()V"), (0, .integer 2147483647), (0, .long 9223372036854775807), (1, .class_ 11), (0, u "com/example/rootward/rootward/model/Request"), (0, .methodref 10 13), (0, .nameAndType 5 14), (0, u "(IIDDD)V"), (0, .methodref 10 16), (0, .nameAndType 17 18), (0, u "hasDeadline"), (0, u "()Z"), (0, .methodref 10 20), (0, .nameAndType 21 22), (0, u "withDeadline"), (0, u "(IIDD)Lcom/example/rootward/rootward/model/Request;"), (0, .methodref 10 24), (0, .nameAndType 25 22), (0, u "withRate"), (0, .methodref 10 27), (0, .nameAndType 28 29), (0, u "deadline"), (0, u "()D"), (0, .class_ 31), (0, u "com/example/rootward/rootward/model/RequestHasDeadlinePinLaw"), (2, u "law"), (0, u "(IIIJII)Z")] 3

def k1m0 : Method := { name := "<init>", desc := "()V", sig := { parameters := [], returnType := none }, accessFlags := 1, code := none }
def k1c1 : Code := { maxStack := 10, maxLocals := 16, code := code, exceptionTable := #[], attributes := #[] }
def k1m1 : Method := { name := "law", desc := "(IIIJII)Z", sig := { parameters := [.int, .int, .int, .long, .int, .int], returnType := some .boolean }, accessFlags := 9, code := some k1c1 }
/-- com/example/rootward/rootward/model/RequestHasDeadlinePinLaw -/
def k1 : Class := { plain "com/example/rootward/rootward/model/RequestHasDeadlinePinLaw" (some 0) with
  accessFlags := 49
  interfaces := #[]
  cf := some (fileOf pool1 30 #[] #[{ accessFlags := 1, nameIndex := 5, descriptorIndex := 6, attributes := #[] }, { accessFlags := 9, nameIndex := 34, descriptorIndex := 35, attributes := #[] }] 49 2 #[] #[])
  fields := #[]
  methods := #[k1m0, k1m1]
  instanceTypes := #[]
  staticTypes := #[]
  resolved := Array.replicate 39 none
  statics := none }

def pool2 : Array CpInfo := pool [(1, .methodref 2 3), (0, .class_ 4), (0, .nameAndType 5 6), (0, u "java/lang/Object"), (0, u "<init>"), (0, u "()V"), (0, .class_ 8), (0, u "java/lang/Record")] 13

def k2c0 : Code := { maxStack := 1, maxLocals := 1, code := jdk_30_method_1_code, exceptionTable := #[], attributes := #[] }
def k2m0 : Method := { name := "<init>", desc := "()V", sig := { parameters := [], returnType := none }, accessFlags := 4, code := some k2c0 }
/-- java/lang/Record -/
def k2 : Class := { plain "java/lang/Record" (some 0) with
  accessFlags := 1057
  interfaces := #[]
  cf := some (fileOf pool2 7 #[] #[{ accessFlags := 4, nameIndex := 5, descriptorIndex := 6, attributes := #[] }] 1057 2 #[] #[])
  fields := #[]
  methods := #[k2m0]
  instanceTypes := #[]
  staticTypes := #[]
  resolved := Array.replicate 22 none
  statics := none }

def pool3 : Array CpInfo := pool [(1, .methodref 2 3), (0, .class_ 4), (0, .nameAndType 5 6), (0, u "java/lang/Record"), (0, u "<init>"), (0, u "()V"), (0, .fieldref 8 9), (0, .class_ 10), (0, .nameAndType 11 12), (0, u "com/example/rootward/rootward/model/Request"), (0, u "index"), (0, u "I"), (0, .fieldref 8 14), (0, .nameAndType 15 12), (0, u "node"), (0, .fieldref 8 17), (0, .nameAndType 18 19), (0, u "arrival"), (0, u "D"), (0, .fieldref 8 21), (0, .nameAndType 22 19), (0, u "deadline"), (0, .fieldref 8 24), (0, .nameAndType 25 19), (0, u "rate"), (0, .methodref 8 27), (0, .nameAndType 5 28), (0, u "(IIDDD)V"), (2, .double 9218868437227405312), (16, u "withDeadline"), (0, u "(IIDD)Lcom/example/rootward/rootward/model/Request;"), (0, u "withRate"), (0, u "hasDeadline"), (0, u "()Z"), (4, u "()D")] 24

def k3c0 : Code := { maxStack := 3, maxLocals := 9, code := prog_21_method_1_code, exceptionTable := #[], attributes := #[] }
def k3m0 : Method := { name := "<init>", desc := "(IIDDD)V", sig := { parameters := [.int, .int, .double, .double, .double], returnType := none }, accessFlags := 1, code := some k3c0 }
def k3c1 : Code := { maxStack := 10, maxLocals := 6, code := prog_21_method_2_code, exceptionTable := #[], attributes := #[] }
def k3m1 : Method := { name := "withDeadline", desc := "(IIDD)Lcom/example/rootward/rootward/model/Request;", sig := { parameters := [.int, .int, .double, .double], returnType := some (.object "com/example/rootward/rootward/model/Request") }, accessFlags := 9, code := some k3c1 }
def k3c2 : Code := { maxStack := 10, maxLocals := 6, code := prog_21_method_3_code, exceptionTable := #[], attributes := #[] }
def k3m2 : Method := { name := "withRate", desc := "(IIDD)Lcom/example/rootward/rootward/model/Request;", sig := { parameters := [.int, .int, .double, .double], returnType := some (.object "com/example/rootward/rootward/model/Request") }, accessFlags := 9, code := some k3c2 }
def k3c3 : Code := { maxStack := 4, maxLocals := 1, code := prog_21_method_4_code, exceptionTable := #[], attributes := #[] }
def k3m3 : Method := { name := "hasDeadline", desc := "()Z", sig := { parameters := [], returnType := some .boolean }, accessFlags := 1, code := some k3c3 }
def k3c4 : Code := { maxStack := 2, maxLocals := 1, code := prog_21_method_11_code, exceptionTable := #[], attributes := #[] }
def k3m4 : Method := { name := "deadline", desc := "()D", sig := { parameters := [], returnType := some .double }, accessFlags := 1, code := some k3c4 }
/-- com/example/rootward/rootward/model/Request -/
def k3 : Class := { plain "com/example/rootward/rootward/model/Request" (some 2) with
  accessFlags := 49
  interfaces := #[]
  cf := some (fileOf pool3 8 #[] #[{ accessFlags := 1, nameIndex := 5, descriptorIndex := 28, attributes := #[] }, { accessFlags := 9, nameIndex := 48, descriptorIndex := 49, attributes := #[] }, { accessFlags := 9, nameIndex := 50, descriptorIndex := 49, attributes := #[] }, { accessFlags := 1, nameIndex := 51, descriptorIndex := 52, attributes := #[] }, { accessFlags := 1, nameIndex := 22, descriptorIndex := 57, attributes := #[] }] 49 2 #[] #[{ accessFlags := 18, nameIndex := 11, descriptorIndex := 12, attributes := #[] }, { accessFlags := 18, nameIndex := 15, descriptorIndex := 12, attributes := #[] }, { accessFlags := 18, nameIndex := 18, descriptorIndex := 19, attributes := #[] }, { accessFlags := 18, nameIndex := 22, descriptorIndex := 19, attributes := #[] }, { accessFlags := 18, nameIndex := 25, descriptorIndex := 19, attributes := #[] }])
  fields := #[{ name := "index", type := .int, accessFlags := 18, slot := 0, constantValue := 0 }, { name := "node", type := .int, accessFlags := 18, slot := 1, constantValue := 0 }, { name := "arrival", type := .double, accessFlags := 18, slot := 2, constantValue := 0 }, { name := "deadline", type := .double, accessFlags := 18, slot := 3, constantValue := 0 }, { name := "rate", type := .double, accessFlags := 18, slot := 4, constantValue := 0 }]
  methods := #[k3m0, k3m1, k3m2, k3m3, k3m4]
  instanceTypes := #[.int, .int, .double, .double, .double]
  staticTypes := #[]
  resolved := Array.replicate 82 none
  statics := none }

def pool4 : Array CpInfo := pool [(1, u "java/lang/Cloneable"), (0, .class_ 1), (0, u "java/lang/Object"), (0, .class_ 3)] 3

/-- java/lang/Cloneable -/
def k4 : Class := { plain "java/lang/Cloneable" (some 0) with
  accessFlags := 1537
  interfaces := #[]
  cf := some (fileOf pool4 2 #[] #[] 1537 4 #[] #[])
  fields := #[]
  methods := #[]
  instanceTypes := #[]
  staticTypes := #[]
  resolved := Array.replicate 8 none
  statics := none }

def pool5 : Array CpInfo := pool [(1, u "java/io/Serializable"), (0, .class_ 1), (0, u "java/lang/Object"), (0, .class_ 3)] 3

/-- java/io/Serializable -/
def k5 : Class := { plain "java/io/Serializable" (some 0) with
  accessFlags := 1537
  interfaces := #[]
  cf := some (fileOf pool5 2 #[] #[] 1537 4 #[] #[])
  fields := #[]
  methods := #[]
  instanceTypes := #[]
  staticTypes := #[]
  resolved := Array.replicate 8 none
  statics := none }

/-- the primitive byte -/
def k6 : Class := { plain "byte" none with kind := .primitive 'B', accessFlags := 0x411 }
/-- [B -/
def k7 : Class := { plain "[B" (some 0) with kind := .array 6 .byte, interfaces := #[4, 5], accessFlags := 1041 }

/-- the primitive int -/
def k8 : Class := { plain "int" none with kind := .primitive 'I', accessFlags := 0x411 }
/-- [I -/
def k9 : Class := { plain "[I" (some 0) with kind := .array 8 .int, interfaces := #[4, 5], accessFlags := 1041 }

def heap : Heap := #[]
def classes : Array Class := #[k0, k1, k2, k3, k4, k5, k6, k7, k8, k9]
def interned : List (Array UInt16 × Addr) := []
def slotsUsed : Nat := 0
def theMethod : MethodId := ⟨1, 1⟩
def args0 : Array Value := #[.int 1, .int 2, .int 3, .long 4, .int 5, .int 0]
def aboutOver (below : List Frame) : State where
  vm := { classes := classes, interned := interned.toArray }
  heap := heap
  slotsUsed := slotsUsed
  threads := #[{ frames := .invoking theMethod args0 :: below }]
def below0 : List Frame := [.native { method := ⟨0, 0⟩, args := #[] }]
def about1 : State := aboutOver below0
def p0 : Program := .bare "" "" ""
def e0 : Env := launch0.env 0 0 0
theorem w_frames : about1.frames = Frame.invoking theMethod args0 :: below0 := rfl
set_option maxRecDepth 65536 in
theorem w_args : argsFit about1.vm theMethod args0 = true := by decide +kernel
set_option maxRecDepth 65536 in
theorem w_heap : heapFits about1 = true := by decide +kernel
set_option maxRecDepth 65536 in
theorem w_runnable : about1.curStatus? = some .runnable := by decide +kernel
set_option maxRecDepth 65536 in
theorem w_alone : about1.alone = true := by decide +kernel
set_option maxRecDepth 65536 in
theorem w_named : about1.methodNamed? x = some theMethod := by decide +kernel
set_option maxRecDepth 65536 in
theorem w_hears : about1.hears theMethod below0 = true := by decide +kernel
set_option maxRecDepth 65536 in
theorem w_ripe : about1.ripe theMethod args0 below0 = true := by decide +kernel
theorem w_running : about1.status = .running := rfl
set_option maxRecDepth 65536 in
theorem w_room : about1.hasRoom e0.platform room_1 = true :=
  launch0.hasRoom_least _ room_1 (by decide +kernel) (by decide +kernel) (by decide +kernel) (by decide +kernel) (by decide +kernel) (by decide +kernel)
theorem allAtoms_all (ts : List Jvm.Cond) (a : Array Jvm.Value) (st : Jvm.State) : (allAtoms ts).before a st = ts.all (fun c => c.before a st) := by
  induction ts with
  | nil => rfl
  | cons c t ih =>
    show (Jvm.Cond.and c (allAtoms t)).before a st = _
    rw [Jvm.Cond.before_and, ih, List.all_cons]
def words1 : List Jvm.Cond := Jvm.Cond.code x code maxLocals ret :: tables_1
/-- a 'code' word, met by the world's own term for the bytes: nothing is compared byte by byte -/
theorem code_word {y : MethodName} {bytes : ByteArray} {mx : Nat} {rt : Option FieldType} {a : Array Value} {s : State} {m : MethodId} {meth : Method} {c : Code} (h1 : s.methodNamed? y = some m) (h2 : s.vm.method? m = some meth) (h3 : meth.code = some c) (h4 : c.code = bytes)
    (h5 : (c.maxLocals == mx && c.exceptionTable.isEmpty && decide (c.maxStack ≤ mostOperands) && decide (meth.sig.returnType = rt) && !meth.locks && decide (parseMethodDescriptor y.desc = some meth.sig)) = true) : (Jvm.Cond.code y bytes mx rt).before a s = true := by
  simp only [Bool.and_eq_true, beq_iff_eq, Bool.not_eq_true', decide_eq_true_eq] at h5
  obtain ⟨⟨⟨⟨⟨g1, g2⟩, g3⟩, g4⟩, g5⟩, g6⟩ := h5
  simp [Cond.before, Cond.holds, Cond.value, h1, h2, h3, h4, g1, g2, g3, g4, g5, g6]
def isCode : Jvm.Cond → Bool
  | .code _ _ _ _ => true
  | _ => false
theorem all_split {L : List Jvm.Cond} {P : Jvm.Cond → Bool} (h1 : L.all (fun c => isCode c || P c) = true) (h2 : ∀ c ∈ L.filter isCode, P c = true) : L.all P = true := by
  refine List.all_eq_true.mpr fun c hc => ?_
  have h := List.all_eq_true.mp h1 c hc
  rcases Bool.eq_false_or_eq_true (isCode c) with hi | hi
  · exact h2 c (List.mem_filter.mpr ⟨hc, hi⟩)
  · simpa [hi] using h
set_option maxRecDepth 65536 in
theorem w_c0 : (Jvm.Cond.code x code maxLocals ret).before args0 about1 = true := code_word (m := ⟨1, 1⟩) (meth := k1m1) (c := k1c1) (by decide +kernel) rfl rfl rfl (by decide +kernel)
set_option maxRecDepth 65536 in
theorem w_c1 : (Jvm.Cond.code ({ cls := "com/example/rootward/rootward/model/Request", name := "withRate", desc := "(IIDD)Lcom/example/rootward/rootward/model/Request;" } : Jvm.MethodName) prog_21_method_3_code (6 : Nat) (Option.some (Jvm.ClassFile.FieldType.object "com/example/rootward/rootward/model/Request"))).before args0 about1 = true := code_word (m := ⟨3, 2⟩) (meth := k3m2) (c := k3c2) (by decide +kernel) rfl rfl rfl (by decide +kernel)
set_option maxRecDepth 65536 in
theorem w_c2 : (Jvm.Cond.code ({ cls := "com/example/rootward/rootward/model/Request", name := "<init>", desc := "(IIDDD)V" } : Jvm.MethodName) prog_21_method_1_code (9 : Nat) (Option.none : Option Jvm.ClassFile.FieldType)).before args0 about1 = true := code_word (m := ⟨3, 0⟩) (meth := k3m0) (c := k3c0) (by decide +kernel) rfl rfl rfl (by decide +kernel)
set_option maxRecDepth 65536 in
theorem w_c3 : (Jvm.Cond.code ({ cls := "java/lang/Record", name := "<init>", desc := "()V" } : Jvm.MethodName) jdk_30_method_1_code (1 : Nat) (Option.none : Option Jvm.ClassFile.FieldType)).before args0 about1 = true := code_word (m := ⟨2, 0⟩) (meth := k2m0) (c := k2c0) (by decide +kernel) rfl rfl rfl (by decide +kernel)
set_option maxRecDepth 65536 in
theorem w_c4 : (Jvm.Cond.code ({ cls := "java/lang/Object", name := "<init>", desc := "()V" } : Jvm.MethodName) object_method_1_code (1 : Nat) (Option.none : Option Jvm.ClassFile.FieldType)).before args0 about1 = true := code_word (m := ⟨0, 0⟩) (meth := k0m0) (c := k0c0) (by decide +kernel) rfl rfl rfl (by decide +kernel)
set_option maxRecDepth 65536 in
theorem w_c5 : (Jvm.Cond.code ({ cls := "com/example/rootward/rootward/model/Request", name := "hasDeadline", desc := "()Z" } : Jvm.MethodName) prog_21_method_4_code (1 : Nat) (Option.some Jvm.ClassFile.FieldType.boolean)).before args0 about1 = true := code_word (m := ⟨3, 3⟩) (meth := k3m3) (c := k3c3) (by decide +kernel) rfl rfl rfl (by decide +kernel)
set_option maxRecDepth 65536 in
theorem w_c6 : (Jvm.Cond.code ({ cls := "com/example/rootward/rootward/model/Request", name := "deadline", desc := "()D" } : Jvm.MethodName) prog_21_method_11_code (1 : Nat) (Option.some Jvm.ClassFile.FieldType.double)).before args0 about1 = true := code_word (m := ⟨3, 4⟩) (meth := k3m4) (c := k3c4) (by decide +kernel) rfl rfl rfl (by decide +kernel)
set_option maxRecDepth 65536 in
theorem w_c7 : (Jvm.Cond.code ({ cls := "com/example/rootward/rootward/model/Request", name := "withDeadline", desc := "(IIDD)Lcom/example/rootward/rootward/model/Request;" } : Jvm.MethodName) prog_21_method_2_code (6 : Nat) (Option.some (Jvm.ClassFile.FieldType.object "com/example/rootward/rootward/model/Request"))).before args0 about1 = true := code_word (m := ⟨3, 1⟩) (meth := k3m1) (c := k3c1) (by decide +kernel) rfl rfl rfl (by decide +kernel)
def codes1 : List Jvm.Cond := [Jvm.Cond.code x code maxLocals ret, Jvm.Cond.code ({ cls := "com/example/rootward/rootward/model/Request", name := "withRate", desc := "(IIDD)Lcom/example/rootward/rootward/model/Request;" } : Jvm.MethodName) prog_21_method_3_code (6 : Nat) (Option.some (Jvm.ClassFile.FieldType.object "com/example/rootward/rootward/model/Request")), Jvm.Cond.code ({ cls := "com/example/rootward/rootward/model/Request", name := "<init>", desc := "(IIDDD)V" } : Jvm.MethodName) prog_21_method_1_code (9 : Nat) (Option.none : Option Jvm.ClassFile.FieldType), Jvm.Cond.code ({ cls := "java/lang/Record", name := "<init>", desc := "()V" } : Jvm.MethodName) jdk_30_method_1_code (1 : Nat) (Option.none : Option Jvm.ClassFile.FieldType), Jvm.Cond.code ({ cls := "java/lang/Object", name := "<init>", desc := "()V" } : Jvm.MethodName) object_method_1_code (1 : Nat) (Option.none : Option Jvm.ClassFile.FieldType), Jvm.Cond.code ({ cls := "com/example/rootward/rootward/model/Request", name := "hasDeadline", desc := "()Z" } : Jvm.MethodName) prog_21_method_4_code (1 : Nat) (Option.some Jvm.ClassFile.FieldType.boolean), Jvm.Cond.code ({ cls := "com/example/rootward/rootward/model/Request", name := "deadline", desc := "()D" } : Jvm.MethodName) prog_21_method_11_code (1 : Nat) (Option.some Jvm.ClassFile.FieldType.double), Jvm.Cond.code ({ cls := "com/example/rootward/rootward/model/Request", name := "withDeadline", desc := "(IIDD)Lcom/example/rootward/rootward/model/Request;" } : Jvm.MethodName) prog_21_method_2_code (6 : Nat) (Option.some (Jvm.ClassFile.FieldType.object "com/example/rootward/rootward/model/Request"))]
set_option maxRecDepth 65536 in
theorem codes_eq : words1.filter isCode = codes1 := rfl
theorem w_codes : ∀ c ∈ words1.filter isCode, c.before args0 about1 = true := by
  rw [codes_eq]
  intro c hc
  simp only [codes1, List.mem_cons, List.not_mem_nil, or_false] at hc
  rcases hc with rfl | rfl | rfl | rfl | rfl | rfl | rfl | rfl
  · exact w_c0
  · exact w_c1
  · exact w_c2
  · exact w_c3
  · exact w_c4
  · exact w_c5
  · exact w_c6
  · exact w_c7
set_option maxRecDepth 65536 in
theorem w_t1 : (words1.take 24).all (fun c => isCode c || c.before args0 about1) = true := by decide +kernel
set_option maxRecDepth 65536 in
theorem w_t2 : (words1.drop 24).all (fun c => isCode c || c.before args0 about1) = true := by decide +kernel
theorem w_tables : (allAtoms (Jvm.Cond.code x code maxLocals ret :: tables_1)).before args0 about1 = true := by
  rw [allAtoms_all]
  show words1.all (fun c => c.before args0 about1) = true
  refine all_split ?_ w_codes
  rw [← List.take_append_drop 24 words1, List.all_append, w_t1, w_t2]
  rfl
set_option maxRecDepth 65536 in
theorem w_case : (Jvm.Cond.and given_1 narrow_1).before args0 about1 = true := by decide +kernel
theorem w_applies : (headSpec (Jvm.Cond.code x code maxLocals ret :: tables_1) room_1).applies x e0.platform about1 = true :=
  (Spec.applies_iff w_frames).mpr ⟨w_running, w_runnable, w_alone, w_named, w_hears, w_ripe, w_room, w_tables⟩
theorem atStart : AtStart classFile x code maxLocals ret World_1 tables_1 room_1 Calls_1 rest_1 Pre_1 launch0 p0 e0 about1 theMethod args0 below0 :=
  ⟨lists_1, trivial, launch0.admits_env _ _ _, launch0.least_env, fairChoices_fair.cas, fairChoices_fair.clock, w_frames, w_args, w_heap, w_applies, trivial, trivial, w_case⟩
end start1
theorem witness_1 : WitnessClaimed_1 := ⟨start1.p0, start1.e0, start1.about1, start1.theMethod, start1.args0, start1.below0, start1.atStart⟩
end Jvm.Pilot.@@N@@
