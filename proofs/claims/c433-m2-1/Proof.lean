import JvmDerived
import JvmDerived.Pilot.@@N@@Statement
import JvmDerived.Pilot.@@N@@Code
set_option linter.unusedVariables false
set_option linter.unusedSimpArgs false
namespace Jvm.Pilot.@@N@@.OwnF
open Jvm.FP.Core
/-- one, in units of 2^-1074 -/
def own_P : Nat := 2 ^ 1074
theorem own_P_pos : 0 < own_P := Nat.two_pow_pos _
/-- a datum's value, in units of 2^-1074 -/
def own_V : Datum → Int
  | .fin s c q => signed s (inUnits c q (-1074))
  | _ => 0
theorem own_qmin : b64.qmin = -1074 := by decide
theorem own_signed_mul (s : Bool) (c k : Nat) : signed s (c * k) = signed s c * (k : Int) := by
  unfold signed
  split
  · rw [Int.natCast_mul, Int.neg_mul]
  · rw [Int.natCast_mul]
theorem own_compare_mul {a b : Int} {k : Int} (hk : 0 < k) : compare (a * k) (b * k) = compare a b := by
  rcases Int.lt_trichotomy a b with h | h | h
  · have h2 : a * k < b * k := Int.mul_lt_mul_of_pos_right h hk
    rw [Int.compare_eq_lt.mpr h, Int.compare_eq_lt.mpr h2]
  · subst h; rw [Int.compare_eq_eq.mpr rfl, Int.compare_eq_eq.mpr rfl]
  · have h2 : b * k < a * k := Int.mul_lt_mul_of_pos_right h hk
    rw [Int.compare_eq_gt.mpr h, Int.compare_eq_gt.mpr h2]
theorem own_order {s t : Bool} {c d : Nat} {q r : Int} (h1 : -1074 ≤ q) (h2 : -1074 ≤ r) :
    order (.fin s c q) (.fin t d r) = some (compare (own_V (.fin s c q)) (own_V (.fin t d r))) := by
  show some (compare (signed s (inUnits c q (min q r))) (signed t (inUnits d r (min q r)))) = some (compare (signed s (inUnits c q (-1074))) (signed t (inUnits d r (-1074))))
  rw [inUnits_move c (e := -1074) (r := min q r) (q := q) (by omega) (by omega), inUnits_move d (e := -1074) (r := min q r) (q := r) (by omega) (by omega), own_signed_mul, own_signed_mul, own_compare_mul]
  have := Nat.two_pow_pos (min q r - -1074).toNat
  omega
/-- finite, with this value -/
def own_Is (a : UInt64) (v : Int) : Prop := ∃ s c q, val64 a = .fin s c q ∧ own_V (.fin s c q) = v
theorem own_Is.cmp {a b : UInt64} {v w : Int} (ha : own_Is a v) (hb : own_Is b w) : dcmp a b = some (compare v w) := by
  obtain ⟨s, c, q, h1, rfl⟩ := ha
  obtain ⟨t, d, r, h2, rfl⟩ := hb
  have f1 := val64_fits a
  have f2 := val64_fits b
  rw [h1] at f1
  rw [h2] at f2
  show order (val64 a) (val64 b) = _
  rw [h1, h2]
  exact own_order (by have := f1.2.1; rw [own_qmin] at this; exact this) (by have := f2.2.1; rw [own_qmin] at this; exact this)
theorem own_Is.noNaN {a : UInt64} {v : Int} (ha : own_Is a v) : val64 a ≠ .nan := by
  obtain ⟨s, c, q, h1, -⟩ := ha
  rw [h1]; exact fun h => by cases h
theorem own_units0 (n : Nat) : inUnits n 0 (-1074) = n * own_P := by
  have e : ((0 : Int) - (-1074)).toNat = 1074 := by decide
  unfold inUnits own_P
  rw [e]
theorem own_whole {i : Int} {a : UInt64} (h : DInt i a) : own_Is a (i * (own_P : Int)) := by
  unfold DInt at h
  have f := val64_fits a
  cases e : val64 a with
  | nan => rw [e] at h; exact h.elim
  | inf s => rw [e] at h; exact h.elim
  | fin s c q =>
    rw [e] at h f
    refine ⟨s, c, q, e, ?_⟩
    have hq : -1074 ≤ q := by have := f.2.1; rw [own_qmin] at this; exact this
    have h' : signed s (c * 2 ^ q.toNat) = i * ((2 ^ (-q).toNat : Nat) : Int) := h
    show signed s (c * 2 ^ (q - -1074).toNat) = _
    have e1 : c * 2 ^ (q - -1074).toNat * 2 ^ (-q).toNat = c * 2 ^ q.toNat * own_P := by
      unfold own_P
      rw [Nat.mul_assoc, Nat.mul_assoc, ← Nat.pow_add, ← Nat.pow_add]
      congr 2; omega
    have e2 : signed s (c * 2 ^ (q - -1074).toNat) * ((2 ^ (-q).toNat : Nat) : Int) = (i * (own_P : Int)) * ((2 ^ (-q).toNat : Nat) : Int) := by
      rw [← own_signed_mul, e1, own_signed_mul, h', Int.mul_assoc, Int.mul_comm ((2 ^ (-q).toNat : Nat) : Int), ← Int.mul_assoc]
    have p : (0 : Int) < ((2 ^ (-q).toNat : Nat) : Int) := by have := Nat.two_pow_pos (-q).toNat; omega
    exact Int.eq_of_mul_eq_mul_right (Int.ne_of_gt p) e2
theorem own_rr (f : Fmt) (s : Bool) (A B : Nat) (e : Int) : (∃ c q, roundRatio f s A B e = .fin s c q) ∨ roundRatio f s A B e = .inf s := by
  unfold roundRatio
  split
  · exact Or.inl ⟨_, _, rfl⟩
  · unfold roundAt settle bound
    split
    · split
      · exact Or.inl ⟨_, _, rfl⟩
      · exact Or.inr rfl
    · split
      · exact Or.inl ⟨_, _, rfl⟩
      · exact Or.inr rfl
theorem own_near {A M Y J : Nat} (hJ : 0 < J) (h : ((A : Int) - (M : Int) * (J : Int)).natAbs ≤ ((A : Int) - (Y : Int) * (J : Int)).natAbs) : (A ≤ Y * J → M ≤ Y) ∧ (Y * J ≤ A → Y ≤ M) := by
  rw [← Int.natCast_mul, ← Int.natCast_mul] at h
  constructor
  · intro h1
    refine Nat.le_of_not_lt fun h2 => ?_
    have h3 : (Y + 1) * J ≤ M * J := Nat.mul_le_mul_right J h2
    rw [Nat.add_mul, Nat.one_mul] at h3
    generalize M * J = x at *
    generalize Y * J = y at *
    omega
  · intro h1
    refine Nat.le_of_not_lt fun h2 => ?_
    have h3 : (M + 1) * J ≤ Y * J := Nat.mul_le_mul_right J h2
    rw [Nat.add_mul, Nat.one_mul] at h3
    generalize M * J = x at *
    generalize Y * J = y at *
    omega
/-- a magnitude A / J, rounded: it lies on the same side of every number of the format -/
theorem own_ratio {s : Bool} {A J : Nat} (hJ : 0 < J) (hA : A < 2 ^ 100) :
    ∃ c q, roundRatio b64 s A J 0 = .fin s c q ∧ (A = 0 → c = 0) ∧
      ∀ c' q', c' < 2 ^ 53 → -1074 ≤ q' → (A * own_P ≤ inUnits c' q' (-1074) * J → inUnits c q (-1074) ≤ inUnits c' q' (-1074)) ∧ (inUnits c' q' (-1074) * J ≤ A * own_P → inUnits c' q' (-1074) ≤ inUnits c q (-1074)) := by
  rcases own_rr b64 s A J 0 with ⟨c, q, e⟩ | e
  · refine ⟨c, q, e, fun h0 => ?_, fun c' q' g1 g2 => ?_⟩
    · unfold roundRatio at e
      rw [if_pos h0] at e
      cases e; rfl
    · have w := roundRatio_nearest good_b64 hJ e (c' := c') (q' := q') g1 (by rw [own_qmin]; exact g2) (e0 := -1074) (by rw [own_qmin]; omega) (by omega)
      unfold distance at w
      rw [own_units0] at w
      exact own_near hJ w
  · exfalso
    rw [roundRatio_inf good_b64 hJ (e0 := -1075) (by rw [own_qmin]; omega) (by omega)] at e
    have k0 : ((0 : Int) - (-1075)).toNat = 1075 := by decide
    have k1 : inUnits A 0 (-1075) = A * 2 ^ 1075 := by unfold inUnits; rw [k0]
    rw [k1] at e
    have k2 : (2 : Nat) ^ 100 * 2 ^ 1075 ≤ (2 ^ (b64.p + 1) - 1) * 2 ^ (b64.qmax - 1 - -1075).toNat := by decide +kernel
    have k3 : A * 2 ^ 1075 < 2 ^ 100 * 2 ^ 1075 := Nat.mul_lt_mul_of_pos_right hA (Nat.two_pow_pos _)
    have k4 : (2 ^ (b64.p + 1) - 1) * 2 ^ (b64.qmax - 1 - -1075).toNat * 1 ≤ (2 ^ (b64.p + 1) - 1) * 2 ^ (b64.qmax - 1 - -1075).toNat * J := Nat.mul_le_mul_left _ hJ
    rw [Nat.mul_one] at k4
    exact absurd (Nat.lt_of_lt_of_le k3 (Nat.le_trans k2 (Nat.le_trans k4 e))) (Nat.lt_irrefl _)
/-- the quotient of two whole numbers, as a rounded ratio -/
theorem own_divr {i j : Int} {a b : UInt64} (ha : DInt i a) (hb : DInt j b) (hj : j ≠ 0) :
    ∃ s, (i ≠ 0 → s = (decide (i < 0) != decide (j < 0))) ∧ val64 (ddiv a b) = roundRatio b64 s i.natAbs j.natAbs 0 := by
  unfold DInt at ha hb
  cases e1 : val64 a with
  | nan => rw [e1] at ha; exact ha.elim
  | inf s => rw [e1] at ha; exact ha.elim
  | fin s c q =>
  cases e2 : val64 b with
  | nan => rw [e2] at hb; exact hb.elim
  | inf s => rw [e2] at hb; exact hb.elim
  | fin t d r =>
  rw [e1] at ha
  rw [e2] at hb
  have d0 : d ≠ 0 := fun h => hj ((whole_zero hb).mp h)
  have hJ : 0 < j.natAbs := by omega
  have n1 := whole_natAbs ha
  have n2 := whole_natAbs hb
  refine ⟨s != t, fun hi0 => by rw [whole_sign ha hi0, whole_sign hb hj], ?_⟩
  rw [val64_ddiv, e1, e2]
  show (if d = 0 then _ else roundRatio b64 (s != t) c d (q - r)) = _
  rw [if_neg d0]
  refine roundRatio_congr (by omega) hJ ?_
  refine Nat.eq_of_mul_eq_mul_right (Nat.two_pow_pos (min q.toNat r.toNat + min (-q).toNat (-r).toNat)) ?_
  have x1 : (q - r - 0).toNat + (min q.toNat r.toNat + min (-q).toNat (-r).toNat) = q.toNat + (-r).toNat := by omega
  have x2 : (0 - (q - r)).toNat + (min q.toNat r.toNat + min (-q).toNat (-r).toNat) = r.toNat + (-q).toNat := by omega
  rw [Nat.mul_assoc, ← Nat.pow_add, x1, Nat.mul_assoc (i.natAbs * d), ← Nat.pow_add, x2, Nat.pow_add, Nat.pow_add]
  calc c * j.natAbs * (2 ^ q.toNat * 2 ^ (-r).toNat) = (c * 2 ^ q.toNat) * (j.natAbs * 2 ^ (-r).toNat) := by ac_rfl
    _ = (i.natAbs * 2 ^ (-q).toNat) * (d * 2 ^ r.toNat) := by rw [n1, n2]
    _ = i.natAbs * d * (2 ^ r.toNat * 2 ^ (-q).toNat) := by ac_rfl
/-- the rounded quotient of whole numbers: sign and magnitude -/
theorem own_div {i j : Int} {a b : UInt64} (ha : DInt i a) (hb : DInt j b) (hj : j ≠ 0) (hi : i.natAbs < 2 ^ 100) :
    ∃ (s : Bool) (M : Nat), own_Is (ddiv a b) (signed s M) ∧ (i ≠ 0 → s = (decide (i < 0) != decide (j < 0))) ∧ (i = 0 → M = 0) ∧
      ∀ c' q', c' < 2 ^ 53 → -1074 ≤ q' → (i.natAbs * own_P ≤ inUnits c' q' (-1074) * j.natAbs → M ≤ inUnits c' q' (-1074)) ∧ (inUnits c' q' (-1074) * j.natAbs ≤ i.natAbs * own_P → inUnits c' q' (-1074) ≤ M) := by
  obtain ⟨s, hs, e⟩ := own_divr ha hb hj
  obtain ⟨c, q, e2, h0, hn⟩ := own_ratio (s := s) (A := i.natAbs) (J := j.natAbs) (by omega) hi
  refine ⟨s, inUnits c q (-1074), ⟨s, c, q, e.trans e2, rfl⟩, hs, fun hi0 => ?_, hn⟩
  rw [h0 (by omega)]; unfold inUnits; exact Nat.zero_mul _
end Jvm.Pilot.@@N@@.OwnF
namespace Jvm.Pilot.@@N@@.OwnF
open Jvm.FP.Core
theorem own_Is.z {a : UInt64} {v : Int} (h : own_Is a v) : DFin a ∧ zval b64 (val64 a) = v := by
  obtain ⟨s, c, q, h1, rfl⟩ := h
  refine ⟨⟨s, c, q, h1⟩, ?_⟩
  rw [h1]
  show signed s (inUnits c q b64.qmin) = signed s (inUnits c q (-1074))
  rw [own_qmin]
/-- a number of the format -/
theorem own_pt (s : Bool) {c : Nat} {q : Int} (hc : c < 2 ^ 53) (h1 : -1074 ≤ q) (h2 : q ≤ 900) :
    ∃ V, Jvm.FP.Core.fits b64 V ∧ V ≠ .nan ∧ zval b64 V = signed s (inUnits c q (-1074)) := by
  obtain ⟨c', q', e, h⟩ := round_exact good_b64 s (c := c) (q := q) hc (by rw [own_qmin]; exact h1) (Int.le_trans h2 (by decide))
  refine ⟨round b64 (.fin s c q), round_fits good_b64 _, ?_, ?_⟩
  · rw [e]; exact fun h => by cases h
  · rw [e]
    show signed s (inUnits c' q' b64.qmin) = _
    rw [h, own_qmin]
/-- a rounded product lies on the same side of every number of the format -/
theorem own_mul {x y : UInt64} {i : Int} (hx : DFin x) (hy : DInt i y) {V : Datum} (fV : Jvm.FP.Core.fits b64 V) (nV : V ≠ .nan) :
    (zval b64 (val64 x) * i ≤ zval b64 V → zval b64 (val64 (dmul x y)) ≤ zval b64 V) ∧ (zval b64 V ≤ zval b64 (val64 x) * i → zval b64 V ≤ zval b64 (val64 (dmul x y))) := by
  have zy := DInt_zval hy
  have fx := val64_fits x
  have fy := val64_fits y
  obtain ⟨s, c, q, ex⟩ := hx
  cases ey : val64 y with
  | nan => exact absurd ey (DInt_ne_nan hy)
  | inf t => unfold DInt at hy; rw [ey] at hy; exact hy.elim
  | fin t d r =>
    rw [ey] at zy fy
    rw [ex] at fx
    obtain ⟨e1, e2, e3⟩ := product_units fx fy
    have k : (b64.qmin - 2 * b64.qmin).toNat = 1074 := by decide
    have e4 : signed (s != t) (inUnits (c * d) (q + r) (2 * b64.qmin)) = zval b64 (.fin s c q) * (i * (one64 : Int)) := by
      rw [e3, signed_xor, ← zy]; rfl
    have e5 : ((2 ^ (b64.qmin - 2 * b64.qmin).toNat : Nat) : Int) = (one64 : Int) := by rw [k]; rfl
    have hp : (0 : Int) ≤ (one64 : Int) := Int.natCast_nonneg _
    rw [val64_dmul, ex, ey, e1]
    constructor
    · intro h
      refine zval_round_le good_b64 fV nV (e0 := 2 * b64.qmin) (by decide) e2 ?_
      rw [e4, e5, ← Int.mul_assoc]
      exact Int.mul_le_mul_of_nonneg_right h hp
    · intro h
      refine zval_round_ge good_b64 fV nV (e0 := 2 * b64.qmin) (by decide) e2 ?_
      rw [e4, e5, ← Int.mul_assoc]
      exact Int.mul_le_mul_of_nonneg_right h hp
theorem own_fin {a : UInt64} (hn : val64 a ≠ .nan) {X : Nat} (h1 : zval b64 (val64 a) ≤ (X : Int)) (h2 : -(X : Int) ≤ zval b64 (val64 a)) (hX : X < 2 ^ 2000) : DFin a := by
  cases e : val64 a with
  | nan => exact absurd e hn
  | fin s c q => exact ⟨s, c, q, e⟩
  | inf s =>
    exfalso
    rw [e] at h1 h2
    have k : (2 : Nat) ^ 2000 < b64.tails * 2 ^ (b64.exps - 2) := by decide +kernel
    have h3 : zval b64 (.inf s) = signed s (b64.tails * 2 ^ (b64.exps - 2)) := rfl
    rw [h3] at h1 h2
    generalize b64.tails * 2 ^ (b64.exps - 2) = T at *
    generalize (2 : Nat) ^ 2000 = Y at *
    cases s
    · have h4 : signed false T = (T : Int) := rfl
      rw [h4] at h1; omega
    · have h4 : signed true T = -(T : Int) := rfl
      rw [h4] at h2; omega
theorem own_sub {x y : UInt64} (hx : DFin x) (hy : DFin y) {V : Datum} (fV : Jvm.FP.Core.fits b64 V) (nV : V ≠ .nan) :
    (zval b64 (val64 x) - zval b64 (val64 y) ≤ zval b64 V → zval b64 (val64 (dsub x y)) ≤ zval b64 V) ∧ (zval b64 V ≤ zval b64 (val64 x) - zval b64 (val64 y) → zval b64 V ≤ zval b64 (val64 (dsub x y))) := by
  have hy' : ∃ s c q, negate (val64 y) = .fin s c q := by
    obtain ⟨s, c, q, e⟩ := hy
    exact ⟨!s, c, q, by rw [e]; rfl⟩
  have fy := negate_fits (val64_fits y)
  rw [val64_dsub]
  constructor
  · intro h
    exact sum_le good_b64 hx hy' (val64_fits x) fy fV nV (by rw [zval_negate]; omega)
  · intro h
    exact sum_ge good_b64 hx hy' (val64_fits x) fy fV nV (by rw [zval_negate]; omega)
theorem own_u (n : Nat) (q : Int) (k : Nat) (h : (q - -1074).toNat = k) : inUnits n q (-1074) = n * 2 ^ k := by
  unfold inUnits
  rw [h]
theorem own_PU : own_P = 9007199254740992 * 2 ^ 1021 := by
  unfold own_P
  rw [show (9007199254740992 : Nat) = 2 ^ 53 from rfl, ← Nat.pow_add]
theorem own_PT : own_P = 8589934592 * 2 ^ 1041 := by
  unfold own_P
  rw [show (8589934592 : Nat) = 2 ^ 33 from rfl, ← Nat.pow_add]
theorem own_TU : 2 ^ 1041 = 1048576 * 2 ^ 1021 := by
  rw [show (1048576 : Nat) = 2 ^ 20 from rfl, ← Nat.pow_add]
/-- the rounded quotient b / a, 0 ≤ b ≤ a ≤ 2^20 -/
theorem own_q {a b : Nat} (ha0 : 0 < a) (ha : a ≤ 1048576) (hb : b ≤ a) {x y : UInt64} (hx : DInt (b : Int) x) (hy : DInt (a : Int) y) :
    ∃ M : Nat, own_Is (ddiv x y) (M : Int) ∧ (b = 0 → M = 0) ∧ (b = a → M = own_P) ∧ (0 < b → 0 < M) ∧ (b < a → M < own_P) ∧ (b * 9007199254740992 / a) * 2 ^ 1021 ≤ M ∧ M ≤ (b * 9007199254740992 / a + 1) * 2 ^ 1021 := by
  obtain ⟨s, M, e, hs, hz, hn⟩ := own_div hx hy (by omega) (by
    have : ((b : Int)).natAbs = b := rfl
    rw [this]
    exact Nat.lt_of_le_of_lt (Nat.le_trans hb ha) (by decide))
  rw [show ((b : Int)).natAbs = b from rfl, show ((a : Int)).natAbs = a from rfl] at hn
  have hsg : signed s M = (M : Int) := by
    by_cases z : (b : Int) = 0
    · rw [hz z]; unfold signed; split <;> rfl
    · rw [hs z, decide_eq_false (by omega : ¬ (b : Int) < 0), decide_eq_false (by omega : ¬ (a : Int) < 0)]; rfl
  rw [hsg] at e
  have hM : b = a → M = own_P := by
    intro h
    have w := hn 1 0 (by decide) (by decide)
    rw [own_units0, Nat.one_mul, h, Nat.mul_comm own_P] at w
    exact Nat.le_antisymm (w.1 (Nat.le_refl _)) (w.2 (Nat.le_refl _))
  have d1 := Nat.div_add_mod (b * 9007199254740992) a
  have d2 := Nat.mod_lt (b * 9007199254740992) ha0
  have d0 : 0 < b → 0 < b * 9007199254740992 / a := fun h => Nat.div_pos (by omega) ha0
  have d5 : b = a → b * 9007199254740992 / a = 9007199254740992 := fun h => by rw [h]; exact Nat.mul_div_cancel_left _ ha0
  generalize b * 9007199254740992 / a = k at *
  have hU : 0 < 2 ^ 1021 := Nat.two_pow_pos _
  have c1 : b < a → k + 1 < 9007199254740992 := by
    intro h
    refine Nat.lt_of_not_le fun h2 => ?_
    have h3 : a * 9007199254740991 ≤ a * k := Nat.mul_le_mul_left a (by omega)
    generalize a * k = z at *
    omega
  have lo : k * 2 ^ 1021 ≤ M := by
    rcases Nat.lt_or_ge b a with h | h
    · have w := (hn k (-53) (by have := c1 h; omega) (by decide)).2
      rw [own_u k (-53) 1021 (by decide), own_PU] at w
      generalize (2 : Nat) ^ 1021 = W at *
      refine w ?_
      rw [Nat.mul_right_comm, ← Nat.mul_assoc]
      refine Nat.mul_le_mul_right _ ?_
      rw [Nat.mul_comm k a]
      generalize a * k = z at *
      omega
    · have h' : b = a := by omega
      rw [d5 h', hM h', own_PU]
      exact Nat.le_refl _
  have hi : M ≤ (k + 1) * 2 ^ 1021 := by
    rcases Nat.lt_or_ge b a with h | h
    · have w := (hn (k + 1) (-53) (by have := c1 h; omega) (by decide)).1
      rw [own_u (k + 1) (-53) 1021 (by decide), own_PU] at w
      generalize (2 : Nat) ^ 1021 = W at *
      refine w ?_
      rw [Nat.mul_right_comm, ← Nat.mul_assoc]
      refine Nat.mul_le_mul_right _ ?_
      rw [Nat.mul_comm (k + 1) a, Nat.mul_add, Nat.mul_one]
      generalize a * k = z at *
      omega
    · have h' : b = a := by omega
      rw [d5 h', hM h', own_PU]
      exact Nat.mul_le_mul_right _ (by omega)
  refine ⟨M, e, fun h => hz (by omega), hM, fun h => ?_, fun h => ?_, lo, hi⟩
  · exact Nat.lt_of_lt_of_le (Nat.mul_pos (d0 h) hU) lo
  · rw [own_PU]
    exact Nat.lt_of_le_of_lt hi (Nat.mul_lt_mul_of_pos_right (c1 h) hU)
theorem own_near2 {a b M : Nat} (ha0 : 0 < a) (ha : a ≤ 1048576) (h1 : (b * 9007199254740992 / a) * 2 ^ 1021 ≤ M) (h2 : M ≤ (b * 9007199254740992 / a + 1) * 2 ^ 1021) :
    M * a ≤ b * own_P + 2 ^ 1041 ∧ b * own_P ≤ M * a + 2 ^ 1041 := by
  have d1 := Nat.div_add_mod (b * 9007199254740992) a
  have d2 := Nat.mod_lt (b * 9007199254740992) ha0
  generalize b * 9007199254740992 / a = k at *
  rw [own_PU, own_TU]
  generalize (2 : Nat) ^ 1021 = W at *
  have e1 := Nat.mul_le_mul_right a h1
  have e2 := Nat.mul_le_mul_right a h2
  rw [Nat.mul_right_comm] at e1 e2
  rw [← Nat.mul_assoc, ← Nat.add_mul]
  constructor
  · refine Nat.le_trans e2 (Nat.mul_le_mul_right _ ?_)
    rw [Nat.mul_comm (k + 1) a, Nat.mul_add, Nat.mul_one]
    generalize a * k = z at *
    omega
  · refine Nat.le_trans ?_ (Nat.add_le_add_right e1 _)
    rw [← Nat.add_mul]
    refine Nat.mul_le_mul_right _ ?_
    rw [Nat.mul_comm k a]
    generalize a * k = z at *
    omega
/-- how far the product is from b -/
theorem own_dd {a b : Nat} (ha0 : 0 < a) (ha : a ≤ 1048576) (hb : b ≤ a) {x y : UInt64} (hx : DInt (b : Int) x) (hy : DInt (a : Int) y) :
    DFin (ddiv x y) ∧ DFin (dmul (ddiv x y) y) ∧ DFin (dsub (dmul (ddiv x y) y) x) ∧ zval b64 (val64 (dsub (dmul (ddiv x y) y) x)) ≤ ((2 ^ 1041 : Nat) : Int) ∧ -((2 ^ 1041 : Nat) : Int) ≤ zval b64 (val64 (dsub (dmul (ddiv x y) y) x)) := by
  obtain ⟨M, e, m0, m1, -, -, l1, l2⟩ := own_q ha0 ha hb hx hy
  obtain ⟨n1, n2⟩ := own_near2 ha0 ha l1 l2
  obtain ⟨fr, zr⟩ := e.z
  obtain ⟨fy, -⟩ := (own_whole hy).z
  obtain ⟨fx, zx⟩ := (own_whole hx).z
  generalize ddiv x y = r at *
  have nm : val64 (dmul r y) ≠ .nan := (notNaN_iff _).mp (dmul_out fr fy)
  have hT : ∀ b : Nat, b ≤ 1048576 → b * own_P + 2 ^ 1041 < 2 ^ 2000 := fun b h => Nat.lt_of_le_of_lt (Nat.add_le_add_right (Nat.mul_le_mul_right own_P h) _) (by unfold own_P; decide +kernel)
  have hTb := hT b (Nat.le_trans hb ha)
  have B : zval b64 (val64 (dmul r y)) ≤ ((b * own_P : Nat) : Int) + ((2 ^ 1041 : Nat) : Int) ∧ ((b * own_P : Nat) : Int) - ((2 ^ 1041 : Nat) : Int) ≤ zval b64 (val64 (dmul r y)) := by
    by_cases h : M * a = b * own_P
    · have q := own_mul fr hy (val64_fits x) fx.ne_nan
      rw [zr, zx, ← Int.natCast_mul, ← Int.natCast_mul, h] at q
      have q1 := q.1 (Int.le_refl _)
      have q2 := q.2 (Int.le_refl _)
      generalize zval b64 (val64 (dmul r y)) = z at *
      generalize (2 : Nat) ^ 1041 = T at *
      omega
    · have b1 : 0 < b := Nat.pos_of_ne_zero fun h0 => h (by rw [m0 h0, h0, Nat.zero_mul, Nat.zero_mul])
      have b2 : b < a := Nat.lt_of_le_of_ne hb fun h0 => h (by rw [m1 h0, h0, Nat.mul_comm])
      obtain ⟨V, fV, nV, zV⟩ := own_pt false (c := b * 8589934592 + 1) (q := -33) (by omega) (by decide) (by decide)
      obtain ⟨W, fW, nW, zW⟩ := own_pt false (c := b * 8589934592 - 1) (q := -33) (by omega) (by decide) (by decide)
      have q1 := (own_mul fr hy fV nV).1
      have q2 := (own_mul fr hy fW nW).2
      rw [zr, zV, ← Int.natCast_mul, own_u _ (-33) 1041 (by decide)] at q1
      rw [zr, zW, ← Int.natCast_mul, own_u _ (-33) 1041 (by decide)] at q2
      have s1 : signed false ((b * 8589934592 + 1) * 2 ^ 1041) = ((b * own_P : Nat) : Int) + ((2 ^ 1041 : Nat) : Int) := by
        show (((b * 8589934592 + 1) * 2 ^ 1041 : Nat) : Int) = _
        rw [own_PT, Nat.add_mul, Nat.one_mul, Nat.mul_assoc, Int.natCast_add]
      have s2 : signed false ((b * 8589934592 - 1) * 2 ^ 1041) = ((b * own_P : Nat) : Int) - ((2 ^ 1041 : Nat) : Int) := by
        show (((b * 8589934592 - 1) * 2 ^ 1041 : Nat) : Int) = _
        rw [own_PT, Nat.sub_mul, Nat.one_mul, Nat.mul_assoc]
        have : 2 ^ 1041 ≤ b * (8589934592 * 2 ^ 1041) := by
          rw [← Nat.mul_assoc]
          exact Nat.le_mul_of_pos_left _ (by omega)
        generalize b * (8589934592 * 2 ^ 1041) = z at *
        generalize (2 : Nat) ^ 1041 = T at *
        omega
      rw [s1] at q1
      rw [s2] at q2
      refine ⟨q1 ?_, q2 ?_⟩
      · generalize b * own_P = z at *
        generalize (2 : Nat) ^ 1041 = T at *
        generalize M * a = w at *
        omega
      · generalize b * own_P = z at *
        generalize (2 : Nat) ^ 1041 = T at *
        generalize M * a = w at *
        omega
  have fm : DFin (dmul r y) := by
    refine own_fin nm (X := b * own_P + 2 ^ 1041) ?_ ?_ hTb
    · rw [Int.natCast_add]; exact B.1
    · rw [Int.natCast_add]
      have := B.2
      generalize zval b64 (val64 (dmul r y)) = z at *
      generalize b * own_P = w at *
      generalize (2 : Nat) ^ 1041 = T at *
      omega
  rw [← Int.natCast_mul] at zx
  obtain ⟨V, fV, nV, zV⟩ := own_pt false (c := 1) (q := -33) (by decide) (by decide) (by decide)
  obtain ⟨W, fW, nW, zW⟩ := own_pt true (c := 1) (q := -33) (by decide) (by decide) (by decide)
  rw [own_u _ (-33) 1041 (by decide), Nat.one_mul] at zV zW
  have q1 := (own_sub fm fx fV nV).1
  have q2 := (own_sub fm fx fW nW).2
  rw [zx, zV] at q1
  rw [zx, zW] at q2
  have s1 : signed false (2 ^ 1041) = ((2 ^ 1041 : Nat) : Int) := rfl
  have s2 : signed true (2 ^ 1041) = -((2 ^ 1041 : Nat) : Int) := rfl
  rw [s1] at q1
  rw [s2] at q2
  have ns : val64 (dsub (dmul r y) x) ≠ .nan := (notNaN_iff _).mp (dsub_out' fm ((notNaN_iff _).mpr fx.ne_nan))
  have r1 := q1 (by
    have := B.1
    generalize zval b64 (val64 (dmul r y)) = z at *
    generalize b * own_P = w at *
    generalize (2 : Nat) ^ 1041 = T at *
    omega)
  have r2 := q2 (by
    have := B.2
    generalize zval b64 (val64 (dmul r y)) = z at *
    generalize b * own_P = w at *
    generalize (2 : Nat) ^ 1041 = T at *
    omega)
  have hT2 : (2 : Nat) ^ 1041 < 2 ^ 2000 := Nat.lt_of_le_of_lt (Nat.le_add_left _ _) hTb
  exact ⟨fr, fm, own_fin ns r1 r2 hT2, r1, r2⟩
theorem own_lt {a1 b1 a2 b2 M1 M2 : Nat} (h1 : 0 < a1) (h2 : a1 ≤ 1048576) (h3 : 0 < a2) (h4 : a2 ≤ 1048576) (u1 : M1 ≤ (b1 * 9007199254740992 / a1 + 1) * 2 ^ 1021) (u2 : (b2 * 9007199254740992 / a2) * 2 ^ 1021 ≤ M2) (h : b1 * a2 < b2 * a1) : M1 < M2 := by
  have d1 := Nat.div_add_mod (b1 * 9007199254740992) a1
  have d2 := Nat.div_add_mod (b2 * 9007199254740992) a2
  have d3 := Nat.mod_lt (b2 * 9007199254740992) h3
  obtain ⟨k1, e1⟩ : ∃ k, b1 * 9007199254740992 / a1 = k := ⟨_, rfl⟩
  obtain ⟨k2, e2⟩ : ∃ k, b2 * 9007199254740992 / a2 = k := ⟨_, rfl⟩
  rw [e1] at d1 u1
  rw [e2] at d2 u2
  have g : k1 + 1 < k2 := by
    refine Nat.lt_of_not_le fun g => ?_
    have aa : a1 * a2 ≤ 1048576 * 1048576 := Nat.mul_le_mul h2 h4
    have x1 : a1 * k1 ≤ b1 * 9007199254740992 := by omega
    have x2 : b2 * 9007199254740992 ≤ a2 * k2 + a2 := by omega
    have y1 := Nat.mul_le_mul_right a2 x1
    have y2 := Nat.mul_le_mul_right a1 x2
    have y3 : a2 * k2 * a1 ≤ a2 * (k1 + 1) * a1 := Nat.mul_le_mul_right _ (Nat.mul_le_mul_left _ g)
    have z1 : a1 * k1 * a2 = a1 * a2 * k1 := Nat.mul_right_comm _ _ _
    have z2 : a2 * (k1 + 1) * a1 = a1 * a2 * k1 + a1 * a2 := by rw [Nat.mul_right_comm, Nat.mul_comm a2 a1, Nat.mul_add, Nat.mul_one]
    have z3 : b1 * 9007199254740992 * a2 = b1 * a2 * 9007199254740992 := Nat.mul_right_comm _ _ _
    have z4 : b2 * 9007199254740992 * a1 = b2 * a1 * 9007199254740992 := Nat.mul_right_comm _ _ _
    have z5 : (a2 * k2 + a2) * a1 = a2 * k2 * a1 + a1 * a2 := by rw [Nat.add_mul, Nat.mul_comm a2 a1]
    rw [z1, z3] at y1
    rw [z4, z5] at y2
    rw [z2] at y3
    generalize b1 * a2 = p at *
    generalize b2 * a1 = q at *
    generalize a1 * a2 * k1 = u at *
    generalize a1 * a2 = v at *
    generalize a2 * k2 * a1 = w at *
    omega
  refine Nat.lt_of_le_of_lt u1 (Nat.lt_of_lt_of_le (Nat.mul_lt_mul_of_pos_right g (Nat.two_pow_pos _)) u2)
theorem own_same {a1 b1 a2 b2 : Nat} {x1 y1 x2 y2 : UInt64} (h1 : 0 < a1) (h3 : 0 < a2) (hx1 : DInt (b1 : Int) x1) (hy1 : DInt (a1 : Int) y1) (hx2 : DInt (b2 : Int) x2) (hy2 : DInt (a2 : Int) y2) (hb : 0 < b1) (h : b1 * a2 = b2 * a1) : val64 (ddiv x1 y1) = val64 (ddiv x2 y2) := by
  have hb2 : 0 < b2 := Nat.pos_of_ne_zero fun z => by
    rw [z, Nat.zero_mul] at h
    have := Nat.mul_pos hb h3
    omega
  obtain ⟨s, hs, e⟩ := own_divr hx1 hy1 (by omega)
  obtain ⟨t, ht, f⟩ := own_divr hx2 hy2 (by omega)
  have s0 : s = false := by rw [hs (by omega), decide_eq_false (by omega : ¬ (b1 : Int) < 0), decide_eq_false (by omega : ¬ (a1 : Int) < 0)]; rfl
  have t0 : t = false := by rw [ht (by omega), decide_eq_false (by omega : ¬ (b2 : Int) < 0), decide_eq_false (by omega : ¬ (a2 : Int) < 0)]; rfl
  rw [e, f, s0, t0]
  refine roundRatio_congr (by omega) (by omega) ?_
  show b1 * a2 * _ = b2 * a1 * _
  rw [h]
theorem own_eps : zval b64 (val64 4463067230724161536) = ((2 ^ 1042 : Nat) : Int) := by decide +kernel
theorem own_epsn : val64 4463067230724161536 ≠ .nan := by decide +kernel
theorem own_zero : own_Is dconst0 0 := ⟨false, 0, b64.qmin, val64_dconst0, by
  show signed false (inUnits 0 b64.qmin (-1074)) = 0
  unfold inUnits; rw [Nat.zero_mul]; rfl⟩
end Jvm.Pilot.@@N@@.OwnF
namespace Jvm.Pilot.@@N@@
open Jvm Jvm.ClassFile Sem Op Lib Jvm.Free Jvm.Stand Jvm.LawKit Jvm.RoadKit Bundle Jvm.Pilot.@@N@@.Jvm.D
def own_Q (r : Option Value) (h0 : Heap) (n0 : Nat) (v : Option Value) (h : Heap) (L : List Loc) : Prop := v = r ∧ Fr n0 L ∧ h = h0
def own_R (r : Option Value) (n0 : Nat) (v : Option Value) (h : Heap) (L : List Loc) : Prop := v = r ∧ Fr n0 L
theorem pn_0 : plainName "java/lang/Record" = true := by first | (simp [plainName, overriddenIn]; done) | decide +kernel
theorem ef_rm2 (m : MethodId) (x0 : Addr) : entryFrame m #[(.ref x0)] 1 = mkF m 0 #[.val (.ref x0)] [] := by first | (simp [entryFrame, mkF, argsToLocals, Value.category]; done) | rfl
theorem d2_0 : decode jdk_30_method_1_code 0 = .ok (.aload_n 0, 1) := by decide +kernel
theorem d2_1 : decode jdk_30_method_1_code 1 = .ok (.invokespecial 1, 3) := by decide +kernel
theorem d2_4 : decode jdk_30_method_1_code 4 = .ok (.return_, 1) := by decide +kernel
set_option maxRecDepth 65536 in
set_option maxHeartbeats 40000000 in
theorem rm2 (l : Launch) (Z : State) (a0 : Array Value) (hw : ∀ d ∈ tables_1, d.before a0 Z = true) (ws : List Jvm.Cond) (r0 : Addr) (h0 : Heap) (n0 : Nat) :
    MetFree l (⟨"java/lang/Record", "<init>", "()V"⟩ : MethodName) (head1 (Jvm.Cond.code (⟨"java/lang/Record", "<init>", "()V"⟩ : MethodName) jdk_30_method_1_code 1 none :: ws) ({ frames := 1, cells := 0, slots := 0, locals := 12 } : Room)) (fun a U => a = #[(.ref r0)] ∧ Z.Warmed39 U.vm ∧ U.heap = h0) (fun _ _ _ _ _ => True) (fun _ U o U' => ∃ v L, o = .returned v ∧ own_Q (none) h0 n0 v U'.heap L ∧ FrameEnd U o U' L ({ frames := 1, cells := 0, slots := 0, locals := 12 } : Room).cells ({ frames := 1, cells := 0, slots := 0, locals := 12 } : Room).slots) := by
  refine MetFree.of_bodySF (plainFor_of_name pn_0) hisR ?_
  intro p e s m args below meth c s₁ Bd hml0 hP hK
  obtain ⟨rfl, hZ, hh⟩ := hP
  have hx := Bd.exec
  have hby := Bd.bytes
  have hml : c.maxLocals = 1 := hml0
  have hown : s.vm.findClass "java/lang/Record" = some m.cls := findClass_of_methodNamed Bd.named
  have hnm := (name_of_methodNamed Bd.named Bd.method).1
  have X0 : Stand p l e ({ frames := 1, cells := 0, slots := 0, locals := 12 } : Room) s m #[(.ref r0)] below meth c s₁ [] 0 0 := Stand.of_body Bd
  have e0 : s₁.heap = h0 := by rw [← hh, Bd.state]; rfl
  have N0 := Fr.nil n0
  have pre0 : ∀ t, Steps p.tables e below (s₁.setTop (mkF m 0 #[.val (.ref r0)] [])) t → Steps p.tables e below (s₁.setTop (entryFrame m #[(.ref r0)] 1)) t := fun t k => castTop (ef_rm2 m r0) k
  obtain ⟨T1, X1, e1, st1⟩ := initO X0 hx hZ hown (hw _ (List.mem_of_getElem? (i := 13) rfl)) (hw _ (List.mem_of_getElem? (i := 14) rfl)) (hw _ (List.mem_of_getElem? (i := 15) rfl)) e0 (g := (mkF m 1 #[.val (.ref r0)] [(.ref r0)])) rfl (by rw [hml]; rfl) rfl (hb hby d2_1) (by decide) (W := 0) (by show 2 * 0 + _ ≤ _; exact Nat.le_of_eq rfl) (by decide)
  have k2 : ∀ t, Steps p.tables e below (T1.setTop (mkF m 4 #[.val (.ref r0)] [])) t → Steps p.tables e below (s₁.setTop (entryFrame m #[(.ref r0)] 1)) t := by
    intro t k
    refine pre0 _ ?_
    show Steps p.tables e below (s₁.setTop (mkF m 0 #[.val (.ref r0)] [])) _
    refine XS.aloadN X0.here hx rfl (hb hby d2_0) rfl rfl ?_
    show Steps p.tables e below (s₁.setTop (mkF m 1 #[.val (.ref r0)] [(.ref r0)])) _
    refine st1 _ ?_
    exact k
  obtain ⟨fs, hr, hrun, hended, hW, hsame⟩ := X1.leave (v := none) (fun _ => rfl)
  refine ⟨_, _, k2 _ ?_, hrun, hended, _, _, rfl, ?_, ⟨_, rfl⟩, hW, hsame.mono (by decide) (by decide)⟩
  · exact X1.returnOut hx Bd.returns (hb hby d2_4) hr
  · show own_Q (none) h0 n0 _ T1.heap _
    rw [e1]
    exact ⟨rfl, N0, rfl⟩
theorem pn_1 : plainName "com/example/lightloom/lightloom/plan/Simulation$Result" = true := by first | (simp [plainName, overriddenIn]; done) | decide +kernel
theorem ef_rm1 (m : MethodId) (x0 : Addr) (x1 : Int32) (x2 : Int32) (x3 : UInt64) (x4 : Int64) : entryFrame m #[(.ref x0), (.int x1), (.int x2), (.double x3), (.long x4)] 7 = mkF m 0 #[.val (.ref x0), .val (.int x1), .val (.int x2), .val (.double x3), .second, .val (.long x4), .second] [] := by first | (simp [entryFrame, mkF, argsToLocals, Value.category]; done) | rfl
theorem d1_0 : decode prog_49_method_1_code 0 = .ok (.aload_n 0, 1) := by decide +kernel
theorem pd_0 : parseMethodDescriptor "()V" = some ⟨[], none⟩ := by decide +kernel
theorem d1_1 : decode prog_49_method_1_code 1 = .ok (.invokespecial 1, 3) := by decide +kernel
theorem d1_4 : decode prog_49_method_1_code 4 = .ok (.aload_n 0, 1) := by decide +kernel
theorem d1_5 : decode prog_49_method_1_code 5 = .ok (.iload_n 1, 1) := by decide +kernel
theorem d1_6 : decode prog_49_method_1_code 6 = .ok (.putfield 7, 3) := by decide +kernel
theorem d1_9 : decode prog_49_method_1_code 9 = .ok (.aload_n 0, 1) := by decide +kernel
theorem d1_10 : decode prog_49_method_1_code 10 = .ok (.iload_n 2, 1) := by decide +kernel
theorem d1_11 : decode prog_49_method_1_code 11 = .ok (.putfield 13, 3) := by decide +kernel
theorem d1_14 : decode prog_49_method_1_code 14 = .ok (.aload_n 0, 1) := by decide +kernel
theorem d1_15 : decode prog_49_method_1_code 15 = .ok (.dload_n 3, 1) := by decide +kernel
theorem d1_16 : decode prog_49_method_1_code 16 = .ok (.putfield 16, 3) := by decide +kernel
theorem d1_19 : decode prog_49_method_1_code 19 = .ok (.aload_n 0, 1) := by decide +kernel
theorem d1_20 : decode prog_49_method_1_code 20 = .ok (.lload 5, 2) := by decide +kernel
theorem d1_22 : decode prog_49_method_1_code 22 = .ok (.putfield 20, 3) := by decide +kernel
theorem d1_25 : decode prog_49_method_1_code 25 = .ok (.return_, 1) := by decide +kernel
def own_C1 (Z : State) (r0 : Addr) (p1 : Int32) (p2 : Int32) (d3 : UInt64) (q4 : Int64) (h0 : Heap) (n0 : Nat) (v : Option Value) (h : Heap) (L : List Loc) : Prop := v = none ∧ Fr n0 L ∧ Keep h0 h [r0] ∧ Exa Z h r0 "com/example/lightloom/lightloom/plan/Simulation$Result" ∧ Fld Z h r0 "com/example/lightloom/lightloom/plan/Simulation$Result" "arrivals" "I" (.int p1) ∧ Fld Z h r0 "com/example/lightloom/lightloom/plan/Simulation$Result" "blocked" "I" (.int p2)
set_option maxRecDepth 65536 in
set_option maxHeartbeats 40000000 in
theorem rm1 (l : Launch) (Z : State) (a0 : Array Value) (hw : ∀ d ∈ tables_1, d.before a0 Z = true) (ws : List Jvm.Cond) (r0 : Addr) (p1 : Int32) (p2 : Int32) (d3 : UInt64) (q4 : Int64) (h0 : Heap) (n0 : Nat) (Z0 : n0 ≤ h0.size) (g_r0 : n0 ≤ r0) (E_r0 : Exa Z h0 r0 "com/example/lightloom/lightloom/plan/Simulation$Result") (F_arrivals_r0 : Fld Z h0 r0 "com/example/lightloom/lightloom/plan/Simulation$Result" "arrivals" "I" (.int (0 : Int32))) (F_blocked_r0 : Fld Z h0 r0 "com/example/lightloom/lightloom/plan/Simulation$Result" "blocked" "I" (.int (0 : Int32))) (F_standardError_r0 : Fld Z h0 r0 "com/example/lightloom/lightloom/plan/Simulation$Result" "standardError" "D" (.double (0 : UInt64))) (F_carriedHops_r0 : Fld Z h0 r0 "com/example/lightloom/lightloom/plan/Simulation$Result" "carriedHops" "J" (.long (0 : Int64))) :
    MetFree l (⟨"com/example/lightloom/lightloom/plan/Simulation$Result", "<init>", "(IIDJ)V"⟩ : MethodName) (head1 (Jvm.Cond.code (⟨"com/example/lightloom/lightloom/plan/Simulation$Result", "<init>", "(IIDJ)V"⟩ : MethodName) prog_49_method_1_code 7 none :: ws) ({ frames := 2, cells := 0, slots := 0, locals := 24 } : Room)) (fun a U => a = #[(.ref r0), (.int p1), (.int p2), (.double d3), (.long q4)] ∧ Z.Warmed39 U.vm ∧ U.heap = h0) (fun _ _ _ _ _ => True) (fun _ U o U' => ∃ v L, o = .returned v ∧ own_C1 Z r0 p1 p2 d3 q4 h0 n0 v U'.heap L ∧ FrameEnd U o U' L ({ frames := 2, cells := 0, slots := 0, locals := 24 } : Room).cells ({ frames := 2, cells := 0, slots := 0, locals := 24 } : Room).slots) := by
  refine MetFree.of_bodySF (plainFor_of_name pn_1) hisR ?_
  intro p e s m args below meth c s₁ Bd hml0 hP hK
  obtain ⟨rfl, hZ, hh⟩ := hP
  have hx := Bd.exec
  have hby := Bd.bytes
  have hml : c.maxLocals = 7 := hml0
  have hown : s.vm.findClass "com/example/lightloom/lightloom/plan/Simulation$Result" = some m.cls := findClass_of_methodNamed Bd.named
  have hnm := (name_of_methodNamed Bd.named Bd.method).1
  have X0 : Stand p l e ({ frames := 2, cells := 0, slots := 0, locals := 24 } : Room) s m #[(.ref r0), (.int p1), (.int p2), (.double d3), (.long q4)] below meth c s₁ [] 0 0 := Stand.of_body Bd
  have e0 : s₁.heap = h0 := by rw [← hh, Bd.state]; rfl
  have N0 := Fr.nil n0
  have pre0 : ∀ t, Steps p.tables e below (s₁.setTop (mkF m 0 #[.val (.ref r0), .val (.int p1), .val (.int p2), .val (.double d3), .second, .val (.long q4), .second] [])) t → Steps p.tables e below (s₁.setTop (entryFrame m #[(.ref r0), (.int p1), (.int p2), (.double d3), (.long q4)] 7)) t := fun t k => castTop (ef_rm1 m r0 p1 p2 d3 q4) k
  have K0 : Keep h0 h0 [r0] := Keep.refl _ _
  obtain ⟨_, _, ⟨T1, L1, k1_, n1⟩, -, X1, ⟨Lc1, hQ1, l1, y1, z1⟩, st1⟩ := X0.specialBack hx (y := (⟨"java/lang/Record", "<init>", "()V"⟩ : MethodName)) rfl hown (mvT hZ (hw _ (List.mem_of_getElem? (i := 8) rfl))) (mvT hZ (hw _ (List.mem_of_getElem? (i := 9) rfl))) (mvT hZ (hw _ (List.mem_of_getElem? (i := 12) rfl))) (by decide) (backOf (W := 0) (rm2 l Z a0 hw [] r0 h0 n0 ) hZ (hw _ (List.mem_of_getElem? (i := 12) rfl)) (hw _ (List.mem_of_getElem? (i := 11) rfl)) (by decide) (by decide)) (g := (mkF m 1 #[.val (.ref r0), .val (.int p1), .val (.int p2), .val (.double d3), .second, .val (.long q4), .second] [(.ref r0)])) rfl (by rw [hml]; rfl) (Steps.refl _) (a := r0) (argsL := []) (rest := []) (lenOf pd_0 rfl) rfl (by show 2 * 0 + _ ≤ _; exact Nat.le_of_eq rfl) (hb hby d1_1) (fun _ _ => ⟨rfl, e0, (by decide : 0 + 0 ≤ _), (by decide : 0 + 0 ≤ _)⟩)
  dsimp only [Pt.U, Pt.locs, Pt.cells, Pt.slots] at X1 l1 y1 z1 st1 hQ1
  subst l1 y1 z1
  obtain ⟨rfl, Nq1, e1⟩ := hQ1
  have N1 := Fr.app N0 Nq1
  obtain ⟨T2, h2, X2, e2, W2, st2⟩ := putF X1 hx hZ hown (host := "") (Or.inl (hw _ (List.mem_of_getElem? (i := 16) rfl))) Via.refl e1 F_arrivals_r0 E_r0 (Or.inr ⟨(hw _ (List.mem_of_getElem? (i := 17) rfl)), rfl, hnm⟩) (hw _ (List.mem_of_getElem? (i := 3) rfl)) (ty := .int) (by decide) rfl rfl (g := (mkF m 6 #[.val (.ref r0), .val (.int p1), .val (.int p2), .val (.double d3), .second, .val (.long q4), .second] [(.int p1), (.ref r0)])) rfl rfl (hb hby d1_6)
  replace E_r0 := E_r0.wr W2
  replace F_blocked_r0 := F_blocked_r0.other W2 (Or.inr (slot_ne (Or.inr (hw _ (List.mem_of_getElem? (i := 19) rfl))) (Or.inr (hw _ (List.mem_of_getElem? (i := 17) rfl))) (by decide) (t := .int) (t' := .int) (by decide) (by decide)))
  replace F_standardError_r0 := F_standardError_r0.other W2 (Or.inr (slot_ne (Or.inr (hw _ (List.mem_of_getElem? (i := 21) rfl))) (Or.inr (hw _ (List.mem_of_getElem? (i := 17) rfl))) (by decide) (t := .double) (t' := .int) (by decide) (by decide)))
  replace F_carriedHops_r0 := F_carriedHops_r0.other W2 (Or.inr (slot_ne (Or.inr (hw _ (List.mem_of_getElem? (i := 23) rfl))) (Or.inr (hw _ (List.mem_of_getElem? (i := 17) rfl))) (by decide) (t := .long) (t' := .int) (by decide) (by decide)))
  replace K0 := K0.wr W2 (Or.inl (List.mem_of_getElem? (i := 0) rfl))
  replace F_arrivals_r0 := F_arrivals_r0.same W2
  have N2 := Fr.snoc X2 N1 g_r0
  have Zs2 : n0 ≤ h2.size := by rw [W2.size]; exact Z0
  obtain ⟨T3, h3, X3, e3, W3, st3⟩ := putF X2 hx hZ hown (host := "") (Or.inl (hw _ (List.mem_of_getElem? (i := 18) rfl))) Via.refl e2 F_blocked_r0 E_r0 (Or.inr ⟨(hw _ (List.mem_of_getElem? (i := 19) rfl)), rfl, hnm⟩) (hw _ (List.mem_of_getElem? (i := 3) rfl)) (ty := .int) (by decide) rfl rfl (g := (mkF m 11 #[.val (.ref r0), .val (.int p1), .val (.int p2), .val (.double d3), .second, .val (.long q4), .second] [(.int p2), (.ref r0)])) rfl rfl (hb hby d1_11)
  replace E_r0 := E_r0.wr W3
  replace F_arrivals_r0 := F_arrivals_r0.other W3 (Or.inr (slot_ne (Or.inr (hw _ (List.mem_of_getElem? (i := 17) rfl))) (Or.inr (hw _ (List.mem_of_getElem? (i := 19) rfl))) (by decide) (t := .int) (t' := .int) (by decide) (by decide)))
  replace F_standardError_r0 := F_standardError_r0.other W3 (Or.inr (slot_ne (Or.inr (hw _ (List.mem_of_getElem? (i := 21) rfl))) (Or.inr (hw _ (List.mem_of_getElem? (i := 19) rfl))) (by decide) (t := .double) (t' := .int) (by decide) (by decide)))
  replace F_carriedHops_r0 := F_carriedHops_r0.other W3 (Or.inr (slot_ne (Or.inr (hw _ (List.mem_of_getElem? (i := 23) rfl))) (Or.inr (hw _ (List.mem_of_getElem? (i := 19) rfl))) (by decide) (t := .long) (t' := .int) (by decide) (by decide)))
  replace K0 := K0.wr W3 (Or.inl (List.mem_of_getElem? (i := 0) rfl))
  replace F_blocked_r0 := F_blocked_r0.same W3
  have N3 := Fr.snoc X3 N2 g_r0
  have Zs3 : n0 ≤ h3.size := by rw [W3.size]; exact Zs2
  obtain ⟨T4, h4, X4, e4, W4, st4⟩ := putF X3 hx hZ hown (host := "") (Or.inl (hw _ (List.mem_of_getElem? (i := 20) rfl))) Via.refl e3 F_standardError_r0 E_r0 (Or.inr ⟨(hw _ (List.mem_of_getElem? (i := 21) rfl)), rfl, hnm⟩) (hw _ (List.mem_of_getElem? (i := 3) rfl)) (ty := .double) (by decide) rfl rfl (g := (mkF m 16 #[.val (.ref r0), .val (.int p1), .val (.int p2), .val (.double d3), .second, .val (.long q4), .second] [(.double d3), (.ref r0)])) rfl rfl (hb hby d1_16)
  replace E_r0 := E_r0.wr W4
  replace F_arrivals_r0 := F_arrivals_r0.other W4 (Or.inr (slot_ne (Or.inr (hw _ (List.mem_of_getElem? (i := 17) rfl))) (Or.inr (hw _ (List.mem_of_getElem? (i := 21) rfl))) (by decide) (t := .int) (t' := .double) (by decide) (by decide)))
  replace F_blocked_r0 := F_blocked_r0.other W4 (Or.inr (slot_ne (Or.inr (hw _ (List.mem_of_getElem? (i := 19) rfl))) (Or.inr (hw _ (List.mem_of_getElem? (i := 21) rfl))) (by decide) (t := .int) (t' := .double) (by decide) (by decide)))
  replace F_carriedHops_r0 := F_carriedHops_r0.other W4 (Or.inr (slot_ne (Or.inr (hw _ (List.mem_of_getElem? (i := 23) rfl))) (Or.inr (hw _ (List.mem_of_getElem? (i := 21) rfl))) (by decide) (t := .long) (t' := .double) (by decide) (by decide)))
  replace K0 := K0.wr W4 (Or.inl (List.mem_of_getElem? (i := 0) rfl))
  replace F_standardError_r0 := F_standardError_r0.same W4
  have N4 := Fr.snoc X4 N3 g_r0
  have Zs4 : n0 ≤ h4.size := by rw [W4.size]; exact Zs3
  obtain ⟨T5, h5, X5, e5, W5, st5⟩ := putF X4 hx hZ hown (host := "") (Or.inl (hw _ (List.mem_of_getElem? (i := 22) rfl))) Via.refl e4 F_carriedHops_r0 E_r0 (Or.inr ⟨(hw _ (List.mem_of_getElem? (i := 23) rfl)), rfl, hnm⟩) (hw _ (List.mem_of_getElem? (i := 3) rfl)) (ty := .long) (by decide) rfl rfl (g := (mkF m 22 #[.val (.ref r0), .val (.int p1), .val (.int p2), .val (.double d3), .second, .val (.long q4), .second] [(.long q4), (.ref r0)])) rfl rfl (hb hby d1_22)
  replace E_r0 := E_r0.wr W5
  replace F_arrivals_r0 := F_arrivals_r0.other W5 (Or.inr (slot_ne (Or.inr (hw _ (List.mem_of_getElem? (i := 17) rfl))) (Or.inr (hw _ (List.mem_of_getElem? (i := 23) rfl))) (by decide) (t := .int) (t' := .long) (by decide) (by decide)))
  replace F_blocked_r0 := F_blocked_r0.other W5 (Or.inr (slot_ne (Or.inr (hw _ (List.mem_of_getElem? (i := 19) rfl))) (Or.inr (hw _ (List.mem_of_getElem? (i := 23) rfl))) (by decide) (t := .int) (t' := .long) (by decide) (by decide)))
  replace F_standardError_r0 := F_standardError_r0.other W5 (Or.inr (slot_ne (Or.inr (hw _ (List.mem_of_getElem? (i := 21) rfl))) (Or.inr (hw _ (List.mem_of_getElem? (i := 23) rfl))) (by decide) (t := .double) (t' := .long) (by decide) (by decide)))
  replace K0 := K0.wr W5 (Or.inl (List.mem_of_getElem? (i := 0) rfl))
  replace F_carriedHops_r0 := F_carriedHops_r0.same W5
  have N5 := Fr.snoc X5 N4 g_r0
  have Zs5 : n0 ≤ h5.size := by rw [W5.size]; exact Zs4
  have k6 : ∀ t, Steps p.tables e below (T5.setTop (mkF m 25 #[.val (.ref r0), .val (.int p1), .val (.int p2), .val (.double d3), .second, .val (.long q4), .second] [])) t → Steps p.tables e below (s₁.setTop (entryFrame m #[(.ref r0), (.int p1), (.int p2), (.double d3), (.long q4)] 7)) t := by
    intro t k
    refine pre0 _ ?_
    show Steps p.tables e below (s₁.setTop (mkF m 0 #[.val (.ref r0), .val (.int p1), .val (.int p2), .val (.double d3), .second, .val (.long q4), .second] [])) _
    refine XS.aloadN X0.here hx rfl (hb hby d1_0) rfl rfl ?_
    show Steps p.tables e below (s₁.setTop (mkF m 1 #[.val (.ref r0), .val (.int p1), .val (.int p2), .val (.double d3), .second, .val (.long q4), .second] [(.ref r0)])) _
    refine st1.trans ?_
    show Steps p.tables e below (T1.setTop (mkF m 4 #[.val (.ref r0), .val (.int p1), .val (.int p2), .val (.double d3), .second, .val (.long q4), .second] [])) _
    refine XS.aloadN X1.here hx rfl (hb hby d1_4) rfl rfl ?_
    show Steps p.tables e below (T1.setTop (mkF m 5 #[.val (.ref r0), .val (.int p1), .val (.int p2), .val (.double d3), .second, .val (.long q4), .second] [(.ref r0)])) _
    refine XS.iloadN X1.here hx rfl (hb hby d1_5) rfl ?_
    show Steps p.tables e below (T1.setTop (mkF m 6 #[.val (.ref r0), .val (.int p1), .val (.int p2), .val (.double d3), .second, .val (.long q4), .second] [(.int p1), (.ref r0)])) _
    refine st2 _ ?_
    show Steps p.tables e below (T2.setTop (mkF m 9 #[.val (.ref r0), .val (.int p1), .val (.int p2), .val (.double d3), .second, .val (.long q4), .second] [])) _
    refine XS.aloadN X2.here hx rfl (hb hby d1_9) rfl rfl ?_
    show Steps p.tables e below (T2.setTop (mkF m 10 #[.val (.ref r0), .val (.int p1), .val (.int p2), .val (.double d3), .second, .val (.long q4), .second] [(.ref r0)])) _
    refine XS.iloadN X2.here hx rfl (hb hby d1_10) rfl ?_
    show Steps p.tables e below (T2.setTop (mkF m 11 #[.val (.ref r0), .val (.int p1), .val (.int p2), .val (.double d3), .second, .val (.long q4), .second] [(.int p2), (.ref r0)])) _
    refine st3 _ ?_
    show Steps p.tables e below (T3.setTop (mkF m 14 #[.val (.ref r0), .val (.int p1), .val (.int p2), .val (.double d3), .second, .val (.long q4), .second] [])) _
    refine XS.aloadN X3.here hx rfl (hb hby d1_14) rfl rfl ?_
    show Steps p.tables e below (T3.setTop (mkF m 15 #[.val (.ref r0), .val (.int p1), .val (.int p2), .val (.double d3), .second, .val (.long q4), .second] [(.ref r0)])) _
    refine XS.dloadN X3.here hx rfl (hb hby d1_15) rfl ?_
    show Steps p.tables e below (T3.setTop (mkF m 16 #[.val (.ref r0), .val (.int p1), .val (.int p2), .val (.double d3), .second, .val (.long q4), .second] [(.double d3), (.ref r0)])) _
    refine st4 _ ?_
    show Steps p.tables e below (T4.setTop (mkF m 19 #[.val (.ref r0), .val (.int p1), .val (.int p2), .val (.double d3), .second, .val (.long q4), .second] [])) _
    refine XS.aloadN X4.here hx rfl (hb hby d1_19) rfl rfl ?_
    show Steps p.tables e below (T4.setTop (mkF m 20 #[.val (.ref r0), .val (.int p1), .val (.int p2), .val (.double d3), .second, .val (.long q4), .second] [(.ref r0)])) _
    refine XS.lload X4.here hx rfl (hb hby d1_20) rfl ?_
    show Steps p.tables e below (T4.setTop (mkF m 22 #[.val (.ref r0), .val (.int p1), .val (.int p2), .val (.double d3), .second, .val (.long q4), .second] [(.long q4), (.ref r0)])) _
    refine st5 _ ?_
    exact k
  obtain ⟨fs, hr, hrun, hended, hW, hsame⟩ := X5.leave (v := none) (fun _ => rfl)
  refine ⟨_, _, k6 _ ?_, hrun, hended, _, _, rfl, ?_, ⟨_, rfl⟩, hW, hsame.mono (by decide) (by decide)⟩
  · exact X5.returnOut hx Bd.returns (hb hby d1_25) hr
  · show own_C1 Z r0 p1 p2 d3 q4 h0 n0 _ T5.heap _
    rw [e5]
    exact ⟨rfl, N5, K0, E_r0, F_arrivals_r0, F_blocked_r0⟩
theorem ef_rm4 (m : MethodId) (x0 : Addr) : entryFrame m #[(.ref x0)] 1 = mkF m 0 #[.val (.ref x0)] [] := by first | (simp [entryFrame, mkF, argsToLocals, Value.category]; done) | rfl
theorem d4_0 : decode prog_49_method_3_code 0 = .ok (.aload_n 0, 1) := by decide +kernel
theorem d4_1 : decode prog_49_method_3_code 1 = .ok (.getfield 13, 3) := by decide +kernel
theorem d4_4 : decode prog_49_method_3_code 4 = .ok (.i2d, 1) := by decide +kernel
theorem d4_5 : decode prog_49_method_3_code 5 = .ok (.aload_n 0, 1) := by decide +kernel
theorem d4_6 : decode prog_49_method_3_code 6 = .ok (.getfield 7, 3) := by decide +kernel
theorem d4_9 : decode prog_49_method_3_code 9 = .ok (.i2d, 1) := by decide +kernel
theorem d4_10 : decode prog_49_method_3_code 10 = .ok (.ddiv, 1) := by decide +kernel
theorem d4_11 : decode prog_49_method_3_code 11 = .ok (.dreturn, 1) := by decide +kernel
def own_bp (fa fb : Int32) : UInt64 := (FP.ddiv (FP.i2d fb) (FP.i2d fa))
set_option maxRecDepth 65536 in
set_option maxHeartbeats 40000000 in
theorem rm4 (l : Launch) (Z : State) (a0 : Array Value) (hw : ∀ d ∈ tables_1, d.before a0 Z = true) (ws : List Jvm.Cond) (r0 : Addr) (fa fb : Int32) (h0 : Heap) (n0 : Nat) (Farrivals : Fld Z h0 r0 "com/example/lightloom/lightloom/plan/Simulation$Result" "arrivals" "I" (.int fa)) (Fblocked : Fld Z h0 r0 "com/example/lightloom/lightloom/plan/Simulation$Result" "blocked" "I" (.int fb)) (hnn : Jvm.Free.Fl.NoNaN64 (FP.ddiv (FP.i2d fb) (FP.i2d fa))) :
    MetFree l (⟨"com/example/lightloom/lightloom/plan/Simulation$Result", "blockingProbability", "()D"⟩ : MethodName) (head1 (Jvm.Cond.code (⟨"com/example/lightloom/lightloom/plan/Simulation$Result", "blockingProbability", "()D"⟩ : MethodName) prog_49_method_3_code 1 (some .double) :: ws) ({ frames := 0, cells := 0, slots := 0, locals := 0 } : Room)) (fun a U => a = #[(.ref r0)] ∧ Z.Warmed39 U.vm ∧ U.heap = h0) (fun _ _ _ _ _ => True) (fun _ U o U' => ∃ v L, o = .returned v ∧ own_Q (some (.double (own_bp fa fb))) h0 n0 v U'.heap L ∧ FrameEnd U o U' L ({ frames := 0, cells := 0, slots := 0, locals := 0 } : Room).cells ({ frames := 0, cells := 0, slots := 0, locals := 0 } : Room).slots) := by
  refine MetFree.of_bodySF (plainFor_of_name pn_1) hisR ?_
  intro p e s m args below meth c s₁ Bd hml0 hP hK
  obtain ⟨rfl, hZ, hh⟩ := hP
  have hx := Bd.exec
  have hby := Bd.bytes
  have hml : c.maxLocals = 1 := hml0
  have hown : s.vm.findClass "com/example/lightloom/lightloom/plan/Simulation$Result" = some m.cls := findClass_of_methodNamed Bd.named
  have hnm := (name_of_methodNamed Bd.named Bd.method).1
  have X0 : Stand p l e ({ frames := 0, cells := 0, slots := 0, locals := 0 } : Room) s m #[(.ref r0)] below meth c s₁ [] 0 0 := Stand.of_body Bd
  have e0 : s₁.heap = h0 := by rw [← hh, Bd.state]; rfl
  have N0 := Fr.nil n0
  have pre0 : ∀ t, Steps p.tables e below (s₁.setTop (mkF m 0 #[.val (.ref r0)] [])) t → Steps p.tables e below (s₁.setTop (entryFrame m #[(.ref r0)] 1)) t := fun t k => castTop (ef_rm4 m r0) k
  obtain ⟨T1, X1, e1, st1⟩ := getF X0 hx hZ hown (host := "") (Or.inl (hw _ (List.mem_of_getElem? (i := 18) rfl))) Via.refl e0 Fblocked (g := (mkF m 1 #[.val (.ref r0)] [(.ref r0)])) rfl rfl (hb hby d4_1)
  obtain ⟨T2, X2, e2, st2⟩ := getF X1 hx hZ hown (host := "") (Or.inl (hw _ (List.mem_of_getElem? (i := 16) rfl))) Via.refl e1 Farrivals (g := (mkF m 6 #[.val (.ref r0)] [(.ref r0), (.double (FP.i2d fb))])) rfl rfl (hb hby d4_6)
  have k3 : ∀ t, Steps p.tables e below (T2.setTop (mkF m 11 #[.val (.ref r0)] [(.double (FP.ddiv (FP.i2d fb) (FP.i2d fa)))])) t → Steps p.tables e below (s₁.setTop (entryFrame m #[(.ref r0)] 1)) t := by
    intro t k
    refine pre0 _ ?_
    show Steps p.tables e below (s₁.setTop (mkF m 0 #[.val (.ref r0)] [])) _
    refine XS.aloadN X0.here hx rfl (hb hby d4_0) rfl rfl ?_
    show Steps p.tables e below (s₁.setTop (mkF m 1 #[.val (.ref r0)] [(.ref r0)])) _
    refine st1 _ ?_
    show Steps p.tables e below (T1.setTop (mkF m 4 #[.val (.ref r0)] [(.int fb)])) _
    refine XS.i2dS X1.here hx rfl (hb hby d4_4) rfl rfl ?_
    show Steps p.tables e below (T1.setTop (mkF m 5 #[.val (.ref r0)] [(.double (FP.i2d fb))])) _
    refine XS.aloadN X1.here hx rfl (hb hby d4_5) rfl rfl ?_
    show Steps p.tables e below (T1.setTop (mkF m 6 #[.val (.ref r0)] [(.ref r0), (.double (FP.i2d fb))])) _
    refine st2 _ ?_
    show Steps p.tables e below (T2.setTop (mkF m 9 #[.val (.ref r0)] [(.int fa), (.double (FP.i2d fb))])) _
    refine XS.i2dS X2.here hx rfl (hb hby d4_9) rfl rfl ?_
    show Steps p.tables e below (T2.setTop (mkF m 10 #[.val (.ref r0)] [(.double (FP.i2d fa)), (.double (FP.i2d fb))])) _
    refine XS.ddivS X2.here hx rfl (hb hby d4_10) rfl hnn rfl ?_
    exact k
  obtain ⟨fs, hr, hrun, hended, hW, hsame⟩ := X2.leave (v := some (.double (FP.ddiv (FP.i2d fb) (FP.i2d fa)))) (fun h => by rw [Bd.returns] at h; cases h)
  refine ⟨_, _, k3 _ ?_, hrun, hended, _, _, rfl, ?_, ⟨_, rfl⟩, hW, hsame.mono (by decide) (by decide)⟩
  · exact retOut X2 hx Bd.returns rfl (Or.inr (Or.inr (Or.inl ⟨rfl, rfl, _, rfl⟩))) (hb hby d4_11) hr
  · show own_Q (some (.double (own_bp fa fb))) h0 n0 _ T2.heap _
    rw [e2]
    exact ⟨rfl, N0, rfl⟩
theorem pn_2 : plainName "com/example/lightloom/lightloom/plan/ResultBlockingProbabilityPinLaw" = true := by first | (simp [plainName, overriddenIn]; done) | decide +kernel
theorem ef_rm5 (m : MethodId) (x0 : UInt64) (x1 : Int32) (x2 : Int32) : entryFrame m #[(.double x0), (.int x1), (.int x2)] 8 = mkF m 0 #[.val (.double x0), .second, .val (.int x1), .val (.int x2), .unset, .unset, .unset, .unset] [] := by first | (simp [entryFrame, mkF, argsToLocals, Value.category]; done) | rfl
theorem d5_0 : decode method_3_code 0 = .ok (.dconst 0, 1) := by decide +kernel
theorem d5_1 : decode method_3_code 1 = .ok (.dload_n 0, 1) := by decide +kernel
theorem d5_2 : decode method_3_code 2 = .ok (.dcmp .g, 1) := by decide +kernel
theorem d5_3 : decode method_3_code 3 = .ok (.ifCond .gt 9, 3) := by decide +kernel
theorem d5_12 : decode method_3_code 12 = .ok (.iconst 0, 1) := by decide +kernel
theorem d5_13 : decode method_3_code 13 = .ok (.ireturn, 1) := by decide +kernel
theorem d5_6 : decode method_3_code 6 = .ok (.dload_n 0, 1) := by decide +kernel
theorem d5_7 : decode method_3_code 7 = .ok (.dconst 1, 1) := by decide +kernel
theorem d5_8 : decode method_3_code 8 = .ok (.dcmp .g, 1) := by decide +kernel
theorem d5_9 : decode method_3_code 9 = .ok (.ifCond .le 5, 3) := by decide +kernel
theorem d5_14 : decode method_3_code 14 = .ok (.dload_n 0, 1) := by decide +kernel
theorem d5_15 : decode method_3_code 15 = .ok (.dconst 0, 1) := by decide +kernel
theorem d5_16 : decode method_3_code 16 = .ok (.dcmp .l, 1) := by decide +kernel
theorem d5_17 : decode method_3_code 17 = .ok (.ifCond .ne 7, 3) := by decide +kernel
theorem d5_20 : decode method_3_code 20 = .ok (.iconst 1, 1) := by decide +kernel
theorem d5_21 : decode method_3_code 21 = .ok (.goto 4, 3) := by decide +kernel
theorem d5_24 : decode method_3_code 24 = .ok (.iconst 0, 1) := by decide +kernel
theorem d5_25 : decode method_3_code 25 = .ok (.iload_n 3, 1) := by decide +kernel
theorem d5_26 : decode method_3_code 26 = .ok (.ifCond .ne 7, 3) := by decide +kernel
theorem d5_29 : decode method_3_code 29 = .ok (.iconst 1, 1) := by decide +kernel
theorem d5_30 : decode method_3_code 30 = .ok (.goto 4, 3) := by decide +kernel
theorem d5_33 : decode method_3_code 33 = .ok (.iconst 0, 1) := by decide +kernel
theorem d5_34 : decode method_3_code 34 = .ok (.if_icmp .eq 5, 3) := by decide +kernel
theorem d5_39 : decode method_3_code 39 = .ok (.dload_n 0, 1) := by decide +kernel
theorem d5_40 : decode method_3_code 40 = .ok (.dconst 1, 1) := by decide +kernel
theorem d5_41 : decode method_3_code 41 = .ok (.dcmp .l, 1) := by decide +kernel
theorem d5_42 : decode method_3_code 42 = .ok (.ifCond .ne 7, 3) := by decide +kernel
theorem d5_45 : decode method_3_code 45 = .ok (.iconst 1, 1) := by decide +kernel
theorem d5_46 : decode method_3_code 46 = .ok (.goto 4, 3) := by decide +kernel
theorem d5_49 : decode method_3_code 49 = .ok (.iconst 0, 1) := by decide +kernel
theorem d5_50 : decode method_3_code 50 = .ok (.iload_n 3, 1) := by decide +kernel
theorem d5_51 : decode method_3_code 51 = .ok (.iload_n 2, 1) := by decide +kernel
theorem d5_52 : decode method_3_code 52 = .ok (.if_icmp .ne 7, 3) := by decide +kernel
theorem d5_55 : decode method_3_code 55 = .ok (.iconst 1, 1) := by decide +kernel
theorem d5_56 : decode method_3_code 56 = .ok (.goto 4, 3) := by decide +kernel
theorem d5_59 : decode method_3_code 59 = .ok (.iconst 0, 1) := by decide +kernel
theorem d5_60 : decode method_3_code 60 = .ok (.if_icmp .eq 5, 3) := by decide +kernel
theorem d5_65 : decode method_3_code 65 = .ok (.ldc2_w 28, 3) := by decide +kernel
theorem d5_68 : decode method_3_code 68 = .ok (.dstore 4, 2) := by decide +kernel
theorem d5_70 : decode method_3_code 70 = .ok (.dload_n 0, 1) := by decide +kernel
theorem d5_71 : decode method_3_code 71 = .ok (.iload_n 2, 1) := by decide +kernel
theorem d5_72 : decode method_3_code 72 = .ok (.i2d, 1) := by decide +kernel
theorem d5_73 : decode method_3_code 73 = .ok (.dmul, 1) := by decide +kernel
theorem d5_74 : decode method_3_code 74 = .ok (.iload_n 3, 1) := by decide +kernel
theorem d5_75 : decode method_3_code 75 = .ok (.i2d, 1) := by decide +kernel
theorem d5_76 : decode method_3_code 76 = .ok (.dsub, 1) := by decide +kernel
theorem d5_77 : decode method_3_code 77 = .ok (.dstore 6, 2) := by decide +kernel
theorem d5_79 : decode method_3_code 79 = .ok (.dload 4, 2) := by decide +kernel
theorem d5_81 : decode method_3_code 81 = .ok (.dneg, 1) := by decide +kernel
theorem d5_82 : decode method_3_code 82 = .ok (.dload 6, 2) := by decide +kernel
theorem d5_84 : decode method_3_code 84 = .ok (.dcmp .g, 1) := by decide +kernel
theorem d5_85 : decode method_3_code 85 = .ok (.ifCond .ge 15, 3) := by decide +kernel
theorem d5_88 : decode method_3_code 88 = .ok (.dload 6, 2) := by decide +kernel
theorem d5_90 : decode method_3_code 90 = .ok (.dload 4, 2) := by decide +kernel
theorem d5_92 : decode method_3_code 92 = .ok (.dcmp .g, 1) := by decide +kernel
theorem d5_93 : decode method_3_code 93 = .ok (.ifCond .ge 7, 3) := by decide +kernel
theorem d5_96 : decode method_3_code 96 = .ok (.iconst 1, 1) := by decide +kernel
theorem d5_97 : decode method_3_code 97 = .ok (.goto 4, 3) := by decide +kernel
theorem d5_101 : decode method_3_code 101 = .ok (.ireturn, 1) := by decide +kernel
theorem d5_100 : decode method_3_code 100 = .ok (.iconst 0, 1) := by decide +kernel
theorem d5_63 : decode method_3_code 63 = .ok (.iconst 0, 1) := by decide +kernel
theorem d5_64 : decode method_3_code 64 = .ok (.ireturn, 1) := by decide +kernel
theorem d5_37 : decode method_3_code 37 = .ok (.iconst 0, 1) := by decide +kernel
theorem d5_38 : decode method_3_code 38 = .ok (.ireturn, 1) := by decide +kernel
def own_f5 (d0 : UInt64) (p1 : Int32) (p2 : Int32) : Int32 := (if (0 : Int32) < (cmpValue (FP.dcmp FP.dconst0 d0) .g) then (0 : Int32) else (if (0 : Int32) < (cmpValue (FP.dcmp d0 FP.dconst1) .g) then (0 : Int32) else (if (if (cmpValue (FP.dcmp d0 FP.dconst0) .l) = (0 : Int32) then (1 : Int32) else (0 : Int32)) = (if p2 = (0 : Int32) then (1 : Int32) else (0 : Int32)) then (if (if (cmpValue (FP.dcmp d0 FP.dconst1) .l) = (0 : Int32) then (1 : Int32) else (0 : Int32)) = (if p2 = p1 then (1 : Int32) else (0 : Int32)) then (if (cmpValue (FP.dcmp (FP.dneg (4463067230724161536 : UInt64)) (FP.dsub (FP.dmul d0 (FP.i2d p1)) (FP.i2d p2))) .g) < (0 : Int32) then (if (cmpValue (FP.dcmp (FP.dsub (FP.dmul d0 (FP.i2d p1)) (FP.i2d p2)) (4463067230724161536 : UInt64)) .g) < (0 : Int32) then (1 : Int32) else (0 : Int32)) else (0 : Int32)) else (0 : Int32)) else (0 : Int32))))
set_option maxRecDepth 65536 in
set_option maxHeartbeats 40000000 in
theorem rm5 (l : Launch) (Z : State) (a0 : Array Value) (hw : ∀ d ∈ tables_1, d.before a0 Z = true) (ws : List Jvm.Cond) (d0 : UInt64) (p1 : Int32) (p2 : Int32) (h0 : Heap) (n0 : Nat) (hm : Jvm.Free.Fl.NoNaN64 (FP.dmul d0 (FP.i2d p1))) (hs : Jvm.Free.Fl.NoNaN64 (FP.dsub (FP.dmul d0 (FP.i2d p1)) (FP.i2d p2))) :
    MetFree l (⟨"com/example/lightloom/lightloom/plan/ResultBlockingProbabilityPinLaw", "fits", "(DII)Z"⟩ : MethodName) (head1 (Jvm.Cond.code (⟨"com/example/lightloom/lightloom/plan/ResultBlockingProbabilityPinLaw", "fits", "(DII)Z"⟩ : MethodName) method_3_code 8 (some .boolean) :: ws) ({ frames := 0, cells := 0, slots := 0, locals := 0 } : Room)) (fun a U => a = #[(.double d0), (.int p1), (.int p2)] ∧ Z.Warmed39 U.vm ∧ U.heap = h0) (fun _ _ _ _ _ => True) (fun _ U o U' => ∃ v L, o = .returned v ∧ own_Q (some (.int (own_f5 d0 p1 p2))) h0 n0 v U'.heap L ∧ FrameEnd U o U' L ({ frames := 0, cells := 0, slots := 0, locals := 0 } : Room).cells ({ frames := 0, cells := 0, slots := 0, locals := 0 } : Room).slots) := by
  refine MetFree.of_bodySF (plainFor_of_name pn_2) hisR ?_
  intro p e s m args below meth c s₁ Bd hml0 hP hK
  obtain ⟨rfl, hZ, hh⟩ := hP
  have hx := Bd.exec
  have hby := Bd.bytes
  have hml : c.maxLocals = 8 := hml0
  have hown : s.vm.findClass "com/example/lightloom/lightloom/plan/ResultBlockingProbabilityPinLaw" = some m.cls := findClass_of_methodNamed Bd.named
  have hnm := (name_of_methodNamed Bd.named Bd.method).1
  have X0 : Stand p l e ({ frames := 0, cells := 0, slots := 0, locals := 0 } : Room) s m #[(.double d0), (.int p1), (.int p2)] below meth c s₁ [] 0 0 := Stand.of_body Bd
  have e0 : s₁.heap = h0 := by rw [← hh, Bd.state]; rfl
  have N0 := Fr.nil n0
  have pre0 : ∀ t, Steps p.tables e below (s₁.setTop (mkF m 0 #[.val (.double d0), .second, .val (.int p1), .val (.int p2), .unset, .unset, .unset, .unset] [])) t → Steps p.tables e below (s₁.setTop (entryFrame m #[(.double d0), (.int p1), (.int p2)] 8)) t := fun t k => castTop (ef_rm5 m d0 p1 p2) k
  have k1 : ∀ t, Steps p.tables e below (s₁.setTop (mkF m 3 #[.val (.double d0), .second, .val (.int p1), .val (.int p2), .unset, .unset, .unset, .unset] [(.int (cmpValue (FP.dcmp FP.dconst0 d0) .g))])) t → Steps p.tables e below (s₁.setTop (entryFrame m #[(.double d0), (.int p1), (.int p2)] 8)) t := by
    intro t k
    refine pre0 _ ?_
    show Steps p.tables e below (s₁.setTop (mkF m 0 #[.val (.double d0), .second, .val (.int p1), .val (.int p2), .unset, .unset, .unset, .unset] [])) _
    refine XS.dconst0 X0.here hx rfl (hb hby d5_0) rfl ?_
    show Steps p.tables e below (s₁.setTop (mkF m 1 #[.val (.double d0), .second, .val (.int p1), .val (.int p2), .unset, .unset, .unset, .unset] [(.double FP.dconst0)])) _
    refine XS.dloadN X0.here hx rfl (hb hby d5_1) rfl ?_
    show Steps p.tables e below (s₁.setTop (mkF m 2 #[.val (.double d0), .second, .val (.int p1), .val (.int p2), .unset, .unset, .unset, .unset] [(.double d0), (.double FP.dconst0)])) _
    refine XS.dcmpS X0.here hx rfl (hb hby d5_2) rfl rfl ?_
    exact k
  by_cases hc3_1 : (0 : Int32) < (cmpValue (FP.dcmp FP.dconst0 d0) .g)
  · have k2 : ∀ t, Steps p.tables e below (s₁.setTop (mkF m 13 #[.val (.double d0), .second, .val (.int p1), .val (.int p2), .unset, .unset, .unset, .unset] [(.int (0 : Int32))])) t → Steps p.tables e below (s₁.setTop (entryFrame m #[(.double d0), (.int p1), (.int p2)] 8)) t := by
      intro t k
      refine k1 _ ?_
      show Steps p.tables e below (s₁.setTop (mkF m 3 #[.val (.double d0), .second, .val (.int p1), .val (.int p2), .unset, .unset, .unset, .unset] [(.int (cmpValue (FP.dcmp FP.dconst0 d0) .g))])) _
      refine XS.ifYes X0.here hx rfl (pc0 := 3) (pc' := 12) rfl (hb hby d5_3) rfl ((if0 _ _).trans (tlt hc3_1).2.2.1) (by decide) (by decide) ?_
      show Steps p.tables e below (s₁.setTop (mkF m 12 #[.val (.double d0), .second, .val (.int p1), .val (.int p2), .unset, .unset, .unset, .unset] [])) _
      refine XS.iconst X0.here hx rfl (hb hby d5_12) ?_
      exact k
    obtain ⟨fs, hr, hrun, hended, hW, hsame⟩ := X0.leave (v := some (.int (0 : Int32))) (fun h => by rw [Bd.returns] at h; cases h)
    refine ⟨_, _, k2 _ ?_, hrun, hended, _, _, rfl, ?_, ⟨_, rfl⟩, hW, hsame.mono (by decide) (by decide)⟩
    · exact retN X0 hx (t := .boolean) Bd.returns (by simp) (hb hby d5_13) hr
    · show own_Q (some (.int (own_f5 d0 p1 p2))) h0 n0 _ s₁.heap _
      rw [e0]
      exact ⟨by simp only [own_f5, if_pos hc3_1], N0, rfl⟩
  · have k3 : ∀ t, Steps p.tables e below (s₁.setTop (mkF m 9 #[.val (.double d0), .second, .val (.int p1), .val (.int p2), .unset, .unset, .unset, .unset] [(.int (cmpValue (FP.dcmp d0 FP.dconst1) .g))])) t → Steps p.tables e below (s₁.setTop (entryFrame m #[(.double d0), (.int p1), (.int p2)] 8)) t := by
      intro t k
      refine k1 _ ?_
      show Steps p.tables e below (s₁.setTop (mkF m 3 #[.val (.double d0), .second, .val (.int p1), .val (.int p2), .unset, .unset, .unset, .unset] [(.int (cmpValue (FP.dcmp FP.dconst0 d0) .g))])) _
      refine XS.ifNo X0.here hx rfl (hb hby d5_3) rfl ((if0 _ _).trans (flt hc3_1).2.2.1) ?_
      show Steps p.tables e below (s₁.setTop (mkF m 6 #[.val (.double d0), .second, .val (.int p1), .val (.int p2), .unset, .unset, .unset, .unset] [])) _
      refine XS.dloadN X0.here hx rfl (hb hby d5_6) rfl ?_
      show Steps p.tables e below (s₁.setTop (mkF m 7 #[.val (.double d0), .second, .val (.int p1), .val (.int p2), .unset, .unset, .unset, .unset] [(.double d0)])) _
      refine XS.dconst1 X0.here hx rfl (hb hby d5_7) rfl ?_
      show Steps p.tables e below (s₁.setTop (mkF m 8 #[.val (.double d0), .second, .val (.int p1), .val (.int p2), .unset, .unset, .unset, .unset] [(.double FP.dconst1), (.double d0)])) _
      refine XS.dcmpS X0.here hx rfl (hb hby d5_8) rfl rfl ?_
      exact k
    by_cases hc9_2 : (0 : Int32) < (cmpValue (FP.dcmp d0 FP.dconst1) .g)
    · have k4 : ∀ t, Steps p.tables e below (s₁.setTop (mkF m 13 #[.val (.double d0), .second, .val (.int p1), .val (.int p2), .unset, .unset, .unset, .unset] [(.int (0 : Int32))])) t → Steps p.tables e below (s₁.setTop (entryFrame m #[(.double d0), (.int p1), (.int p2)] 8)) t := by
        intro t k
        refine k3 _ ?_
        show Steps p.tables e below (s₁.setTop (mkF m 9 #[.val (.double d0), .second, .val (.int p1), .val (.int p2), .unset, .unset, .unset, .unset] [(.int (cmpValue (FP.dcmp d0 FP.dconst1) .g))])) _
        refine XS.ifNo X0.here hx rfl (hb hby d5_9) rfl ((if0 _ _).trans (tlt hc9_2).2.2.2) ?_
        show Steps p.tables e below (s₁.setTop (mkF m 12 #[.val (.double d0), .second, .val (.int p1), .val (.int p2), .unset, .unset, .unset, .unset] [])) _
        refine XS.iconst X0.here hx rfl (hb hby d5_12) ?_
        exact k
      obtain ⟨fs, hr, hrun, hended, hW, hsame⟩ := X0.leave (v := some (.int (0 : Int32))) (fun h => by rw [Bd.returns] at h; cases h)
      refine ⟨_, _, k4 _ ?_, hrun, hended, _, _, rfl, ?_, ⟨_, rfl⟩, hW, hsame.mono (by decide) (by decide)⟩
      · exact retN X0 hx (t := .boolean) Bd.returns (by simp) (hb hby d5_13) hr
      · show own_Q (some (.int (own_f5 d0 p1 p2))) h0 n0 _ s₁.heap _
        rw [e0]
        exact ⟨by simp only [own_f5, if_neg hc3_1, if_pos hc9_2], N0, rfl⟩
    · have k5 : ∀ t, Steps p.tables e below (s₁.setTop (mkF m 25 #[.val (.double d0), .second, .val (.int p1), .val (.int p2), .unset, .unset, .unset, .unset] [(.int (if (cmpValue (FP.dcmp d0 FP.dconst0) .l) = (0 : Int32) then (1 : Int32) else (0 : Int32)))])) t → Steps p.tables e below (s₁.setTop (entryFrame m #[(.double d0), (.int p1), (.int p2)] 8)) t := by
        intro t k
        refine k3 _ ?_
        show Steps p.tables e below (s₁.setTop (mkF m 9 #[.val (.double d0), .second, .val (.int p1), .val (.int p2), .unset, .unset, .unset, .unset] [(.int (cmpValue (FP.dcmp d0 FP.dconst1) .g))])) _
        refine XS.ifYes X0.here hx rfl (pc0 := 9) (pc' := 14) rfl (hb hby d5_9) rfl ((if0 _ _).trans (flt hc9_2).2.2.2) (by decide) (by decide) ?_
        show Steps p.tables e below (s₁.setTop (mkF m 14 #[.val (.double d0), .second, .val (.int p1), .val (.int p2), .unset, .unset, .unset, .unset] [])) _
        refine XS.dloadN X0.here hx rfl (hb hby d5_14) rfl ?_
        show Steps p.tables e below (s₁.setTop (mkF m 15 #[.val (.double d0), .second, .val (.int p1), .val (.int p2), .unset, .unset, .unset, .unset] [(.double d0)])) _
        refine XS.dconst0 X0.here hx rfl (hb hby d5_15) rfl ?_
        show Steps p.tables e below (s₁.setTop (mkF m 16 #[.val (.double d0), .second, .val (.int p1), .val (.int p2), .unset, .unset, .unset, .unset] [(.double FP.dconst0), (.double d0)])) _
        refine XS.dcmpS X0.here hx rfl (hb hby d5_16) rfl rfl ?_
        show Steps p.tables e below (s₁.setTop (mkF m 17 #[.val (.double d0), .second, .val (.int p1), .val (.int p2), .unset, .unset, .unset, .unset] [(.int (cmpValue (FP.dcmp d0 FP.dconst0) .l))])) _
        by_cases hc17_3 : (cmpValue (FP.dcmp d0 FP.dconst0) .l) = (0 : Int32)
        · refine XS.ifNo X0.here hx rfl (hb hby d5_17) rfl ((if0 _ _).trans (teq hc17_3).2) ?_
          show Steps p.tables e below (s₁.setTop (mkF m 20 #[.val (.double d0), .second, .val (.int p1), .val (.int p2), .unset, .unset, .unset, .unset] [])) _
          refine XS.iconst X0.here hx rfl (hb hby d5_20) ?_
          show Steps p.tables e below (s₁.setTop (mkF m 21 #[.val (.double d0), .second, .val (.int p1), .val (.int p2), .unset, .unset, .unset, .unset] [(.int (1 : Int32))])) _
          refine XS.goto X0.here hx rfl (pc0 := 21) (pc' := 25) rfl (hb hby d5_21) (by decide) (by decide) ?_
          try simp only [if_pos hc17_3] at k
          exact k
        · refine XS.ifYes X0.here hx rfl (pc0 := 17) (pc' := 24) rfl (hb hby d5_17) rfl ((if0 _ _).trans (feq hc17_3).2) (by decide) (by decide) ?_
          show Steps p.tables e below (s₁.setTop (mkF m 24 #[.val (.double d0), .second, .val (.int p1), .val (.int p2), .unset, .unset, .unset, .unset] [])) _
          refine XS.iconst X0.here hx rfl (hb hby d5_24) ?_
          try simp only [if_neg hc17_3] at k
          exact k
      have k6 : ∀ t, Steps p.tables e below (s₁.setTop (mkF m 34 #[.val (.double d0), .second, .val (.int p1), .val (.int p2), .unset, .unset, .unset, .unset] [(.int (if p2 = (0 : Int32) then (1 : Int32) else (0 : Int32))), (.int (if (cmpValue (FP.dcmp d0 FP.dconst0) .l) = (0 : Int32) then (1 : Int32) else (0 : Int32)))])) t → Steps p.tables e below (s₁.setTop (entryFrame m #[(.double d0), (.int p1), (.int p2)] 8)) t := by
        intro t k
        refine k5 _ ?_
        show Steps p.tables e below (s₁.setTop (mkF m 25 #[.val (.double d0), .second, .val (.int p1), .val (.int p2), .unset, .unset, .unset, .unset] [(.int (if (cmpValue (FP.dcmp d0 FP.dconst0) .l) = (0 : Int32) then (1 : Int32) else (0 : Int32)))])) _
        refine XS.iloadN X0.here hx rfl (hb hby d5_25) rfl ?_
        show Steps p.tables e below (s₁.setTop (mkF m 26 #[.val (.double d0), .second, .val (.int p1), .val (.int p2), .unset, .unset, .unset, .unset] [(.int p2), (.int (if (cmpValue (FP.dcmp d0 FP.dconst0) .l) = (0 : Int32) then (1 : Int32) else (0 : Int32)))])) _
        by_cases hc26_4 : p2 = (0 : Int32)
        · refine XS.ifNo X0.here hx rfl (hb hby d5_26) rfl ((if0 _ _).trans (teq hc26_4).2) ?_
          show Steps p.tables e below (s₁.setTop (mkF m 29 #[.val (.double d0), .second, .val (.int p1), .val (.int p2), .unset, .unset, .unset, .unset] [(.int (if (cmpValue (FP.dcmp d0 FP.dconst0) .l) = (0 : Int32) then (1 : Int32) else (0 : Int32)))])) _
          refine XS.iconst X0.here hx rfl (hb hby d5_29) ?_
          show Steps p.tables e below (s₁.setTop (mkF m 30 #[.val (.double d0), .second, .val (.int p1), .val (.int p2), .unset, .unset, .unset, .unset] [(.int (1 : Int32)), (.int (if (cmpValue (FP.dcmp d0 FP.dconst0) .l) = (0 : Int32) then (1 : Int32) else (0 : Int32)))])) _
          refine XS.goto X0.here hx rfl (pc0 := 30) (pc' := 34) rfl (hb hby d5_30) (by decide) (by decide) ?_
          try simp only [if_pos hc26_4] at k
          exact k
        · refine XS.ifYes X0.here hx rfl (pc0 := 26) (pc' := 33) rfl (hb hby d5_26) rfl ((if0 _ _).trans (feq hc26_4).2) (by decide) (by decide) ?_
          show Steps p.tables e below (s₁.setTop (mkF m 33 #[.val (.double d0), .second, .val (.int p1), .val (.int p2), .unset, .unset, .unset, .unset] [(.int (if (cmpValue (FP.dcmp d0 FP.dconst0) .l) = (0 : Int32) then (1 : Int32) else (0 : Int32)))])) _
          refine XS.iconst X0.here hx rfl (hb hby d5_33) ?_
          try simp only [if_neg hc26_4] at k
          exact k
      by_cases hc34_5 : (if (cmpValue (FP.dcmp d0 FP.dconst0) .l) = (0 : Int32) then (1 : Int32) else (0 : Int32)) = (if p2 = (0 : Int32) then (1 : Int32) else (0 : Int32))
      · have k7 : ∀ t, Steps p.tables e below (s₁.setTop (mkF m 50 #[.val (.double d0), .second, .val (.int p1), .val (.int p2), .unset, .unset, .unset, .unset] [(.int (if (cmpValue (FP.dcmp d0 FP.dconst1) .l) = (0 : Int32) then (1 : Int32) else (0 : Int32)))])) t → Steps p.tables e below (s₁.setTop (entryFrame m #[(.double d0), (.int p1), (.int p2)] 8)) t := by
          intro t k
          refine k6 _ ?_
          show Steps p.tables e below (s₁.setTop (mkF m 34 #[.val (.double d0), .second, .val (.int p1), .val (.int p2), .unset, .unset, .unset, .unset] [(.int (if p2 = (0 : Int32) then (1 : Int32) else (0 : Int32))), (.int (if (cmpValue (FP.dcmp d0 FP.dconst0) .l) = (0 : Int32) then (1 : Int32) else (0 : Int32)))])) _
          refine XS.icmpYes X0.here hx rfl (pc0 := 34) (pc' := 39) rfl (hb hby d5_34) rfl (teq hc34_5).1 (by decide) (by decide) ?_
          show Steps p.tables e below (s₁.setTop (mkF m 39 #[.val (.double d0), .second, .val (.int p1), .val (.int p2), .unset, .unset, .unset, .unset] [])) _
          refine XS.dloadN X0.here hx rfl (hb hby d5_39) rfl ?_
          show Steps p.tables e below (s₁.setTop (mkF m 40 #[.val (.double d0), .second, .val (.int p1), .val (.int p2), .unset, .unset, .unset, .unset] [(.double d0)])) _
          refine XS.dconst1 X0.here hx rfl (hb hby d5_40) rfl ?_
          show Steps p.tables e below (s₁.setTop (mkF m 41 #[.val (.double d0), .second, .val (.int p1), .val (.int p2), .unset, .unset, .unset, .unset] [(.double FP.dconst1), (.double d0)])) _
          refine XS.dcmpS X0.here hx rfl (hb hby d5_41) rfl rfl ?_
          show Steps p.tables e below (s₁.setTop (mkF m 42 #[.val (.double d0), .second, .val (.int p1), .val (.int p2), .unset, .unset, .unset, .unset] [(.int (cmpValue (FP.dcmp d0 FP.dconst1) .l))])) _
          by_cases hc42_6 : (cmpValue (FP.dcmp d0 FP.dconst1) .l) = (0 : Int32)
          · refine XS.ifNo X0.here hx rfl (hb hby d5_42) rfl ((if0 _ _).trans (teq hc42_6).2) ?_
            show Steps p.tables e below (s₁.setTop (mkF m 45 #[.val (.double d0), .second, .val (.int p1), .val (.int p2), .unset, .unset, .unset, .unset] [])) _
            refine XS.iconst X0.here hx rfl (hb hby d5_45) ?_
            show Steps p.tables e below (s₁.setTop (mkF m 46 #[.val (.double d0), .second, .val (.int p1), .val (.int p2), .unset, .unset, .unset, .unset] [(.int (1 : Int32))])) _
            refine XS.goto X0.here hx rfl (pc0 := 46) (pc' := 50) rfl (hb hby d5_46) (by decide) (by decide) ?_
            try simp only [if_pos hc42_6] at k
            exact k
          · refine XS.ifYes X0.here hx rfl (pc0 := 42) (pc' := 49) rfl (hb hby d5_42) rfl ((if0 _ _).trans (feq hc42_6).2) (by decide) (by decide) ?_
            show Steps p.tables e below (s₁.setTop (mkF m 49 #[.val (.double d0), .second, .val (.int p1), .val (.int p2), .unset, .unset, .unset, .unset] [])) _
            refine XS.iconst X0.here hx rfl (hb hby d5_49) ?_
            try simp only [if_neg hc42_6] at k
            exact k
        have k8 : ∀ t, Steps p.tables e below (s₁.setTop (mkF m 60 #[.val (.double d0), .second, .val (.int p1), .val (.int p2), .unset, .unset, .unset, .unset] [(.int (if p2 = p1 then (1 : Int32) else (0 : Int32))), (.int (if (cmpValue (FP.dcmp d0 FP.dconst1) .l) = (0 : Int32) then (1 : Int32) else (0 : Int32)))])) t → Steps p.tables e below (s₁.setTop (entryFrame m #[(.double d0), (.int p1), (.int p2)] 8)) t := by
          intro t k
          refine k7 _ ?_
          show Steps p.tables e below (s₁.setTop (mkF m 50 #[.val (.double d0), .second, .val (.int p1), .val (.int p2), .unset, .unset, .unset, .unset] [(.int (if (cmpValue (FP.dcmp d0 FP.dconst1) .l) = (0 : Int32) then (1 : Int32) else (0 : Int32)))])) _
          refine XS.iloadN X0.here hx rfl (hb hby d5_50) rfl ?_
          show Steps p.tables e below (s₁.setTop (mkF m 51 #[.val (.double d0), .second, .val (.int p1), .val (.int p2), .unset, .unset, .unset, .unset] [(.int p2), (.int (if (cmpValue (FP.dcmp d0 FP.dconst1) .l) = (0 : Int32) then (1 : Int32) else (0 : Int32)))])) _
          refine XS.iloadN X0.here hx rfl (hb hby d5_51) rfl ?_
          show Steps p.tables e below (s₁.setTop (mkF m 52 #[.val (.double d0), .second, .val (.int p1), .val (.int p2), .unset, .unset, .unset, .unset] [(.int p1), (.int p2), (.int (if (cmpValue (FP.dcmp d0 FP.dconst1) .l) = (0 : Int32) then (1 : Int32) else (0 : Int32)))])) _
          by_cases hc52_7 : p2 = p1
          · refine XS.icmpNo X0.here hx rfl (hb hby d5_52) rfl (teq hc52_7).2 ?_
            show Steps p.tables e below (s₁.setTop (mkF m 55 #[.val (.double d0), .second, .val (.int p1), .val (.int p2), .unset, .unset, .unset, .unset] [(.int (if (cmpValue (FP.dcmp d0 FP.dconst1) .l) = (0 : Int32) then (1 : Int32) else (0 : Int32)))])) _
            refine XS.iconst X0.here hx rfl (hb hby d5_55) ?_
            show Steps p.tables e below (s₁.setTop (mkF m 56 #[.val (.double d0), .second, .val (.int p1), .val (.int p2), .unset, .unset, .unset, .unset] [(.int (1 : Int32)), (.int (if (cmpValue (FP.dcmp d0 FP.dconst1) .l) = (0 : Int32) then (1 : Int32) else (0 : Int32)))])) _
            refine XS.goto X0.here hx rfl (pc0 := 56) (pc' := 60) rfl (hb hby d5_56) (by decide) (by decide) ?_
            try simp only [if_pos hc52_7] at k
            exact k
          · refine XS.icmpYes X0.here hx rfl (pc0 := 52) (pc' := 59) rfl (hb hby d5_52) rfl (feq hc52_7).2 (by decide) (by decide) ?_
            show Steps p.tables e below (s₁.setTop (mkF m 59 #[.val (.double d0), .second, .val (.int p1), .val (.int p2), .unset, .unset, .unset, .unset] [(.int (if (cmpValue (FP.dcmp d0 FP.dconst1) .l) = (0 : Int32) then (1 : Int32) else (0 : Int32)))])) _
            refine XS.iconst X0.here hx rfl (hb hby d5_59) ?_
            try simp only [if_neg hc52_7] at k
            exact k
        by_cases hc60_8 : (if (cmpValue (FP.dcmp d0 FP.dconst1) .l) = (0 : Int32) then (1 : Int32) else (0 : Int32)) = (if p2 = p1 then (1 : Int32) else (0 : Int32))
        · have k9 : ∀ t, Steps p.tables e below (s₁.setTop (mkF m 85 #[.val (.double d0), .second, .val (.int p1), .val (.int p2), .val (.double (4463067230724161536 : UInt64)), .second, .val (.double (FP.dsub (FP.dmul d0 (FP.i2d p1)) (FP.i2d p2))), .second] [(.int (cmpValue (FP.dcmp (FP.dneg (4463067230724161536 : UInt64)) (FP.dsub (FP.dmul d0 (FP.i2d p1)) (FP.i2d p2))) .g))])) t → Steps p.tables e below (s₁.setTop (entryFrame m #[(.double d0), (.int p1), (.int p2)] 8)) t := by
            intro t k
            refine k8 _ ?_
            show Steps p.tables e below (s₁.setTop (mkF m 60 #[.val (.double d0), .second, .val (.int p1), .val (.int p2), .unset, .unset, .unset, .unset] [(.int (if p2 = p1 then (1 : Int32) else (0 : Int32))), (.int (if (cmpValue (FP.dcmp d0 FP.dconst1) .l) = (0 : Int32) then (1 : Int32) else (0 : Int32)))])) _
            refine XS.icmpYes X0.here hx rfl (pc0 := 60) (pc' := 65) rfl (hb hby d5_60) rfl (teq hc60_8).1 (by decide) (by decide) ?_
            show Steps p.tables e below (s₁.setTop (mkF m 65 #[.val (.double d0), .second, .val (.int p1), .val (.int p2), .unset, .unset, .unset, .unset] [])) _
            refine X0.ldc2DoubleC hx hown (mvT hZ (hw _ (List.mem_of_getElem? (i := 33) rfl))) (g := (mkF m 65 #[.val (.double d0), .second, .val (.int p1), .val (.int p2), .unset, .unset, .unset, .unset] [])) rfl (hb hby d5_65) _ ?_
            show Steps p.tables e below (s₁.setTop (mkF m 68 #[.val (.double d0), .second, .val (.int p1), .val (.int p2), .unset, .unset, .unset, .unset] [(.double (4463067230724161536 : UInt64))])) _
            refine XS.dstore X0.here hx rfl (hb hby d5_68) rfl (l' := #[.val (.double d0), .second, .val (.int p1), .val (.int p2), .val (.double (4463067230724161536 : UInt64)), .second, .unset, .unset]) rfl ?_
            show Steps p.tables e below (s₁.setTop (mkF m 70 #[.val (.double d0), .second, .val (.int p1), .val (.int p2), .val (.double (4463067230724161536 : UInt64)), .second, .unset, .unset] [])) _
            refine XS.dloadN X0.here hx rfl (hb hby d5_70) rfl ?_
            show Steps p.tables e below (s₁.setTop (mkF m 71 #[.val (.double d0), .second, .val (.int p1), .val (.int p2), .val (.double (4463067230724161536 : UInt64)), .second, .unset, .unset] [(.double d0)])) _
            refine XS.iloadN X0.here hx rfl (hb hby d5_71) rfl ?_
            show Steps p.tables e below (s₁.setTop (mkF m 72 #[.val (.double d0), .second, .val (.int p1), .val (.int p2), .val (.double (4463067230724161536 : UInt64)), .second, .unset, .unset] [(.int p1), (.double d0)])) _
            refine XS.i2dS X0.here hx rfl (hb hby d5_72) rfl rfl ?_
            show Steps p.tables e below (s₁.setTop (mkF m 73 #[.val (.double d0), .second, .val (.int p1), .val (.int p2), .val (.double (4463067230724161536 : UInt64)), .second, .unset, .unset] [(.double (FP.i2d p1)), (.double d0)])) _
            refine XS.dmulS X0.here hx rfl (hb hby d5_73) rfl hm rfl ?_
            show Steps p.tables e below (s₁.setTop (mkF m 74 #[.val (.double d0), .second, .val (.int p1), .val (.int p2), .val (.double (4463067230724161536 : UInt64)), .second, .unset, .unset] [(.double (FP.dmul d0 (FP.i2d p1)))])) _
            refine XS.iloadN X0.here hx rfl (hb hby d5_74) rfl ?_
            show Steps p.tables e below (s₁.setTop (mkF m 75 #[.val (.double d0), .second, .val (.int p1), .val (.int p2), .val (.double (4463067230724161536 : UInt64)), .second, .unset, .unset] [(.int p2), (.double (FP.dmul d0 (FP.i2d p1)))])) _
            refine XS.i2dS X0.here hx rfl (hb hby d5_75) rfl rfl ?_
            show Steps p.tables e below (s₁.setTop (mkF m 76 #[.val (.double d0), .second, .val (.int p1), .val (.int p2), .val (.double (4463067230724161536 : UInt64)), .second, .unset, .unset] [(.double (FP.i2d p2)), (.double (FP.dmul d0 (FP.i2d p1)))])) _
            refine XS.dsubS X0.here hx rfl (hb hby d5_76) rfl hs rfl ?_
            show Steps p.tables e below (s₁.setTop (mkF m 77 #[.val (.double d0), .second, .val (.int p1), .val (.int p2), .val (.double (4463067230724161536 : UInt64)), .second, .unset, .unset] [(.double (FP.dsub (FP.dmul d0 (FP.i2d p1)) (FP.i2d p2)))])) _
            refine XS.dstore X0.here hx rfl (hb hby d5_77) rfl (l' := #[.val (.double d0), .second, .val (.int p1), .val (.int p2), .val (.double (4463067230724161536 : UInt64)), .second, .val (.double (FP.dsub (FP.dmul d0 (FP.i2d p1)) (FP.i2d p2))), .second]) rfl ?_
            show Steps p.tables e below (s₁.setTop (mkF m 79 #[.val (.double d0), .second, .val (.int p1), .val (.int p2), .val (.double (4463067230724161536 : UInt64)), .second, .val (.double (FP.dsub (FP.dmul d0 (FP.i2d p1)) (FP.i2d p2))), .second] [])) _
            refine XS.dload X0.here hx rfl (hb hby d5_79) rfl ?_
            show Steps p.tables e below (s₁.setTop (mkF m 81 #[.val (.double d0), .second, .val (.int p1), .val (.int p2), .val (.double (4463067230724161536 : UInt64)), .second, .val (.double (FP.dsub (FP.dmul d0 (FP.i2d p1)) (FP.i2d p2))), .second] [(.double (4463067230724161536 : UInt64))])) _
            refine XS.dnegS X0.here hx rfl (hb hby d5_81) rfl rfl ?_
            show Steps p.tables e below (s₁.setTop (mkF m 82 #[.val (.double d0), .second, .val (.int p1), .val (.int p2), .val (.double (4463067230724161536 : UInt64)), .second, .val (.double (FP.dsub (FP.dmul d0 (FP.i2d p1)) (FP.i2d p2))), .second] [(.double (FP.dneg (4463067230724161536 : UInt64)))])) _
            refine XS.dload X0.here hx rfl (hb hby d5_82) rfl ?_
            show Steps p.tables e below (s₁.setTop (mkF m 84 #[.val (.double d0), .second, .val (.int p1), .val (.int p2), .val (.double (4463067230724161536 : UInt64)), .second, .val (.double (FP.dsub (FP.dmul d0 (FP.i2d p1)) (FP.i2d p2))), .second] [(.double (FP.dsub (FP.dmul d0 (FP.i2d p1)) (FP.i2d p2))), (.double (FP.dneg (4463067230724161536 : UInt64)))])) _
            refine XS.dcmpS X0.here hx rfl (hb hby d5_84) rfl rfl ?_
            exact k
          by_cases hc85_9 : (cmpValue (FP.dcmp (FP.dneg (4463067230724161536 : UInt64)) (FP.dsub (FP.dmul d0 (FP.i2d p1)) (FP.i2d p2))) .g) < (0 : Int32)
          · have k10 : ∀ t, Steps p.tables e below (s₁.setTop (mkF m 93 #[.val (.double d0), .second, .val (.int p1), .val (.int p2), .val (.double (4463067230724161536 : UInt64)), .second, .val (.double (FP.dsub (FP.dmul d0 (FP.i2d p1)) (FP.i2d p2))), .second] [(.int (cmpValue (FP.dcmp (FP.dsub (FP.dmul d0 (FP.i2d p1)) (FP.i2d p2)) (4463067230724161536 : UInt64)) .g))])) t → Steps p.tables e below (s₁.setTop (entryFrame m #[(.double d0), (.int p1), (.int p2)] 8)) t := by
              intro t k
              refine k9 _ ?_
              show Steps p.tables e below (s₁.setTop (mkF m 85 #[.val (.double d0), .second, .val (.int p1), .val (.int p2), .val (.double (4463067230724161536 : UInt64)), .second, .val (.double (FP.dsub (FP.dmul d0 (FP.i2d p1)) (FP.i2d p2))), .second] [(.int (cmpValue (FP.dcmp (FP.dneg (4463067230724161536 : UInt64)) (FP.dsub (FP.dmul d0 (FP.i2d p1)) (FP.i2d p2))) .g))])) _
              refine XS.ifNo X0.here hx rfl (hb hby d5_85) rfl ((if0 _ _).trans (tlt hc85_9).2.1) ?_
              show Steps p.tables e below (s₁.setTop (mkF m 88 #[.val (.double d0), .second, .val (.int p1), .val (.int p2), .val (.double (4463067230724161536 : UInt64)), .second, .val (.double (FP.dsub (FP.dmul d0 (FP.i2d p1)) (FP.i2d p2))), .second] [])) _
              refine XS.dload X0.here hx rfl (hb hby d5_88) rfl ?_
              show Steps p.tables e below (s₁.setTop (mkF m 90 #[.val (.double d0), .second, .val (.int p1), .val (.int p2), .val (.double (4463067230724161536 : UInt64)), .second, .val (.double (FP.dsub (FP.dmul d0 (FP.i2d p1)) (FP.i2d p2))), .second] [(.double (FP.dsub (FP.dmul d0 (FP.i2d p1)) (FP.i2d p2)))])) _
              refine XS.dload X0.here hx rfl (hb hby d5_90) rfl ?_
              show Steps p.tables e below (s₁.setTop (mkF m 92 #[.val (.double d0), .second, .val (.int p1), .val (.int p2), .val (.double (4463067230724161536 : UInt64)), .second, .val (.double (FP.dsub (FP.dmul d0 (FP.i2d p1)) (FP.i2d p2))), .second] [(.double (4463067230724161536 : UInt64)), (.double (FP.dsub (FP.dmul d0 (FP.i2d p1)) (FP.i2d p2)))])) _
              refine XS.dcmpS X0.here hx rfl (hb hby d5_92) rfl rfl ?_
              exact k
            by_cases hc93_10 : (cmpValue (FP.dcmp (FP.dsub (FP.dmul d0 (FP.i2d p1)) (FP.i2d p2)) (4463067230724161536 : UInt64)) .g) < (0 : Int32)
            · have k11 : ∀ t, Steps p.tables e below (s₁.setTop (mkF m 101 #[.val (.double d0), .second, .val (.int p1), .val (.int p2), .val (.double (4463067230724161536 : UInt64)), .second, .val (.double (FP.dsub (FP.dmul d0 (FP.i2d p1)) (FP.i2d p2))), .second] [(.int (1 : Int32))])) t → Steps p.tables e below (s₁.setTop (entryFrame m #[(.double d0), (.int p1), (.int p2)] 8)) t := by
                intro t k
                refine k10 _ ?_
                show Steps p.tables e below (s₁.setTop (mkF m 93 #[.val (.double d0), .second, .val (.int p1), .val (.int p2), .val (.double (4463067230724161536 : UInt64)), .second, .val (.double (FP.dsub (FP.dmul d0 (FP.i2d p1)) (FP.i2d p2))), .second] [(.int (cmpValue (FP.dcmp (FP.dsub (FP.dmul d0 (FP.i2d p1)) (FP.i2d p2)) (4463067230724161536 : UInt64)) .g))])) _
                refine XS.ifNo X0.here hx rfl (hb hby d5_93) rfl ((if0 _ _).trans (tlt hc93_10).2.1) ?_
                show Steps p.tables e below (s₁.setTop (mkF m 96 #[.val (.double d0), .second, .val (.int p1), .val (.int p2), .val (.double (4463067230724161536 : UInt64)), .second, .val (.double (FP.dsub (FP.dmul d0 (FP.i2d p1)) (FP.i2d p2))), .second] [])) _
                refine XS.iconst X0.here hx rfl (hb hby d5_96) ?_
                show Steps p.tables e below (s₁.setTop (mkF m 97 #[.val (.double d0), .second, .val (.int p1), .val (.int p2), .val (.double (4463067230724161536 : UInt64)), .second, .val (.double (FP.dsub (FP.dmul d0 (FP.i2d p1)) (FP.i2d p2))), .second] [(.int (1 : Int32))])) _
                refine XS.goto X0.here hx rfl (pc0 := 97) (pc' := 101) rfl (hb hby d5_97) (by decide) (by decide) ?_
                exact k
              obtain ⟨fs, hr, hrun, hended, hW, hsame⟩ := X0.leave (v := some (.int (1 : Int32))) (fun h => by rw [Bd.returns] at h; cases h)
              refine ⟨_, _, k11 _ ?_, hrun, hended, _, _, rfl, ?_, ⟨_, rfl⟩, hW, hsame.mono (by decide) (by decide)⟩
              · exact retN X0 hx (t := .boolean) Bd.returns (by simp) (hb hby d5_101) hr
              · show own_Q (some (.int (own_f5 d0 p1 p2))) h0 n0 _ s₁.heap _
                rw [e0]
                exact ⟨by simp only [own_f5, if_neg hc3_1, if_neg hc9_2, if_pos hc34_5, if_pos hc60_8, if_pos hc85_9, if_pos hc93_10], N0, rfl⟩
            · have k12 : ∀ t, Steps p.tables e below (s₁.setTop (mkF m 101 #[.val (.double d0), .second, .val (.int p1), .val (.int p2), .val (.double (4463067230724161536 : UInt64)), .second, .val (.double (FP.dsub (FP.dmul d0 (FP.i2d p1)) (FP.i2d p2))), .second] [(.int (0 : Int32))])) t → Steps p.tables e below (s₁.setTop (entryFrame m #[(.double d0), (.int p1), (.int p2)] 8)) t := by
                intro t k
                refine k10 _ ?_
                show Steps p.tables e below (s₁.setTop (mkF m 93 #[.val (.double d0), .second, .val (.int p1), .val (.int p2), .val (.double (4463067230724161536 : UInt64)), .second, .val (.double (FP.dsub (FP.dmul d0 (FP.i2d p1)) (FP.i2d p2))), .second] [(.int (cmpValue (FP.dcmp (FP.dsub (FP.dmul d0 (FP.i2d p1)) (FP.i2d p2)) (4463067230724161536 : UInt64)) .g))])) _
                refine XS.ifYes X0.here hx rfl (pc0 := 93) (pc' := 100) rfl (hb hby d5_93) rfl ((if0 _ _).trans (flt hc93_10).2.1) (by decide) (by decide) ?_
                show Steps p.tables e below (s₁.setTop (mkF m 100 #[.val (.double d0), .second, .val (.int p1), .val (.int p2), .val (.double (4463067230724161536 : UInt64)), .second, .val (.double (FP.dsub (FP.dmul d0 (FP.i2d p1)) (FP.i2d p2))), .second] [])) _
                refine XS.iconst X0.here hx rfl (hb hby d5_100) ?_
                exact k
              obtain ⟨fs, hr, hrun, hended, hW, hsame⟩ := X0.leave (v := some (.int (0 : Int32))) (fun h => by rw [Bd.returns] at h; cases h)
              refine ⟨_, _, k12 _ ?_, hrun, hended, _, _, rfl, ?_, ⟨_, rfl⟩, hW, hsame.mono (by decide) (by decide)⟩
              · exact retN X0 hx (t := .boolean) Bd.returns (by simp) (hb hby d5_101) hr
              · show own_Q (some (.int (own_f5 d0 p1 p2))) h0 n0 _ s₁.heap _
                rw [e0]
                exact ⟨by simp only [own_f5, if_neg hc3_1, if_neg hc9_2, if_pos hc34_5, if_pos hc60_8, if_pos hc85_9, if_neg hc93_10], N0, rfl⟩
          · have k13 : ∀ t, Steps p.tables e below (s₁.setTop (mkF m 101 #[.val (.double d0), .second, .val (.int p1), .val (.int p2), .val (.double (4463067230724161536 : UInt64)), .second, .val (.double (FP.dsub (FP.dmul d0 (FP.i2d p1)) (FP.i2d p2))), .second] [(.int (0 : Int32))])) t → Steps p.tables e below (s₁.setTop (entryFrame m #[(.double d0), (.int p1), (.int p2)] 8)) t := by
              intro t k
              refine k9 _ ?_
              show Steps p.tables e below (s₁.setTop (mkF m 85 #[.val (.double d0), .second, .val (.int p1), .val (.int p2), .val (.double (4463067230724161536 : UInt64)), .second, .val (.double (FP.dsub (FP.dmul d0 (FP.i2d p1)) (FP.i2d p2))), .second] [(.int (cmpValue (FP.dcmp (FP.dneg (4463067230724161536 : UInt64)) (FP.dsub (FP.dmul d0 (FP.i2d p1)) (FP.i2d p2))) .g))])) _
              refine XS.ifYes X0.here hx rfl (pc0 := 85) (pc' := 100) rfl (hb hby d5_85) rfl ((if0 _ _).trans (flt hc85_9).2.1) (by decide) (by decide) ?_
              show Steps p.tables e below (s₁.setTop (mkF m 100 #[.val (.double d0), .second, .val (.int p1), .val (.int p2), .val (.double (4463067230724161536 : UInt64)), .second, .val (.double (FP.dsub (FP.dmul d0 (FP.i2d p1)) (FP.i2d p2))), .second] [])) _
              refine XS.iconst X0.here hx rfl (hb hby d5_100) ?_
              exact k
            obtain ⟨fs, hr, hrun, hended, hW, hsame⟩ := X0.leave (v := some (.int (0 : Int32))) (fun h => by rw [Bd.returns] at h; cases h)
            refine ⟨_, _, k13 _ ?_, hrun, hended, _, _, rfl, ?_, ⟨_, rfl⟩, hW, hsame.mono (by decide) (by decide)⟩
            · exact retN X0 hx (t := .boolean) Bd.returns (by simp) (hb hby d5_101) hr
            · show own_Q (some (.int (own_f5 d0 p1 p2))) h0 n0 _ s₁.heap _
              rw [e0]
              exact ⟨by simp only [own_f5, if_neg hc3_1, if_neg hc9_2, if_pos hc34_5, if_pos hc60_8, if_neg hc85_9], N0, rfl⟩
        · have k14 : ∀ t, Steps p.tables e below (s₁.setTop (mkF m 64 #[.val (.double d0), .second, .val (.int p1), .val (.int p2), .unset, .unset, .unset, .unset] [(.int (0 : Int32))])) t → Steps p.tables e below (s₁.setTop (entryFrame m #[(.double d0), (.int p1), (.int p2)] 8)) t := by
            intro t k
            refine k8 _ ?_
            show Steps p.tables e below (s₁.setTop (mkF m 60 #[.val (.double d0), .second, .val (.int p1), .val (.int p2), .unset, .unset, .unset, .unset] [(.int (if p2 = p1 then (1 : Int32) else (0 : Int32))), (.int (if (cmpValue (FP.dcmp d0 FP.dconst1) .l) = (0 : Int32) then (1 : Int32) else (0 : Int32)))])) _
            refine XS.icmpNo X0.here hx rfl (hb hby d5_60) rfl (feq hc60_8).1 ?_
            show Steps p.tables e below (s₁.setTop (mkF m 63 #[.val (.double d0), .second, .val (.int p1), .val (.int p2), .unset, .unset, .unset, .unset] [])) _
            refine XS.iconst X0.here hx rfl (hb hby d5_63) ?_
            exact k
          obtain ⟨fs, hr, hrun, hended, hW, hsame⟩ := X0.leave (v := some (.int (0 : Int32))) (fun h => by rw [Bd.returns] at h; cases h)
          refine ⟨_, _, k14 _ ?_, hrun, hended, _, _, rfl, ?_, ⟨_, rfl⟩, hW, hsame.mono (by decide) (by decide)⟩
          · exact retN X0 hx (t := .boolean) Bd.returns (by simp) (hb hby d5_64) hr
          · show own_Q (some (.int (own_f5 d0 p1 p2))) h0 n0 _ s₁.heap _
            rw [e0]
            exact ⟨by simp only [own_f5, if_neg hc3_1, if_neg hc9_2, if_pos hc34_5, if_neg hc60_8], N0, rfl⟩
      · have k15 : ∀ t, Steps p.tables e below (s₁.setTop (mkF m 38 #[.val (.double d0), .second, .val (.int p1), .val (.int p2), .unset, .unset, .unset, .unset] [(.int (0 : Int32))])) t → Steps p.tables e below (s₁.setTop (entryFrame m #[(.double d0), (.int p1), (.int p2)] 8)) t := by
          intro t k
          refine k6 _ ?_
          show Steps p.tables e below (s₁.setTop (mkF m 34 #[.val (.double d0), .second, .val (.int p1), .val (.int p2), .unset, .unset, .unset, .unset] [(.int (if p2 = (0 : Int32) then (1 : Int32) else (0 : Int32))), (.int (if (cmpValue (FP.dcmp d0 FP.dconst0) .l) = (0 : Int32) then (1 : Int32) else (0 : Int32)))])) _
          refine XS.icmpNo X0.here hx rfl (hb hby d5_34) rfl (feq hc34_5).1 ?_
          show Steps p.tables e below (s₁.setTop (mkF m 37 #[.val (.double d0), .second, .val (.int p1), .val (.int p2), .unset, .unset, .unset, .unset] [])) _
          refine XS.iconst X0.here hx rfl (hb hby d5_37) ?_
          exact k
        obtain ⟨fs, hr, hrun, hended, hW, hsame⟩ := X0.leave (v := some (.int (0 : Int32))) (fun h => by rw [Bd.returns] at h; cases h)
        refine ⟨_, _, k15 _ ?_, hrun, hended, _, _, rfl, ?_, ⟨_, rfl⟩, hW, hsame.mono (by decide) (by decide)⟩
        · exact retN X0 hx (t := .boolean) Bd.returns (by simp) (hb hby d5_38) hr
        · show own_Q (some (.int (own_f5 d0 p1 p2))) h0 n0 _ s₁.heap _
          rw [e0]
          exact ⟨by simp only [own_f5, if_neg hc3_1, if_neg hc9_2, if_neg hc34_5], N0, rfl⟩
theorem ef_rm6 (m : MethodId) (x0 : UInt64) (x1 : Int32) (x2 : Int32) (x3 : UInt64) (x4 : Int32) (x5 : Int32) : entryFrame m #[(.double x0), (.int x1), (.int x2), (.double x3), (.int x4), (.int x5)] 12 = mkF m 0 #[.val (.double x0), .second, .val (.int x1), .val (.int x2), .val (.double x3), .second, .val (.int x4), .val (.int x5), .unset, .unset, .unset, .unset] [] := by first | (simp [entryFrame, mkF, argsToLocals, Value.category]; done) | rfl
theorem d6_0 : decode method_4_code 0 = .ok (.iload_n 3, 1) := by decide +kernel
theorem d6_1 : decode method_4_code 1 = .ok (.i2l, 1) := by decide +kernel
theorem d6_2 : decode method_4_code 2 = .ok (.iload 6, 2) := by decide +kernel
theorem d6_4 : decode method_4_code 4 = .ok (.i2l, 1) := by decide +kernel
theorem d6_5 : decode method_4_code 5 = .ok (.lmul, 1) := by decide +kernel
theorem d6_6 : decode method_4_code 6 = .ok (.lstore 8, 2) := by decide +kernel
theorem d6_8 : decode method_4_code 8 = .ok (.iload 7, 2) := by decide +kernel
theorem d6_10 : decode method_4_code 10 = .ok (.i2l, 1) := by decide +kernel
theorem d6_11 : decode method_4_code 11 = .ok (.iload_n 2, 1) := by decide +kernel
theorem d6_12 : decode method_4_code 12 = .ok (.i2l, 1) := by decide +kernel
theorem d6_13 : decode method_4_code 13 = .ok (.lmul, 1) := by decide +kernel
theorem d6_14 : decode method_4_code 14 = .ok (.lstore 10, 2) := by decide +kernel
theorem d6_16 : decode method_4_code 16 = .ok (.dload_n 0, 1) := by decide +kernel
theorem d6_17 : decode method_4_code 17 = .ok (.dload 4, 2) := by decide +kernel
theorem d6_19 : decode method_4_code 19 = .ok (.dcmp .g, 1) := by decide +kernel
theorem d6_20 : decode method_4_code 20 = .ok (.ifCond .ge 7, 3) := by decide +kernel
theorem d6_23 : decode method_4_code 23 = .ok (.iconst 1, 1) := by decide +kernel
theorem d6_24 : decode method_4_code 24 = .ok (.goto 4, 3) := by decide +kernel
theorem d6_27 : decode method_4_code 27 = .ok (.iconst 0, 1) := by decide +kernel
theorem d6_28 : decode method_4_code 28 = .ok (.lload 8, 2) := by decide +kernel
theorem d6_30 : decode method_4_code 30 = .ok (.lload 10, 2) := by decide +kernel
theorem d6_32 : decode method_4_code 32 = .ok (.lcmp, 1) := by decide +kernel
theorem d6_33 : decode method_4_code 33 = .ok (.ifCond .ge 7, 3) := by decide +kernel
theorem d6_36 : decode method_4_code 36 = .ok (.iconst 1, 1) := by decide +kernel
theorem d6_37 : decode method_4_code 37 = .ok (.goto 4, 3) := by decide +kernel
theorem d6_40 : decode method_4_code 40 = .ok (.iconst 0, 1) := by decide +kernel
theorem d6_41 : decode method_4_code 41 = .ok (.if_icmp .ne 35, 3) := by decide +kernel
theorem d6_44 : decode method_4_code 44 = .ok (.dload_n 0, 1) := by decide +kernel
theorem d6_45 : decode method_4_code 45 = .ok (.dload 4, 2) := by decide +kernel
theorem d6_47 : decode method_4_code 47 = .ok (.dcmp .l, 1) := by decide +kernel
theorem d6_48 : decode method_4_code 48 = .ok (.ifCond .ne 7, 3) := by decide +kernel
theorem d6_51 : decode method_4_code 51 = .ok (.iconst 1, 1) := by decide +kernel
theorem d6_52 : decode method_4_code 52 = .ok (.goto 4, 3) := by decide +kernel
theorem d6_55 : decode method_4_code 55 = .ok (.iconst 0, 1) := by decide +kernel
theorem d6_56 : decode method_4_code 56 = .ok (.lload 8, 2) := by decide +kernel
theorem d6_58 : decode method_4_code 58 = .ok (.lload 10, 2) := by decide +kernel
theorem d6_60 : decode method_4_code 60 = .ok (.lcmp, 1) := by decide +kernel
theorem d6_61 : decode method_4_code 61 = .ok (.ifCond .ne 7, 3) := by decide +kernel
theorem d6_64 : decode method_4_code 64 = .ok (.iconst 1, 1) := by decide +kernel
theorem d6_65 : decode method_4_code 65 = .ok (.goto 4, 3) := by decide +kernel
theorem d6_68 : decode method_4_code 68 = .ok (.iconst 0, 1) := by decide +kernel
theorem d6_69 : decode method_4_code 69 = .ok (.if_icmp .ne 7, 3) := by decide +kernel
theorem d6_72 : decode method_4_code 72 = .ok (.iconst 1, 1) := by decide +kernel
theorem d6_73 : decode method_4_code 73 = .ok (.goto 4, 3) := by decide +kernel
theorem d6_77 : decode method_4_code 77 = .ok (.ireturn, 1) := by decide +kernel
theorem d6_76 : decode method_4_code 76 = .ok (.iconst 0, 1) := by decide +kernel
def own_f6 (d0 : UInt64) (p1 : Int32) (p2 : Int32) (d3 : UInt64) (p4 : Int32) (p5 : Int32) : Int32 := (if (if (cmpValue (FP.dcmp d0 d3) .g) < (0 : Int32) then (1 : Int32) else (0 : Int32)) = (if ((p2.toInt64) * (p4.toInt64)) < ((p5.toInt64) * (p1.toInt64)) then (1 : Int32) else (0 : Int32)) then (if (if (cmpValue (FP.dcmp d0 d3) .l) = (0 : Int32) then (1 : Int32) else (0 : Int32)) = (if ((p2.toInt64) * (p4.toInt64)) = ((p5.toInt64) * (p1.toInt64)) then (1 : Int32) else (0 : Int32)) then (1 : Int32) else (0 : Int32)) else (0 : Int32))
set_option maxRecDepth 65536 in
set_option maxHeartbeats 40000000 in
theorem rm6 (l : Launch) (Z : State) (a0 : Array Value) (hw : ∀ d ∈ tables_1, d.before a0 Z = true) (ws : List Jvm.Cond) (d0 : UInt64) (p1 : Int32) (p2 : Int32) (d3 : UInt64) (p4 : Int32) (p5 : Int32) (h0 : Heap) (n0 : Nat) :
    MetFree l (⟨"com/example/lightloom/lightloom/plan/ResultBlockingProbabilityPinLaw", "ordered", "(DIIDII)Z"⟩ : MethodName) (head1 (Jvm.Cond.code (⟨"com/example/lightloom/lightloom/plan/ResultBlockingProbabilityPinLaw", "ordered", "(DIIDII)Z"⟩ : MethodName) method_4_code 12 (some .boolean) :: ws) ({ frames := 0, cells := 0, slots := 0, locals := 0 } : Room)) (fun a U => a = #[(.double d0), (.int p1), (.int p2), (.double d3), (.int p4), (.int p5)] ∧ Z.Warmed39 U.vm ∧ U.heap = h0) (fun _ _ _ _ _ => True) (fun _ U o U' => ∃ v L, o = .returned v ∧ own_Q (some (.int (own_f6 d0 p1 p2 d3 p4 p5))) h0 n0 v U'.heap L ∧ FrameEnd U o U' L ({ frames := 0, cells := 0, slots := 0, locals := 0 } : Room).cells ({ frames := 0, cells := 0, slots := 0, locals := 0 } : Room).slots) := by
  refine MetFree.of_bodySF (plainFor_of_name pn_2) hisR ?_
  intro p e s m args below meth c s₁ Bd hml0 hP hK
  obtain ⟨rfl, hZ, hh⟩ := hP
  have hx := Bd.exec
  have hby := Bd.bytes
  have hml : c.maxLocals = 12 := hml0
  have hown : s.vm.findClass "com/example/lightloom/lightloom/plan/ResultBlockingProbabilityPinLaw" = some m.cls := findClass_of_methodNamed Bd.named
  have hnm := (name_of_methodNamed Bd.named Bd.method).1
  have X0 : Stand p l e ({ frames := 0, cells := 0, slots := 0, locals := 0 } : Room) s m #[(.double d0), (.int p1), (.int p2), (.double d3), (.int p4), (.int p5)] below meth c s₁ [] 0 0 := Stand.of_body Bd
  have e0 : s₁.heap = h0 := by rw [← hh, Bd.state]; rfl
  have N0 := Fr.nil n0
  have pre0 : ∀ t, Steps p.tables e below (s₁.setTop (mkF m 0 #[.val (.double d0), .second, .val (.int p1), .val (.int p2), .val (.double d3), .second, .val (.int p4), .val (.int p5), .unset, .unset, .unset, .unset] [])) t → Steps p.tables e below (s₁.setTop (entryFrame m #[(.double d0), (.int p1), (.int p2), (.double d3), (.int p4), (.int p5)] 12)) t := fun t k => castTop (ef_rm6 m d0 p1 p2 d3 p4 p5) k
  have k1 : ∀ t, Steps p.tables e below (s₁.setTop (mkF m 28 #[.val (.double d0), .second, .val (.int p1), .val (.int p2), .val (.double d3), .second, .val (.int p4), .val (.int p5), .val (.long ((p2.toInt64) * (p4.toInt64))), .second, .val (.long ((p5.toInt64) * (p1.toInt64))), .second] [(.int (if (cmpValue (FP.dcmp d0 d3) .g) < (0 : Int32) then (1 : Int32) else (0 : Int32)))])) t → Steps p.tables e below (s₁.setTop (entryFrame m #[(.double d0), (.int p1), (.int p2), (.double d3), (.int p4), (.int p5)] 12)) t := by
    intro t k
    refine pre0 _ ?_
    show Steps p.tables e below (s₁.setTop (mkF m 0 #[.val (.double d0), .second, .val (.int p1), .val (.int p2), .val (.double d3), .second, .val (.int p4), .val (.int p5), .unset, .unset, .unset, .unset] [])) _
    refine XS.iloadN X0.here hx rfl (hb hby d6_0) rfl ?_
    show Steps p.tables e below (s₁.setTop (mkF m 1 #[.val (.double d0), .second, .val (.int p1), .val (.int p2), .val (.double d3), .second, .val (.int p4), .val (.int p5), .unset, .unset, .unset, .unset] [(.int p2)])) _
    refine XS.i2l X0.here hx rfl (hb hby d6_1) rfl ?_
    show Steps p.tables e below (s₁.setTop (mkF m 2 #[.val (.double d0), .second, .val (.int p1), .val (.int p2), .val (.double d3), .second, .val (.int p4), .val (.int p5), .unset, .unset, .unset, .unset] [(.long (p2.toInt64))])) _
    refine XS.iload X0.here hx rfl (hb hby d6_2) rfl ?_
    show Steps p.tables e below (s₁.setTop (mkF m 4 #[.val (.double d0), .second, .val (.int p1), .val (.int p2), .val (.double d3), .second, .val (.int p4), .val (.int p5), .unset, .unset, .unset, .unset] [(.int p4), (.long (p2.toInt64))])) _
    refine XS.i2l X0.here hx rfl (hb hby d6_4) rfl ?_
    show Steps p.tables e below (s₁.setTop (mkF m 5 #[.val (.double d0), .second, .val (.int p1), .val (.int p2), .val (.double d3), .second, .val (.int p4), .val (.int p5), .unset, .unset, .unset, .unset] [(.long (p4.toInt64)), (.long (p2.toInt64))])) _
    refine XS.lmul X0.here hx rfl (hb hby d6_5) rfl ?_
    show Steps p.tables e below (s₁.setTop (mkF m 6 #[.val (.double d0), .second, .val (.int p1), .val (.int p2), .val (.double d3), .second, .val (.int p4), .val (.int p5), .unset, .unset, .unset, .unset] [(.long ((p2.toInt64) * (p4.toInt64)))])) _
    refine XS.lstore X0.here hx rfl (hb hby d6_6) rfl (l' := #[.val (.double d0), .second, .val (.int p1), .val (.int p2), .val (.double d3), .second, .val (.int p4), .val (.int p5), .val (.long ((p2.toInt64) * (p4.toInt64))), .second, .unset, .unset]) rfl ?_
    show Steps p.tables e below (s₁.setTop (mkF m 8 #[.val (.double d0), .second, .val (.int p1), .val (.int p2), .val (.double d3), .second, .val (.int p4), .val (.int p5), .val (.long ((p2.toInt64) * (p4.toInt64))), .second, .unset, .unset] [])) _
    refine XS.iload X0.here hx rfl (hb hby d6_8) rfl ?_
    show Steps p.tables e below (s₁.setTop (mkF m 10 #[.val (.double d0), .second, .val (.int p1), .val (.int p2), .val (.double d3), .second, .val (.int p4), .val (.int p5), .val (.long ((p2.toInt64) * (p4.toInt64))), .second, .unset, .unset] [(.int p5)])) _
    refine XS.i2l X0.here hx rfl (hb hby d6_10) rfl ?_
    show Steps p.tables e below (s₁.setTop (mkF m 11 #[.val (.double d0), .second, .val (.int p1), .val (.int p2), .val (.double d3), .second, .val (.int p4), .val (.int p5), .val (.long ((p2.toInt64) * (p4.toInt64))), .second, .unset, .unset] [(.long (p5.toInt64))])) _
    refine XS.iloadN X0.here hx rfl (hb hby d6_11) rfl ?_
    show Steps p.tables e below (s₁.setTop (mkF m 12 #[.val (.double d0), .second, .val (.int p1), .val (.int p2), .val (.double d3), .second, .val (.int p4), .val (.int p5), .val (.long ((p2.toInt64) * (p4.toInt64))), .second, .unset, .unset] [(.int p1), (.long (p5.toInt64))])) _
    refine XS.i2l X0.here hx rfl (hb hby d6_12) rfl ?_
    show Steps p.tables e below (s₁.setTop (mkF m 13 #[.val (.double d0), .second, .val (.int p1), .val (.int p2), .val (.double d3), .second, .val (.int p4), .val (.int p5), .val (.long ((p2.toInt64) * (p4.toInt64))), .second, .unset, .unset] [(.long (p1.toInt64)), (.long (p5.toInt64))])) _
    refine XS.lmul X0.here hx rfl (hb hby d6_13) rfl ?_
    show Steps p.tables e below (s₁.setTop (mkF m 14 #[.val (.double d0), .second, .val (.int p1), .val (.int p2), .val (.double d3), .second, .val (.int p4), .val (.int p5), .val (.long ((p2.toInt64) * (p4.toInt64))), .second, .unset, .unset] [(.long ((p5.toInt64) * (p1.toInt64)))])) _
    refine XS.lstore X0.here hx rfl (hb hby d6_14) rfl (l' := #[.val (.double d0), .second, .val (.int p1), .val (.int p2), .val (.double d3), .second, .val (.int p4), .val (.int p5), .val (.long ((p2.toInt64) * (p4.toInt64))), .second, .val (.long ((p5.toInt64) * (p1.toInt64))), .second]) rfl ?_
    show Steps p.tables e below (s₁.setTop (mkF m 16 #[.val (.double d0), .second, .val (.int p1), .val (.int p2), .val (.double d3), .second, .val (.int p4), .val (.int p5), .val (.long ((p2.toInt64) * (p4.toInt64))), .second, .val (.long ((p5.toInt64) * (p1.toInt64))), .second] [])) _
    refine XS.dloadN X0.here hx rfl (hb hby d6_16) rfl ?_
    show Steps p.tables e below (s₁.setTop (mkF m 17 #[.val (.double d0), .second, .val (.int p1), .val (.int p2), .val (.double d3), .second, .val (.int p4), .val (.int p5), .val (.long ((p2.toInt64) * (p4.toInt64))), .second, .val (.long ((p5.toInt64) * (p1.toInt64))), .second] [(.double d0)])) _
    refine XS.dload X0.here hx rfl (hb hby d6_17) rfl ?_
    show Steps p.tables e below (s₁.setTop (mkF m 19 #[.val (.double d0), .second, .val (.int p1), .val (.int p2), .val (.double d3), .second, .val (.int p4), .val (.int p5), .val (.long ((p2.toInt64) * (p4.toInt64))), .second, .val (.long ((p5.toInt64) * (p1.toInt64))), .second] [(.double d3), (.double d0)])) _
    refine XS.dcmpS X0.here hx rfl (hb hby d6_19) rfl rfl ?_
    show Steps p.tables e below (s₁.setTop (mkF m 20 #[.val (.double d0), .second, .val (.int p1), .val (.int p2), .val (.double d3), .second, .val (.int p4), .val (.int p5), .val (.long ((p2.toInt64) * (p4.toInt64))), .second, .val (.long ((p5.toInt64) * (p1.toInt64))), .second] [(.int (cmpValue (FP.dcmp d0 d3) .g))])) _
    by_cases hc20_1 : (cmpValue (FP.dcmp d0 d3) .g) < (0 : Int32)
    · refine XS.ifNo X0.here hx rfl (hb hby d6_20) rfl ((if0 _ _).trans (tlt hc20_1).2.1) ?_
      show Steps p.tables e below (s₁.setTop (mkF m 23 #[.val (.double d0), .second, .val (.int p1), .val (.int p2), .val (.double d3), .second, .val (.int p4), .val (.int p5), .val (.long ((p2.toInt64) * (p4.toInt64))), .second, .val (.long ((p5.toInt64) * (p1.toInt64))), .second] [])) _
      refine XS.iconst X0.here hx rfl (hb hby d6_23) ?_
      show Steps p.tables e below (s₁.setTop (mkF m 24 #[.val (.double d0), .second, .val (.int p1), .val (.int p2), .val (.double d3), .second, .val (.int p4), .val (.int p5), .val (.long ((p2.toInt64) * (p4.toInt64))), .second, .val (.long ((p5.toInt64) * (p1.toInt64))), .second] [(.int (1 : Int32))])) _
      refine XS.goto X0.here hx rfl (pc0 := 24) (pc' := 28) rfl (hb hby d6_24) (by decide) (by decide) ?_
      try simp only [if_pos hc20_1] at k
      exact k
    · refine XS.ifYes X0.here hx rfl (pc0 := 20) (pc' := 27) rfl (hb hby d6_20) rfl ((if0 _ _).trans (flt hc20_1).2.1) (by decide) (by decide) ?_
      show Steps p.tables e below (s₁.setTop (mkF m 27 #[.val (.double d0), .second, .val (.int p1), .val (.int p2), .val (.double d3), .second, .val (.int p4), .val (.int p5), .val (.long ((p2.toInt64) * (p4.toInt64))), .second, .val (.long ((p5.toInt64) * (p1.toInt64))), .second] [])) _
      refine XS.iconst X0.here hx rfl (hb hby d6_27) ?_
      try simp only [if_neg hc20_1] at k
      exact k
  have k2 : ∀ t, Steps p.tables e below (s₁.setTop (mkF m 41 #[.val (.double d0), .second, .val (.int p1), .val (.int p2), .val (.double d3), .second, .val (.int p4), .val (.int p5), .val (.long ((p2.toInt64) * (p4.toInt64))), .second, .val (.long ((p5.toInt64) * (p1.toInt64))), .second] [(.int (if ((p2.toInt64) * (p4.toInt64)) < ((p5.toInt64) * (p1.toInt64)) then (1 : Int32) else (0 : Int32))), (.int (if (cmpValue (FP.dcmp d0 d3) .g) < (0 : Int32) then (1 : Int32) else (0 : Int32)))])) t → Steps p.tables e below (s₁.setTop (entryFrame m #[(.double d0), (.int p1), (.int p2), (.double d3), (.int p4), (.int p5)] 12)) t := by
    intro t k
    refine k1 _ ?_
    show Steps p.tables e below (s₁.setTop (mkF m 28 #[.val (.double d0), .second, .val (.int p1), .val (.int p2), .val (.double d3), .second, .val (.int p4), .val (.int p5), .val (.long ((p2.toInt64) * (p4.toInt64))), .second, .val (.long ((p5.toInt64) * (p1.toInt64))), .second] [(.int (if (cmpValue (FP.dcmp d0 d3) .g) < (0 : Int32) then (1 : Int32) else (0 : Int32)))])) _
    refine XS.lload X0.here hx rfl (hb hby d6_28) rfl ?_
    show Steps p.tables e below (s₁.setTop (mkF m 30 #[.val (.double d0), .second, .val (.int p1), .val (.int p2), .val (.double d3), .second, .val (.int p4), .val (.int p5), .val (.long ((p2.toInt64) * (p4.toInt64))), .second, .val (.long ((p5.toInt64) * (p1.toInt64))), .second] [(.long ((p2.toInt64) * (p4.toInt64))), (.int (if (cmpValue (FP.dcmp d0 d3) .g) < (0 : Int32) then (1 : Int32) else (0 : Int32)))])) _
    refine XS.lload X0.here hx rfl (hb hby d6_30) rfl ?_
    show Steps p.tables e below (s₁.setTop (mkF m 32 #[.val (.double d0), .second, .val (.int p1), .val (.int p2), .val (.double d3), .second, .val (.int p4), .val (.int p5), .val (.long ((p2.toInt64) * (p4.toInt64))), .second, .val (.long ((p5.toInt64) * (p1.toInt64))), .second] [(.long ((p5.toInt64) * (p1.toInt64))), (.long ((p2.toInt64) * (p4.toInt64))), (.int (if (cmpValue (FP.dcmp d0 d3) .g) < (0 : Int32) then (1 : Int32) else (0 : Int32)))])) _
    refine XS.lcmp X0.here hx rfl (hb hby d6_32) rfl ?_
    show Steps p.tables e below (s₁.setTop (mkF m 33 #[.val (.double d0), .second, .val (.int p1), .val (.int p2), .val (.double d3), .second, .val (.int p4), .val (.int p5), .val (.long ((p2.toInt64) * (p4.toInt64))), .second, .val (.long ((p5.toInt64) * (p1.toInt64))), .second] [(.int (lcmpW ((p2.toInt64) * (p4.toInt64)) ((p5.toInt64) * (p1.toInt64)))), (.int (if (cmpValue (FP.dcmp d0 d3) .g) < (0 : Int32) then (1 : Int32) else (0 : Int32)))])) _
    by_cases hc33_2 : ((p2.toInt64) * (p4.toInt64)) < ((p5.toInt64) * (p1.toInt64))
    · refine XS.ifNo X0.here hx rfl (hb hby d6_33) rfl ((if0 _ _).trans (tlt ((lw_lt _ _).mpr hc33_2)).2.1) ?_
      show Steps p.tables e below (s₁.setTop (mkF m 36 #[.val (.double d0), .second, .val (.int p1), .val (.int p2), .val (.double d3), .second, .val (.int p4), .val (.int p5), .val (.long ((p2.toInt64) * (p4.toInt64))), .second, .val (.long ((p5.toInt64) * (p1.toInt64))), .second] [(.int (if (cmpValue (FP.dcmp d0 d3) .g) < (0 : Int32) then (1 : Int32) else (0 : Int32)))])) _
      refine XS.iconst X0.here hx rfl (hb hby d6_36) ?_
      show Steps p.tables e below (s₁.setTop (mkF m 37 #[.val (.double d0), .second, .val (.int p1), .val (.int p2), .val (.double d3), .second, .val (.int p4), .val (.int p5), .val (.long ((p2.toInt64) * (p4.toInt64))), .second, .val (.long ((p5.toInt64) * (p1.toInt64))), .second] [(.int (1 : Int32)), (.int (if (cmpValue (FP.dcmp d0 d3) .g) < (0 : Int32) then (1 : Int32) else (0 : Int32)))])) _
      refine XS.goto X0.here hx rfl (pc0 := 37) (pc' := 41) rfl (hb hby d6_37) (by decide) (by decide) ?_
      try simp only [if_pos hc33_2] at k
      exact k
    · refine XS.ifYes X0.here hx rfl (pc0 := 33) (pc' := 40) rfl (hb hby d6_33) rfl ((if0 _ _).trans (flt (fun q => hc33_2 ((lw_lt _ _).mp q))).2.1) (by decide) (by decide) ?_
      show Steps p.tables e below (s₁.setTop (mkF m 40 #[.val (.double d0), .second, .val (.int p1), .val (.int p2), .val (.double d3), .second, .val (.int p4), .val (.int p5), .val (.long ((p2.toInt64) * (p4.toInt64))), .second, .val (.long ((p5.toInt64) * (p1.toInt64))), .second] [(.int (if (cmpValue (FP.dcmp d0 d3) .g) < (0 : Int32) then (1 : Int32) else (0 : Int32)))])) _
      refine XS.iconst X0.here hx rfl (hb hby d6_40) ?_
      try simp only [if_neg hc33_2] at k
      exact k
  by_cases hc41_3 : (if (cmpValue (FP.dcmp d0 d3) .g) < (0 : Int32) then (1 : Int32) else (0 : Int32)) = (if ((p2.toInt64) * (p4.toInt64)) < ((p5.toInt64) * (p1.toInt64)) then (1 : Int32) else (0 : Int32))
  · have k3 : ∀ t, Steps p.tables e below (s₁.setTop (mkF m 56 #[.val (.double d0), .second, .val (.int p1), .val (.int p2), .val (.double d3), .second, .val (.int p4), .val (.int p5), .val (.long ((p2.toInt64) * (p4.toInt64))), .second, .val (.long ((p5.toInt64) * (p1.toInt64))), .second] [(.int (if (cmpValue (FP.dcmp d0 d3) .l) = (0 : Int32) then (1 : Int32) else (0 : Int32)))])) t → Steps p.tables e below (s₁.setTop (entryFrame m #[(.double d0), (.int p1), (.int p2), (.double d3), (.int p4), (.int p5)] 12)) t := by
      intro t k
      refine k2 _ ?_
      show Steps p.tables e below (s₁.setTop (mkF m 41 #[.val (.double d0), .second, .val (.int p1), .val (.int p2), .val (.double d3), .second, .val (.int p4), .val (.int p5), .val (.long ((p2.toInt64) * (p4.toInt64))), .second, .val (.long ((p5.toInt64) * (p1.toInt64))), .second] [(.int (if ((p2.toInt64) * (p4.toInt64)) < ((p5.toInt64) * (p1.toInt64)) then (1 : Int32) else (0 : Int32))), (.int (if (cmpValue (FP.dcmp d0 d3) .g) < (0 : Int32) then (1 : Int32) else (0 : Int32)))])) _
      refine XS.icmpNo X0.here hx rfl (hb hby d6_41) rfl (teq hc41_3).2 ?_
      show Steps p.tables e below (s₁.setTop (mkF m 44 #[.val (.double d0), .second, .val (.int p1), .val (.int p2), .val (.double d3), .second, .val (.int p4), .val (.int p5), .val (.long ((p2.toInt64) * (p4.toInt64))), .second, .val (.long ((p5.toInt64) * (p1.toInt64))), .second] [])) _
      refine XS.dloadN X0.here hx rfl (hb hby d6_44) rfl ?_
      show Steps p.tables e below (s₁.setTop (mkF m 45 #[.val (.double d0), .second, .val (.int p1), .val (.int p2), .val (.double d3), .second, .val (.int p4), .val (.int p5), .val (.long ((p2.toInt64) * (p4.toInt64))), .second, .val (.long ((p5.toInt64) * (p1.toInt64))), .second] [(.double d0)])) _
      refine XS.dload X0.here hx rfl (hb hby d6_45) rfl ?_
      show Steps p.tables e below (s₁.setTop (mkF m 47 #[.val (.double d0), .second, .val (.int p1), .val (.int p2), .val (.double d3), .second, .val (.int p4), .val (.int p5), .val (.long ((p2.toInt64) * (p4.toInt64))), .second, .val (.long ((p5.toInt64) * (p1.toInt64))), .second] [(.double d3), (.double d0)])) _
      refine XS.dcmpS X0.here hx rfl (hb hby d6_47) rfl rfl ?_
      show Steps p.tables e below (s₁.setTop (mkF m 48 #[.val (.double d0), .second, .val (.int p1), .val (.int p2), .val (.double d3), .second, .val (.int p4), .val (.int p5), .val (.long ((p2.toInt64) * (p4.toInt64))), .second, .val (.long ((p5.toInt64) * (p1.toInt64))), .second] [(.int (cmpValue (FP.dcmp d0 d3) .l))])) _
      by_cases hc48_4 : (cmpValue (FP.dcmp d0 d3) .l) = (0 : Int32)
      · refine XS.ifNo X0.here hx rfl (hb hby d6_48) rfl ((if0 _ _).trans (teq hc48_4).2) ?_
        show Steps p.tables e below (s₁.setTop (mkF m 51 #[.val (.double d0), .second, .val (.int p1), .val (.int p2), .val (.double d3), .second, .val (.int p4), .val (.int p5), .val (.long ((p2.toInt64) * (p4.toInt64))), .second, .val (.long ((p5.toInt64) * (p1.toInt64))), .second] [])) _
        refine XS.iconst X0.here hx rfl (hb hby d6_51) ?_
        show Steps p.tables e below (s₁.setTop (mkF m 52 #[.val (.double d0), .second, .val (.int p1), .val (.int p2), .val (.double d3), .second, .val (.int p4), .val (.int p5), .val (.long ((p2.toInt64) * (p4.toInt64))), .second, .val (.long ((p5.toInt64) * (p1.toInt64))), .second] [(.int (1 : Int32))])) _
        refine XS.goto X0.here hx rfl (pc0 := 52) (pc' := 56) rfl (hb hby d6_52) (by decide) (by decide) ?_
        try simp only [if_pos hc48_4] at k
        exact k
      · refine XS.ifYes X0.here hx rfl (pc0 := 48) (pc' := 55) rfl (hb hby d6_48) rfl ((if0 _ _).trans (feq hc48_4).2) (by decide) (by decide) ?_
        show Steps p.tables e below (s₁.setTop (mkF m 55 #[.val (.double d0), .second, .val (.int p1), .val (.int p2), .val (.double d3), .second, .val (.int p4), .val (.int p5), .val (.long ((p2.toInt64) * (p4.toInt64))), .second, .val (.long ((p5.toInt64) * (p1.toInt64))), .second] [])) _
        refine XS.iconst X0.here hx rfl (hb hby d6_55) ?_
        try simp only [if_neg hc48_4] at k
        exact k
    have k4 : ∀ t, Steps p.tables e below (s₁.setTop (mkF m 69 #[.val (.double d0), .second, .val (.int p1), .val (.int p2), .val (.double d3), .second, .val (.int p4), .val (.int p5), .val (.long ((p2.toInt64) * (p4.toInt64))), .second, .val (.long ((p5.toInt64) * (p1.toInt64))), .second] [(.int (if ((p2.toInt64) * (p4.toInt64)) = ((p5.toInt64) * (p1.toInt64)) then (1 : Int32) else (0 : Int32))), (.int (if (cmpValue (FP.dcmp d0 d3) .l) = (0 : Int32) then (1 : Int32) else (0 : Int32)))])) t → Steps p.tables e below (s₁.setTop (entryFrame m #[(.double d0), (.int p1), (.int p2), (.double d3), (.int p4), (.int p5)] 12)) t := by
      intro t k
      refine k3 _ ?_
      show Steps p.tables e below (s₁.setTop (mkF m 56 #[.val (.double d0), .second, .val (.int p1), .val (.int p2), .val (.double d3), .second, .val (.int p4), .val (.int p5), .val (.long ((p2.toInt64) * (p4.toInt64))), .second, .val (.long ((p5.toInt64) * (p1.toInt64))), .second] [(.int (if (cmpValue (FP.dcmp d0 d3) .l) = (0 : Int32) then (1 : Int32) else (0 : Int32)))])) _
      refine XS.lload X0.here hx rfl (hb hby d6_56) rfl ?_
      show Steps p.tables e below (s₁.setTop (mkF m 58 #[.val (.double d0), .second, .val (.int p1), .val (.int p2), .val (.double d3), .second, .val (.int p4), .val (.int p5), .val (.long ((p2.toInt64) * (p4.toInt64))), .second, .val (.long ((p5.toInt64) * (p1.toInt64))), .second] [(.long ((p2.toInt64) * (p4.toInt64))), (.int (if (cmpValue (FP.dcmp d0 d3) .l) = (0 : Int32) then (1 : Int32) else (0 : Int32)))])) _
      refine XS.lload X0.here hx rfl (hb hby d6_58) rfl ?_
      show Steps p.tables e below (s₁.setTop (mkF m 60 #[.val (.double d0), .second, .val (.int p1), .val (.int p2), .val (.double d3), .second, .val (.int p4), .val (.int p5), .val (.long ((p2.toInt64) * (p4.toInt64))), .second, .val (.long ((p5.toInt64) * (p1.toInt64))), .second] [(.long ((p5.toInt64) * (p1.toInt64))), (.long ((p2.toInt64) * (p4.toInt64))), (.int (if (cmpValue (FP.dcmp d0 d3) .l) = (0 : Int32) then (1 : Int32) else (0 : Int32)))])) _
      refine XS.lcmp X0.here hx rfl (hb hby d6_60) rfl ?_
      show Steps p.tables e below (s₁.setTop (mkF m 61 #[.val (.double d0), .second, .val (.int p1), .val (.int p2), .val (.double d3), .second, .val (.int p4), .val (.int p5), .val (.long ((p2.toInt64) * (p4.toInt64))), .second, .val (.long ((p5.toInt64) * (p1.toInt64))), .second] [(.int (lcmpW ((p2.toInt64) * (p4.toInt64)) ((p5.toInt64) * (p1.toInt64)))), (.int (if (cmpValue (FP.dcmp d0 d3) .l) = (0 : Int32) then (1 : Int32) else (0 : Int32)))])) _
      by_cases hc61_5 : ((p2.toInt64) * (p4.toInt64)) = ((p5.toInt64) * (p1.toInt64))
      · refine XS.ifNo X0.here hx rfl (hb hby d6_61) rfl ((if0 _ _).trans (teq ((lw_eq _ _).mpr hc61_5)).2) ?_
        show Steps p.tables e below (s₁.setTop (mkF m 64 #[.val (.double d0), .second, .val (.int p1), .val (.int p2), .val (.double d3), .second, .val (.int p4), .val (.int p5), .val (.long ((p2.toInt64) * (p4.toInt64))), .second, .val (.long ((p5.toInt64) * (p1.toInt64))), .second] [(.int (if (cmpValue (FP.dcmp d0 d3) .l) = (0 : Int32) then (1 : Int32) else (0 : Int32)))])) _
        refine XS.iconst X0.here hx rfl (hb hby d6_64) ?_
        show Steps p.tables e below (s₁.setTop (mkF m 65 #[.val (.double d0), .second, .val (.int p1), .val (.int p2), .val (.double d3), .second, .val (.int p4), .val (.int p5), .val (.long ((p2.toInt64) * (p4.toInt64))), .second, .val (.long ((p5.toInt64) * (p1.toInt64))), .second] [(.int (1 : Int32)), (.int (if (cmpValue (FP.dcmp d0 d3) .l) = (0 : Int32) then (1 : Int32) else (0 : Int32)))])) _
        refine XS.goto X0.here hx rfl (pc0 := 65) (pc' := 69) rfl (hb hby d6_65) (by decide) (by decide) ?_
        try simp only [if_pos hc61_5] at k
        exact k
      · refine XS.ifYes X0.here hx rfl (pc0 := 61) (pc' := 68) rfl (hb hby d6_61) rfl ((if0 _ _).trans (feq (fun q => hc61_5 ((lw_eq _ _).mp q))).2) (by decide) (by decide) ?_
        show Steps p.tables e below (s₁.setTop (mkF m 68 #[.val (.double d0), .second, .val (.int p1), .val (.int p2), .val (.double d3), .second, .val (.int p4), .val (.int p5), .val (.long ((p2.toInt64) * (p4.toInt64))), .second, .val (.long ((p5.toInt64) * (p1.toInt64))), .second] [(.int (if (cmpValue (FP.dcmp d0 d3) .l) = (0 : Int32) then (1 : Int32) else (0 : Int32)))])) _
        refine XS.iconst X0.here hx rfl (hb hby d6_68) ?_
        try simp only [if_neg hc61_5] at k
        exact k
    by_cases hc69_6 : (if (cmpValue (FP.dcmp d0 d3) .l) = (0 : Int32) then (1 : Int32) else (0 : Int32)) = (if ((p2.toInt64) * (p4.toInt64)) = ((p5.toInt64) * (p1.toInt64)) then (1 : Int32) else (0 : Int32))
    · have k5 : ∀ t, Steps p.tables e below (s₁.setTop (mkF m 77 #[.val (.double d0), .second, .val (.int p1), .val (.int p2), .val (.double d3), .second, .val (.int p4), .val (.int p5), .val (.long ((p2.toInt64) * (p4.toInt64))), .second, .val (.long ((p5.toInt64) * (p1.toInt64))), .second] [(.int (1 : Int32))])) t → Steps p.tables e below (s₁.setTop (entryFrame m #[(.double d0), (.int p1), (.int p2), (.double d3), (.int p4), (.int p5)] 12)) t := by
        intro t k
        refine k4 _ ?_
        show Steps p.tables e below (s₁.setTop (mkF m 69 #[.val (.double d0), .second, .val (.int p1), .val (.int p2), .val (.double d3), .second, .val (.int p4), .val (.int p5), .val (.long ((p2.toInt64) * (p4.toInt64))), .second, .val (.long ((p5.toInt64) * (p1.toInt64))), .second] [(.int (if ((p2.toInt64) * (p4.toInt64)) = ((p5.toInt64) * (p1.toInt64)) then (1 : Int32) else (0 : Int32))), (.int (if (cmpValue (FP.dcmp d0 d3) .l) = (0 : Int32) then (1 : Int32) else (0 : Int32)))])) _
        refine XS.icmpNo X0.here hx rfl (hb hby d6_69) rfl (teq hc69_6).2 ?_
        show Steps p.tables e below (s₁.setTop (mkF m 72 #[.val (.double d0), .second, .val (.int p1), .val (.int p2), .val (.double d3), .second, .val (.int p4), .val (.int p5), .val (.long ((p2.toInt64) * (p4.toInt64))), .second, .val (.long ((p5.toInt64) * (p1.toInt64))), .second] [])) _
        refine XS.iconst X0.here hx rfl (hb hby d6_72) ?_
        show Steps p.tables e below (s₁.setTop (mkF m 73 #[.val (.double d0), .second, .val (.int p1), .val (.int p2), .val (.double d3), .second, .val (.int p4), .val (.int p5), .val (.long ((p2.toInt64) * (p4.toInt64))), .second, .val (.long ((p5.toInt64) * (p1.toInt64))), .second] [(.int (1 : Int32))])) _
        refine XS.goto X0.here hx rfl (pc0 := 73) (pc' := 77) rfl (hb hby d6_73) (by decide) (by decide) ?_
        exact k
      obtain ⟨fs, hr, hrun, hended, hW, hsame⟩ := X0.leave (v := some (.int (1 : Int32))) (fun h => by rw [Bd.returns] at h; cases h)
      refine ⟨_, _, k5 _ ?_, hrun, hended, _, _, rfl, ?_, ⟨_, rfl⟩, hW, hsame.mono (by decide) (by decide)⟩
      · exact retN X0 hx (t := .boolean) Bd.returns (by simp) (hb hby d6_77) hr
      · show own_Q (some (.int (own_f6 d0 p1 p2 d3 p4 p5))) h0 n0 _ s₁.heap _
        rw [e0]
        exact ⟨by simp only [own_f6, if_pos hc41_3, if_pos hc69_6], N0, rfl⟩
    · have k6 : ∀ t, Steps p.tables e below (s₁.setTop (mkF m 77 #[.val (.double d0), .second, .val (.int p1), .val (.int p2), .val (.double d3), .second, .val (.int p4), .val (.int p5), .val (.long ((p2.toInt64) * (p4.toInt64))), .second, .val (.long ((p5.toInt64) * (p1.toInt64))), .second] [(.int (0 : Int32))])) t → Steps p.tables e below (s₁.setTop (entryFrame m #[(.double d0), (.int p1), (.int p2), (.double d3), (.int p4), (.int p5)] 12)) t := by
        intro t k
        refine k4 _ ?_
        show Steps p.tables e below (s₁.setTop (mkF m 69 #[.val (.double d0), .second, .val (.int p1), .val (.int p2), .val (.double d3), .second, .val (.int p4), .val (.int p5), .val (.long ((p2.toInt64) * (p4.toInt64))), .second, .val (.long ((p5.toInt64) * (p1.toInt64))), .second] [(.int (if ((p2.toInt64) * (p4.toInt64)) = ((p5.toInt64) * (p1.toInt64)) then (1 : Int32) else (0 : Int32))), (.int (if (cmpValue (FP.dcmp d0 d3) .l) = (0 : Int32) then (1 : Int32) else (0 : Int32)))])) _
        refine XS.icmpYes X0.here hx rfl (pc0 := 69) (pc' := 76) rfl (hb hby d6_69) rfl (feq hc69_6).2 (by decide) (by decide) ?_
        show Steps p.tables e below (s₁.setTop (mkF m 76 #[.val (.double d0), .second, .val (.int p1), .val (.int p2), .val (.double d3), .second, .val (.int p4), .val (.int p5), .val (.long ((p2.toInt64) * (p4.toInt64))), .second, .val (.long ((p5.toInt64) * (p1.toInt64))), .second] [])) _
        refine XS.iconst X0.here hx rfl (hb hby d6_76) ?_
        exact k
      obtain ⟨fs, hr, hrun, hended, hW, hsame⟩ := X0.leave (v := some (.int (0 : Int32))) (fun h => by rw [Bd.returns] at h; cases h)
      refine ⟨_, _, k6 _ ?_, hrun, hended, _, _, rfl, ?_, ⟨_, rfl⟩, hW, hsame.mono (by decide) (by decide)⟩
      · exact retN X0 hx (t := .boolean) Bd.returns (by simp) (hb hby d6_77) hr
      · show own_Q (some (.int (own_f6 d0 p1 p2 d3 p4 p5))) h0 n0 _ s₁.heap _
        rw [e0]
        exact ⟨by simp only [own_f6, if_pos hc41_3, if_neg hc69_6], N0, rfl⟩
  · have k7 : ∀ t, Steps p.tables e below (s₁.setTop (mkF m 77 #[.val (.double d0), .second, .val (.int p1), .val (.int p2), .val (.double d3), .second, .val (.int p4), .val (.int p5), .val (.long ((p2.toInt64) * (p4.toInt64))), .second, .val (.long ((p5.toInt64) * (p1.toInt64))), .second] [(.int (0 : Int32))])) t → Steps p.tables e below (s₁.setTop (entryFrame m #[(.double d0), (.int p1), (.int p2), (.double d3), (.int p4), (.int p5)] 12)) t := by
      intro t k
      refine k2 _ ?_
      show Steps p.tables e below (s₁.setTop (mkF m 41 #[.val (.double d0), .second, .val (.int p1), .val (.int p2), .val (.double d3), .second, .val (.int p4), .val (.int p5), .val (.long ((p2.toInt64) * (p4.toInt64))), .second, .val (.long ((p5.toInt64) * (p1.toInt64))), .second] [(.int (if ((p2.toInt64) * (p4.toInt64)) < ((p5.toInt64) * (p1.toInt64)) then (1 : Int32) else (0 : Int32))), (.int (if (cmpValue (FP.dcmp d0 d3) .g) < (0 : Int32) then (1 : Int32) else (0 : Int32)))])) _
      refine XS.icmpYes X0.here hx rfl (pc0 := 41) (pc' := 76) rfl (hb hby d6_41) rfl (feq hc41_3).2 (by decide) (by decide) ?_
      show Steps p.tables e below (s₁.setTop (mkF m 76 #[.val (.double d0), .second, .val (.int p1), .val (.int p2), .val (.double d3), .second, .val (.int p4), .val (.int p5), .val (.long ((p2.toInt64) * (p4.toInt64))), .second, .val (.long ((p5.toInt64) * (p1.toInt64))), .second] [])) _
      refine XS.iconst X0.here hx rfl (hb hby d6_76) ?_
      exact k
    obtain ⟨fs, hr, hrun, hended, hW, hsame⟩ := X0.leave (v := some (.int (0 : Int32))) (fun h => by rw [Bd.returns] at h; cases h)
    refine ⟨_, _, k7 _ ?_, hrun, hended, _, _, rfl, ?_, ⟨_, rfl⟩, hW, hsame.mono (by decide) (by decide)⟩
    · exact retN X0 hx (t := .boolean) Bd.returns (by simp) (hb hby d6_77) hr
    · show own_Q (some (.int (own_f6 d0 p1 p2 d3 p4 p5))) h0 n0 _ s₁.heap _
      rw [e0]
      exact ⟨by simp only [own_f6, if_neg hc41_3], N0, rfl⟩
theorem own_one : FP.Core.DInt 1 FP.dconst1 := by
  unfold FP.Core.DInt
  have e : FP.Core.val64 FP.dconst1 = .fin false (2 ^ 52) (-52) := FP.Core.val64_dconst1
  rw [e]
  show FP.Core.signed false _ = _
  decide +kernel
theorem own_nan {x : UInt64} (h : FP.Core.DFin x) : Jvm.Free.Fl.NoNaN64 x := Jvm.Free.Fl.noNaN64_no.mpr ((FP.Core.notNaN_iff _).mpr h.ne_nan)
def own_rg (a b : Int32) : Prop := 1 ≤ a.toInt ∧ a.toInt ≤ 1048576 ∧ 0 ≤ b.toInt ∧ b.toInt ≤ a.toInt
theorem own_di {b : Int32} (h : 0 ≤ b.toInt) : FP.Core.DInt ((b.toInt.toNat : Nat) : Int) (FP.i2d b) := by
  rw [Int.toNat_of_nonneg h]; exact FP.Core.i2d_int b
theorem own_d3 {a b : Int32} (h : own_rg a b) : FP.Core.DFin (FP.ddiv (FP.i2d b) (FP.i2d a)) ∧ FP.Core.DFin (FP.dmul (FP.ddiv (FP.i2d b) (FP.i2d a)) (FP.i2d a)) ∧ FP.Core.DFin (FP.dsub (FP.dmul (FP.ddiv (FP.i2d b) (FP.i2d a)) (FP.i2d a)) (FP.i2d b)) ∧ FP.Core.zval FP.Core.b64 (FP.Core.val64 (FP.dsub (FP.dmul (FP.ddiv (FP.i2d b) (FP.i2d a)) (FP.i2d a)) (FP.i2d b))) ≤ ((2 ^ 1041 : Nat) : Int) ∧ -((2 ^ 1041 : Nat) : Int) ≤ FP.Core.zval FP.Core.b64 (FP.Core.val64 (FP.dsub (FP.dmul (FP.ddiv (FP.i2d b) (FP.i2d a)) (FP.i2d a)) (FP.i2d b))) := by
  obtain ⟨h1, h2, h3, h4⟩ := h
  exact OwnF.own_dd (a := a.toInt.toNat) (b := b.toInt.toNat) (by omega) (by omega) (by omega) (own_di h3) (own_di (by omega))
theorem own_nn1 {a b : Int32} (h : own_rg a b) : Jvm.Free.Fl.NoNaN64 (FP.ddiv (FP.i2d b) (FP.i2d a)) := own_nan (own_d3 h).1
theorem own_nn2 {a b : Int32} (h : own_rg a b) : Jvm.Free.Fl.NoNaN64 (FP.dmul (own_bp a b) (FP.i2d a)) := own_nan (own_d3 h).2.1
theorem own_nn3 {a b : Int32} (h : own_rg a b) : Jvm.Free.Fl.NoNaN64 (FP.dsub (FP.dmul (own_bp a b) (FP.i2d a)) (FP.i2d b)) := own_nan (own_d3 h).2.2.1
theorem own_bz {b : Int32} (h3 : 0 ≤ b.toInt) : b = (0 : Int32) ↔ b.toInt.toNat = 0 := by
  have z0 : (0 : Int32).toInt = 0 := by decide
  rw [← Int32.toInt_inj]; omega
theorem own_be {a b : Int32} (h3 : 0 ≤ b.toInt) (h4 : 0 ≤ a.toInt) : b = a ↔ b.toInt.toNat = a.toInt.toNat := by
  rw [← Int32.toInt_inj]; omega
theorem own_fits {a b : Int32} (h : own_rg a b) : own_f5 (own_bp a b) a b = (1 : Int32) := by
  obtain ⟨-, -, fd, z1, z2⟩ := own_d3 h
  obtain ⟨h1, h2, h3, h4⟩ := h
  replace z1 : FP.Core.zval FP.Core.b64 (FP.Core.val64 (FP.dsub (FP.dmul (own_bp a b) (FP.i2d a)) (FP.i2d b))) ≤ ((2 ^ 1041 : Nat) : Int) := z1
  replace z2 : -((2 ^ 1041 : Nat) : Int) ≤ FP.Core.zval FP.Core.b64 (FP.Core.val64 (FP.dsub (FP.dmul (own_bp a b) (FP.i2d a)) (FP.i2d b))) := z2
  obtain ⟨M, e, m0, m1, m2, m3, -, -⟩ := OwnF.own_q (a := a.toInt.toNat) (b := b.toInt.toNat) (by omega) (by omega) (by omega) (own_di h3) (own_di (by omega))
  have hP := OwnF.own_P_pos
  have c0 : FP.dcmp FP.dconst0 (own_bp a b) = some (compare 0 (M : Int)) := OwnF.own_zero.cmp e
  have c1 : FP.dcmp (own_bp a b) FP.dconst0 = some (compare (M : Int) 0) := e.cmp OwnF.own_zero
  have c2 : FP.dcmp (own_bp a b) FP.dconst1 = some (compare (M : Int) (1 * (OwnF.own_P : Int))) := e.cmp (OwnF.own_whole own_one)
  rw [Int.one_mul] at c2
  have hle : M ≤ OwnF.own_P := by
    rcases Nat.lt_or_ge b.toInt.toNat a.toInt.toNat with g | g
    · exact Nat.le_of_lt (m3 g)
    · exact Nat.le_of_eq (m1 (by omega))
  have p1 : ¬ (0 : Int32) < (cmpValue (FP.dcmp FP.dconst0 (own_bp a b)) .g) := by
    rw [c0]
    rcases Nat.eq_zero_or_pos M with g | g
    · rw [Int.compare_eq_eq.mpr (by omega)]; decide
    · rw [Int.compare_eq_lt.mpr (by omega)]; decide
  have p2 : ¬ (0 : Int32) < (cmpValue (FP.dcmp (own_bp a b) FP.dconst1) .g) := by
    rw [c2]
    rcases Nat.eq_or_lt_of_le hle with g | g
    · rw [Int.compare_eq_eq.mpr (by omega)]; decide
    · rw [Int.compare_eq_lt.mpr (by omega)]; decide
  have p3 : (if (cmpValue (FP.dcmp (own_bp a b) FP.dconst0) .l) = (0 : Int32) then (1 : Int32) else (0 : Int32)) = (if b = (0 : Int32) then (1 : Int32) else (0 : Int32)) := by
    by_cases g : b = (0 : Int32)
    · rw [if_pos g, c1, Int.compare_eq_eq.mpr (by have := m0 ((own_bz h3).mp g); omega)]; decide
    · have g' : 0 < b.toInt.toNat := Nat.pos_of_ne_zero fun q => g ((own_bz h3).mpr q)
      rw [if_neg g, c1, Int.compare_eq_gt.mpr (by have := m2 g'; omega)]; decide
  have p4 : (if (cmpValue (FP.dcmp (own_bp a b) FP.dconst1) .l) = (0 : Int32) then (1 : Int32) else (0 : Int32)) = (if b = a then (1 : Int32) else (0 : Int32)) := by
    by_cases g : b = a
    · rw [if_pos g, c2, Int.compare_eq_eq.mpr (by have := m1 ((own_be h3 (by omega)).mp g); omega)]; decide
    · have g' : b.toInt.toNat < a.toInt.toNat := Nat.lt_of_le_of_ne (by omega) fun q => g ((own_be h3 (by omega)).mpr q)
      rw [if_neg g, c2, Int.compare_eq_lt.mpr (by have := m3 g'; omega)]; decide
  have hE : (2 : Nat) ^ 1041 < 2 ^ 1042 := Nat.pow_lt_pow_right (by decide) (by decide)
  have p5 : (cmpValue (FP.dcmp (FP.dneg (4463067230724161536 : UInt64)) (FP.dsub (FP.dmul (own_bp a b) (FP.i2d a)) (FP.i2d b))) .g) < (0 : Int32) := by
    have nd : FP.Core.val64 (FP.dneg (4463067230724161536 : UInt64)) ≠ .nan := by
      show FP.Core.val64 (FP.Core.dneg (4463067230724161536 : UInt64)) ≠ .nan
      rw [FP.Core.val64_dneg]; exact FP.Core.negate_ne_nan OwnF.own_epsn
    have zn : FP.Core.zval FP.Core.b64 (FP.Core.val64 (FP.dneg (4463067230724161536 : UInt64))) = -((2 ^ 1042 : Nat) : Int) := by
      show FP.Core.zval FP.Core.b64 (FP.Core.val64 (FP.Core.dneg (4463067230724161536 : UInt64))) = _
      rw [FP.Core.val64_dneg, FP.Core.zval_negate, OwnF.own_eps]
    have c : FP.dcmp (FP.dneg (4463067230724161536 : UInt64)) (FP.dsub (FP.dmul (own_bp a b) (FP.i2d a)) (FP.i2d b)) = _ := FP.Core.dcmp_zval nd fd.ne_nan
    rw [c, zn, Int.compare_eq_lt.mpr (by
      generalize (2 : Nat) ^ 1041 = x at *
      generalize (2 : Nat) ^ 1042 = y at *
      omega)]
    decide
  have p6 : (cmpValue (FP.dcmp (FP.dsub (FP.dmul (own_bp a b) (FP.i2d a)) (FP.i2d b)) (4463067230724161536 : UInt64)) .g) < (0 : Int32) := by
    have c : FP.dcmp (FP.dsub (FP.dmul (own_bp a b) (FP.i2d a)) (FP.i2d b)) (4463067230724161536 : UInt64) = _ := FP.Core.dcmp_zval fd.ne_nan OwnF.own_epsn
    rw [c, OwnF.own_eps, Int.compare_eq_lt.mpr (by
      generalize (2 : Nat) ^ 1041 = x at *
      generalize (2 : Nat) ^ 1042 = y at *
      omega)]
    decide
  rw [own_f5, if_neg p1, if_neg p2, if_pos p3, if_pos p4, if_pos p5, if_pos p6]
theorem own_prod {a b : Int32} (h1 : 0 ≤ a.toInt) (h2 : a.toInt ≤ 1048576) (h3 : 0 ≤ b.toInt) (h4 : b.toInt ≤ 1048576) : (b.toInt64 * a.toInt64).toInt = ((b.toInt.toNat * a.toInt.toNat : Nat) : Int) := by
  have l := c_lmul b.toInt64 a.toInt64
  have g := rng64 (b.toInt64 * a.toInt64)
  rw [c_i2l b, c_i2l a] at l
  have pb : 0 ≤ b.toInt * a.toInt ∧ b.toInt * a.toInt ≤ 1048576 * 1048576 := ⟨Int.mul_nonneg h3 h1, Int.mul_le_mul (by omega) (by omega) h1 (by omega)⟩
  rw [Int.natCast_mul, Int.toNat_of_nonneg h3, Int.toNat_of_nonneg h1]
  generalize b.toInt * a.toInt = z at *
  omega
theorem own_ord {a b c d : Int32} (h : own_rg a b) (k : own_rg c d) : own_f6 (own_bp a b) a b (own_bp c d) c d = (1 : Int32) := by
  obtain ⟨h1, h2, h3, h4⟩ := h
  obtain ⟨k1, k2, k3, k4⟩ := k
  obtain ⟨M, e, m0, -, -, -, l1, l2⟩ := OwnF.own_q (a := a.toInt.toNat) (b := b.toInt.toNat) (by omega) (by omega) (by omega) (own_di h3) (own_di (by omega))
  obtain ⟨N, f, n0, -, -, -, r1, r2⟩ := OwnF.own_q (a := c.toInt.toNat) (b := d.toInt.toNat) (by omega) (by omega) (by omega) (own_di k3) (own_di (by omega))
  have e1 : FP.dcmp (own_bp a b) (own_bp c d) = some (compare (M : Int) (N : Int)) := e.cmp f
  have pl := own_prod (a := c) (b := b) (by omega) k2 h3 (by omega)
  have pr := own_prod (a := a) (b := d) (by omega) h2 k3 (by omega)
  rcases Nat.lt_trichotomy (b.toInt.toNat * c.toInt.toNat) (d.toInt.toNat * a.toInt.toNat) with g | g | g
  · have q := OwnF.own_lt (by omega) (by omega) (by omega) (by omega) l2 r1 g
    have t1 : (b.toInt64 * c.toInt64) < (d.toInt64 * a.toInt64) := by rw [Int64.lt_iff_toInt_lt, pl, pr]; omega
    have t2 : ¬ (b.toInt64 * c.toInt64) = (d.toInt64 * a.toInt64) := by rw [← Int64.toInt_inj, pl, pr]; omega
    rw [own_f6, e1, Int.compare_eq_lt.mpr (by omega), if_pos t1, if_neg t2]; decide
  · have q : M = N := by
      rcases Nat.eq_zero_or_pos b.toInt.toNat with z | z
      · have z2 : d.toInt.toNat = 0 := by
          rw [z, Nat.zero_mul] at g
          rcases Nat.mul_eq_zero.mp g.symm with y | y
          · exact y
          · omega
        rw [m0 z, n0 z2]
      · have v := OwnF.own_same (by omega) (by omega) (own_di h3) (own_di (b := a) (by omega)) (own_di k3) (own_di (b := c) (by omega)) z g
        have v1 := e.z.2
        have v2 := f.z.2
        rw [v, v2] at v1
        omega
    have t1 : ¬ (b.toInt64 * c.toInt64) < (d.toInt64 * a.toInt64) := by rw [Int64.lt_iff_toInt_lt, pl, pr]; omega
    have t2 : (b.toInt64 * c.toInt64) = (d.toInt64 * a.toInt64) := by rw [← Int64.toInt_inj, pl, pr]; omega
    rw [own_f6, e1, Int.compare_eq_eq.mpr (by omega), if_neg t1, if_pos t2]; decide
  · have q := OwnF.own_lt (by omega) (by omega) (by omega) (by omega) r2 l1 g
    have t1 : ¬ (b.toInt64 * c.toInt64) < (d.toInt64 * a.toInt64) := by rw [Int64.lt_iff_toInt_lt, pl, pr]; omega
    have t2 : ¬ (b.toInt64 * c.toInt64) = (d.toInt64 * a.toInt64) := by rw [← Int64.toInt_inj, pl, pr]; omega
    rw [own_f6, e1, Int.compare_eq_gt.mpr (by omega), if_neg t1, if_neg t2]; decide
theorem own_a (x : Int32) : 1 ≤ ((1 : Int32) + (x &&& (1048575 : Int32))).toInt ∧ ((1 : Int32) + (x &&& (1048575 : Int32))).toInt ≤ 1048576 := by
  have a := c_mask x 1048575 20 (by decide) (by decide)
  have d := c_iadd 1 (x &&& (1048575 : Int32))
  have z1 : (1 : Int32).toInt = 1 := by decide
  have r := rng32 ((1 : Int32) + (x &&& (1048575 : Int32)))
  omega
theorem own_a1 (x : Int32) : (((1 : Int32) + (x &&& (1048575 : Int32))) + (1 : Int32)).toInt = ((1 : Int32) + (x &&& (1048575 : Int32))).toInt + 1 := by
  have a := own_a x
  have d := c_iadd ((1 : Int32) + (x &&& (1048575 : Int32))) 1
  have z1 : (1 : Int32).toInt = 1 := by decide
  have r := rng32 (((1 : Int32) + (x &&& (1048575 : Int32))) + (1 : Int32))
  omega
theorem own_nz (x : Int32) : ¬ (((1 : Int32) + (x &&& (1048575 : Int32))) + (1 : Int32)) = (0 : Int32) := by
  have a := own_a x
  have d := own_a1 x
  have z0 : (0 : Int32).toInt = 0 := by decide
  rw [← Int32.toInt_inj]
  omega
theorem own_b (x y : Int32) : own_rg ((1 : Int32) + (x &&& (1048575 : Int32))) ((y &&& (2147483647 : Int32)) % (((1 : Int32) + (x &&& (1048575 : Int32))) + (1 : Int32))) := by
  have a := own_a x
  have d := own_a1 x
  have k := c_mask y 2147483647 31 (by decide) (by decide)
  have rr := (c_iremV (y &&& 2147483647) (((1 : Int32) + (x &&& (1048575 : Int32))) + (1 : Int32))).1 (by omega) (by omega)
  unfold own_rg
  omega
theorem own_n1 {x : Int32} (h : x = (1 : Int32)) : ¬ x = (0 : Int32) := by rw [h]; decide
theorem ef_rm0 (m : MethodId) (x0 : Int32) (x1 : Int32) (x2 : Int32) (x3 : Int32) (x4 : Int32) (x5 : Int64) : entryFrame m #[(.int x0), (.int x1), (.int x2), (.int x3), (.int x4), (.long x5)] maxLocals = mkF m 0 #[.val (.int x0), .val (.int x1), .val (.int x2), .val (.int x3), .val (.int x4), .val (.long x5), .second, .unset, .unset, .unset, .unset, .unset, .unset, .unset, .unset, .unset, .unset] [] := by first | (simp [entryFrame, mkF, argsToLocals, Value.category, maxLocals]; done) | rfl
theorem pd_1 : parseMethodDescriptor "(IIDJ)V" = some ⟨[.int, .int, .double, .long], none⟩ := by decide +kernel
theorem pd_2 : parseMethodDescriptor "()D" = some ⟨[], some .double⟩ := by decide +kernel
theorem pd_3 : parseMethodDescriptor "(DII)Z" = some ⟨[.double, .int, .int], some .boolean⟩ := by decide +kernel
theorem pd_4 : parseMethodDescriptor "(DIIDII)Z" = some ⟨[.double, .int, .int, .double, .int, .int], some .boolean⟩ := by decide +kernel
set_option maxRecDepth 65536 in
set_option maxHeartbeats 40000000 in
theorem rm0 (l : Launch) (Z : State) (a0 : Array Value) (hw : ∀ d ∈ tables_1, d.before a0 Z = true) (ws : List Jvm.Cond) (p0 : Int32) (p1 : Int32) (p2 : Int32) (p3 : Int32) (p4 : Int32) (q5 : Int64) (h0 : Heap) (n0 : Nat) (Z0 : n0 ≤ h0.size) :
    MetFree l x (head1 (Jvm.Cond.code x code maxLocals ret :: ws) room_1) (fun a U => a = #[(.int p0), (.int p1), (.int p2), (.int p3), (.int p4), (.long q5)] ∧ Z.Warmed39 U.vm ∧ U.heap = h0) (fun _ _ _ _ _ => True) (fun _ U o U' => ∃ v L, o = .returned v ∧ own_R (some (.int 1)) n0 v U'.heap L ∧ FrameEnd U o U' L room_1.cells room_1.slots) := by
  refine MetFree.of_bodySF (plainFor_of_name pn_2) hisR ?_
  intro p e s m args below meth c s₁ Bd hml0 hP hK
  obtain ⟨rfl, hZ, hh⟩ := hP
  have hx := Bd.exec
  have hby := Bd.bytes
  have hml : c.maxLocals = 17 := hml0
  have hown : s.vm.findClass "com/example/lightloom/lightloom/plan/ResultBlockingProbabilityPinLaw" = some m.cls := findClass_of_methodNamed Bd.named
  have hnm := (name_of_methodNamed Bd.named Bd.method).1
  have X0 : Stand p l e room_1 s m #[(.int p0), (.int p1), (.int p2), (.int p3), (.int p4), (.long q5)] below meth c s₁ [] 0 0 := Stand.of_body Bd
  have e0 : s₁.heap = h0 := by rw [← hh, Bd.state]; rfl
  have N0 := Fr.nil n0
  have pre0 : ∀ t, Steps p.tables e below (s₁.setTop (mkF m 0 #[.val (.int p0), .val (.int p1), .val (.int p2), .val (.int p3), .val (.int p4), .val (.long q5), .second, .unset, .unset, .unset, .unset, .unset, .unset, .unset, .unset, .unset, .unset] [])) t → Steps p.tables e below (s₁.setTop (entryFrame m #[(.int p0), (.int p1), (.int p2), (.int p3), (.int p4), (.long q5)] maxLocals)) t := fun t k => castTop (ef_rm0 m p0 p1 p2 p3 p4 q5) k
  have k1 : ∀ t, Steps p.tables e below (s₁.setTop (mkF m 38 #[.val (.int p0), .val (.int p1), .val (.int p2), .val (.int p3), .val (.int p4), .val (.long q5), .second, .val (.int ((1 : Int32) + (p0 &&& (1048575 : Int32)))), .val (.int ((p1 &&& (2147483647 : Int32)) % (((1 : Int32) + (p0 &&& (1048575 : Int32))) + (1 : Int32)))), .val (.int ((1 : Int32) + (p2 &&& (1048575 : Int32)))), .val (.int ((p3 &&& (2147483647 : Int32)) % (((1 : Int32) + (p2 &&& (1048575 : Int32))) + (1 : Int32)))), .unset, .unset, .unset, .unset, .unset, .unset] [])) t → Steps p.tables e below (s₁.setTop (entryFrame m #[(.int p0), (.int p1), (.int p2), (.int p3), (.int p4), (.long q5)] maxLocals)) t := by
    intro t k
    refine pre0 _ ?_
    show Steps p.tables e below (s₁.setTop (mkF m 0 #[.val (.int p0), .val (.int p1), .val (.int p2), .val (.int p3), .val (.int p4), .val (.long q5), .second, .unset, .unset, .unset, .unset, .unset, .unset, .unset, .unset, .unset, .unset] [])) _
    refine XS.iconst X0.here hx rfl (hb hby at_0) ?_
    show Steps p.tables e below (s₁.setTop (mkF m 1 #[.val (.int p0), .val (.int p1), .val (.int p2), .val (.int p3), .val (.int p4), .val (.long q5), .second, .unset, .unset, .unset, .unset, .unset, .unset, .unset, .unset, .unset, .unset] [(.int (1 : Int32))])) _
    refine XS.iloadN X0.here hx rfl (hb hby at_1) rfl ?_
    show Steps p.tables e below (s₁.setTop (mkF m 2 #[.val (.int p0), .val (.int p1), .val (.int p2), .val (.int p3), .val (.int p4), .val (.long q5), .second, .unset, .unset, .unset, .unset, .unset, .unset, .unset, .unset, .unset, .unset] [(.int p0), (.int (1 : Int32))])) _
    refine X0.ldcInt hx hown (mvT hZ (hw _ (List.mem_of_getElem? (i := 0) rfl))) (g := (mkF m 2 #[.val (.int p0), .val (.int p1), .val (.int p2), .val (.int p3), .val (.int p4), .val (.long q5), .second, .unset, .unset, .unset, .unset, .unset, .unset, .unset, .unset, .unset, .unset] [(.int p0), (.int (1 : Int32))])) rfl (hb hby at_2) _ ?_
    show Steps p.tables e below (s₁.setTop (mkF m 4 #[.val (.int p0), .val (.int p1), .val (.int p2), .val (.int p3), .val (.int p4), .val (.long q5), .second, .unset, .unset, .unset, .unset, .unset, .unset, .unset, .unset, .unset, .unset] [(.int (1048575 : Int32)), (.int p0), (.int (1 : Int32))])) _
    refine XS.iand X0.here hx rfl (hb hby at_4) rfl ?_
    show Steps p.tables e below (s₁.setTop (mkF m 5 #[.val (.int p0), .val (.int p1), .val (.int p2), .val (.int p3), .val (.int p4), .val (.long q5), .second, .unset, .unset, .unset, .unset, .unset, .unset, .unset, .unset, .unset, .unset] [(.int (p0 &&& (1048575 : Int32))), (.int (1 : Int32))])) _
    refine XS.iadd X0.here hx rfl (hb hby at_5) rfl ?_
    show Steps p.tables e below (s₁.setTop (mkF m 6 #[.val (.int p0), .val (.int p1), .val (.int p2), .val (.int p3), .val (.int p4), .val (.long q5), .second, .unset, .unset, .unset, .unset, .unset, .unset, .unset, .unset, .unset, .unset] [(.int ((1 : Int32) + (p0 &&& (1048575 : Int32))))])) _
    refine XS.istore X0.here hx rfl (hb hby at_6) rfl (l' := #[.val (.int p0), .val (.int p1), .val (.int p2), .val (.int p3), .val (.int p4), .val (.long q5), .second, .val (.int ((1 : Int32) + (p0 &&& (1048575 : Int32)))), .unset, .unset, .unset, .unset, .unset, .unset, .unset, .unset, .unset]) rfl ?_
    show Steps p.tables e below (s₁.setTop (mkF m 8 #[.val (.int p0), .val (.int p1), .val (.int p2), .val (.int p3), .val (.int p4), .val (.long q5), .second, .val (.int ((1 : Int32) + (p0 &&& (1048575 : Int32)))), .unset, .unset, .unset, .unset, .unset, .unset, .unset, .unset, .unset] [])) _
    refine XS.iloadN X0.here hx rfl (hb hby at_8) rfl ?_
    show Steps p.tables e below (s₁.setTop (mkF m 9 #[.val (.int p0), .val (.int p1), .val (.int p2), .val (.int p3), .val (.int p4), .val (.long q5), .second, .val (.int ((1 : Int32) + (p0 &&& (1048575 : Int32)))), .unset, .unset, .unset, .unset, .unset, .unset, .unset, .unset, .unset] [(.int p1)])) _
    refine X0.ldcInt hx hown (mvT hZ (hw _ (List.mem_of_getElem? (i := 1) rfl))) (g := (mkF m 9 #[.val (.int p0), .val (.int p1), .val (.int p2), .val (.int p3), .val (.int p4), .val (.long q5), .second, .val (.int ((1 : Int32) + (p0 &&& (1048575 : Int32)))), .unset, .unset, .unset, .unset, .unset, .unset, .unset, .unset, .unset] [(.int p1)])) rfl (hb hby at_9) _ ?_
    show Steps p.tables e below (s₁.setTop (mkF m 11 #[.val (.int p0), .val (.int p1), .val (.int p2), .val (.int p3), .val (.int p4), .val (.long q5), .second, .val (.int ((1 : Int32) + (p0 &&& (1048575 : Int32)))), .unset, .unset, .unset, .unset, .unset, .unset, .unset, .unset, .unset] [(.int (2147483647 : Int32)), (.int p1)])) _
    refine XS.iand X0.here hx rfl (hb hby at_11) rfl ?_
    show Steps p.tables e below (s₁.setTop (mkF m 12 #[.val (.int p0), .val (.int p1), .val (.int p2), .val (.int p3), .val (.int p4), .val (.long q5), .second, .val (.int ((1 : Int32) + (p0 &&& (1048575 : Int32)))), .unset, .unset, .unset, .unset, .unset, .unset, .unset, .unset, .unset] [(.int (p1 &&& (2147483647 : Int32)))])) _
    refine XS.iload X0.here hx rfl (hb hby at_12) rfl ?_
    show Steps p.tables e below (s₁.setTop (mkF m 14 #[.val (.int p0), .val (.int p1), .val (.int p2), .val (.int p3), .val (.int p4), .val (.long q5), .second, .val (.int ((1 : Int32) + (p0 &&& (1048575 : Int32)))), .unset, .unset, .unset, .unset, .unset, .unset, .unset, .unset, .unset] [(.int ((1 : Int32) + (p0 &&& (1048575 : Int32)))), (.int (p1 &&& (2147483647 : Int32)))])) _
    refine XS.iconst X0.here hx rfl (hb hby at_14) ?_
    show Steps p.tables e below (s₁.setTop (mkF m 15 #[.val (.int p0), .val (.int p1), .val (.int p2), .val (.int p3), .val (.int p4), .val (.long q5), .second, .val (.int ((1 : Int32) + (p0 &&& (1048575 : Int32)))), .unset, .unset, .unset, .unset, .unset, .unset, .unset, .unset, .unset] [(.int (1 : Int32)), (.int ((1 : Int32) + (p0 &&& (1048575 : Int32)))), (.int (p1 &&& (2147483647 : Int32)))])) _
    refine XS.iadd X0.here hx rfl (hb hby at_15) rfl ?_
    show Steps p.tables e below (s₁.setTop (mkF m 16 #[.val (.int p0), .val (.int p1), .val (.int p2), .val (.int p3), .val (.int p4), .val (.long q5), .second, .val (.int ((1 : Int32) + (p0 &&& (1048575 : Int32)))), .unset, .unset, .unset, .unset, .unset, .unset, .unset, .unset, .unset] [(.int (((1 : Int32) + (p0 &&& (1048575 : Int32))) + (1 : Int32))), (.int (p1 &&& (2147483647 : Int32)))])) _
    refine iremM X0 hx rfl (hb hby at_16) rfl (own_nz p0) ?_
    show Steps p.tables e below (s₁.setTop (mkF m 17 #[.val (.int p0), .val (.int p1), .val (.int p2), .val (.int p3), .val (.int p4), .val (.long q5), .second, .val (.int ((1 : Int32) + (p0 &&& (1048575 : Int32)))), .unset, .unset, .unset, .unset, .unset, .unset, .unset, .unset, .unset] [(.int ((p1 &&& (2147483647 : Int32)) % (((1 : Int32) + (p0 &&& (1048575 : Int32))) + (1 : Int32))))])) _
    refine XS.istore X0.here hx rfl (hb hby at_17) rfl (l' := #[.val (.int p0), .val (.int p1), .val (.int p2), .val (.int p3), .val (.int p4), .val (.long q5), .second, .val (.int ((1 : Int32) + (p0 &&& (1048575 : Int32)))), .val (.int ((p1 &&& (2147483647 : Int32)) % (((1 : Int32) + (p0 &&& (1048575 : Int32))) + (1 : Int32)))), .unset, .unset, .unset, .unset, .unset, .unset, .unset, .unset]) rfl ?_
    show Steps p.tables e below (s₁.setTop (mkF m 19 #[.val (.int p0), .val (.int p1), .val (.int p2), .val (.int p3), .val (.int p4), .val (.long q5), .second, .val (.int ((1 : Int32) + (p0 &&& (1048575 : Int32)))), .val (.int ((p1 &&& (2147483647 : Int32)) % (((1 : Int32) + (p0 &&& (1048575 : Int32))) + (1 : Int32)))), .unset, .unset, .unset, .unset, .unset, .unset, .unset, .unset] [])) _
    refine XS.iconst X0.here hx rfl (hb hby at_19) ?_
    show Steps p.tables e below (s₁.setTop (mkF m 20 #[.val (.int p0), .val (.int p1), .val (.int p2), .val (.int p3), .val (.int p4), .val (.long q5), .second, .val (.int ((1 : Int32) + (p0 &&& (1048575 : Int32)))), .val (.int ((p1 &&& (2147483647 : Int32)) % (((1 : Int32) + (p0 &&& (1048575 : Int32))) + (1 : Int32)))), .unset, .unset, .unset, .unset, .unset, .unset, .unset, .unset] [(.int (1 : Int32))])) _
    refine XS.iloadN X0.here hx rfl (hb hby at_20) rfl ?_
    show Steps p.tables e below (s₁.setTop (mkF m 21 #[.val (.int p0), .val (.int p1), .val (.int p2), .val (.int p3), .val (.int p4), .val (.long q5), .second, .val (.int ((1 : Int32) + (p0 &&& (1048575 : Int32)))), .val (.int ((p1 &&& (2147483647 : Int32)) % (((1 : Int32) + (p0 &&& (1048575 : Int32))) + (1 : Int32)))), .unset, .unset, .unset, .unset, .unset, .unset, .unset, .unset] [(.int p2), (.int (1 : Int32))])) _
    refine X0.ldcInt hx hown (mvT hZ (hw _ (List.mem_of_getElem? (i := 0) rfl))) (g := (mkF m 21 #[.val (.int p0), .val (.int p1), .val (.int p2), .val (.int p3), .val (.int p4), .val (.long q5), .second, .val (.int ((1 : Int32) + (p0 &&& (1048575 : Int32)))), .val (.int ((p1 &&& (2147483647 : Int32)) % (((1 : Int32) + (p0 &&& (1048575 : Int32))) + (1 : Int32)))), .unset, .unset, .unset, .unset, .unset, .unset, .unset, .unset] [(.int p2), (.int (1 : Int32))])) rfl (hb hby at_21) _ ?_
    show Steps p.tables e below (s₁.setTop (mkF m 23 #[.val (.int p0), .val (.int p1), .val (.int p2), .val (.int p3), .val (.int p4), .val (.long q5), .second, .val (.int ((1 : Int32) + (p0 &&& (1048575 : Int32)))), .val (.int ((p1 &&& (2147483647 : Int32)) % (((1 : Int32) + (p0 &&& (1048575 : Int32))) + (1 : Int32)))), .unset, .unset, .unset, .unset, .unset, .unset, .unset, .unset] [(.int (1048575 : Int32)), (.int p2), (.int (1 : Int32))])) _
    refine XS.iand X0.here hx rfl (hb hby at_23) rfl ?_
    show Steps p.tables e below (s₁.setTop (mkF m 24 #[.val (.int p0), .val (.int p1), .val (.int p2), .val (.int p3), .val (.int p4), .val (.long q5), .second, .val (.int ((1 : Int32) + (p0 &&& (1048575 : Int32)))), .val (.int ((p1 &&& (2147483647 : Int32)) % (((1 : Int32) + (p0 &&& (1048575 : Int32))) + (1 : Int32)))), .unset, .unset, .unset, .unset, .unset, .unset, .unset, .unset] [(.int (p2 &&& (1048575 : Int32))), (.int (1 : Int32))])) _
    refine XS.iadd X0.here hx rfl (hb hby at_24) rfl ?_
    show Steps p.tables e below (s₁.setTop (mkF m 25 #[.val (.int p0), .val (.int p1), .val (.int p2), .val (.int p3), .val (.int p4), .val (.long q5), .second, .val (.int ((1 : Int32) + (p0 &&& (1048575 : Int32)))), .val (.int ((p1 &&& (2147483647 : Int32)) % (((1 : Int32) + (p0 &&& (1048575 : Int32))) + (1 : Int32)))), .unset, .unset, .unset, .unset, .unset, .unset, .unset, .unset] [(.int ((1 : Int32) + (p2 &&& (1048575 : Int32))))])) _
    refine XS.istore X0.here hx rfl (hb hby at_25) rfl (l' := #[.val (.int p0), .val (.int p1), .val (.int p2), .val (.int p3), .val (.int p4), .val (.long q5), .second, .val (.int ((1 : Int32) + (p0 &&& (1048575 : Int32)))), .val (.int ((p1 &&& (2147483647 : Int32)) % (((1 : Int32) + (p0 &&& (1048575 : Int32))) + (1 : Int32)))), .val (.int ((1 : Int32) + (p2 &&& (1048575 : Int32)))), .unset, .unset, .unset, .unset, .unset, .unset, .unset]) rfl ?_
    show Steps p.tables e below (s₁.setTop (mkF m 27 #[.val (.int p0), .val (.int p1), .val (.int p2), .val (.int p3), .val (.int p4), .val (.long q5), .second, .val (.int ((1 : Int32) + (p0 &&& (1048575 : Int32)))), .val (.int ((p1 &&& (2147483647 : Int32)) % (((1 : Int32) + (p0 &&& (1048575 : Int32))) + (1 : Int32)))), .val (.int ((1 : Int32) + (p2 &&& (1048575 : Int32)))), .unset, .unset, .unset, .unset, .unset, .unset, .unset] [])) _
    refine XS.iloadN X0.here hx rfl (hb hby at_27) rfl ?_
    show Steps p.tables e below (s₁.setTop (mkF m 28 #[.val (.int p0), .val (.int p1), .val (.int p2), .val (.int p3), .val (.int p4), .val (.long q5), .second, .val (.int ((1 : Int32) + (p0 &&& (1048575 : Int32)))), .val (.int ((p1 &&& (2147483647 : Int32)) % (((1 : Int32) + (p0 &&& (1048575 : Int32))) + (1 : Int32)))), .val (.int ((1 : Int32) + (p2 &&& (1048575 : Int32)))), .unset, .unset, .unset, .unset, .unset, .unset, .unset] [(.int p3)])) _
    refine X0.ldcInt hx hown (mvT hZ (hw _ (List.mem_of_getElem? (i := 1) rfl))) (g := (mkF m 28 #[.val (.int p0), .val (.int p1), .val (.int p2), .val (.int p3), .val (.int p4), .val (.long q5), .second, .val (.int ((1 : Int32) + (p0 &&& (1048575 : Int32)))), .val (.int ((p1 &&& (2147483647 : Int32)) % (((1 : Int32) + (p0 &&& (1048575 : Int32))) + (1 : Int32)))), .val (.int ((1 : Int32) + (p2 &&& (1048575 : Int32)))), .unset, .unset, .unset, .unset, .unset, .unset, .unset] [(.int p3)])) rfl (hb hby at_28) _ ?_
    show Steps p.tables e below (s₁.setTop (mkF m 30 #[.val (.int p0), .val (.int p1), .val (.int p2), .val (.int p3), .val (.int p4), .val (.long q5), .second, .val (.int ((1 : Int32) + (p0 &&& (1048575 : Int32)))), .val (.int ((p1 &&& (2147483647 : Int32)) % (((1 : Int32) + (p0 &&& (1048575 : Int32))) + (1 : Int32)))), .val (.int ((1 : Int32) + (p2 &&& (1048575 : Int32)))), .unset, .unset, .unset, .unset, .unset, .unset, .unset] [(.int (2147483647 : Int32)), (.int p3)])) _
    refine XS.iand X0.here hx rfl (hb hby at_30) rfl ?_
    show Steps p.tables e below (s₁.setTop (mkF m 31 #[.val (.int p0), .val (.int p1), .val (.int p2), .val (.int p3), .val (.int p4), .val (.long q5), .second, .val (.int ((1 : Int32) + (p0 &&& (1048575 : Int32)))), .val (.int ((p1 &&& (2147483647 : Int32)) % (((1 : Int32) + (p0 &&& (1048575 : Int32))) + (1 : Int32)))), .val (.int ((1 : Int32) + (p2 &&& (1048575 : Int32)))), .unset, .unset, .unset, .unset, .unset, .unset, .unset] [(.int (p3 &&& (2147483647 : Int32)))])) _
    refine XS.iload X0.here hx rfl (hb hby at_31) rfl ?_
    show Steps p.tables e below (s₁.setTop (mkF m 33 #[.val (.int p0), .val (.int p1), .val (.int p2), .val (.int p3), .val (.int p4), .val (.long q5), .second, .val (.int ((1 : Int32) + (p0 &&& (1048575 : Int32)))), .val (.int ((p1 &&& (2147483647 : Int32)) % (((1 : Int32) + (p0 &&& (1048575 : Int32))) + (1 : Int32)))), .val (.int ((1 : Int32) + (p2 &&& (1048575 : Int32)))), .unset, .unset, .unset, .unset, .unset, .unset, .unset] [(.int ((1 : Int32) + (p2 &&& (1048575 : Int32)))), (.int (p3 &&& (2147483647 : Int32)))])) _
    refine XS.iconst X0.here hx rfl (hb hby at_33) ?_
    show Steps p.tables e below (s₁.setTop (mkF m 34 #[.val (.int p0), .val (.int p1), .val (.int p2), .val (.int p3), .val (.int p4), .val (.long q5), .second, .val (.int ((1 : Int32) + (p0 &&& (1048575 : Int32)))), .val (.int ((p1 &&& (2147483647 : Int32)) % (((1 : Int32) + (p0 &&& (1048575 : Int32))) + (1 : Int32)))), .val (.int ((1 : Int32) + (p2 &&& (1048575 : Int32)))), .unset, .unset, .unset, .unset, .unset, .unset, .unset] [(.int (1 : Int32)), (.int ((1 : Int32) + (p2 &&& (1048575 : Int32)))), (.int (p3 &&& (2147483647 : Int32)))])) _
    refine XS.iadd X0.here hx rfl (hb hby at_34) rfl ?_
    show Steps p.tables e below (s₁.setTop (mkF m 35 #[.val (.int p0), .val (.int p1), .val (.int p2), .val (.int p3), .val (.int p4), .val (.long q5), .second, .val (.int ((1 : Int32) + (p0 &&& (1048575 : Int32)))), .val (.int ((p1 &&& (2147483647 : Int32)) % (((1 : Int32) + (p0 &&& (1048575 : Int32))) + (1 : Int32)))), .val (.int ((1 : Int32) + (p2 &&& (1048575 : Int32)))), .unset, .unset, .unset, .unset, .unset, .unset, .unset] [(.int (((1 : Int32) + (p2 &&& (1048575 : Int32))) + (1 : Int32))), (.int (p3 &&& (2147483647 : Int32)))])) _
    refine iremM X0 hx rfl (hb hby at_35) rfl (own_nz p2) ?_
    show Steps p.tables e below (s₁.setTop (mkF m 36 #[.val (.int p0), .val (.int p1), .val (.int p2), .val (.int p3), .val (.int p4), .val (.long q5), .second, .val (.int ((1 : Int32) + (p0 &&& (1048575 : Int32)))), .val (.int ((p1 &&& (2147483647 : Int32)) % (((1 : Int32) + (p0 &&& (1048575 : Int32))) + (1 : Int32)))), .val (.int ((1 : Int32) + (p2 &&& (1048575 : Int32)))), .unset, .unset, .unset, .unset, .unset, .unset, .unset] [(.int ((p3 &&& (2147483647 : Int32)) % (((1 : Int32) + (p2 &&& (1048575 : Int32))) + (1 : Int32))))])) _
    refine XS.istore X0.here hx rfl (hb hby at_36) rfl (l' := #[.val (.int p0), .val (.int p1), .val (.int p2), .val (.int p3), .val (.int p4), .val (.long q5), .second, .val (.int ((1 : Int32) + (p0 &&& (1048575 : Int32)))), .val (.int ((p1 &&& (2147483647 : Int32)) % (((1 : Int32) + (p0 &&& (1048575 : Int32))) + (1 : Int32)))), .val (.int ((1 : Int32) + (p2 &&& (1048575 : Int32)))), .val (.int ((p3 &&& (2147483647 : Int32)) % (((1 : Int32) + (p2 &&& (1048575 : Int32))) + (1 : Int32)))), .unset, .unset, .unset, .unset, .unset, .unset]) rfl ?_
    exact k
  obtain ⟨bv, hbv⟩ : ∃ z : Int32, ((p1 &&& (2147483647 : Int32)) % (((1 : Int32) + (p0 &&& (1048575 : Int32))) + (1 : Int32))) = z := ⟨_, rfl⟩
  have k2 : ∀ t, Steps p.tables e below (s₁.setTop (mkF m 38 #[.val (.int p0), .val (.int p1), .val (.int p2), .val (.int p3), .val (.int p4), .val (.long q5), .second, .val (.int ((1 : Int32) + (p0 &&& (1048575 : Int32)))), .val (.int bv), .val (.int ((1 : Int32) + (p2 &&& (1048575 : Int32)))), .val (.int ((p3 &&& (2147483647 : Int32)) % (((1 : Int32) + (p2 &&& (1048575 : Int32))) + (1 : Int32)))), .unset, .unset, .unset, .unset, .unset, .unset] [])) t → Steps p.tables e below (s₁.setTop (entryFrame m #[(.int p0), (.int p1), (.int p2), (.int p3), (.int p4), (.long q5)] maxLocals)) t := by
    intro t k
    refine k1 _ ?_
    rw [hbv]
    exact k
  obtain ⟨av, hav⟩ : ∃ z : Int32, ((1 : Int32) + (p0 &&& (1048575 : Int32))) = z := ⟨_, rfl⟩
  have k3 : ∀ t, Steps p.tables e below (s₁.setTop (mkF m 38 #[.val (.int p0), .val (.int p1), .val (.int p2), .val (.int p3), .val (.int p4), .val (.long q5), .second, .val (.int av), .val (.int bv), .val (.int ((1 : Int32) + (p2 &&& (1048575 : Int32)))), .val (.int ((p3 &&& (2147483647 : Int32)) % (((1 : Int32) + (p2 &&& (1048575 : Int32))) + (1 : Int32)))), .unset, .unset, .unset, .unset, .unset, .unset] [])) t → Steps p.tables e below (s₁.setTop (entryFrame m #[(.int p0), (.int p1), (.int p2), (.int p3), (.int p4), (.long q5)] maxLocals)) t := by
    intro t k
    refine k2 _ ?_
    rw [hav]
    exact k
  obtain ⟨dv, hdv⟩ : ∃ z : Int32, ((p3 &&& (2147483647 : Int32)) % (((1 : Int32) + (p2 &&& (1048575 : Int32))) + (1 : Int32))) = z := ⟨_, rfl⟩
  have k4 : ∀ t, Steps p.tables e below (s₁.setTop (mkF m 38 #[.val (.int p0), .val (.int p1), .val (.int p2), .val (.int p3), .val (.int p4), .val (.long q5), .second, .val (.int av), .val (.int bv), .val (.int ((1 : Int32) + (p2 &&& (1048575 : Int32)))), .val (.int dv), .unset, .unset, .unset, .unset, .unset, .unset] [])) t → Steps p.tables e below (s₁.setTop (entryFrame m #[(.int p0), (.int p1), (.int p2), (.int p3), (.int p4), (.long q5)] maxLocals)) t := by
    intro t k
    refine k3 _ ?_
    rw [hdv]
    exact k
  obtain ⟨cv, hcv⟩ : ∃ z : Int32, ((1 : Int32) + (p2 &&& (1048575 : Int32))) = z := ⟨_, rfl⟩
  have k5 : ∀ t, Steps p.tables e below (s₁.setTop (mkF m 38 #[.val (.int p0), .val (.int p1), .val (.int p2), .val (.int p3), .val (.int p4), .val (.long q5), .second, .val (.int av), .val (.int bv), .val (.int cv), .val (.int dv), .unset, .unset, .unset, .unset, .unset, .unset] [])) t → Steps p.tables e below (s₁.setTop (entryFrame m #[(.int p0), (.int p1), (.int p2), (.int p3), (.int p4), (.long q5)] maxLocals)) t := by
    intro t k
    refine k4 _ ?_
    rw [hcv]
    exact k
  have hr1 := own_b p0 p1
  rw [hbv, hav] at hr1
  have hr2 := own_b p2 p3
  rw [hdv, hcv] at hr2
  obtain ⟨T6, h6, X6, e6, E6, A6, D6, -, st6⟩ := newO X0 hx hZ hown (hw _ (List.mem_of_getElem? (i := 2) rfl)) (hw _ (List.mem_of_getElem? (i := 3) rfl)) (hw _ (List.mem_of_getElem? (i := 4) rfl)) e0 (g := (mkF m 47 #[.val (.int p0), .val (.int p1), .val (.int p2), .val (.int p3), .val (.int p4), .val (.long q5), .second, .val (.int av), .val (.int bv), .val (.int cv), .val (.int dv), .val (.double (FP.i2d (p4 &&& (255 : Int32)))), .second, .unset, .unset, .unset, .unset] [])) rfl (hb hby at_47) (by decide) (by decide)
  obtain ⟨b6, g6⟩ : ∃ z, z = h0.size := ⟨_, rfl⟩
  rw [← g6] at A6 D6 st6
  have gn_b6 : n0 ≤ b6 := Nat.le_trans Z0 (Nat.le_of_eq g6.symm)
  have Zs6 : n0 ≤ h6.size := Nat.le_trans Z0 E6.1
  have E_b6 := A6
  have F_arrivals_b6 : Fld Z h6 b6 "com/example/lightloom/lightloom/plan/Simulation$Result" "arrivals" "I" (.int (0 : Int32)) := D6 (Or.inr (hw _ (List.mem_of_getElem? (i := 17) rfl))) (ty := .int) (by decide)
  have F_blocked_b6 : Fld Z h6 b6 "com/example/lightloom/lightloom/plan/Simulation$Result" "blocked" "I" (.int (0 : Int32)) := D6 (Or.inr (hw _ (List.mem_of_getElem? (i := 19) rfl))) (ty := .int) (by decide)
  have F_standardError_b6 : Fld Z h6 b6 "com/example/lightloom/lightloom/plan/Simulation$Result" "standardError" "D" (.double (0 : UInt64)) := D6 (Or.inr (hw _ (List.mem_of_getElem? (i := 21) rfl))) (ty := .double) (by decide)
  have F_carriedHops_b6 : Fld Z h6 b6 "com/example/lightloom/lightloom/plan/Simulation$Result" "carriedHops" "J" (.long (0 : Int64)) := D6 (Or.inr (hw _ (List.mem_of_getElem? (i := 23) rfl))) (ty := .long) (by decide)
  obtain ⟨_, _, ⟨T7, L7, k7_, n7⟩, -, X7, ⟨Lc7, hQ7, l7, y7, z7⟩, st7⟩ := X6.specialBack hx (y := (⟨"com/example/lightloom/lightloom/plan/Simulation$Result", "<init>", "(IIDJ)V"⟩ : MethodName)) rfl hown (mvT hZ (hw _ (List.mem_of_getElem? (i := 5) rfl))) (mvT hZ (hw _ (List.mem_of_getElem? (i := 6) rfl))) (mvT hZ (hw _ (List.mem_of_getElem? (i := 7) rfl))) (by decide) (backOf (W := 1) (rm1 l Z a0 hw [] b6 av bv (FP.i2d (p4 &&& (255 : Int32))) q5 h6 n0 Zs6 gn_b6 E_b6 F_arrivals_b6 F_blocked_b6 F_standardError_b6 F_carriedHops_b6) hZ (hw _ (List.mem_of_getElem? (i := 7) rfl)) (hw _ (List.mem_of_getElem? (i := 4) rfl)) (by decide) (by decide)) (g := (mkF m 59 #[.val (.int p0), .val (.int p1), .val (.int p2), .val (.int p3), .val (.int p4), .val (.long q5), .second, .val (.int av), .val (.int bv), .val (.int cv), .val (.int dv), .val (.double (FP.i2d (p4 &&& (255 : Int32)))), .second, .unset, .unset, .unset, .unset] [(.long q5), (.double (FP.i2d (p4 &&& (255 : Int32)))), (.int bv), (.int av), (.ref b6), (.ref b6)])) rfl (by rw [hml]; rfl) (Steps.refl _) (a := b6) (argsL := [(.int av), (.int bv), (.double (FP.i2d (p4 &&& (255 : Int32)))), (.long q5)]) (rest := [(.ref b6)]) (lenOf pd_1 rfl) rfl (by show 2 * 0 + _ ≤ _; exact Nat.le_of_eq rfl) (hb hby at_59) (fun _ _ => ⟨rfl, e6, (by decide : 1 + 0 ≤ _), (by decide : 4 + 0 ≤ _)⟩)
  dsimp only [Pt.U, Pt.locs, Pt.cells, Pt.slots] at X7 l7 y7 z7 st7 hQ7
  subst l7 y7 z7
  obtain ⟨rfl, Nq7, Kq7, Eq7, Fn_arrivals_7, Fn_blocked_7⟩ := hQ7
  have N7 := Fr.app N0 Nq7
  have Zs7 : n0 ≤ T7.heap.size := Nat.le_trans Zs6 Kq7.1
  replace E_b6 := E_b6.keep Kq7
  obtain ⟨cq8, kq8, q8a, q8b, q8c⟩ := isOf hZ rfl E_b6
  obtain ⟨_, _, ⟨T8, L8, k8_, n8⟩, -, X8, ⟨Lc8, hQ8, l8, y8, z8⟩, st8⟩ := X7.virtualBack hx (y := (⟨"com/example/lightloom/lightloom/plan/Simulation$Result", "blockingProbability", "()D"⟩ : MethodName)) (z := (⟨"com/example/lightloom/lightloom/plan/Simulation$Result", "blockingProbability", "()D"⟩ : MethodName)) hown (mvT hZ (hw _ (List.mem_of_getElem? (i := 24) rfl))) (mvT hZ (hw _ (List.mem_of_getElem? (i := 25) rfl))) (notFace_of_selects (args := #[]) (mvT hZ (hw _ (List.mem_of_getElem? (i := 27) rfl)))) (mvT hZ (hw _ (List.mem_of_getElem? (i := 27) rfl))) (mvT hZ (hw _ (List.mem_of_getElem? (i := 26) rfl))) (by decide) (backOf (W := 0) (rm4 l Z a0 hw [] b6 av bv T7.heap n0 Fn_arrivals_7 Fn_blocked_7 (own_nn1 hr1)) hZ (hw _ (List.mem_of_getElem? (i := 28) rfl)) (hw _ (List.mem_of_getElem? (i := 4) rfl)) (by decide) (by decide)) q8a q8c (g := (mkF m 62 #[.val (.int p0), .val (.int p1), .val (.int p2), .val (.int p3), .val (.int p4), .val (.long q5), .second, .val (.int av), .val (.int bv), .val (.int cv), .val (.int dv), .val (.double (FP.i2d (p4 &&& (255 : Int32)))), .second, .unset, .unset, .unset, .unset] [(.ref b6)])) rfl (by rw [hml]; rfl) (Steps.refl _) (argsL := []) (rest := []) (lenOf pd_2 rfl) rfl (by show 2 * 0 + _ ≤ _; exact Nat.le_of_eq rfl) (hb hby at_62) (fun _ _ => ⟨rfl, rfl, (by decide : 1 + 0 ≤ _), (by decide : 4 + 0 ≤ _)⟩)
  dsimp only [Pt.U, Pt.locs, Pt.cells, Pt.slots] at X8 l8 y8 z8 st8 hQ8
  subst l8 y8 z8
  obtain ⟨rfl, Nq8, e8⟩ := hQ8
  have N8 := Fr.app N7 Nq8
  obtain ⟨T9, h9, X9, e9, E9, A9, D9, -, st9⟩ := newO X8 hx hZ hown (hw _ (List.mem_of_getElem? (i := 2) rfl)) (hw _ (List.mem_of_getElem? (i := 3) rfl)) (hw _ (List.mem_of_getElem? (i := 4) rfl)) e8 (g := (mkF m 67 #[.val (.int p0), .val (.int p1), .val (.int p2), .val (.int p3), .val (.int p4), .val (.long q5), .second, .val (.int av), .val (.int bv), .val (.int cv), .val (.int dv), .val (.double (FP.i2d (p4 &&& (255 : Int32)))), .second, .val (.double (own_bp av bv)), .second, .unset, .unset] [])) rfl (hb hby at_67) (by decide) (by decide)
  obtain ⟨b9, g9⟩ : ∃ z, z = T7.heap.size := ⟨_, rfl⟩
  rw [← g9] at A9 D9 st9
  have ne_b6_b9 : b6 ≠ b9 := Nat.ne_of_lt (Nat.lt_of_lt_of_le E_b6.lt (Nat.le_of_eq g9.symm))
  have gn_b9 : n0 ≤ b9 := Nat.le_trans Zs7 (Nat.le_of_eq g9.symm)
  replace E_b6 := E_b6.ext E9
  replace Fn_arrivals_7 := Fn_arrivals_7.ext E9
  replace Fn_blocked_7 := Fn_blocked_7.ext E9
  have Zs9 : n0 ≤ h9.size := Nat.le_trans Zs7 E9.1
  have E_b9 := A9
  have F_arrivals_b9 : Fld Z h9 b9 "com/example/lightloom/lightloom/plan/Simulation$Result" "arrivals" "I" (.int (0 : Int32)) := D9 (Or.inr (hw _ (List.mem_of_getElem? (i := 17) rfl))) (ty := .int) (by decide)
  have F_blocked_b9 : Fld Z h9 b9 "com/example/lightloom/lightloom/plan/Simulation$Result" "blocked" "I" (.int (0 : Int32)) := D9 (Or.inr (hw _ (List.mem_of_getElem? (i := 19) rfl))) (ty := .int) (by decide)
  have F_standardError_b9 : Fld Z h9 b9 "com/example/lightloom/lightloom/plan/Simulation$Result" "standardError" "D" (.double (0 : UInt64)) := D9 (Or.inr (hw _ (List.mem_of_getElem? (i := 21) rfl))) (ty := .double) (by decide)
  have F_carriedHops_b9 : Fld Z h9 b9 "com/example/lightloom/lightloom/plan/Simulation$Result" "carriedHops" "J" (.long (0 : Int64)) := D9 (Or.inr (hw _ (List.mem_of_getElem? (i := 23) rfl))) (ty := .long) (by decide)
  obtain ⟨_, _, ⟨T10, L10, k10_, n10⟩, -, X10, ⟨Lc10, hQ10, l10, y10, z10⟩, st10⟩ := X9.specialBack hx (y := (⟨"com/example/lightloom/lightloom/plan/Simulation$Result", "<init>", "(IIDJ)V"⟩ : MethodName)) rfl hown (mvT hZ (hw _ (List.mem_of_getElem? (i := 5) rfl))) (mvT hZ (hw _ (List.mem_of_getElem? (i := 6) rfl))) (mvT hZ (hw _ (List.mem_of_getElem? (i := 7) rfl))) (by decide) (backOf (W := 1) (rm1 l Z a0 hw [] b9 cv dv (FP.i2d (p4 &&& (255 : Int32))) q5 h9 n0 Zs9 gn_b9 E_b9 F_arrivals_b9 F_blocked_b9 F_standardError_b9 F_carriedHops_b9) hZ (hw _ (List.mem_of_getElem? (i := 7) rfl)) (hw _ (List.mem_of_getElem? (i := 4) rfl)) (by decide) (by decide)) (g := (mkF m 79 #[.val (.int p0), .val (.int p1), .val (.int p2), .val (.int p3), .val (.int p4), .val (.long q5), .second, .val (.int av), .val (.int bv), .val (.int cv), .val (.int dv), .val (.double (FP.i2d (p4 &&& (255 : Int32)))), .second, .val (.double (own_bp av bv)), .second, .unset, .unset] [(.long q5), (.double (FP.i2d (p4 &&& (255 : Int32)))), (.int dv), (.int cv), (.ref b9), (.ref b9)])) rfl (by rw [hml]; rfl) (Steps.refl _) (a := b9) (argsL := [(.int cv), (.int dv), (.double (FP.i2d (p4 &&& (255 : Int32)))), (.long q5)]) (rest := [(.ref b9)]) (lenOf pd_1 rfl) rfl (by show 2 * 0 + _ ≤ _; exact Nat.le_of_eq rfl) (hb hby at_79) (fun _ _ => ⟨rfl, e9, (by decide : 2 + 0 ≤ _), (by decide : 8 + 0 ≤ _)⟩)
  dsimp only [Pt.U, Pt.locs, Pt.cells, Pt.slots] at X10 l10 y10 z10 st10 hQ10
  subst l10 y10 z10
  obtain ⟨rfl, Nq10, Kq10, Eq10, Fn_arrivals_10, Fn_blocked_10⟩ := hQ10
  have N10 := Fr.app N8 Nq10
  have Zs10 : n0 ≤ T10.heap.size := Nat.le_trans Zs9 Kq10.1
  replace E_b6 := E_b6.keep Kq10
  replace Fn_arrivals_7 := Fn_arrivals_7.keep Kq10 (fun q => ne_b6_b9 (List.mem_singleton.mp q))
  replace Fn_blocked_7 := Fn_blocked_7.keep Kq10 (fun q => ne_b6_b9 (List.mem_singleton.mp q))
  replace E_b9 := E_b9.keep Kq10
  obtain ⟨cq11, kq11, q11a, q11b, q11c⟩ := isOf hZ rfl E_b9
  obtain ⟨_, _, ⟨T11, L11, k11_, n11⟩, -, X11, ⟨Lc11, hQ11, l11, y11, z11⟩, st11⟩ := X10.virtualBack hx (y := (⟨"com/example/lightloom/lightloom/plan/Simulation$Result", "blockingProbability", "()D"⟩ : MethodName)) (z := (⟨"com/example/lightloom/lightloom/plan/Simulation$Result", "blockingProbability", "()D"⟩ : MethodName)) hown (mvT hZ (hw _ (List.mem_of_getElem? (i := 24) rfl))) (mvT hZ (hw _ (List.mem_of_getElem? (i := 25) rfl))) (notFace_of_selects (args := #[]) (mvT hZ (hw _ (List.mem_of_getElem? (i := 27) rfl)))) (mvT hZ (hw _ (List.mem_of_getElem? (i := 27) rfl))) (mvT hZ (hw _ (List.mem_of_getElem? (i := 26) rfl))) (by decide) (backOf (W := 0) (rm4 l Z a0 hw [] b9 cv dv T10.heap n0 Fn_arrivals_10 Fn_blocked_10 (own_nn1 hr2)) hZ (hw _ (List.mem_of_getElem? (i := 28) rfl)) (hw _ (List.mem_of_getElem? (i := 4) rfl)) (by decide) (by decide)) q11a q11c (g := (mkF m 82 #[.val (.int p0), .val (.int p1), .val (.int p2), .val (.int p3), .val (.int p4), .val (.long q5), .second, .val (.int av), .val (.int bv), .val (.int cv), .val (.int dv), .val (.double (FP.i2d (p4 &&& (255 : Int32)))), .second, .val (.double (own_bp av bv)), .second, .unset, .unset] [(.ref b9)])) rfl (by rw [hml]; rfl) (Steps.refl _) (argsL := []) (rest := []) (lenOf pd_2 rfl) rfl (by show 2 * 0 + _ ≤ _; exact Nat.le_of_eq rfl) (hb hby at_82) (fun _ _ => ⟨rfl, rfl, (by decide : 2 + 0 ≤ _), (by decide : 8 + 0 ≤ _)⟩)
  dsimp only [Pt.U, Pt.locs, Pt.cells, Pt.slots] at X11 l11 y11 z11 st11 hQ11
  subst l11 y11 z11
  obtain ⟨rfl, Nq11, e11⟩ := hQ11
  have N11 := Fr.app N10 Nq11
  obtain ⟨_, _, ⟨T12, L12, k12_, n12⟩, -, X12, ⟨Lc12, hQ12, l12, y12, z12⟩, st12⟩ := Jvm.LawKit.callS X11 hx (y := (⟨"com/example/lightloom/lightloom/plan/ResultBlockingProbabilityPinLaw", "fits", "(DII)Z"⟩ : MethodName)) hown (mvT hZ (hw _ (List.mem_of_getElem? (i := 29) rfl))) (mvT hZ (hw _ (List.mem_of_getElem? (i := 30) rfl))) (mvT hZ (hw _ (List.mem_of_getElem? (i := 31) rfl))) (mvT hZ (hw _ (List.mem_of_getElem? (i := 32) rfl))) (by decide) (backOf (W := 0) (rm5 l Z a0 hw [] (own_bp av bv) av bv T10.heap n0 (own_nn2 hr1) (own_nn3 hr1)) hZ (hw _ (List.mem_of_getElem? (i := 32) rfl)) (hw _ (List.mem_of_getElem? (i := 31) rfl)) (by decide) (by decide)) (g := (mkF m 93 #[.val (.int p0), .val (.int p1), .val (.int p2), .val (.int p3), .val (.int p4), .val (.long q5), .second, .val (.int av), .val (.int bv), .val (.int cv), .val (.int dv), .val (.double (FP.i2d (p4 &&& (255 : Int32)))), .second, .val (.double (own_bp av bv)), .second, .val (.double (own_bp cv dv)), .second] [(.int bv), (.int av), (.double (own_bp av bv))])) rfl (by rw [hml]; rfl) (argsL := [(.double (own_bp av bv)), (.int av), (.int bv)]) (rest := []) (lenOf pd_3 rfl) rfl (by show 2 * 0 + _ ≤ _; exact Nat.le_of_eq rfl) (hb hby at_93) (fun _ _ => ⟨rfl, e11, (by decide : 2 + 0 ≤ _), (by decide : 8 + 0 ≤ _)⟩)
  dsimp only [Pt.U, Pt.locs, Pt.cells, Pt.slots] at X12 l12 y12 z12 st12 hQ12
  subst l12 y12 z12
  obtain ⟨rfl, Nq12, e12⟩ := hQ12
  have N12 := Fr.app N11 Nq12
  obtain ⟨_, _, ⟨T13, L13, k13_, n13⟩, -, X13, ⟨Lc13, hQ13, l13, y13, z13⟩, st13⟩ := Jvm.LawKit.callS X12 hx (y := (⟨"com/example/lightloom/lightloom/plan/ResultBlockingProbabilityPinLaw", "fits", "(DII)Z"⟩ : MethodName)) hown (mvT hZ (hw _ (List.mem_of_getElem? (i := 29) rfl))) (mvT hZ (hw _ (List.mem_of_getElem? (i := 30) rfl))) (mvT hZ (hw _ (List.mem_of_getElem? (i := 31) rfl))) (mvT hZ (hw _ (List.mem_of_getElem? (i := 32) rfl))) (by decide) (backOf (W := 0) (rm5 l Z a0 hw [] (own_bp cv dv) cv dv T10.heap n0 (own_nn2 hr2) (own_nn3 hr2)) hZ (hw _ (List.mem_of_getElem? (i := 32) rfl)) (hw _ (List.mem_of_getElem? (i := 31) rfl)) (by decide) (by decide)) (g := (mkF m 105 #[.val (.int p0), .val (.int p1), .val (.int p2), .val (.int p3), .val (.int p4), .val (.long q5), .second, .val (.int av), .val (.int bv), .val (.int cv), .val (.int dv), .val (.double (FP.i2d (p4 &&& (255 : Int32)))), .second, .val (.double (own_bp av bv)), .second, .val (.double (own_bp cv dv)), .second] [(.int dv), (.int cv), (.double (own_bp cv dv))])) rfl (by rw [hml]; rfl) (argsL := [(.double (own_bp cv dv)), (.int cv), (.int dv)]) (rest := []) (lenOf pd_3 rfl) rfl (by show 2 * 0 + _ ≤ _; exact Nat.le_of_eq rfl) (hb hby at_105) (fun _ _ => ⟨rfl, e12, (by decide : 2 + 0 ≤ _), (by decide : 8 + 0 ≤ _)⟩)
  dsimp only [Pt.U, Pt.locs, Pt.cells, Pt.slots] at X13 l13 y13 z13 st13 hQ13
  subst l13 y13 z13
  obtain ⟨rfl, Nq13, e13⟩ := hQ13
  have N13 := Fr.app N12 Nq13
  obtain ⟨_, _, ⟨T14, L14, k14_, n14⟩, -, X14, ⟨Lc14, hQ14, l14, y14, z14⟩, st14⟩ := Jvm.LawKit.callS X13 hx (y := (⟨"com/example/lightloom/lightloom/plan/ResultBlockingProbabilityPinLaw", "ordered", "(DIIDII)Z"⟩ : MethodName)) hown (mvT hZ (hw _ (List.mem_of_getElem? (i := 34) rfl))) (mvT hZ (hw _ (List.mem_of_getElem? (i := 35) rfl))) (mvT hZ (hw _ (List.mem_of_getElem? (i := 31) rfl))) (mvT hZ (hw _ (List.mem_of_getElem? (i := 36) rfl))) (by decide) (backOf (W := 0) (rm6 l Z a0 hw [] (own_bp av bv) av bv (own_bp cv dv) cv dv T10.heap n0 ) hZ (hw _ (List.mem_of_getElem? (i := 36) rfl)) (hw _ (List.mem_of_getElem? (i := 31) rfl)) (by decide) (by decide)) (g := (mkF m 123 #[.val (.int p0), .val (.int p1), .val (.int p2), .val (.int p3), .val (.int p4), .val (.long q5), .second, .val (.int av), .val (.int bv), .val (.int cv), .val (.int dv), .val (.double (FP.i2d (p4 &&& (255 : Int32)))), .second, .val (.double (own_bp av bv)), .second, .val (.double (own_bp cv dv)), .second] [(.int dv), (.int cv), (.double (own_bp cv dv)), (.int bv), (.int av), (.double (own_bp av bv))])) rfl (by rw [hml]; rfl) (argsL := [(.double (own_bp av bv)), (.int av), (.int bv), (.double (own_bp cv dv)), (.int cv), (.int dv)]) (rest := []) (lenOf pd_4 rfl) rfl (by show 2 * 0 + _ ≤ _; exact Nat.le_of_eq rfl) (hb hby at_123) (fun _ _ => ⟨rfl, e13, (by decide : 2 + 0 ≤ _), (by decide : 8 + 0 ≤ _)⟩)
  dsimp only [Pt.U, Pt.locs, Pt.cells, Pt.slots] at X14 l14 y14 z14 st14 hQ14
  subst l14 y14 z14
  obtain ⟨rfl, Nq14, e14⟩ := hQ14
  have N14 := Fr.app N13 Nq14
  have k15 : ∀ t, Steps p.tables e below (T14.setTop (mkF m 134 #[.val (.int p0), .val (.int p1), .val (.int p2), .val (.int p3), .val (.int p4), .val (.long q5), .second, .val (.int av), .val (.int bv), .val (.int cv), .val (.int dv), .val (.double (FP.i2d (p4 &&& (255 : Int32)))), .second, .val (.double (own_bp av bv)), .second, .val (.double (own_bp cv dv)), .second] [(.int (1 : Int32))])) t → Steps p.tables e below (s₁.setTop (entryFrame m #[(.int p0), (.int p1), (.int p2), (.int p3), (.int p4), (.long q5)] maxLocals)) t := by
    intro t k
    refine k5 _ ?_
    show Steps p.tables e below (s₁.setTop (mkF m 38 #[.val (.int p0), .val (.int p1), .val (.int p2), .val (.int p3), .val (.int p4), .val (.long q5), .second, .val (.int av), .val (.int bv), .val (.int cv), .val (.int dv), .unset, .unset, .unset, .unset, .unset, .unset] [])) _
    refine XS.iload X0.here hx rfl (hb hby at_38) rfl ?_
    show Steps p.tables e below (s₁.setTop (mkF m 40 #[.val (.int p0), .val (.int p1), .val (.int p2), .val (.int p3), .val (.int p4), .val (.long q5), .second, .val (.int av), .val (.int bv), .val (.int cv), .val (.int dv), .unset, .unset, .unset, .unset, .unset, .unset] [(.int p4)])) _
    refine XS.sipush X0.here hx rfl (hb hby at_40) ?_
    show Steps p.tables e below (s₁.setTop (mkF m 43 #[.val (.int p0), .val (.int p1), .val (.int p2), .val (.int p3), .val (.int p4), .val (.long q5), .second, .val (.int av), .val (.int bv), .val (.int cv), .val (.int dv), .unset, .unset, .unset, .unset, .unset, .unset] [(.int (255 : Int32)), (.int p4)])) _
    refine XS.iand X0.here hx rfl (hb hby at_43) rfl ?_
    show Steps p.tables e below (s₁.setTop (mkF m 44 #[.val (.int p0), .val (.int p1), .val (.int p2), .val (.int p3), .val (.int p4), .val (.long q5), .second, .val (.int av), .val (.int bv), .val (.int cv), .val (.int dv), .unset, .unset, .unset, .unset, .unset, .unset] [(.int (p4 &&& (255 : Int32)))])) _
    refine XS.i2dS X0.here hx rfl (hb hby at_44) rfl rfl ?_
    show Steps p.tables e below (s₁.setTop (mkF m 45 #[.val (.int p0), .val (.int p1), .val (.int p2), .val (.int p3), .val (.int p4), .val (.long q5), .second, .val (.int av), .val (.int bv), .val (.int cv), .val (.int dv), .unset, .unset, .unset, .unset, .unset, .unset] [(.double (FP.i2d (p4 &&& (255 : Int32))))])) _
    refine XS.dstore X0.here hx rfl (hb hby at_45) rfl (l' := #[.val (.int p0), .val (.int p1), .val (.int p2), .val (.int p3), .val (.int p4), .val (.long q5), .second, .val (.int av), .val (.int bv), .val (.int cv), .val (.int dv), .val (.double (FP.i2d (p4 &&& (255 : Int32)))), .second, .unset, .unset, .unset, .unset]) rfl ?_
    show Steps p.tables e below (s₁.setTop (mkF m 47 #[.val (.int p0), .val (.int p1), .val (.int p2), .val (.int p3), .val (.int p4), .val (.long q5), .second, .val (.int av), .val (.int bv), .val (.int cv), .val (.int dv), .val (.double (FP.i2d (p4 &&& (255 : Int32)))), .second, .unset, .unset, .unset, .unset] [])) _
    refine st6 _ ?_
    show Steps p.tables e below (T6.setTop (mkF m 50 #[.val (.int p0), .val (.int p1), .val (.int p2), .val (.int p3), .val (.int p4), .val (.long q5), .second, .val (.int av), .val (.int bv), .val (.int cv), .val (.int dv), .val (.double (FP.i2d (p4 &&& (255 : Int32)))), .second, .unset, .unset, .unset, .unset] [(.ref b6)])) _
    refine XS.dup X6.here hx rfl (hb hby at_50) rfl rfl ?_
    show Steps p.tables e below (T6.setTop (mkF m 51 #[.val (.int p0), .val (.int p1), .val (.int p2), .val (.int p3), .val (.int p4), .val (.long q5), .second, .val (.int av), .val (.int bv), .val (.int cv), .val (.int dv), .val (.double (FP.i2d (p4 &&& (255 : Int32)))), .second, .unset, .unset, .unset, .unset] [(.ref b6), (.ref b6)])) _
    refine XS.iload X6.here hx rfl (hb hby at_51) rfl ?_
    show Steps p.tables e below (T6.setTop (mkF m 53 #[.val (.int p0), .val (.int p1), .val (.int p2), .val (.int p3), .val (.int p4), .val (.long q5), .second, .val (.int av), .val (.int bv), .val (.int cv), .val (.int dv), .val (.double (FP.i2d (p4 &&& (255 : Int32)))), .second, .unset, .unset, .unset, .unset] [(.int av), (.ref b6), (.ref b6)])) _
    refine XS.iload X6.here hx rfl (hb hby at_53) rfl ?_
    show Steps p.tables e below (T6.setTop (mkF m 55 #[.val (.int p0), .val (.int p1), .val (.int p2), .val (.int p3), .val (.int p4), .val (.long q5), .second, .val (.int av), .val (.int bv), .val (.int cv), .val (.int dv), .val (.double (FP.i2d (p4 &&& (255 : Int32)))), .second, .unset, .unset, .unset, .unset] [(.int bv), (.int av), (.ref b6), (.ref b6)])) _
    refine XS.dload X6.here hx rfl (hb hby at_55) rfl ?_
    show Steps p.tables e below (T6.setTop (mkF m 57 #[.val (.int p0), .val (.int p1), .val (.int p2), .val (.int p3), .val (.int p4), .val (.long q5), .second, .val (.int av), .val (.int bv), .val (.int cv), .val (.int dv), .val (.double (FP.i2d (p4 &&& (255 : Int32)))), .second, .unset, .unset, .unset, .unset] [(.double (FP.i2d (p4 &&& (255 : Int32)))), (.int bv), (.int av), (.ref b6), (.ref b6)])) _
    refine XS.lload X6.here hx rfl (hb hby at_57) rfl ?_
    show Steps p.tables e below (T6.setTop (mkF m 59 #[.val (.int p0), .val (.int p1), .val (.int p2), .val (.int p3), .val (.int p4), .val (.long q5), .second, .val (.int av), .val (.int bv), .val (.int cv), .val (.int dv), .val (.double (FP.i2d (p4 &&& (255 : Int32)))), .second, .unset, .unset, .unset, .unset] [(.long q5), (.double (FP.i2d (p4 &&& (255 : Int32)))), (.int bv), (.int av), (.ref b6), (.ref b6)])) _
    refine st7.trans ?_
    show Steps p.tables e below (T7.setTop (mkF m 62 #[.val (.int p0), .val (.int p1), .val (.int p2), .val (.int p3), .val (.int p4), .val (.long q5), .second, .val (.int av), .val (.int bv), .val (.int cv), .val (.int dv), .val (.double (FP.i2d (p4 &&& (255 : Int32)))), .second, .unset, .unset, .unset, .unset] [(.ref b6)])) _
    refine st8.trans ?_
    show Steps p.tables e below (T8.setTop (mkF m 65 #[.val (.int p0), .val (.int p1), .val (.int p2), .val (.int p3), .val (.int p4), .val (.long q5), .second, .val (.int av), .val (.int bv), .val (.int cv), .val (.int dv), .val (.double (FP.i2d (p4 &&& (255 : Int32)))), .second, .unset, .unset, .unset, .unset] [(.double (own_bp av bv))])) _
    refine XS.dstore X8.here hx rfl (hb hby at_65) rfl (l' := #[.val (.int p0), .val (.int p1), .val (.int p2), .val (.int p3), .val (.int p4), .val (.long q5), .second, .val (.int av), .val (.int bv), .val (.int cv), .val (.int dv), .val (.double (FP.i2d (p4 &&& (255 : Int32)))), .second, .val (.double (own_bp av bv)), .second, .unset, .unset]) rfl ?_
    show Steps p.tables e below (T8.setTop (mkF m 67 #[.val (.int p0), .val (.int p1), .val (.int p2), .val (.int p3), .val (.int p4), .val (.long q5), .second, .val (.int av), .val (.int bv), .val (.int cv), .val (.int dv), .val (.double (FP.i2d (p4 &&& (255 : Int32)))), .second, .val (.double (own_bp av bv)), .second, .unset, .unset] [])) _
    refine st9 _ ?_
    show Steps p.tables e below (T9.setTop (mkF m 70 #[.val (.int p0), .val (.int p1), .val (.int p2), .val (.int p3), .val (.int p4), .val (.long q5), .second, .val (.int av), .val (.int bv), .val (.int cv), .val (.int dv), .val (.double (FP.i2d (p4 &&& (255 : Int32)))), .second, .val (.double (own_bp av bv)), .second, .unset, .unset] [(.ref b9)])) _
    refine XS.dup X9.here hx rfl (hb hby at_70) rfl rfl ?_
    show Steps p.tables e below (T9.setTop (mkF m 71 #[.val (.int p0), .val (.int p1), .val (.int p2), .val (.int p3), .val (.int p4), .val (.long q5), .second, .val (.int av), .val (.int bv), .val (.int cv), .val (.int dv), .val (.double (FP.i2d (p4 &&& (255 : Int32)))), .second, .val (.double (own_bp av bv)), .second, .unset, .unset] [(.ref b9), (.ref b9)])) _
    refine XS.iload X9.here hx rfl (hb hby at_71) rfl ?_
    show Steps p.tables e below (T9.setTop (mkF m 73 #[.val (.int p0), .val (.int p1), .val (.int p2), .val (.int p3), .val (.int p4), .val (.long q5), .second, .val (.int av), .val (.int bv), .val (.int cv), .val (.int dv), .val (.double (FP.i2d (p4 &&& (255 : Int32)))), .second, .val (.double (own_bp av bv)), .second, .unset, .unset] [(.int cv), (.ref b9), (.ref b9)])) _
    refine XS.iload X9.here hx rfl (hb hby at_73) rfl ?_
    show Steps p.tables e below (T9.setTop (mkF m 75 #[.val (.int p0), .val (.int p1), .val (.int p2), .val (.int p3), .val (.int p4), .val (.long q5), .second, .val (.int av), .val (.int bv), .val (.int cv), .val (.int dv), .val (.double (FP.i2d (p4 &&& (255 : Int32)))), .second, .val (.double (own_bp av bv)), .second, .unset, .unset] [(.int dv), (.int cv), (.ref b9), (.ref b9)])) _
    refine XS.dload X9.here hx rfl (hb hby at_75) rfl ?_
    show Steps p.tables e below (T9.setTop (mkF m 77 #[.val (.int p0), .val (.int p1), .val (.int p2), .val (.int p3), .val (.int p4), .val (.long q5), .second, .val (.int av), .val (.int bv), .val (.int cv), .val (.int dv), .val (.double (FP.i2d (p4 &&& (255 : Int32)))), .second, .val (.double (own_bp av bv)), .second, .unset, .unset] [(.double (FP.i2d (p4 &&& (255 : Int32)))), (.int dv), (.int cv), (.ref b9), (.ref b9)])) _
    refine XS.lload X9.here hx rfl (hb hby at_77) rfl ?_
    show Steps p.tables e below (T9.setTop (mkF m 79 #[.val (.int p0), .val (.int p1), .val (.int p2), .val (.int p3), .val (.int p4), .val (.long q5), .second, .val (.int av), .val (.int bv), .val (.int cv), .val (.int dv), .val (.double (FP.i2d (p4 &&& (255 : Int32)))), .second, .val (.double (own_bp av bv)), .second, .unset, .unset] [(.long q5), (.double (FP.i2d (p4 &&& (255 : Int32)))), (.int dv), (.int cv), (.ref b9), (.ref b9)])) _
    refine st10.trans ?_
    show Steps p.tables e below (T10.setTop (mkF m 82 #[.val (.int p0), .val (.int p1), .val (.int p2), .val (.int p3), .val (.int p4), .val (.long q5), .second, .val (.int av), .val (.int bv), .val (.int cv), .val (.int dv), .val (.double (FP.i2d (p4 &&& (255 : Int32)))), .second, .val (.double (own_bp av bv)), .second, .unset, .unset] [(.ref b9)])) _
    refine st11.trans ?_
    show Steps p.tables e below (T11.setTop (mkF m 85 #[.val (.int p0), .val (.int p1), .val (.int p2), .val (.int p3), .val (.int p4), .val (.long q5), .second, .val (.int av), .val (.int bv), .val (.int cv), .val (.int dv), .val (.double (FP.i2d (p4 &&& (255 : Int32)))), .second, .val (.double (own_bp av bv)), .second, .unset, .unset] [(.double (own_bp cv dv))])) _
    refine XS.dstore X11.here hx rfl (hb hby at_85) rfl (l' := #[.val (.int p0), .val (.int p1), .val (.int p2), .val (.int p3), .val (.int p4), .val (.long q5), .second, .val (.int av), .val (.int bv), .val (.int cv), .val (.int dv), .val (.double (FP.i2d (p4 &&& (255 : Int32)))), .second, .val (.double (own_bp av bv)), .second, .val (.double (own_bp cv dv)), .second]) rfl ?_
    show Steps p.tables e below (T11.setTop (mkF m 87 #[.val (.int p0), .val (.int p1), .val (.int p2), .val (.int p3), .val (.int p4), .val (.long q5), .second, .val (.int av), .val (.int bv), .val (.int cv), .val (.int dv), .val (.double (FP.i2d (p4 &&& (255 : Int32)))), .second, .val (.double (own_bp av bv)), .second, .val (.double (own_bp cv dv)), .second] [])) _
    refine XS.dload X11.here hx rfl (hb hby at_87) rfl ?_
    show Steps p.tables e below (T11.setTop (mkF m 89 #[.val (.int p0), .val (.int p1), .val (.int p2), .val (.int p3), .val (.int p4), .val (.long q5), .second, .val (.int av), .val (.int bv), .val (.int cv), .val (.int dv), .val (.double (FP.i2d (p4 &&& (255 : Int32)))), .second, .val (.double (own_bp av bv)), .second, .val (.double (own_bp cv dv)), .second] [(.double (own_bp av bv))])) _
    refine XS.iload X11.here hx rfl (hb hby at_89) rfl ?_
    show Steps p.tables e below (T11.setTop (mkF m 91 #[.val (.int p0), .val (.int p1), .val (.int p2), .val (.int p3), .val (.int p4), .val (.long q5), .second, .val (.int av), .val (.int bv), .val (.int cv), .val (.int dv), .val (.double (FP.i2d (p4 &&& (255 : Int32)))), .second, .val (.double (own_bp av bv)), .second, .val (.double (own_bp cv dv)), .second] [(.int av), (.double (own_bp av bv))])) _
    refine XS.iload X11.here hx rfl (hb hby at_91) rfl ?_
    show Steps p.tables e below (T11.setTop (mkF m 93 #[.val (.int p0), .val (.int p1), .val (.int p2), .val (.int p3), .val (.int p4), .val (.long q5), .second, .val (.int av), .val (.int bv), .val (.int cv), .val (.int dv), .val (.double (FP.i2d (p4 &&& (255 : Int32)))), .second, .val (.double (own_bp av bv)), .second, .val (.double (own_bp cv dv)), .second] [(.int bv), (.int av), (.double (own_bp av bv))])) _
    refine st12 _ ?_
    show Steps p.tables e below (T12.setTop (mkF m 96 #[.val (.int p0), .val (.int p1), .val (.int p2), .val (.int p3), .val (.int p4), .val (.long q5), .second, .val (.int av), .val (.int bv), .val (.int cv), .val (.int dv), .val (.double (FP.i2d (p4 &&& (255 : Int32)))), .second, .val (.double (own_bp av bv)), .second, .val (.double (own_bp cv dv)), .second] [(.int (own_f5 (own_bp av bv) av bv))])) _
    refine XS.ifNo X12.here hx rfl (hb hby at_96) rfl ((if0 _ _).trans (feq (own_n1 (own_fits hr1))).1) ?_
    show Steps p.tables e below (T12.setTop (mkF m 99 #[.val (.int p0), .val (.int p1), .val (.int p2), .val (.int p3), .val (.int p4), .val (.long q5), .second, .val (.int av), .val (.int bv), .val (.int cv), .val (.int dv), .val (.double (FP.i2d (p4 &&& (255 : Int32)))), .second, .val (.double (own_bp av bv)), .second, .val (.double (own_bp cv dv)), .second] [])) _
    refine XS.dload X12.here hx rfl (hb hby at_99) rfl ?_
    show Steps p.tables e below (T12.setTop (mkF m 101 #[.val (.int p0), .val (.int p1), .val (.int p2), .val (.int p3), .val (.int p4), .val (.long q5), .second, .val (.int av), .val (.int bv), .val (.int cv), .val (.int dv), .val (.double (FP.i2d (p4 &&& (255 : Int32)))), .second, .val (.double (own_bp av bv)), .second, .val (.double (own_bp cv dv)), .second] [(.double (own_bp cv dv))])) _
    refine XS.iload X12.here hx rfl (hb hby at_101) rfl ?_
    show Steps p.tables e below (T12.setTop (mkF m 103 #[.val (.int p0), .val (.int p1), .val (.int p2), .val (.int p3), .val (.int p4), .val (.long q5), .second, .val (.int av), .val (.int bv), .val (.int cv), .val (.int dv), .val (.double (FP.i2d (p4 &&& (255 : Int32)))), .second, .val (.double (own_bp av bv)), .second, .val (.double (own_bp cv dv)), .second] [(.int cv), (.double (own_bp cv dv))])) _
    refine XS.iload X12.here hx rfl (hb hby at_103) rfl ?_
    show Steps p.tables e below (T12.setTop (mkF m 105 #[.val (.int p0), .val (.int p1), .val (.int p2), .val (.int p3), .val (.int p4), .val (.long q5), .second, .val (.int av), .val (.int bv), .val (.int cv), .val (.int dv), .val (.double (FP.i2d (p4 &&& (255 : Int32)))), .second, .val (.double (own_bp av bv)), .second, .val (.double (own_bp cv dv)), .second] [(.int dv), (.int cv), (.double (own_bp cv dv))])) _
    refine st13 _ ?_
    show Steps p.tables e below (T13.setTop (mkF m 108 #[.val (.int p0), .val (.int p1), .val (.int p2), .val (.int p3), .val (.int p4), .val (.long q5), .second, .val (.int av), .val (.int bv), .val (.int cv), .val (.int dv), .val (.double (FP.i2d (p4 &&& (255 : Int32)))), .second, .val (.double (own_bp av bv)), .second, .val (.double (own_bp cv dv)), .second] [(.int (own_f5 (own_bp cv dv) cv dv))])) _
    refine XS.ifNo X13.here hx rfl (hb hby at_108) rfl ((if0 _ _).trans (feq (own_n1 (own_fits hr2))).1) ?_
    show Steps p.tables e below (T13.setTop (mkF m 111 #[.val (.int p0), .val (.int p1), .val (.int p2), .val (.int p3), .val (.int p4), .val (.long q5), .second, .val (.int av), .val (.int bv), .val (.int cv), .val (.int dv), .val (.double (FP.i2d (p4 &&& (255 : Int32)))), .second, .val (.double (own_bp av bv)), .second, .val (.double (own_bp cv dv)), .second] [])) _
    refine XS.dload X13.here hx rfl (hb hby at_111) rfl ?_
    show Steps p.tables e below (T13.setTop (mkF m 113 #[.val (.int p0), .val (.int p1), .val (.int p2), .val (.int p3), .val (.int p4), .val (.long q5), .second, .val (.int av), .val (.int bv), .val (.int cv), .val (.int dv), .val (.double (FP.i2d (p4 &&& (255 : Int32)))), .second, .val (.double (own_bp av bv)), .second, .val (.double (own_bp cv dv)), .second] [(.double (own_bp av bv))])) _
    refine XS.iload X13.here hx rfl (hb hby at_113) rfl ?_
    show Steps p.tables e below (T13.setTop (mkF m 115 #[.val (.int p0), .val (.int p1), .val (.int p2), .val (.int p3), .val (.int p4), .val (.long q5), .second, .val (.int av), .val (.int bv), .val (.int cv), .val (.int dv), .val (.double (FP.i2d (p4 &&& (255 : Int32)))), .second, .val (.double (own_bp av bv)), .second, .val (.double (own_bp cv dv)), .second] [(.int av), (.double (own_bp av bv))])) _
    refine XS.iload X13.here hx rfl (hb hby at_115) rfl ?_
    show Steps p.tables e below (T13.setTop (mkF m 117 #[.val (.int p0), .val (.int p1), .val (.int p2), .val (.int p3), .val (.int p4), .val (.long q5), .second, .val (.int av), .val (.int bv), .val (.int cv), .val (.int dv), .val (.double (FP.i2d (p4 &&& (255 : Int32)))), .second, .val (.double (own_bp av bv)), .second, .val (.double (own_bp cv dv)), .second] [(.int bv), (.int av), (.double (own_bp av bv))])) _
    refine XS.dload X13.here hx rfl (hb hby at_117) rfl ?_
    show Steps p.tables e below (T13.setTop (mkF m 119 #[.val (.int p0), .val (.int p1), .val (.int p2), .val (.int p3), .val (.int p4), .val (.long q5), .second, .val (.int av), .val (.int bv), .val (.int cv), .val (.int dv), .val (.double (FP.i2d (p4 &&& (255 : Int32)))), .second, .val (.double (own_bp av bv)), .second, .val (.double (own_bp cv dv)), .second] [(.double (own_bp cv dv)), (.int bv), (.int av), (.double (own_bp av bv))])) _
    refine XS.iload X13.here hx rfl (hb hby at_119) rfl ?_
    show Steps p.tables e below (T13.setTop (mkF m 121 #[.val (.int p0), .val (.int p1), .val (.int p2), .val (.int p3), .val (.int p4), .val (.long q5), .second, .val (.int av), .val (.int bv), .val (.int cv), .val (.int dv), .val (.double (FP.i2d (p4 &&& (255 : Int32)))), .second, .val (.double (own_bp av bv)), .second, .val (.double (own_bp cv dv)), .second] [(.int cv), (.double (own_bp cv dv)), (.int bv), (.int av), (.double (own_bp av bv))])) _
    refine XS.iload X13.here hx rfl (hb hby at_121) rfl ?_
    show Steps p.tables e below (T13.setTop (mkF m 123 #[.val (.int p0), .val (.int p1), .val (.int p2), .val (.int p3), .val (.int p4), .val (.long q5), .second, .val (.int av), .val (.int bv), .val (.int cv), .val (.int dv), .val (.double (FP.i2d (p4 &&& (255 : Int32)))), .second, .val (.double (own_bp av bv)), .second, .val (.double (own_bp cv dv)), .second] [(.int dv), (.int cv), (.double (own_bp cv dv)), (.int bv), (.int av), (.double (own_bp av bv))])) _
    refine st14 _ ?_
    show Steps p.tables e below (T14.setTop (mkF m 126 #[.val (.int p0), .val (.int p1), .val (.int p2), .val (.int p3), .val (.int p4), .val (.long q5), .second, .val (.int av), .val (.int bv), .val (.int cv), .val (.int dv), .val (.double (FP.i2d (p4 &&& (255 : Int32)))), .second, .val (.double (own_bp av bv)), .second, .val (.double (own_bp cv dv)), .second] [(.int (own_f6 (own_bp av bv) av bv (own_bp cv dv) cv dv ))])) _
    refine XS.ifNo X14.here hx rfl (hb hby at_126) rfl ((if0 _ _).trans (feq (own_n1 (own_ord hr1 hr2))).1) ?_
    show Steps p.tables e below (T14.setTop (mkF m 129 #[.val (.int p0), .val (.int p1), .val (.int p2), .val (.int p3), .val (.int p4), .val (.long q5), .second, .val (.int av), .val (.int bv), .val (.int cv), .val (.int dv), .val (.double (FP.i2d (p4 &&& (255 : Int32)))), .second, .val (.double (own_bp av bv)), .second, .val (.double (own_bp cv dv)), .second] [])) _
    refine XS.iconst X14.here hx rfl (hb hby at_129) ?_
    show Steps p.tables e below (T14.setTop (mkF m 130 #[.val (.int p0), .val (.int p1), .val (.int p2), .val (.int p3), .val (.int p4), .val (.long q5), .second, .val (.int av), .val (.int bv), .val (.int cv), .val (.int dv), .val (.double (FP.i2d (p4 &&& (255 : Int32)))), .second, .val (.double (own_bp av bv)), .second, .val (.double (own_bp cv dv)), .second] [(.int (1 : Int32))])) _
    refine XS.goto X14.here hx rfl (pc0 := 130) (pc' := 134) rfl (hb hby at_130) (by decide) (by decide) ?_
    exact k
  obtain ⟨fs, hr, hrun, hended, hW, hsame⟩ := X14.leave (v := some (.int (1 : Int32))) (fun h => by rw [Bd.returns] at h; cases h)
  refine ⟨_, _, k15 _ ?_, hrun, hended, _, _, rfl, ?_, ⟨_, rfl⟩, hW, hsame.mono (by decide) (by decide)⟩
  · exact retN X14 hx (t := .boolean) Bd.returns (by simp) (hb hby at_134) hr
  · show own_R (some (.int 1)) n0 _ T14.heap _
    rw [e14]
    exact ⟨rfl, N14⟩
set_option maxRecDepth 65536 in
set_option maxHeartbeats 40000000 in
theorem comes_1 {Post : Tables → Env → Array Value → State → Outcome → State → Prop} (hpost : ∀ tb e args s v u, (limb_1_1.after args s (.returned v) u = true ∧ limb_1_2.after args s (.returned v) u = true ∧ True) → FrameEnd s (.returned v) u (Jvm.fieldLocs frame_1_writes args s ++ Jvm.arrayLocs frame_1_arrays args s ++ Jvm.staticLocs frame_1_statics s) 16 128 → Post tb e args s (.returned v) u) :
    ArmFor flags0 classFile x code maxLocals ret World_1 tables_1 room_1 Calls_1 rest_1 Pre_1 Post := by
  intro l hfl _ _ p e ha hc hk s m args below hf hA hF happ hP
  obtain ⟨hcalls, hrest, hpre⟩ := hP
  obtain ⟨-, -, -, hnamed, -, -, -, hat⟩ := (Spec.applies_iff hf).mp happ
  obtain ⟨hg, hn⟩ := and_e (Cond.before_iff.mp (show (Jvm.Cond.and given_1 narrow_1).before args s = true from hpre))
  obtain ⟨g0a, g0b⟩ := and_e hg
  obtain ⟨g1a, g1b⟩ := and_e g0b
  obtain ⟨g2a, g2b⟩ := and_e g1b
  obtain ⟨g3a, g3b⟩ := and_e g2b
  obtain ⟨g4a, g4b⟩ := and_e g3b
  obtain ⟨g5a, g5b⟩ := and_e g4b
  obtain ⟨w0, w1, w2, w3, w4, w5, rfl⟩ : ∃ w0 w1 w2 w3 w4 w5 : Value, args = #[w0, w1, w2, w3, w4, w5] := by
    have hs : args.size = 6 := by simpa [Cond.value, given_1] using g0a
    obtain ⟨L⟩ := args
    match L, hs with
    | [w0, w1, w2, w3, w4, w5], _ => exact ⟨w0, w1, w2, w3, w4, w5, rfl⟩
  have hw := fun d (hd : d ∈ tables_1) => atoms_spec (ws := Jvm.Cond.code x code maxLocals ret :: tables_1) hat d (List.mem_cons_of_mem _ hd)
  have hfit : Fit s := fun {y c} hc i hi => by
    obtain ⟨ha, rfl⟩ := Array.getElem?_eq_some_iff.mp hc
    have q := List.all_eq_true.mp ((Array.all_eq_true_iff_forall_mem.mp hF) _ (Array.getElem_mem ha)) i (List.mem_range.mpr hi)
    simpa [Array.getElem?_eq_getElem hi] using q
  obtain ⟨i0, ei0⟩ := is_v g1a
  obtain rfl : w0 = (.int i0) := Option.some.inj ei0
  obtain ⟨i1, ei1⟩ := is_v g2a
  obtain rfl : w1 = (.int i1) := Option.some.inj ei1
  obtain ⟨i2, ei2⟩ := is_v g3a
  obtain rfl : w2 = (.int i2) := Option.some.inj ei2
  obtain ⟨i3, ei3⟩ := is_v g4a
  obtain rfl : w3 = (.int i3) := Option.some.inj ei3
  obtain ⟨i4, ei4⟩ := is_v g5a
  obtain rfl : w4 = (.int i4) := Option.some.inj ei4
  obtain ⟨i5, ei5⟩ := isL_v g5b
  obtain rfl : w5 = (.long i5) := Option.some.inj ei5
  obtain ⟨n, o, h1, h2, h3, _, L, rfl, ⟨rfl, N⟩, hq⟩ := rm0 l s _ hw tables_1 i0 i1 i2 i3 i4 i5 s.heap s.heap.size (Nat.le_refl _) p e ha hc hk s m _ below hf ((Spec.applies_iff_loose hf).mp happ).1 ⟨rfl, State.Warmed39.refl s, rfl⟩ trivial
  refine ⟨n, _, h1, h2, h3, hpost _ _ _ _ _ _ ⟨Cond.after_iff.mpr rfl, Cond.after_iff.mpr (eq_i res_at (Term.int_eval (1)) rfl), trivial⟩ ⟨hq.1, hq.2.1, (hq.2.2.sift fun y hy => Or.inr (N y hy)).mono (by decide) (by decide)⟩⟩
theorem main_1_1 : Claimed_1_1 := comes_1 fun _ _ _ _ _ _ h hF => ⟨h.1, hF⟩
theorem main_1_2 : Claimed_1_2 := comes_1 fun _ _ _ _ _ _ h hF => ⟨h.2.1, hF⟩
end Jvm.Pilot.@@N@@
namespace Jvm.Pilot.@@N@@
open Jvm Jvm.ClassFile Sem Op Lib Jvm.Free Jvm.Stand Jvm.Pilot.@@N@@.Jvm.D
/-! MADE BY PROGRAM (witnessworld.py) out of the Statement's table words and the real class files: 10 classes; the members and pool entries that the words name. The judged class is class 1, her method 1. -/
namespace start1
open Jvm.ClassFile
def u (s : String) : CpInfo := .utf8 (stringToUtf16 s)
/-- a pool by its gaps: so many unusable entries, then the entry; so many at the end -/
def gap : Nat → List CpInfo → List CpInfo
  | 0, r => r
  | n + 1, r => .unusable :: gap n r
def poolList (es : List (Nat × CpInfo)) (last : Nat) : List CpInfo := es.foldr (fun e r => gap e.1 (e.2 :: r)) (gap last [])
def pool (es : List (Nat × CpInfo)) (last : Nat) : Array CpInfo := ⟨poolList es last⟩
def fileOf (pool : Array CpInfo) (this : Nat) (attrs : Array Attribute := #[]) (ms : Array MethodInfo := #[]) (fl : Nat := 33) (sup : Nat := 0) (ifs : Array Nat := #[]) (fds : Array FieldInfo := #[]) : ClassFile where
  minorVersion := 0
  majorVersion := 65
  constantPool := pool
  accessFlags := fl
  thisClass := this
  superClass := sup
  interfaces := ifs
  fields := fds
  methods := ms
  attributes := attrs
def plain (name : String) (sup : Option ClassId) : Class where
  name := name
  kind := .ordinary
  loader := none
  accessFlags := 33
  super := sup
  interfaces := #[]
  cf := none
  fields := #[]
  methods := #[]
  instanceTypes := #[]
  staticTypes := #[]
  resolved := #[]
  callSites := []
  init := .initialized
  statics := none
  mirror := none

def pool0 : Array CpInfo := pool [(5, u "<init>"), (0, u "()V"), (1, .class_ 10), (1, u "java/lang/Object")] 113

def k0c0 : Code := { maxStack := 0, maxLocals := 1, code := object_method_1_code, exceptionTable := #[], attributes := #[] }
def k0m0 : Method := { name := "<init>", desc := "()V", sig := { parameters := [], returnType := none }, accessFlags := 1, code := some k0c0 }
/-- java/lang/Object -/
def k0 : Class := { plain "java/lang/Object" none with
  accessFlags := 33
  interfaces := #[]
  cf := some (fileOf pool0 8 #[] #[{ accessFlags := 1, nameIndex := 5, descriptorIndex := 6, attributes := #[] }] 33 0 #[] #[])
  fields := #[]
  methods := #[k0m0]
  instanceTypes := #[]
  staticTypes := #[]
  resolved := Array.replicate 124 none
  statics := none }

def pool1 : Array CpInfo := pool [(2, .class_ 4), (1, u "java/lang/Object"), (0, u "<init>"), (0, u "()V"), (0, .integer 1048575), (0, .integer 2147483647), (0, .class_ 10), (0, u "com/example/lightloom/lightloom/plan/Simulation$Result"), (0, .methodref 9 12), (0, .nameAndType 5 13), (0, u "(IIDJ)V"), (0, .methodref 9 15), (0, .nameAndType 16 17), (0, u "blockingProbability"), (0, u "()D"), (0, .methodref 19 20), (0, .class_ 21), (0, .nameAndType 22 23), (0, u "com/example/lightloom/lightloom/plan/ResultBlockingProbabilityPinLaw"), (0, u "fits"), (0, u "(DII)Z"), (0, .methodref 19 25), (0, .nameAndType 26 27), (0, u "ordered"), (0, u "(DIIDII)Z"), (0, .double 4463067230724161536), (3, u "law"), (0, u "(IIIIIJ)Z")] 7

def k1m0 : Method := { name := "<init>", desc := "()V", sig := { parameters := [], returnType := none }, accessFlags := 2, code := none }
def k1c1 : Code := { maxStack := 8, maxLocals := 17, code := code, exceptionTable := #[], attributes := #[] }
def k1m1 : Method := { name := "law", desc := "(IIIIIJ)Z", sig := { parameters := [.int, .int, .int, .int, .int, .long], returnType := some .boolean }, accessFlags := 9, code := some k1c1 }
def k1c2 : Code := { maxStack := 4, maxLocals := 8, code := method_3_code, exceptionTable := #[], attributes := #[] }
def k1m2 : Method := { name := "fits", desc := "(DII)Z", sig := { parameters := [.double, .int, .int], returnType := some .boolean }, accessFlags := 10, code := some k1c2 }
def k1c3 : Code := { maxStack := 5, maxLocals := 12, code := method_4_code, exceptionTable := #[], attributes := #[] }
def k1m3 : Method := { name := "ordered", desc := "(DIIDII)Z", sig := { parameters := [.double, .int, .int, .double, .int, .int], returnType := some .boolean }, accessFlags := 10, code := some k1c3 }
/-- com/example/lightloom/lightloom/plan/ResultBlockingProbabilityPinLaw -/
def k1 : Class := { plain "com/example/lightloom/lightloom/plan/ResultBlockingProbabilityPinLaw" (some 0) with
  accessFlags := 49
  interfaces := #[]
  cf := some (fileOf pool1 19 #[] #[{ accessFlags := 2, nameIndex := 5, descriptorIndex := 6, attributes := #[] }, { accessFlags := 9, nameIndex := 32, descriptorIndex := 33, attributes := #[] }, { accessFlags := 10, nameIndex := 22, descriptorIndex := 23, attributes := #[] }, { accessFlags := 10, nameIndex := 26, descriptorIndex := 27, attributes := #[] }] 49 2 #[] #[])
  fields := #[]
  methods := #[k1m0, k1m1, k1m2, k1m3]
  instanceTypes := #[]
  staticTypes := #[]
  resolved := Array.replicate 41 none
  statics := none }

def pool2 : Array CpInfo := pool [(1, .methodref 2 3), (0, .class_ 4), (0, .nameAndType 5 6), (0, u "java/lang/Object"), (0, u "<init>"), (0, u "()V"), (0, .class_ 8), (0, u "java/lang/Record")] 13

def k2c0 : Code := { maxStack := 1, maxLocals := 1, code := jdk_30_method_1_code, exceptionTable := #[], attributes := #[] }
def k2m0 : Method := { name := "<init>", desc := "()V", sig := { parameters := [], returnType := none }, accessFlags := 4, code := some k2c0 }
/-- java/lang/Record -/
def k2 : Class := { plain "java/lang/Record" (some 0) with
  accessFlags := 1057
  interfaces := #[]
  cf := some (fileOf pool2 7 #[] #[{ accessFlags := 4, nameIndex := 5, descriptorIndex := 6, attributes := #[] }] 1057 2 #[] #[])
  fields := #[]
  methods := #[k2m0]
  instanceTypes := #[]
  staticTypes := #[]
  resolved := Array.replicate 22 none
  statics := none }

def pool3 : Array CpInfo := pool [(1, .methodref 2 3), (0, .class_ 4), (0, .nameAndType 5 6), (0, u "java/lang/Record"), (0, u "<init>"), (0, u "()V"), (0, .fieldref 8 9), (0, .class_ 10), (0, .nameAndType 11 12), (0, u "com/example/lightloom/lightloom/plan/Simulation$Result"), (0, u "arrivals"), (0, u "I"), (0, .fieldref 8 14), (0, .nameAndType 15 12), (0, u "blocked"), (0, .fieldref 8 17), (0, .nameAndType 18 19), (0, u "standardError"), (0, u "D"), (0, .fieldref 8 21), (0, .nameAndType 22 23), (0, u "carriedHops"), (0, u "J"), (16, u "(IIDJ)V"), (3, u "blockingProbability"), (0, u "()D"), (8, .class_ 55), (0, u "com/example/lightloom/lightloom/plan/Simulation")] 22

def k3c0 : Code := { maxStack := 3, maxLocals := 7, code := prog_49_method_1_code, exceptionTable := #[], attributes := #[] }
def k3m0 : Method := { name := "<init>", desc := "(IIDJ)V", sig := { parameters := [.int, .int, .double, .long], returnType := none }, accessFlags := 1, code := some k3c0 }
def k3c1 : Code := { maxStack := 4, maxLocals := 1, code := prog_49_method_3_code, exceptionTable := #[], attributes := #[] }
def k3m1 : Method := { name := "blockingProbability", desc := "()D", sig := { parameters := [], returnType := some .double }, accessFlags := 1, code := some k3c1 }
/-- com/example/lightloom/lightloom/plan/Simulation$Result -/
def k3 : Class := { plain "com/example/lightloom/lightloom/plan/Simulation$Result" (some 2) with
  accessFlags := 49
  interfaces := #[]
  cf := some (fileOf pool3 8 #[.nestHost 54] #[{ accessFlags := 1, nameIndex := 5, descriptorIndex := 40, attributes := #[] }, { accessFlags := 1, nameIndex := 44, descriptorIndex := 45, attributes := #[] }] 49 2 #[] #[{ accessFlags := 18, nameIndex := 11, descriptorIndex := 12, attributes := #[] }, { accessFlags := 18, nameIndex := 15, descriptorIndex := 12, attributes := #[] }, { accessFlags := 18, nameIndex := 18, descriptorIndex := 19, attributes := #[] }, { accessFlags := 18, nameIndex := 22, descriptorIndex := 23, attributes := #[] }])
  fields := #[{ name := "arrivals", type := .int, accessFlags := 18, slot := 0, constantValue := 0 }, { name := "blocked", type := .int, accessFlags := 18, slot := 1, constantValue := 0 }, { name := "standardError", type := .double, accessFlags := 18, slot := 2, constantValue := 0 }, { name := "carriedHops", type := .long, accessFlags := 18, slot := 3, constantValue := 0 }]
  methods := #[k3m0, k3m1]
  instanceTypes := #[.int, .int, .double, .long]
  staticTypes := #[]
  resolved := Array.replicate 78 none
  statics := none }

def pool4 : Array CpInfo := pool [(1, u "java/lang/Cloneable"), (0, .class_ 1), (0, u "java/lang/Object"), (0, .class_ 3)] 3

/-- java/lang/Cloneable -/
def k4 : Class := { plain "java/lang/Cloneable" (some 0) with
  accessFlags := 1537
  interfaces := #[]
  cf := some (fileOf pool4 2 #[] #[] 1537 4 #[] #[])
  fields := #[]
  methods := #[]
  instanceTypes := #[]
  staticTypes := #[]
  resolved := Array.replicate 8 none
  statics := none }

def pool5 : Array CpInfo := pool [(1, u "java/io/Serializable"), (0, .class_ 1), (0, u "java/lang/Object"), (0, .class_ 3)] 3

/-- java/io/Serializable -/
def k5 : Class := { plain "java/io/Serializable" (some 0) with
  accessFlags := 1537
  interfaces := #[]
  cf := some (fileOf pool5 2 #[] #[] 1537 4 #[] #[])
  fields := #[]
  methods := #[]
  instanceTypes := #[]
  staticTypes := #[]
  resolved := Array.replicate 8 none
  statics := none }

/-- the primitive byte -/
def k6 : Class := { plain "byte" none with kind := .primitive 'B', accessFlags := 0x411 }
/-- [B -/
def k7 : Class := { plain "[B" (some 0) with kind := .array 6 .byte, interfaces := #[4, 5], accessFlags := 1041 }

/-- the primitive int -/
def k8 : Class := { plain "int" none with kind := .primitive 'I', accessFlags := 0x411 }
/-- [I -/
def k9 : Class := { plain "[I" (some 0) with kind := .array 8 .int, interfaces := #[4, 5], accessFlags := 1041 }

def heap : Heap := #[]
def classes : Array Class := #[k0, k1, k2, k3, k4, k5, k6, k7, k8, k9]
def interned : List (Array UInt16 × Addr) := []
def slotsUsed : Nat := 0
def theMethod : MethodId := ⟨1, 1⟩
def args0 : Array Value := #[.int 5, .int 5, .int 5, .int 5, .int 5, .long 5]
def aboutOver (below : List Frame) : State where
  vm := { classes := classes, interned := interned.toArray }
  heap := heap
  slotsUsed := slotsUsed
  threads := #[{ frames := .invoking theMethod args0 :: below }]
def below0 : List Frame := [.native { method := ⟨0, 0⟩, args := #[] }]
def about1 : State := aboutOver below0
def p0 : Program := .bare "" "" ""
def e0 : Env := launch0.env 0 0 0
theorem w_frames : about1.frames = Frame.invoking theMethod args0 :: below0 := rfl
set_option maxRecDepth 65536 in
theorem w_args : argsFit about1.vm theMethod args0 = true := by decide +kernel
set_option maxRecDepth 65536 in
theorem w_heap : heapFits about1 = true := by decide +kernel
set_option maxRecDepth 65536 in
theorem w_runnable : about1.curStatus? = some .runnable := by decide +kernel
set_option maxRecDepth 65536 in
theorem w_alone : about1.alone = true := by decide +kernel
set_option maxRecDepth 65536 in
theorem w_named : about1.methodNamed? x = some theMethod := by decide +kernel
set_option maxRecDepth 65536 in
theorem w_hears : about1.hears theMethod below0 = true := by decide +kernel
set_option maxRecDepth 65536 in
theorem w_ripe : about1.ripe theMethod args0 below0 = true := by decide +kernel
theorem w_running : about1.status = .running := rfl
set_option maxRecDepth 65536 in
theorem w_room : about1.hasRoom e0.platform room_1 = true :=
  launch0.hasRoom_least _ room_1 (by decide +kernel) (by decide +kernel) (by decide +kernel) (by decide +kernel) (by decide +kernel) (by decide +kernel)
theorem allAtoms_all (ts : List Jvm.Cond) (a : Array Jvm.Value) (st : Jvm.State) : (allAtoms ts).before a st = ts.all (fun c => c.before a st) := by
  induction ts with
  | nil => rfl
  | cons c t ih =>
    show (Jvm.Cond.and c (allAtoms t)).before a st = _
    rw [Jvm.Cond.before_and, ih, List.all_cons]
def words1 : List Jvm.Cond := Jvm.Cond.code x code maxLocals ret :: tables_1
/-- a 'code' word, met by the world's own term for the bytes: nothing is compared byte by byte -/
theorem code_word {y : MethodName} {bytes : ByteArray} {mx : Nat} {rt : Option FieldType} {a : Array Value} {s : State} {m : MethodId} {meth : Method} {c : Code} (h1 : s.methodNamed? y = some m) (h2 : s.vm.method? m = some meth) (h3 : meth.code = some c) (h4 : c.code = bytes)
    (h5 : (c.maxLocals == mx && c.exceptionTable.isEmpty && decide (c.maxStack ≤ mostOperands) && decide (meth.sig.returnType = rt) && !meth.locks && decide (parseMethodDescriptor y.desc = some meth.sig)) = true) : (Jvm.Cond.code y bytes mx rt).before a s = true := by
  simp only [Bool.and_eq_true, beq_iff_eq, Bool.not_eq_true', decide_eq_true_eq] at h5
  obtain ⟨⟨⟨⟨⟨g1, g2⟩, g3⟩, g4⟩, g5⟩, g6⟩ := h5
  simp [Cond.before, Cond.holds, Cond.value, h1, h2, h3, h4, g1, g2, g3, g4, g5, g6]
def isCode : Jvm.Cond → Bool
  | .code _ _ _ _ => true
  | _ => false
theorem all_split {L : List Jvm.Cond} {P : Jvm.Cond → Bool} (h1 : L.all (fun c => isCode c || P c) = true) (h2 : ∀ c ∈ L.filter isCode, P c = true) : L.all P = true := by
  refine List.all_eq_true.mpr fun c hc => ?_
  have h := List.all_eq_true.mp h1 c hc
  rcases Bool.eq_false_or_eq_true (isCode c) with hi | hi
  · exact h2 c (List.mem_filter.mpr ⟨hc, hi⟩)
  · simpa [hi] using h
set_option maxRecDepth 65536 in
theorem w_c0 : (Jvm.Cond.code x code maxLocals ret).before args0 about1 = true := code_word (m := ⟨1, 1⟩) (meth := k1m1) (c := k1c1) (by decide +kernel) rfl rfl rfl (by decide +kernel)
set_option maxRecDepth 65536 in
theorem w_c1 : (Jvm.Cond.code ({ cls := "com/example/lightloom/lightloom/plan/Simulation$Result", name := "<init>", desc := "(IIDJ)V" } : Jvm.MethodName) prog_49_method_1_code (7 : Nat) (Option.none : Option Jvm.ClassFile.FieldType)).before args0 about1 = true := code_word (m := ⟨3, 0⟩) (meth := k3m0) (c := k3c0) (by decide +kernel) rfl rfl rfl (by decide +kernel)
set_option maxRecDepth 65536 in
theorem w_c2 : (Jvm.Cond.code ({ cls := "java/lang/Record", name := "<init>", desc := "()V" } : Jvm.MethodName) jdk_30_method_1_code (1 : Nat) (Option.none : Option Jvm.ClassFile.FieldType)).before args0 about1 = true := code_word (m := ⟨2, 0⟩) (meth := k2m0) (c := k2c0) (by decide +kernel) rfl rfl rfl (by decide +kernel)
set_option maxRecDepth 65536 in
theorem w_c3 : (Jvm.Cond.code ({ cls := "java/lang/Object", name := "<init>", desc := "()V" } : Jvm.MethodName) object_method_1_code (1 : Nat) (Option.none : Option Jvm.ClassFile.FieldType)).before args0 about1 = true := code_word (m := ⟨0, 0⟩) (meth := k0m0) (c := k0c0) (by decide +kernel) rfl rfl rfl (by decide +kernel)
set_option maxRecDepth 65536 in
theorem w_c4 : (Jvm.Cond.code ({ cls := "com/example/lightloom/lightloom/plan/Simulation$Result", name := "blockingProbability", desc := "()D" } : Jvm.MethodName) prog_49_method_3_code (1 : Nat) (Option.some Jvm.ClassFile.FieldType.double)).before args0 about1 = true := code_word (m := ⟨3, 1⟩) (meth := k3m1) (c := k3c1) (by decide +kernel) rfl rfl rfl (by decide +kernel)
set_option maxRecDepth 65536 in
theorem w_c5 : (Jvm.Cond.code ({ cls := "com/example/lightloom/lightloom/plan/ResultBlockingProbabilityPinLaw", name := "fits", desc := "(DII)Z" } : Jvm.MethodName) method_3_code (8 : Nat) (Option.some Jvm.ClassFile.FieldType.boolean)).before args0 about1 = true := code_word (m := ⟨1, 2⟩) (meth := k1m2) (c := k1c2) (by decide +kernel) rfl rfl rfl (by decide +kernel)
set_option maxRecDepth 65536 in
theorem w_c6 : (Jvm.Cond.code ({ cls := "com/example/lightloom/lightloom/plan/ResultBlockingProbabilityPinLaw", name := "ordered", desc := "(DIIDII)Z" } : Jvm.MethodName) method_4_code (12 : Nat) (Option.some Jvm.ClassFile.FieldType.boolean)).before args0 about1 = true := code_word (m := ⟨1, 3⟩) (meth := k1m3) (c := k1c3) (by decide +kernel) rfl rfl rfl (by decide +kernel)
def codes1 : List Jvm.Cond := [Jvm.Cond.code x code maxLocals ret, Jvm.Cond.code ({ cls := "com/example/lightloom/lightloom/plan/Simulation$Result", name := "<init>", desc := "(IIDJ)V" } : Jvm.MethodName) prog_49_method_1_code (7 : Nat) (Option.none : Option Jvm.ClassFile.FieldType), Jvm.Cond.code ({ cls := "java/lang/Record", name := "<init>", desc := "()V" } : Jvm.MethodName) jdk_30_method_1_code (1 : Nat) (Option.none : Option Jvm.ClassFile.FieldType), Jvm.Cond.code ({ cls := "java/lang/Object", name := "<init>", desc := "()V" } : Jvm.MethodName) object_method_1_code (1 : Nat) (Option.none : Option Jvm.ClassFile.FieldType), Jvm.Cond.code ({ cls := "com/example/lightloom/lightloom/plan/Simulation$Result", name := "blockingProbability", desc := "()D" } : Jvm.MethodName) prog_49_method_3_code (1 : Nat) (Option.some Jvm.ClassFile.FieldType.double), Jvm.Cond.code ({ cls := "com/example/lightloom/lightloom/plan/ResultBlockingProbabilityPinLaw", name := "fits", desc := "(DII)Z" } : Jvm.MethodName) method_3_code (8 : Nat) (Option.some Jvm.ClassFile.FieldType.boolean), Jvm.Cond.code ({ cls := "com/example/lightloom/lightloom/plan/ResultBlockingProbabilityPinLaw", name := "ordered", desc := "(DIIDII)Z" } : Jvm.MethodName) method_4_code (12 : Nat) (Option.some Jvm.ClassFile.FieldType.boolean)]
set_option maxRecDepth 65536 in
theorem codes_eq : words1.filter isCode = codes1 := rfl
theorem w_codes : ∀ c ∈ words1.filter isCode, c.before args0 about1 = true := by
  rw [codes_eq]
  intro c hc
  simp only [codes1, List.mem_cons, List.not_mem_nil, or_false] at hc
  rcases hc with rfl | rfl | rfl | rfl | rfl | rfl | rfl
  · exact w_c0
  · exact w_c1
  · exact w_c2
  · exact w_c3
  · exact w_c4
  · exact w_c5
  · exact w_c6
set_option maxRecDepth 65536 in
theorem w_t1 : (words1.take 24).all (fun c => isCode c || c.before args0 about1) = true := by decide +kernel
set_option maxRecDepth 65536 in
theorem w_t2 : (words1.drop 24).all (fun c => isCode c || c.before args0 about1) = true := by decide +kernel
theorem w_tables : (allAtoms (Jvm.Cond.code x code maxLocals ret :: tables_1)).before args0 about1 = true := by
  rw [allAtoms_all]
  show words1.all (fun c => c.before args0 about1) = true
  refine all_split ?_ w_codes
  rw [← List.take_append_drop 24 words1, List.all_append, w_t1, w_t2]
  rfl
set_option maxRecDepth 65536 in
theorem w_case : (Jvm.Cond.and given_1 narrow_1).before args0 about1 = true := by decide +kernel
theorem w_applies : (headSpec (Jvm.Cond.code x code maxLocals ret :: tables_1) room_1).applies x e0.platform about1 = true :=
  (Spec.applies_iff w_frames).mpr ⟨w_running, w_runnable, w_alone, w_named, w_hears, w_ripe, w_room, w_tables⟩
theorem atStart : AtStart classFile x code maxLocals ret World_1 tables_1 room_1 Calls_1 rest_1 Pre_1 launch0 p0 e0 about1 theMethod args0 below0 :=
  ⟨lists_1, trivial, launch0.admits_env _ _ _, launch0.least_env, fairChoices_fair.cas, fairChoices_fair.clock, w_frames, w_args, w_heap, w_applies, trivial, trivial, w_case⟩
end start1
theorem witness_1 : WitnessClaimed_1 := ⟨start1.p0, start1.e0, start1.about1, start1.theMethod, start1.args0, start1.below0, start1.atStart⟩
end Jvm.Pilot.@@N@@
