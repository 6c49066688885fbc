import JvmDerived
import JvmDerived.Pilot.@@N@@Statement
import JvmDerived.Pilot.@@N@@Code
set_option linter.unusedVariables false
set_option linter.unusedSimpArgs false
namespace Jvm.Pilot.@@N@@.OwnF
open Jvm.FP.Core
/-- one, in units of 2^-1074 -/
def own_P : Nat := 2 ^ 1074
theorem own_P_pos : 0 < own_P := Nat.two_pow_pos _
/-- a datum's value, in units of 2^-1074 -/
def own_V : Datum → Int
  | .fin s c q => signed s (inUnits c q (-1074))
  | _ => 0
theorem own_qmin : b64.qmin = -1074 := by decide
theorem own_signed_mul (s : Bool) (c k : Nat) : signed s (c * k) = signed s c * (k : Int) := by
  unfold signed
  split
  · rw [Int.natCast_mul, Int.neg_mul]
  · rw [Int.natCast_mul]
theorem own_compare_mul {a b : Int} {k : Int} (hk : 0 < k) : compare (a * k) (b * k) = compare a b := by
  rcases Int.lt_trichotomy a b with h | h | h
  · have h2 : a * k < b * k := Int.mul_lt_mul_of_pos_right h hk
    rw [Int.compare_eq_lt.mpr h, Int.compare_eq_lt.mpr h2]
  · subst h; rw [Int.compare_eq_eq.mpr rfl, Int.compare_eq_eq.mpr rfl]
  · have h2 : b * k < a * k := Int.mul_lt_mul_of_pos_right h hk
    rw [Int.compare_eq_gt.mpr h, Int.compare_eq_gt.mpr h2]
theorem own_order {s t : Bool} {c d : Nat} {q r : Int} (h1 : -1074 ≤ q) (h2 : -1074 ≤ r) :
    order (.fin s c q) (.fin t d r) = some (compare (own_V (.fin s c q)) (own_V (.fin t d r))) := by
  show some (compare (signed s (inUnits c q (min q r))) (signed t (inUnits d r (min q r)))) = some (compare (signed s (inUnits c q (-1074))) (signed t (inUnits d r (-1074))))
  rw [inUnits_move c (e := -1074) (r := min q r) (q := q) (by omega) (by omega), inUnits_move d (e := -1074) (r := min q r) (q := r) (by omega) (by omega), own_signed_mul, own_signed_mul, own_compare_mul]
  have := Nat.two_pow_pos (min q r - -1074).toNat
  omega
/-- finite, with this value -/
def own_Is (a : UInt64) (v : Int) : Prop := ∃ s c q, val64 a = .fin s c q ∧ own_V (.fin s c q) = v
theorem own_Is.cmp {a b : UInt64} {v w : Int} (ha : own_Is a v) (hb : own_Is b w) : dcmp a b = some (compare v w) := by
  obtain ⟨s, c, q, h1, rfl⟩ := ha
  obtain ⟨t, d, r, h2, rfl⟩ := hb
  have f1 := val64_fits a
  have f2 := val64_fits b
  rw [h1] at f1
  rw [h2] at f2
  show order (val64 a) (val64 b) = _
  rw [h1, h2]
  exact own_order (by have := f1.2.1; rw [own_qmin] at this; exact this) (by have := f2.2.1; rw [own_qmin] at this; exact this)
theorem own_Is.noNaN {a : UInt64} {v : Int} (ha : own_Is a v) : val64 a ≠ .nan := by
  obtain ⟨s, c, q, h1, -⟩ := ha
  rw [h1]; exact fun h => by cases h
theorem own_units0 (n : Nat) : inUnits n 0 (-1074) = n * own_P := by
  have e : ((0 : Int) - (-1074)).toNat = 1074 := by decide
  unfold inUnits own_P
  rw [e]
theorem own_whole {i : Int} {a : UInt64} (h : DInt i a) : own_Is a (i * (own_P : Int)) := by
  unfold DInt at h
  have f := val64_fits a
  cases e : val64 a with
  | nan => rw [e] at h; exact h.elim
  | inf s => rw [e] at h; exact h.elim
  | fin s c q =>
    rw [e] at h f
    refine ⟨s, c, q, e, ?_⟩
    have hq : -1074 ≤ q := by have := f.2.1; rw [own_qmin] at this; exact this
    have h' : signed s (c * 2 ^ q.toNat) = i * ((2 ^ (-q).toNat : Nat) : Int) := h
    show signed s (c * 2 ^ (q - -1074).toNat) = _
    have e1 : c * 2 ^ (q - -1074).toNat * 2 ^ (-q).toNat = c * 2 ^ q.toNat * own_P := by
      unfold own_P
      rw [Nat.mul_assoc, Nat.mul_assoc, ← Nat.pow_add, ← Nat.pow_add]
      congr 2; omega
    have e2 : signed s (c * 2 ^ (q - -1074).toNat) * ((2 ^ (-q).toNat : Nat) : Int) = (i * (own_P : Int)) * ((2 ^ (-q).toNat : Nat) : Int) := by
      rw [← own_signed_mul, e1, own_signed_mul, h', Int.mul_assoc, Int.mul_comm ((2 ^ (-q).toNat : Nat) : Int), ← Int.mul_assoc]
    have p : (0 : Int) < ((2 ^ (-q).toNat : Nat) : Int) := by have := Nat.two_pow_pos (-q).toNat; omega
    exact Int.eq_of_mul_eq_mul_right (Int.ne_of_gt p) e2
theorem own_rr (f : Fmt) (s : Bool) (A B : Nat) (e : Int) : (∃ c q, roundRatio f s A B e = .fin s c q) ∨ roundRatio f s A B e = .inf s := by
  unfold roundRatio
  split
  · exact Or.inl ⟨_, _, rfl⟩
  · unfold roundAt settle bound
    split
    · split
      · exact Or.inl ⟨_, _, rfl⟩
      · exact Or.inr rfl
    · split
      · exact Or.inl ⟨_, _, rfl⟩
      · exact Or.inr rfl
theorem own_near {A M Y J : Nat} (hJ : 0 < J) (h : ((A : Int) - (M : Int) * (J : Int)).natAbs ≤ ((A : Int) - (Y : Int) * (J : Int)).natAbs) : (A ≤ Y * J → M ≤ Y) ∧ (Y * J ≤ A → Y ≤ M) := by
  rw [← Int.natCast_mul, ← Int.natCast_mul] at h
  constructor
  · intro h1
    refine Nat.le_of_not_lt fun h2 => ?_
    have h3 : (Y + 1) * J ≤ M * J := Nat.mul_le_mul_right J h2
    rw [Nat.add_mul, Nat.one_mul] at h3
    generalize M * J = x at *
    generalize Y * J = y at *
    omega
  · intro h1
    refine Nat.le_of_not_lt fun h2 => ?_
    have h3 : (M + 1) * J ≤ Y * J := Nat.mul_le_mul_right J h2
    rw [Nat.add_mul, Nat.one_mul] at h3
    generalize M * J = x at *
    generalize Y * J = y at *
    omega
/-- a magnitude A / J, rounded: it lies on the same side of every number of the format -/
theorem own_ratio {s : Bool} {A J : Nat} (hJ : 0 < J) (hA : A < 2 ^ 100) :
    ∃ c q, roundRatio b64 s A J 0 = .fin s c q ∧ (A = 0 → c = 0) ∧
      ∀ c' q', c' < 2 ^ 53 → -1074 ≤ q' → (A * own_P ≤ inUnits c' q' (-1074) * J → inUnits c q (-1074) ≤ inUnits c' q' (-1074)) ∧ (inUnits c' q' (-1074) * J ≤ A * own_P → inUnits c' q' (-1074) ≤ inUnits c q (-1074)) := by
  rcases own_rr b64 s A J 0 with ⟨c, q, e⟩ | e
  · refine ⟨c, q, e, fun h0 => ?_, fun c' q' g1 g2 => ?_⟩
    · unfold roundRatio at e
      rw [if_pos h0] at e
      cases e; rfl
    · have w := roundRatio_nearest good_b64 hJ e (c' := c') (q' := q') g1 (by rw [own_qmin]; exact g2) (e0 := -1074) (by rw [own_qmin]; omega) (by omega)
      unfold distance at w
      rw [own_units0] at w
      exact own_near hJ w
  · exfalso
    rw [roundRatio_inf good_b64 hJ (e0 := -1075) (by rw [own_qmin]; omega) (by omega)] at e
    have k0 : ((0 : Int) - (-1075)).toNat = 1075 := by decide
    have k1 : inUnits A 0 (-1075) = A * 2 ^ 1075 := by unfold inUnits; rw [k0]
    rw [k1] at e
    have k2 : (2 : Nat) ^ 100 * 2 ^ 1075 ≤ (2 ^ (b64.p + 1) - 1) * 2 ^ (b64.qmax - 1 - -1075).toNat := by decide +kernel
    have k3 : A * 2 ^ 1075 < 2 ^ 100 * 2 ^ 1075 := Nat.mul_lt_mul_of_pos_right hA (Nat.two_pow_pos _)
    have k4 : (2 ^ (b64.p + 1) - 1) * 2 ^ (b64.qmax - 1 - -1075).toNat * 1 ≤ (2 ^ (b64.p + 1) - 1) * 2 ^ (b64.qmax - 1 - -1075).toNat * J := Nat.mul_le_mul_left _ hJ
    rw [Nat.mul_one] at k4
    exact absurd (Nat.lt_of_lt_of_le k3 (Nat.le_trans k2 (Nat.le_trans k4 e))) (Nat.lt_irrefl _)
/-- the quotient of two whole numbers, as a rounded ratio -/
theorem own_divr {i j : Int} {a b : UInt64} (ha : DInt i a) (hb : DInt j b) (hj : j ≠ 0) :
    ∃ s, (i ≠ 0 → s = (decide (i < 0) != decide (j < 0))) ∧ val64 (ddiv a b) = roundRatio b64 s i.natAbs j.natAbs 0 := by
  unfold DInt at ha hb
  cases e1 : val64 a with
  | nan => rw [e1] at ha; exact ha.elim
  | inf s => rw [e1] at ha; exact ha.elim
  | fin s c q =>
  cases e2 : val64 b with
  | nan => rw [e2] at hb; exact hb.elim
  | inf s => rw [e2] at hb; exact hb.elim
  | fin t d r =>
  rw [e1] at ha
  rw [e2] at hb
  have d0 : d ≠ 0 := fun h => hj ((whole_zero hb).mp h)
  have hJ : 0 < j.natAbs := by omega
  have n1 := whole_natAbs ha
  have n2 := whole_natAbs hb
  refine ⟨s != t, fun hi0 => by rw [whole_sign ha hi0, whole_sign hb hj], ?_⟩
  rw [val64_ddiv, e1, e2]
  show (if d = 0 then _ else roundRatio b64 (s != t) c d (q - r)) = _
  rw [if_neg d0]
  refine roundRatio_congr (by omega) hJ ?_
  refine Nat.eq_of_mul_eq_mul_right (Nat.two_pow_pos (min q.toNat r.toNat + min (-q).toNat (-r).toNat)) ?_
  have x1 : (q - r - 0).toNat + (min q.toNat r.toNat + min (-q).toNat (-r).toNat) = q.toNat + (-r).toNat := by omega
  have x2 : (0 - (q - r)).toNat + (min q.toNat r.toNat + min (-q).toNat (-r).toNat) = r.toNat + (-q).toNat := by omega
  rw [Nat.mul_assoc, ← Nat.pow_add, x1, Nat.mul_assoc (i.natAbs * d), ← Nat.pow_add, x2, Nat.pow_add, Nat.pow_add]
  calc c * j.natAbs * (2 ^ q.toNat * 2 ^ (-r).toNat) = (c * 2 ^ q.toNat) * (j.natAbs * 2 ^ (-r).toNat) := by ac_rfl
    _ = (i.natAbs * 2 ^ (-q).toNat) * (d * 2 ^ r.toNat) := by rw [n1, n2]
    _ = i.natAbs * d * (2 ^ r.toNat * 2 ^ (-q).toNat) := by ac_rfl
/-- the rounded quotient of whole numbers: sign and magnitude -/
theorem own_div {i j : Int} {a b : UInt64} (ha : DInt i a) (hb : DInt j b) (hj : j ≠ 0) (hi : i.natAbs < 2 ^ 100) :
    ∃ (s : Bool) (M : Nat), own_Is (ddiv a b) (signed s M) ∧ (i ≠ 0 → s = (decide (i < 0) != decide (j < 0))) ∧ (i = 0 → M = 0) ∧
      ∀ c' q', c' < 2 ^ 53 → -1074 ≤ q' → (i.natAbs * own_P ≤ inUnits c' q' (-1074) * j.natAbs → M ≤ inUnits c' q' (-1074)) ∧ (inUnits c' q' (-1074) * j.natAbs ≤ i.natAbs * own_P → inUnits c' q' (-1074) ≤ M) := by
  obtain ⟨s, hs, e⟩ := own_divr ha hb hj
  obtain ⟨c, q, e2, h0, hn⟩ := own_ratio (s := s) (A := i.natAbs) (J := j.natAbs) (by omega) hi
  refine ⟨s, inUnits c q (-1074), ⟨s, c, q, e.trans e2, rfl⟩, hs, fun hi0 => ?_, hn⟩
  rw [h0 (by omega)]; unfold inUnits; exact Nat.zero_mul _
end Jvm.Pilot.@@N@@.OwnF
namespace Jvm.Pilot.@@N@@
open Jvm Jvm.ClassFile Sem Op Lib Jvm.Free Jvm.Stand Jvm.LawKit Jvm.RoadKit Bundle Jvm.Pilot.@@N@@.Jvm.D
def own_Q (r : Option Value) (h0 : Heap) (n0 : Nat) (v : Option Value) (h : Heap) (L : List Loc) : Prop := v = r ∧ Fr n0 L ∧ h = h0
def own_R (r : Option Value) (n0 : Nat) (v : Option Value) (h : Heap) (L : List Loc) : Prop := v = r ∧ Fr n0 L
theorem pn_0 : plainName "com/example/interlace/interlace/model/Score" = true := by first | (simp [plainName, overriddenIn]; done) | decide +kernel
theorem ef_rm1 (m : MethodId) (x0 : UInt64) (x1 : UInt64) : entryFrame m #[(.double x0), (.double x1)] 4 = mkF m 0 #[.val (.double x0), .second, .val (.double x1), .second] [] := by first | (simp [entryFrame, mkF, argsToLocals, Value.category]; done) | rfl
theorem d1_0 : decode prog_69_method_5_code 0 = .ok (.dload_n 2, 1) := by decide +kernel
theorem d1_1 : decode prog_69_method_5_code 1 = .ok (.dconst 0, 1) := by decide +kernel
theorem d1_2 : decode prog_69_method_5_code 2 = .ok (.dcmp .l, 1) := by decide +kernel
theorem d1_3 : decode prog_69_method_5_code 3 = .ok (.ifCond .ne 17, 3) := by decide +kernel
theorem d1_6 : decode prog_69_method_5_code 6 = .ok (.dload_n 0, 1) := by decide +kernel
theorem d1_7 : decode prog_69_method_5_code 7 = .ok (.dconst 0, 1) := by decide +kernel
theorem d1_8 : decode prog_69_method_5_code 8 = .ok (.dcmp .l, 1) := by decide +kernel
theorem d1_9 : decode prog_69_method_5_code 9 = .ok (.ifCond .ne 7, 3) := by decide +kernel
theorem d1_12 : decode prog_69_method_5_code 12 = .ok (.dconst 1, 1) := by decide +kernel
theorem d1_13 : decode prog_69_method_5_code 13 = .ok (.goto 6, 3) := by decide +kernel
theorem d1_19 : decode prog_69_method_5_code 19 = .ok (.dreturn, 1) := by decide +kernel
theorem d1_16 : decode prog_69_method_5_code 16 = .ok (.ldc2_w 39, 3) := by decide +kernel
theorem d1_20 : decode prog_69_method_5_code 20 = .ok (.dload_n 0, 1) := by decide +kernel
theorem d1_21 : decode prog_69_method_5_code 21 = .ok (.dload_n 2, 1) := by decide +kernel
theorem d1_22 : decode prog_69_method_5_code 22 = .ok (.ddiv, 1) := by decide +kernel
theorem d1_23 : decode prog_69_method_5_code 23 = .ok (.dreturn, 1) := by decide +kernel
def own_norm (d0 : UInt64) (d1 : UInt64) : UInt64 := (if (cmpValue (FP.dcmp d1 FP.dconst0) .l) = (0 : Int32) then (if (cmpValue (FP.dcmp d0 FP.dconst0) .l) = (0 : Int32) then FP.dconst1 else (9218868437227405312 : UInt64)) else (FP.ddiv d0 d1))
set_option maxRecDepth 65536 in
set_option maxHeartbeats 40000000 in
theorem rm1 (l : Launch) (Z : State) (a0 : Array Value) (hw : ∀ d ∈ tables_1, d.before a0 Z = true) (ws : List Jvm.Cond) (d0 : UInt64) (d1 : UInt64) (h0 : Heap) (n0 : Nat) (hnn : ¬ (cmpValue (FP.dcmp d1 FP.dconst0) .l) = (0 : Int32) → Jvm.Free.Fl.NoNaN64 (FP.ddiv d0 d1)) :
    MetFree l (⟨"com/example/interlace/interlace/model/Score", "normalized", "(DD)D"⟩ : MethodName) (head1 (Jvm.Cond.code (⟨"com/example/interlace/interlace/model/Score", "normalized", "(DD)D"⟩ : MethodName) prog_69_method_5_code 4 (some .double) :: ws) ({ frames := 0, cells := 0, slots := 0, locals := 0 } : Room)) (fun a U => a = #[(.double d0), (.double d1)] ∧ Z.Warmed39 U.vm ∧ U.heap = h0) (fun _ _ _ _ _ => True) (fun _ U o U' => ∃ v L, o = .returned v ∧ own_Q (some (.double (own_norm d0 d1))) h0 n0 v U'.heap L ∧ FrameEnd U o U' L ({ frames := 0, cells := 0, slots := 0, locals := 0 } : Room).cells ({ frames := 0, cells := 0, slots := 0, locals := 0 } : Room).slots) := by
  refine MetFree.of_bodySF (plainFor_of_name pn_0) hisR ?_
  intro p e s m args below meth c s₁ Bd hml0 hP hK
  obtain ⟨rfl, hZ, hh⟩ := hP
  have hx := Bd.exec
  have hby := Bd.bytes
  have hml : c.maxLocals = 4 := hml0
  have hown : s.vm.findClass "com/example/interlace/interlace/model/Score" = some m.cls := findClass_of_methodNamed Bd.named
  have hnm := (name_of_methodNamed Bd.named Bd.method).1
  have X0 : Stand p l e ({ frames := 0, cells := 0, slots := 0, locals := 0 } : Room) s m #[(.double d0), (.double d1)] below meth c s₁ [] 0 0 := Stand.of_body Bd
  have e0 : s₁.heap = h0 := by rw [← hh, Bd.state]; rfl
  have N0 := Fr.nil n0
  have pre0 : ∀ t, Steps p.tables e below (s₁.setTop (mkF m 0 #[.val (.double d0), .second, .val (.double d1), .second] [])) t → Steps p.tables e below (s₁.setTop (entryFrame m #[(.double d0), (.double d1)] 4)) t := fun t k => castTop (ef_rm1 m d0 d1) k
  have k1 : ∀ t, Steps p.tables e below (s₁.setTop (mkF m 3 #[.val (.double d0), .second, .val (.double d1), .second] [(.int (cmpValue (FP.dcmp d1 FP.dconst0) .l))])) t → Steps p.tables e below (s₁.setTop (entryFrame m #[(.double d0), (.double d1)] 4)) t := by
    intro t k
    refine pre0 _ ?_
    show Steps p.tables e below (s₁.setTop (mkF m 0 #[.val (.double d0), .second, .val (.double d1), .second] [])) _
    refine XS.dloadN X0.here hx rfl (hb hby d1_0) rfl ?_
    show Steps p.tables e below (s₁.setTop (mkF m 1 #[.val (.double d0), .second, .val (.double d1), .second] [(.double d1)])) _
    refine XS.dconst0 X0.here hx rfl (hb hby d1_1) rfl ?_
    show Steps p.tables e below (s₁.setTop (mkF m 2 #[.val (.double d0), .second, .val (.double d1), .second] [(.double FP.dconst0), (.double d1)])) _
    refine XS.dcmpS X0.here hx rfl (hb hby d1_2) rfl rfl ?_
    exact k
  by_cases hc3_1 : (cmpValue (FP.dcmp d1 FP.dconst0) .l) = (0 : Int32)
  · have k2 : ∀ t, Steps p.tables e below (s₁.setTop (mkF m 9 #[.val (.double d0), .second, .val (.double d1), .second] [(.int (cmpValue (FP.dcmp d0 FP.dconst0) .l))])) t → Steps p.tables e below (s₁.setTop (entryFrame m #[(.double d0), (.double d1)] 4)) t := by
      intro t k
      refine k1 _ ?_
      show Steps p.tables e below (s₁.setTop (mkF m 3 #[.val (.double d0), .second, .val (.double d1), .second] [(.int (cmpValue (FP.dcmp d1 FP.dconst0) .l))])) _
      refine XS.ifNo X0.here hx rfl (hb hby d1_3) rfl ((if0 _ _).trans (teq hc3_1).2) ?_
      show Steps p.tables e below (s₁.setTop (mkF m 6 #[.val (.double d0), .second, .val (.double d1), .second] [])) _
      refine XS.dloadN X0.here hx rfl (hb hby d1_6) rfl ?_
      show Steps p.tables e below (s₁.setTop (mkF m 7 #[.val (.double d0), .second, .val (.double d1), .second] [(.double d0)])) _
      refine XS.dconst0 X0.here hx rfl (hb hby d1_7) rfl ?_
      show Steps p.tables e below (s₁.setTop (mkF m 8 #[.val (.double d0), .second, .val (.double d1), .second] [(.double FP.dconst0), (.double d0)])) _
      refine XS.dcmpS X0.here hx rfl (hb hby d1_8) rfl rfl ?_
      exact k
    by_cases hc9_2 : (cmpValue (FP.dcmp d0 FP.dconst0) .l) = (0 : Int32)
    · have k3 : ∀ t, Steps p.tables e below (s₁.setTop (mkF m 19 #[.val (.double d0), .second, .val (.double d1), .second] [(.double FP.dconst1)])) t → Steps p.tables e below (s₁.setTop (entryFrame m #[(.double d0), (.double d1)] 4)) t := by
        intro t k
        refine k2 _ ?_
        show Steps p.tables e below (s₁.setTop (mkF m 9 #[.val (.double d0), .second, .val (.double d1), .second] [(.int (cmpValue (FP.dcmp d0 FP.dconst0) .l))])) _
        refine XS.ifNo X0.here hx rfl (hb hby d1_9) rfl ((if0 _ _).trans (teq hc9_2).2) ?_
        show Steps p.tables e below (s₁.setTop (mkF m 12 #[.val (.double d0), .second, .val (.double d1), .second] [])) _
        refine XS.dconst1 X0.here hx rfl (hb hby d1_12) rfl ?_
        show Steps p.tables e below (s₁.setTop (mkF m 13 #[.val (.double d0), .second, .val (.double d1), .second] [(.double FP.dconst1)])) _
        refine XS.goto X0.here hx rfl (pc0 := 13) (pc' := 19) rfl (hb hby d1_13) (by decide) (by decide) ?_
        exact k
      obtain ⟨fs, hr, hrun, hended, hW, hsame⟩ := X0.leave (v := some (.double FP.dconst1)) (fun h => by rw [Bd.returns] at h; cases h)
      refine ⟨_, _, k3 _ ?_, hrun, hended, _, _, rfl, ?_, ⟨_, rfl⟩, hW, hsame.mono (by decide) (by decide)⟩
      · exact retOut X0 hx Bd.returns rfl (Or.inr (Or.inr (Or.inl ⟨rfl, rfl, _, rfl⟩))) (hb hby d1_19) hr
      · show own_Q (some (.double (own_norm d0 d1))) h0 n0 _ s₁.heap _
        rw [e0]
        exact ⟨by simp only [own_norm, if_pos hc3_1, if_pos hc9_2], N0, rfl⟩
    · have k4 : ∀ t, Steps p.tables e below (s₁.setTop (mkF m 19 #[.val (.double d0), .second, .val (.double d1), .second] [(.double (9218868437227405312 : UInt64))])) t → Steps p.tables e below (s₁.setTop (entryFrame m #[(.double d0), (.double d1)] 4)) t := by
        intro t k
        refine k2 _ ?_
        show Steps p.tables e below (s₁.setTop (mkF m 9 #[.val (.double d0), .second, .val (.double d1), .second] [(.int (cmpValue (FP.dcmp d0 FP.dconst0) .l))])) _
        refine XS.ifYes X0.here hx rfl (pc0 := 9) (pc' := 16) rfl (hb hby d1_9) rfl ((if0 _ _).trans (feq hc9_2).2) (by decide) (by decide) ?_
        show Steps p.tables e below (s₁.setTop (mkF m 16 #[.val (.double d0), .second, .val (.double d1), .second] [])) _
        refine X0.ldc2DoubleC hx hown (mvT hZ (hw _ (List.mem_of_getElem? (i := 5) rfl))) (g := (mkF m 16 #[.val (.double d0), .second, .val (.double d1), .second] [])) rfl (hb hby d1_16) _ ?_
        exact k
      obtain ⟨fs, hr, hrun, hended, hW, hsame⟩ := X0.leave (v := some (.double (9218868437227405312 : UInt64))) (fun h => by rw [Bd.returns] at h; cases h)
      refine ⟨_, _, k4 _ ?_, hrun, hended, _, _, rfl, ?_, ⟨_, rfl⟩, hW, hsame.mono (by decide) (by decide)⟩
      · exact retOut X0 hx Bd.returns rfl (Or.inr (Or.inr (Or.inl ⟨rfl, rfl, _, rfl⟩))) (hb hby d1_19) hr
      · show own_Q (some (.double (own_norm d0 d1))) h0 n0 _ s₁.heap _
        rw [e0]
        exact ⟨by simp only [own_norm, if_pos hc3_1, if_neg hc9_2], N0, rfl⟩
  · have k5 : ∀ t, Steps p.tables e below (s₁.setTop (mkF m 23 #[.val (.double d0), .second, .val (.double d1), .second] [(.double (FP.ddiv d0 d1))])) t → Steps p.tables e below (s₁.setTop (entryFrame m #[(.double d0), (.double d1)] 4)) t := by
      intro t k
      refine k1 _ ?_
      show Steps p.tables e below (s₁.setTop (mkF m 3 #[.val (.double d0), .second, .val (.double d1), .second] [(.int (cmpValue (FP.dcmp d1 FP.dconst0) .l))])) _
      refine XS.ifYes X0.here hx rfl (pc0 := 3) (pc' := 20) rfl (hb hby d1_3) rfl ((if0 _ _).trans (feq hc3_1).2) (by decide) (by decide) ?_
      show Steps p.tables e below (s₁.setTop (mkF m 20 #[.val (.double d0), .second, .val (.double d1), .second] [])) _
      refine XS.dloadN X0.here hx rfl (hb hby d1_20) rfl ?_
      show Steps p.tables e below (s₁.setTop (mkF m 21 #[.val (.double d0), .second, .val (.double d1), .second] [(.double d0)])) _
      refine XS.dloadN X0.here hx rfl (hb hby d1_21) rfl ?_
      show Steps p.tables e below (s₁.setTop (mkF m 22 #[.val (.double d0), .second, .val (.double d1), .second] [(.double d1), (.double d0)])) _
      refine XS.ddivS X0.here hx rfl (hb hby d1_22) rfl (hnn hc3_1) rfl ?_
      exact k
    obtain ⟨fs, hr, hrun, hended, hW, hsame⟩ := X0.leave (v := some (.double (FP.ddiv d0 d1))) (fun h => by rw [Bd.returns] at h; cases h)
    refine ⟨_, _, k5 _ ?_, hrun, hended, _, _, rfl, ?_, ⟨_, rfl⟩, hW, hsame.mono (by decide) (by decide)⟩
    · exact retOut X0 hx Bd.returns rfl (Or.inr (Or.inr (Or.inl ⟨rfl, rfl, _, rfl⟩))) (hb hby d1_23) hr
    · show own_Q (some (.double (own_norm d0 d1))) h0 n0 _ s₁.heap _
      rw [e0]
      exact ⟨by simp only [own_norm, if_neg hc3_1], N0, rfl⟩
theorem own_P10 : OwnF.own_P = 1024 * 2 ^ 1064 := by
  unfold OwnF.own_P
  rw [show (1024 : Nat) = 2 ^ 10 from rfl, ← Nat.pow_add]
theorem own_u10 (n : Nat) : FP.Core.inUnits n (-10) (-1074) = n * 2 ^ 1064 := by
  have e : ((-10 : Int) - (-1074)).toNat = 1064 := by decide
  unfold FP.Core.inUnits
  rw [e]
theorem own_sgn_div (i j : Int) : i.tdiv j = FP.Core.signed (decide (i < 0) != decide (j < 0)) (i.natAbs / j.natAbs) := by
  have key : ∀ m n : Nat, ((m : Int)).tdiv (n : Int) = ((m / n : Nat) : Int) := fun m n => rfl
  rcases Int.lt_or_le i 0 with hi | hi <;> rcases Int.lt_or_le j 0 with hj | hj
  · have e1 : i = -((i.natAbs : Nat) : Int) := by omega
    have e2 : j = -((j.natAbs : Nat) : Int) := by omega
    rw [decide_eq_true hi, decide_eq_true hj]
    show _ = ((i.natAbs / j.natAbs : Nat) : Int)
    rw [← key]
    conv => lhs; rw [e1, e2]
    rw [Int.neg_tdiv, Int.tdiv_neg, Int.neg_neg]
  · have e1 : i = -((i.natAbs : Nat) : Int) := by omega
    have e2 : j = ((j.natAbs : Nat) : Int) := by omega
    rw [decide_eq_true hi, decide_eq_false (by omega)]
    show _ = -((i.natAbs / j.natAbs : Nat) : Int)
    rw [← key]
    conv => lhs; rw [e1, e2]
    rw [Int.neg_tdiv]
  · have e1 : i = ((i.natAbs : Nat) : Int) := by omega
    have e2 : j = -((j.natAbs : Nat) : Int) := by omega
    rw [decide_eq_false (by omega), decide_eq_true hj]
    show _ = -((i.natAbs / j.natAbs : Nat) : Int)
    rw [← key]
    conv => lhs; rw [e1, e2]
    rw [Int.tdiv_neg]
  · have e1 : i = ((i.natAbs : Nat) : Int) := by omega
    have e2 : j = ((j.natAbs : Nat) : Int) := by omega
    rw [decide_eq_false (by omega), decide_eq_false (by omega)]
    show _ = ((i.natAbs / j.natAbs : Nat) : Int)
    rw [← key]
    conv => lhs; rw [e1, e2]
/-- the magnitude, against the whole part of the quotient -/
theorem own_mag {I J V : Nat} (hJ : 0 < J) (hJ2 : J ≤ 1024) (hI : I ≤ 1048576)
    (hn : ∀ c' q', c' < 2 ^ 53 → -1074 ≤ q' → (I * OwnF.own_P ≤ FP.Core.inUnits c' q' (-1074) * J → V ≤ FP.Core.inUnits c' q' (-1074)) ∧ (FP.Core.inUnits c' q' (-1074) * J ≤ I * OwnF.own_P → FP.Core.inUnits c' q' (-1074) ≤ V)) :
    (I % J = 0 → V = I / J * OwnF.own_P) ∧ (0 < I % J → I / J * OwnF.own_P < V ∧ V < (I / J + 1) * OwnF.own_P) := by
  have hd := Nat.div_add_mod I J
  have hr := Nat.mod_lt I hJ
  have hT : I / J ≤ 1048576 := Nat.le_trans (Nat.div_le_self _ _) hI
  generalize I / J = T at *
  generalize I % J = R at *
  have hK : 0 < 2 ^ 1064 := Nat.two_pow_pos _
  refine ⟨fun h0 => ?_, fun h0 => ⟨?_, ?_⟩⟩
  · have w := hn T 0 (by omega) (by decide)
    rw [OwnF.own_units0] at w
    have q : I * OwnF.own_P = T * OwnF.own_P * J := by rw [← hd, h0, Nat.add_zero, Nat.mul_comm J T, Nat.mul_right_comm]
    exact Nat.le_antisymm (w.1 (Nat.le_of_eq q)) (w.2 (Nat.le_of_eq q.symm))
  · have w := (hn (T * 1024 + 1) (-10) (by omega) (by decide)).2
    rw [own_u10, own_P10] at w
    rw [own_P10]
    generalize (2 : Nat) ^ 1064 = K at *
    have q : (T * 1024 + 1) * K * J ≤ I * (1024 * K) := by
      have q1 : (T * 1024 + 1) * K * J = (T * J * 1024 + J) * K := by
        rw [Nat.mul_right_comm, Nat.add_mul, Nat.one_mul, Nat.mul_right_comm T]
      have q2 : I * (1024 * K) = (T * J * 1024 + R * 1024) * K := by rw [← Nat.mul_assoc, ← hd, Nat.add_mul, Nat.mul_comm J T]
      rw [q1, q2]
      exact Nat.mul_le_mul_right _ (by omega)
    have w2 := w q
    have q3 : T * (1024 * K) = (T * 1024) * K := by rw [Nat.mul_assoc]
    rw [q3]
    exact Nat.lt_of_lt_of_le (Nat.mul_lt_mul_of_pos_right (by omega) hK) w2
  · have w := (hn ((T + 1) * 1024 - 1) (-10) (by omega) (by decide)).1
    rw [own_u10, own_P10] at w
    rw [own_P10]
    generalize (2 : Nat) ^ 1064 = K at *
    have q : I * (1024 * K) ≤ ((T + 1) * 1024 - 1) * K * J := by
      have q2 : I * (1024 * K) = (T * J * 1024 + R * 1024) * K := by rw [← Nat.mul_assoc, ← hd, Nat.add_mul, Nat.mul_comm J T]
      have q1 : ((T + 1) * 1024 - 1) * K * J = (((T + 1) * 1024 - 1) * J) * K := by rw [Nat.mul_right_comm]
      rw [q1, q2]
      refine Nat.mul_le_mul_right _ ?_
      rw [Nat.sub_mul, Nat.one_mul]
      have q4 : (T + 1) * 1024 * J = T * J * 1024 + J * 1024 := by
        rw [Nat.mul_right_comm, Nat.add_mul, Nat.one_mul, Nat.add_mul]
      rw [q4]
      omega
    have w2 := w q
    have q3 : (T + 1) * (1024 * K) = ((T + 1) * 1024) * K := by rw [Nat.mul_assoc]
    rw [q3]
    exact Nat.lt_of_le_of_lt w2 (Nat.mul_lt_mul_of_pos_right (by omega) hK)
theorem own_qq {i j : Int} (hj : j ≠ 0) (hJ : j.natAbs ≤ 1024) (hI : i.natAbs ≤ 1048576) {a b : UInt64} (ha : FP.Core.DInt i a) (hb : FP.Core.DInt j b) :
    ∃ v : Int, OwnF.own_Is (FP.ddiv a b) v ∧ (i.tmod j = 0 → v = i.tdiv j * (OwnF.own_P : Int)) ∧
      (i.tmod j ≠ 0 → decide (i < 0) = decide (j < 0) → i.tdiv j * (OwnF.own_P : Int) < v ∧ v < (i.tdiv j + 1) * (OwnF.own_P : Int)) ∧
      (i.tmod j ≠ 0 → decide (i < 0) ≠ decide (j < 0) → (i.tdiv j - 1) * (OwnF.own_P : Int) < v ∧ v < i.tdiv j * (OwnF.own_P : Int)) := by
  obtain ⟨s, V, e, hs, hz, hn⟩ := OwnF.own_div ha hb hj (Nat.lt_of_le_of_lt hI (by decide))
  obtain ⟨m0, m1⟩ := own_mag (by omega) hJ hI hn
  have hmod : i.tmod j = 0 ↔ i.natAbs % j.natAbs = 0 := by
    have q : (i.tmod j).natAbs = i.natAbs % j.natAbs := Int.natAbs_tmod i j
    rw [← q]; omega
  have ht := own_sgn_div i j
  by_cases hi : i = 0
  · have hV := hz hi
    refine ⟨_, e, fun _ => ?_, fun h => ?_, fun h => ?_⟩
    · rw [hV, hi]; simp [FP.Core.signed]
    · exact absurd (by rw [hi]; simp) h
    · exact absurd (by rw [hi]; simp) h
  · have hs' := hs hi
    rw [← hs'] at ht
    refine ⟨_, e, fun h => ?_, fun h hsg => ?_, fun h hsg => ?_⟩
    · rw [ht, m0 (hmod.mp h), OwnF.own_signed_mul]
    · have q := m1 (Nat.pos_of_ne_zero fun z => h (hmod.mpr z))
      have es : s = false := by rw [hs', hsg]; simp
      rw [ht, es]
      show ((i.natAbs / j.natAbs : Nat) : Int) * _ < (V : Int) ∧ (V : Int) < (((i.natAbs / j.natAbs : Nat) : Int) + 1) * _
      have q1 : ((i.natAbs / j.natAbs * OwnF.own_P : Nat) : Int) < (V : Int) := by omega
      have q2 : (V : Int) < (((i.natAbs / j.natAbs + 1) * OwnF.own_P : Nat) : Int) := by omega
      rw [Int.natCast_mul] at q1
      rw [Int.natCast_mul, Int.natCast_add] at q2
      exact ⟨q1, q2⟩
    · have q := m1 (Nat.pos_of_ne_zero fun z => h (hmod.mpr z))
      have es : s = true := by rw [hs']; revert hsg; cases decide (i < 0) <;> cases decide (j < 0) <;> simp
      rw [ht, es]
      show (-((i.natAbs / j.natAbs : Nat) : Int) - 1) * _ < -(V : Int) ∧ -(V : Int) < (-((i.natAbs / j.natAbs : Nat) : Int)) * _
      have q1 : ((i.natAbs / j.natAbs * OwnF.own_P : Nat) : Int) < (V : Int) := by omega
      have q2 : (V : Int) < (((i.natAbs / j.natAbs + 1) * OwnF.own_P : Nat) : Int) := by omega
      rw [Int.natCast_mul] at q1
      rw [Int.natCast_mul, Int.natCast_add] at q2
      have e3 : (-((i.natAbs / j.natAbs : Nat) : Int) - 1) * (OwnF.own_P : Int) = -((((i.natAbs / j.natAbs : Nat) : Int) + 1) * (OwnF.own_P : Int)) := by rw [← Int.neg_mul]; congr 1; omega
      rw [e3, Int.neg_mul]
      have q2' : (V : Int) < (((i.natAbs / j.natAbs : Nat) : Int) + 1) * (OwnF.own_P : Int) := q2
      exact ⟨Int.neg_lt_neg q2', Int.neg_lt_neg q1⟩
theorem own_zero : FP.Core.DInt 0 FP.dconst0 := by
  unfold FP.Core.DInt
  have e : FP.Core.val64 FP.dconst0 = .fin false 0 FP.Core.b64.qmin := FP.Core.val64_dconst0
  rw [e]
  show FP.Core.signed false _ = _
  rw [Nat.zero_mul, Int.zero_mul]; rfl
theorem own_cz (b : Int32) : (cmpValue (FP.dcmp (FP.i2d b) FP.dconst0) .l) = (0 : Int32) ↔ b = 0 := by
  have e : FP.dcmp (FP.i2d b) FP.dconst0 = some (compare b.toInt 0) := FP.Core.dcmp_int (FP.Core.i2d_int b) own_zero
  have z : (0 : Int32).toInt = 0 := by decide
  have hbz : b = 0 ↔ b.toInt = 0 := by rw [← Int32.toInt_inj, z]
  rw [e, hbz]
  rcases Int.lt_trichotomy b.toInt 0 with h | h | h
  · rw [Int.compare_eq_lt.mpr h]
    exact ⟨fun q => absurd q (by decide), fun q => by omega⟩
  · rw [Int.compare_eq_eq.mpr h]
    exact ⟨fun _ => h, fun _ => rfl⟩
  · rw [Int.compare_eq_gt.mpr h]
    exact ⟨fun q => absurd q (by decide), fun q => by omega⟩
theorem own_nd {a b : Int32} (hb : ¬ b = 0) : own_norm (FP.i2d a) (FP.i2d b) = FP.ddiv (FP.i2d a) (FP.i2d b) := by
  rw [own_norm, if_neg (fun q => hb ((own_cz b).mp q))]
def own_rg (a b : Int32) : Prop := -1048576 < a.toInt ∧ a.toInt < 1048576 ∧ -1025 < b.toInt ∧ b.toInt < 1025
theorem own_bn {b : Int32} (hb : ¬ b = 0) : b.toInt ≠ 0 := fun q => hb (Int32.toInt_inj.mp (q.trans (by decide)))
theorem own_A1 {a b : Int32} (hb : b = 0) (ha : a = 0) : (cmpValue (FP.dcmp (own_norm (FP.i2d a) (FP.i2d b)) FP.dconst1) .l) = (0 : Int32) := by
  rw [own_norm, if_pos ((own_cz b).mpr hb), if_pos ((own_cz a).mpr ha)]; decide +kernel
theorem own_A2 {a b : Int32} (hb : b = 0) (ha : ¬ a = 0) : (cmpValue (FP.dcmp (own_norm (FP.i2d a) (FP.i2d b)) (9218868437227405312 : UInt64)) .l) = (0 : Int32) := by
  rw [own_norm, if_pos ((own_cz b).mpr hb), if_neg (fun q => ha ((own_cz a).mp q))]; decide +kernel
theorem own_dbl {a b : Int32} (hr : own_rg a b) : ((2 : Int32) * a).toInt = 2 * a.toInt ∧ ((2 : Int32) * b).toInt = 2 * b.toInt := by
  obtain ⟨h1, h2, h3, h4⟩ := hr
  have x := c_imul 2 a
  have y := c_imul 2 b
  have z : (2 : Int32).toInt = 2 := by decide
  rw [z] at x y
  have r1 := rng32 (2 * a)
  have r2 := rng32 (2 * b)
  omega
theorem own_b2 {a b : Int32} (hr : own_rg a b) (hb : ¬ b = 0) : ¬ ((2 : Int32) * b) = 0 := fun q => own_bn hb (by
  have e := (own_dbl hr).2
  rw [q] at e
  have z : (0 : Int32).toInt = 0 := by decide
  omega)
theorem own_B1 {a b : Int32} (hr : own_rg a b) (hb : ¬ b = 0) : (cmpValue (FP.dcmp (own_norm (FP.i2d ((2 : Int32) * a)) (FP.i2d ((2 : Int32) * b))) (own_norm (FP.i2d a) (FP.i2d b))) .l) = (0 : Int32) := by
  rw [own_nd hb, own_nd (own_b2 hr hb)]
  obtain ⟨h1, h2, h3, h4⟩ := id hr
  have hbn := own_bn hb
  have d := own_dbl hr
  have D1 : FP.Core.DInt (2 * a.toInt) (FP.i2d ((2 : Int32) * a)) := d.1 ▸ FP.Core.i2d_int _
  have D2 : FP.Core.DInt (2 * b.toInt) (FP.i2d ((2 : Int32) * b)) := d.2 ▸ FP.Core.i2d_int _
  by_cases ha : a.toInt = 0
  · obtain ⟨s, V, e, -, hz, -⟩ := OwnF.own_div (FP.Core.i2d_int a) (FP.Core.i2d_int b) hbn (Nat.lt_of_lt_of_le (show a.toInt.natAbs < 2 by omega) (by decide))
    obtain ⟨s', V', e', -, hz', -⟩ := OwnF.own_div D1 D2 (by omega) (Nat.lt_of_lt_of_le (show (2 * a.toInt).natAbs < 2 by omega) (by decide))
    have q : FP.dcmp (FP.ddiv (FP.i2d ((2 : Int32) * a)) (FP.i2d ((2 : Int32) * b))) (FP.ddiv (FP.i2d a) (FP.i2d b)) = _ := e'.cmp e
    rw [q, hz ha, hz' (by omega)]
    have zz : ∀ x : Bool, FP.Core.signed x 0 = 0 := fun x => by cases x <;> rfl
    rw [zz, zz]; rfl
  · obtain ⟨s, hs, e⟩ := OwnF.own_divr (FP.Core.i2d_int a) (FP.Core.i2d_int b) hbn
    obtain ⟨s', hs', e'⟩ := OwnF.own_divr D1 D2 (by omega)
    have es : s' = s := by
      rw [hs ha, hs' (by omega)]
      have x1 : decide (2 * a.toInt < 0) = decide (a.toInt < 0) := by rw [decide_eq_decide]; omega
      have x2 : decide (2 * b.toInt < 0) = decide (b.toInt < 0) := by rw [decide_eq_decide]; omega
      rw [x1, x2]
    have ev : FP.Core.roundRatio FP.Core.b64 s' (2 * a.toInt).natAbs (2 * b.toInt).natAbs 0 = FP.Core.roundRatio FP.Core.b64 s a.toInt.natAbs b.toInt.natAbs 0 := by
      rw [es]
      refine FP.Core.roundRatio_congr (by omega) (by omega) ?_
      have y1 : (2 * a.toInt).natAbs = 2 * a.toInt.natAbs := by omega
      have y2 : (2 * b.toInt).natAbs = 2 * b.toInt.natAbs := by omega
      rw [y1, y2, Nat.mul_assoc 2, Nat.mul_left_comm a.toInt.natAbs 2]
    obtain ⟨v, i1, -⟩ := own_qq (own_bn hb) (by have := hr.2.2; omega) (by have := hr.1; have := hr.2.1; omega) (FP.Core.i2d_int a) (FP.Core.i2d_int b)
    have i2 : OwnF.own_Is (FP.ddiv (FP.i2d ((2 : Int32) * a)) (FP.i2d ((2 : Int32) * b))) v := by
      obtain ⟨t, c, q, f1, f2⟩ := i1
      exact ⟨t, c, q, (e'.trans (ev.trans e.symm)).trans f1, f2⟩
    have q : FP.dcmp (FP.ddiv (FP.i2d ((2 : Int32) * a)) (FP.i2d ((2 : Int32) * b))) (FP.ddiv (FP.i2d a) (FP.i2d b)) = _ := i2.cmp i1
    rw [q, Int.compare_eq_eq.mpr rfl]; rfl
theorem own_td {a b : Int32} (hr : own_rg a b) (hb : ¬ b = 0) : (a / b).toInt = a.toInt.tdiv b.toInt ∧ -1048576 ≤ (a / b).toInt ∧ (a / b).toInt ≤ 1048576 := by
  obtain ⟨h1, h2, h3, h4⟩ := hr
  have e : (a / b).toInt = (a.toInt.tdiv b.toInt).bmod (2 ^ 32) := Int32.toInt_div a b
  have q : (a.toInt.tdiv b.toInt).natAbs = a.toInt.natAbs / b.toInt.natAbs := Int.natAbs_tdiv _ _
  have q2 := Nat.div_le_self a.toInt.natAbs b.toInt.natAbs
  have q3 : (a.toInt.tdiv b.toInt).bmod (2 ^ 32) = a.toInt.tdiv b.toInt := Int.bmod_eq_of_le (by omega) (by omega)
  rw [e, q3]
  omega
theorem own_tm (a b : Int32) : (a % b).toInt = a.toInt.tmod b.toInt := Int32.toInt_mod a b
theorem own_m0 {a b : Int32} : (a % b) = (0 : Int32) ↔ a.toInt.tmod b.toInt = 0 := by
  rw [← Int32.toInt_inj, own_tm]
  have z : (0 : Int32).toInt = 0 := by decide
  rw [z]
theorem own_t1 {a b : Int32} (hr : own_rg a b) (hb : ¬ b = 0) : ((a / b) + 1).toInt = a.toInt.tdiv b.toInt + 1 ∧ ((a / b) - 1).toInt = a.toInt.tdiv b.toInt - 1 := by
  have t := own_td hr hb
  have x := c_iadd (a / b) 1
  have y := c_isub (a / b) 1
  have z : (1 : Int32).toInt = 1 := by decide
  have r1 := rng32 ((a / b) + 1)
  have r2 := rng32 ((a / b) - 1)
  omega
theorem own_sg {a b : Int32} : ((if a < (0 : Int32) then (1 : Int32) else (0 : Int32)) = (if b < (0 : Int32) then (1 : Int32) else (0 : Int32))) ↔ decide (a.toInt < 0) = decide (b.toInt < 0) := by
  have z : (0 : Int32).toInt = 0 := by decide
  simp only [Int32.lt_iff_toInt_lt, z]
  by_cases h1 : a.toInt < 0 <;> by_cases h2 : b.toInt < 0 <;> simp [h1, h2]
theorem own_B2 {a b : Int32} (hr : own_rg a b) (hb : ¬ b = 0) (hm : (a % b) = (0 : Int32)) : (cmpValue (FP.dcmp (own_norm (FP.i2d a) (FP.i2d b)) (FP.i2d (a / b))) .l) = (0 : Int32) := by
  rw [own_nd hb]
  obtain ⟨v, i1, i2, -⟩ := own_qq (own_bn hb) (by have := hr.2.2; omega) (by have := hr.1; have := hr.2.1; omega) (FP.Core.i2d_int a) (FP.Core.i2d_int b)
  have e : FP.dcmp (FP.ddiv (FP.i2d a) (FP.i2d b)) (FP.i2d (a / b)) = _ := i1.cmp (OwnF.own_whole (FP.Core.i2d_int (a / b)))
  rw [e, i2 (own_m0.mp hm), (own_td hr hb).1, Int.compare_eq_eq.mpr rfl]; rfl
theorem own_B3 {a b : Int32} (hr : own_rg a b) (hb : ¬ b = 0) (hm : ¬ (a % b) = (0 : Int32)) (hs : (if a < (0 : Int32) then (1 : Int32) else (0 : Int32)) = (if b < (0 : Int32) then (1 : Int32) else (0 : Int32))) : (cmpValue (FP.dcmp (FP.i2d (a / b)) (own_norm (FP.i2d a) (FP.i2d b))) .g) < (0 : Int32) := by
  rw [own_nd hb]
  obtain ⟨v, i1, -, i3, -⟩ := own_qq (own_bn hb) (by have := hr.2.2; omega) (by have := hr.1; have := hr.2.1; omega) (FP.Core.i2d_int a) (FP.Core.i2d_int b)
  have e : FP.dcmp (FP.i2d (a / b)) (FP.ddiv (FP.i2d a) (FP.i2d b)) = _ := (OwnF.own_whole (FP.Core.i2d_int (a / b))).cmp i1
  rw [e, (own_td hr hb).1, Int.compare_eq_lt.mpr (i3 (fun q => hm (own_m0.mpr q)) (own_sg.mp hs)).1]; decide
theorem own_B4 {a b : Int32} (hr : own_rg a b) (hb : ¬ b = 0) (hm : ¬ (a % b) = (0 : Int32)) (hs : (if a < (0 : Int32) then (1 : Int32) else (0 : Int32)) = (if b < (0 : Int32) then (1 : Int32) else (0 : Int32))) : (cmpValue (FP.dcmp (own_norm (FP.i2d a) (FP.i2d b)) (FP.i2d ((a / b) + (1 : Int32)))) .g) < (0 : Int32) := by
  rw [own_nd hb]
  obtain ⟨v, i1, -, i3, -⟩ := own_qq (own_bn hb) (by have := hr.2.2; omega) (by have := hr.1; have := hr.2.1; omega) (FP.Core.i2d_int a) (FP.Core.i2d_int b)
  have e : FP.dcmp (FP.ddiv (FP.i2d a) (FP.i2d b)) (FP.i2d ((a / b) + (1 : Int32))) = _ := i1.cmp (OwnF.own_whole (FP.Core.i2d_int ((a / b) + (1 : Int32))))
  rw [e, (own_t1 hr hb).1, Int.compare_eq_lt.mpr (i3 (fun q => hm (own_m0.mpr q)) (own_sg.mp hs)).2]; decide
theorem own_B5 {a b : Int32} (hr : own_rg a b) (hb : ¬ b = 0) (hm : ¬ (a % b) = (0 : Int32)) (hs : ¬ ((if a < (0 : Int32) then (1 : Int32) else (0 : Int32)) = (if b < (0 : Int32) then (1 : Int32) else (0 : Int32)))) : (cmpValue (FP.dcmp (FP.i2d ((a / b) - (1 : Int32))) (own_norm (FP.i2d a) (FP.i2d b))) .g) < (0 : Int32) := by
  rw [own_nd hb]
  obtain ⟨v, i1, -, -, i4⟩ := own_qq (own_bn hb) (by have := hr.2.2; omega) (by have := hr.1; have := hr.2.1; omega) (FP.Core.i2d_int a) (FP.Core.i2d_int b)
  have e : FP.dcmp (FP.i2d ((a / b) - (1 : Int32))) (FP.ddiv (FP.i2d a) (FP.i2d b)) = _ := (OwnF.own_whole (FP.Core.i2d_int ((a / b) - (1 : Int32)))).cmp i1
  rw [e, (own_t1 hr hb).2, Int.compare_eq_lt.mpr (i4 (fun q => hm (own_m0.mpr q)) (fun q => hs (own_sg.mpr q))).1]; decide
theorem own_B6 {a b : Int32} (hr : own_rg a b) (hb : ¬ b = 0) (hm : ¬ (a % b) = (0 : Int32)) (hs : ¬ ((if a < (0 : Int32) then (1 : Int32) else (0 : Int32)) = (if b < (0 : Int32) then (1 : Int32) else (0 : Int32)))) : (cmpValue (FP.dcmp (own_norm (FP.i2d a) (FP.i2d b)) (FP.i2d (a / b))) .g) < (0 : Int32) := by
  rw [own_nd hb]
  obtain ⟨v, i1, -, -, i4⟩ := own_qq (own_bn hb) (by have := hr.2.2; omega) (by have := hr.1; have := hr.2.1; omega) (FP.Core.i2d_int a) (FP.Core.i2d_int b)
  have e : FP.dcmp (FP.ddiv (FP.i2d a) (FP.i2d b)) (FP.i2d (a / b)) = _ := i1.cmp (OwnF.own_whole (FP.Core.i2d_int (a / b)))
  rw [e, (own_td hr hb).1, Int.compare_eq_lt.mpr (i4 (fun q => hm (own_m0.mpr q)) (fun q => hs (own_sg.mpr q))).2]; decide
theorem own_nn {a b : Int32} (ha : a.toInt.natAbs < 2 ^ 100) : ¬ (cmpValue (FP.dcmp (FP.i2d b) FP.dconst0) .l) = (0 : Int32) → Jvm.Free.Fl.NoNaN64 (FP.ddiv (FP.i2d a) (FP.i2d b)) := fun h => by
  obtain ⟨s, V, e, -⟩ := OwnF.own_div (FP.Core.i2d_int a) (FP.Core.i2d_int b) (own_bn (fun q => h ((own_cz b).mpr q))) ha
  exact Jvm.Free.Fl.noNaN64_no.mpr ((FP.Core.notNaN_iff _).mpr e.noNaN)
theorem own_small (a : Int32) : a.toInt.natAbs < 2 ^ 100 := by
  have r := rng32 a
  exact Nat.lt_of_le_of_lt (show a.toInt.natAbs ≤ 2147483648 by omega) (by decide)
theorem pn_1 : plainName "com/example/interlace/interlace/model/ScoreNormalizedPinLaw" = true := by first | (simp [plainName, overriddenIn]; done) | decide +kernel
theorem ef_rm0 (m : MethodId) (x0 : Int32) (x1 : Int32) (x2 : Int32) : entryFrame m #[(.int x0), (.int x1), (.int x2)] maxLocals = mkF m 0 #[.val (.int x0), .val (.int x1), .val (.int x2), .unset, .unset, .unset, .unset, .unset, .unset, .unset, .unset] [] := by first | (simp [entryFrame, mkF, argsToLocals, Value.category, maxLocals]; done) | rfl
theorem own_rng (p0 p1 p2 : Int32) : own_rg (if (p2 &&& (1 : Int32)) = (0 : Int32) then (p0 % (1048576 : Int32)) else (0 : Int32)) (if (p2 &&& (2 : Int32)) = (0 : Int32) then (p1 % (1025 : Int32)) else (0 : Int32)) := by
  have z : (0 : Int32).toInt = 0 := by decide
  have x := c_irem p0 1048576 1048576 (by decide)
  have y := c_irem p1 1025 1025 (by decide)
  unfold own_rg
  by_cases h1 : (p2 &&& (1 : Int32)) = (0 : Int32)
  · by_cases h2 : (p2 &&& (2 : Int32)) = (0 : Int32)
    · rw [if_pos h1, if_pos h2]; omega
    · rw [if_pos h1, if_neg h2]; omega
  · by_cases h2 : (p2 &&& (2 : Int32)) = (0 : Int32)
    · rw [if_neg h1, if_pos h2]; omega
    · rw [if_neg h1, if_neg h2]; omega
theorem pd_0 : parseMethodDescriptor "(DD)D" = some ⟨[.double, .double], some .double⟩ := by decide +kernel
set_option maxRecDepth 65536 in
set_option maxHeartbeats 40000000 in
theorem rm0 (l : Launch) (Z : State) (a0 : Array Value) (hw : ∀ d ∈ tables_1, d.before a0 Z = true) (ws : List Jvm.Cond) (p0 : Int32) (p1 : Int32) (p2 : Int32) (h0 : Heap) (n0 : Nat) :
    MetFree l x (head1 (Jvm.Cond.code x code maxLocals ret :: ws) room_1) (fun a U => a = #[(.int p0), (.int p1), (.int p2)] ∧ Z.Warmed39 U.vm ∧ U.heap = h0) (fun _ _ _ _ _ => True) (fun _ U o U' => ∃ v L, o = .returned v ∧ own_R (some (.int 1)) n0 v U'.heap L ∧ FrameEnd U o U' L room_1.cells room_1.slots) := by
  refine MetFree.of_bodySF (plainFor_of_name pn_1) hisR ?_
  intro p e s m args below meth c s₁ Bd hml0 hP hK
  obtain ⟨rfl, hZ, hh⟩ := hP
  have hx := Bd.exec
  have hby := Bd.bytes
  have hml : c.maxLocals = 11 := hml0
  have hown : s.vm.findClass "com/example/interlace/interlace/model/ScoreNormalizedPinLaw" = some m.cls := findClass_of_methodNamed Bd.named
  have hnm := (name_of_methodNamed Bd.named Bd.method).1
  have X0 : Stand p l e room_1 s m #[(.int p0), (.int p1), (.int p2)] below meth c s₁ [] 0 0 := Stand.of_body Bd
  have e0 : s₁.heap = h0 := by rw [← hh, Bd.state]; rfl
  have N0 := Fr.nil n0
  have pre0 : ∀ t, Steps p.tables e below (s₁.setTop (mkF m 0 #[.val (.int p0), .val (.int p1), .val (.int p2), .unset, .unset, .unset, .unset, .unset, .unset, .unset, .unset] [])) t → Steps p.tables e below (s₁.setTop (entryFrame m #[(.int p0), (.int p1), (.int p2)] maxLocals)) t := fun t k => castTop (ef_rm0 m p0 p1 p2) k
  have k1 : ∀ t, Steps p.tables e below (s₁.setTop (mkF m 14 #[.val (.int p0), .val (.int p1), .val (.int p2), .unset, .unset, .unset, .unset, .unset, .unset, .unset, .unset] [(.int (if (p2 &&& (1 : Int32)) = (0 : Int32) then (p0 % (1048576 : Int32)) else (0 : Int32)))])) t → Steps p.tables e below (s₁.setTop (entryFrame m #[(.int p0), (.int p1), (.int p2)] maxLocals)) t := by
    intro t k
    refine pre0 _ ?_
    show Steps p.tables e below (s₁.setTop (mkF m 0 #[.val (.int p0), .val (.int p1), .val (.int p2), .unset, .unset, .unset, .unset, .unset, .unset, .unset, .unset] [])) _
    refine XS.iloadN X0.here hx rfl (hb hby at_0) rfl ?_
    show Steps p.tables e below (s₁.setTop (mkF m 1 #[.val (.int p0), .val (.int p1), .val (.int p2), .unset, .unset, .unset, .unset, .unset, .unset, .unset, .unset] [(.int p2)])) _
    refine XS.iconst X0.here hx rfl (hb hby at_1) ?_
    show Steps p.tables e below (s₁.setTop (mkF m 2 #[.val (.int p0), .val (.int p1), .val (.int p2), .unset, .unset, .unset, .unset, .unset, .unset, .unset, .unset] [(.int (1 : Int32)), (.int p2)])) _
    refine XS.iand X0.here hx rfl (hb hby at_2) rfl ?_
    show Steps p.tables e below (s₁.setTop (mkF m 3 #[.val (.int p0), .val (.int p1), .val (.int p2), .unset, .unset, .unset, .unset, .unset, .unset, .unset, .unset] [(.int (p2 &&& (1 : Int32)))])) _
    by_cases hc3_1 : (p2 &&& (1 : Int32)) = (0 : Int32)
    · refine XS.ifYes X0.here hx rfl (pc0 := 3) (pc' := 10) rfl (hb hby at_3) rfl ((if0 _ _).trans (teq hc3_1).1) (by decide) (by decide) ?_
      show Steps p.tables e below (s₁.setTop (mkF m 10 #[.val (.int p0), .val (.int p1), .val (.int p2), .unset, .unset, .unset, .unset, .unset, .unset, .unset, .unset] [])) _
      refine XS.iloadN X0.here hx rfl (hb hby at_10) rfl ?_
      show Steps p.tables e below (s₁.setTop (mkF m 11 #[.val (.int p0), .val (.int p1), .val (.int p2), .unset, .unset, .unset, .unset, .unset, .unset, .unset, .unset] [(.int p0)])) _
      refine X0.ldcInt hx hown (mvT hZ (hw _ (List.mem_of_getElem? (i := 0) rfl))) (g := (mkF m 11 #[.val (.int p0), .val (.int p1), .val (.int p2), .unset, .unset, .unset, .unset, .unset, .unset, .unset, .unset] [(.int p0)])) rfl (hb hby at_11) _ ?_
      show Steps p.tables e below (s₁.setTop (mkF m 13 #[.val (.int p0), .val (.int p1), .val (.int p2), .unset, .unset, .unset, .unset, .unset, .unset, .unset, .unset] [(.int (1048576 : Int32)), (.int p0)])) _
      refine iremM X0 hx rfl (hb hby at_13) rfl (by decide) ?_
      try simp only [if_pos hc3_1] at k
      exact k
    · refine XS.ifNo X0.here hx rfl (hb hby at_3) rfl ((if0 _ _).trans (feq hc3_1).1) ?_
      show Steps p.tables e below (s₁.setTop (mkF m 6 #[.val (.int p0), .val (.int p1), .val (.int p2), .unset, .unset, .unset, .unset, .unset, .unset, .unset, .unset] [])) _
      refine XS.iconst X0.here hx rfl (hb hby at_6) ?_
      show Steps p.tables e below (s₁.setTop (mkF m 7 #[.val (.int p0), .val (.int p1), .val (.int p2), .unset, .unset, .unset, .unset, .unset, .unset, .unset, .unset] [(.int (0 : Int32))])) _
      refine XS.goto X0.here hx rfl (pc0 := 7) (pc' := 14) rfl (hb hby at_7) (by decide) (by decide) ?_
      try simp only [if_neg hc3_1] at k
      exact k
  have k2 : ∀ t, Steps p.tables e below (s₁.setTop (mkF m 30 #[.val (.int p0), .val (.int p1), .val (.int p2), .val (.int (if (p2 &&& (1 : Int32)) = (0 : Int32) then (p0 % (1048576 : Int32)) else (0 : Int32))), .unset, .unset, .unset, .unset, .unset, .unset, .unset] [(.int (if (p2 &&& (2 : Int32)) = (0 : Int32) then (p1 % (1025 : Int32)) else (0 : Int32)))])) t → Steps p.tables e below (s₁.setTop (entryFrame m #[(.int p0), (.int p1), (.int p2)] maxLocals)) t := by
    intro t k
    refine k1 _ ?_
    show Steps p.tables e below (s₁.setTop (mkF m 14 #[.val (.int p0), .val (.int p1), .val (.int p2), .unset, .unset, .unset, .unset, .unset, .unset, .unset, .unset] [(.int (if (p2 &&& (1 : Int32)) = (0 : Int32) then (p0 % (1048576 : Int32)) else (0 : Int32)))])) _
    refine XS.istoreN X0.here hx rfl (hb hby at_14) rfl (l' := #[.val (.int p0), .val (.int p1), .val (.int p2), .val (.int (if (p2 &&& (1 : Int32)) = (0 : Int32) then (p0 % (1048576 : Int32)) else (0 : Int32))), .unset, .unset, .unset, .unset, .unset, .unset, .unset]) rfl ?_
    show Steps p.tables e below (s₁.setTop (mkF m 15 #[.val (.int p0), .val (.int p1), .val (.int p2), .val (.int (if (p2 &&& (1 : Int32)) = (0 : Int32) then (p0 % (1048576 : Int32)) else (0 : Int32))), .unset, .unset, .unset, .unset, .unset, .unset, .unset] [])) _
    refine XS.iloadN X0.here hx rfl (hb hby at_15) rfl ?_
    show Steps p.tables e below (s₁.setTop (mkF m 16 #[.val (.int p0), .val (.int p1), .val (.int p2), .val (.int (if (p2 &&& (1 : Int32)) = (0 : Int32) then (p0 % (1048576 : Int32)) else (0 : Int32))), .unset, .unset, .unset, .unset, .unset, .unset, .unset] [(.int p2)])) _
    refine XS.iconst X0.here hx rfl (hb hby at_16) ?_
    show Steps p.tables e below (s₁.setTop (mkF m 17 #[.val (.int p0), .val (.int p1), .val (.int p2), .val (.int (if (p2 &&& (1 : Int32)) = (0 : Int32) then (p0 % (1048576 : Int32)) else (0 : Int32))), .unset, .unset, .unset, .unset, .unset, .unset, .unset] [(.int (2 : Int32)), (.int p2)])) _
    refine XS.iand X0.here hx rfl (hb hby at_17) rfl ?_
    show Steps p.tables e below (s₁.setTop (mkF m 18 #[.val (.int p0), .val (.int p1), .val (.int p2), .val (.int (if (p2 &&& (1 : Int32)) = (0 : Int32) then (p0 % (1048576 : Int32)) else (0 : Int32))), .unset, .unset, .unset, .unset, .unset, .unset, .unset] [(.int (p2 &&& (2 : Int32)))])) _
    by_cases hc18_2 : (p2 &&& (2 : Int32)) = (0 : Int32)
    · refine XS.ifYes X0.here hx rfl (pc0 := 18) (pc' := 25) rfl (hb hby at_18) rfl ((if0 _ _).trans (teq hc18_2).1) (by decide) (by decide) ?_
      show Steps p.tables e below (s₁.setTop (mkF m 25 #[.val (.int p0), .val (.int p1), .val (.int p2), .val (.int (if (p2 &&& (1 : Int32)) = (0 : Int32) then (p0 % (1048576 : Int32)) else (0 : Int32))), .unset, .unset, .unset, .unset, .unset, .unset, .unset] [])) _
      refine XS.iloadN X0.here hx rfl (hb hby at_25) rfl ?_
      show Steps p.tables e below (s₁.setTop (mkF m 26 #[.val (.int p0), .val (.int p1), .val (.int p2), .val (.int (if (p2 &&& (1 : Int32)) = (0 : Int32) then (p0 % (1048576 : Int32)) else (0 : Int32))), .unset, .unset, .unset, .unset, .unset, .unset, .unset] [(.int p1)])) _
      refine XS.sipush X0.here hx rfl (hb hby at_26) ?_
      show Steps p.tables e below (s₁.setTop (mkF m 29 #[.val (.int p0), .val (.int p1), .val (.int p2), .val (.int (if (p2 &&& (1 : Int32)) = (0 : Int32) then (p0 % (1048576 : Int32)) else (0 : Int32))), .unset, .unset, .unset, .unset, .unset, .unset, .unset] [(.int (1025 : Int32)), (.int p1)])) _
      refine iremM X0 hx rfl (hb hby at_29) rfl (by decide) ?_
      try simp only [if_pos hc18_2] at k
      exact k
    · refine XS.ifNo X0.here hx rfl (hb hby at_18) rfl ((if0 _ _).trans (feq hc18_2).1) ?_
      show Steps p.tables e below (s₁.setTop (mkF m 21 #[.val (.int p0), .val (.int p1), .val (.int p2), .val (.int (if (p2 &&& (1 : Int32)) = (0 : Int32) then (p0 % (1048576 : Int32)) else (0 : Int32))), .unset, .unset, .unset, .unset, .unset, .unset, .unset] [])) _
      refine XS.iconst X0.here hx rfl (hb hby at_21) ?_
      show Steps p.tables e below (s₁.setTop (mkF m 22 #[.val (.int p0), .val (.int p1), .val (.int p2), .val (.int (if (p2 &&& (1 : Int32)) = (0 : Int32) then (p0 % (1048576 : Int32)) else (0 : Int32))), .unset, .unset, .unset, .unset, .unset, .unset, .unset] [(.int (0 : Int32))])) _
      refine XS.goto X0.here hx rfl (pc0 := 22) (pc' := 30) rfl (hb hby at_22) (by decide) (by decide) ?_
      try simp only [if_neg hc18_2] at k
      exact k
  have k3 : ∀ t, Steps p.tables e below (s₁.setTop (mkF m 32 #[.val (.int p0), .val (.int p1), .val (.int p2), .val (.int (if (p2 &&& (1 : Int32)) = (0 : Int32) then (p0 % (1048576 : Int32)) else (0 : Int32))), .val (.int (if (p2 &&& (2 : Int32)) = (0 : Int32) then (p1 % (1025 : Int32)) else (0 : Int32))), .unset, .unset, .unset, .unset, .unset, .unset] [])) t → Steps p.tables e below (s₁.setTop (entryFrame m #[(.int p0), (.int p1), (.int p2)] maxLocals)) t := by
    intro t k
    refine k2 _ ?_
    show Steps p.tables e below (s₁.setTop (mkF m 30 #[.val (.int p0), .val (.int p1), .val (.int p2), .val (.int (if (p2 &&& (1 : Int32)) = (0 : Int32) then (p0 % (1048576 : Int32)) else (0 : Int32))), .unset, .unset, .unset, .unset, .unset, .unset, .unset] [(.int (if (p2 &&& (2 : Int32)) = (0 : Int32) then (p1 % (1025 : Int32)) else (0 : Int32)))])) _
    refine XS.istore X0.here hx rfl (hb hby at_30) rfl (l' := #[.val (.int p0), .val (.int p1), .val (.int p2), .val (.int (if (p2 &&& (1 : Int32)) = (0 : Int32) then (p0 % (1048576 : Int32)) else (0 : Int32))), .val (.int (if (p2 &&& (2 : Int32)) = (0 : Int32) then (p1 % (1025 : Int32)) else (0 : Int32))), .unset, .unset, .unset, .unset, .unset, .unset]) rfl ?_
    exact k
  have hr := own_rng p0 p1 p2
  obtain ⟨av, hav⟩ : ∃ z : Int32, (if (p2 &&& (1 : Int32)) = (0 : Int32) then (p0 % (1048576 : Int32)) else (0 : Int32)) = z := ⟨_, rfl⟩
  obtain ⟨bv, hbv⟩ : ∃ z : Int32, (if (p2 &&& (2 : Int32)) = (0 : Int32) then (p1 % (1025 : Int32)) else (0 : Int32)) = z := ⟨_, rfl⟩
  rw [hav, hbv] at hr
  have k4 : ∀ t, Steps p.tables e below (s₁.setTop (mkF m 32 #[.val (.int p0), .val (.int p1), .val (.int p2), .val (.int av), .val (.int bv), .unset, .unset, .unset, .unset, .unset, .unset] [])) t → Steps p.tables e below (s₁.setTop (entryFrame m #[(.int p0), (.int p1), (.int p2)] maxLocals)) t := by
    intro t k
    refine k3 _ ?_
    rw [hav, hbv]
    exact k
  obtain ⟨_, _, ⟨T5, L5, k5_, n5⟩, -, X5, ⟨Lc5, hQ5, l5, y5, z5⟩, st5⟩ := Jvm.LawKit.callS X0 hx (y := (⟨"com/example/interlace/interlace/model/Score", "normalized", "(DD)D"⟩ : MethodName)) hown (mvT hZ (hw _ (List.mem_of_getElem? (i := 1) rfl))) (mvT hZ (hw _ (List.mem_of_getElem? (i := 2) rfl))) (mvT hZ (hw _ (List.mem_of_getElem? (i := 3) rfl))) (mvT hZ (hw _ (List.mem_of_getElem? (i := 4) rfl))) (by decide) (backOf (W := 0) (rm1 l Z a0 hw [] (FP.i2d av) (FP.i2d bv) h0 n0 (own_nn (own_small _))) hZ (hw _ (List.mem_of_getElem? (i := 4) rfl)) (hw _ (List.mem_of_getElem? (i := 3) rfl)) (by decide) (by decide)) (g := (mkF m 37 #[.val (.int p0), .val (.int p1), .val (.int p2), .val (.int av), .val (.int bv), .unset, .unset, .unset, .unset, .unset, .unset] [(.double (FP.i2d bv)), (.double (FP.i2d av))])) rfl (by rw [hml]; rfl) (argsL := [(.double (FP.i2d av)), (.double (FP.i2d bv))]) (rest := []) (lenOf pd_0 rfl) rfl (by show 2 * 0 + _ ≤ _; exact Nat.le_of_eq rfl) (hb hby at_37) (fun _ _ => ⟨rfl, e0, (by decide : 0 + 0 ≤ _), (by decide : 0 + 0 ≤ _)⟩)
  dsimp only [Pt.U, Pt.locs, Pt.cells, Pt.slots] at X5 l5 y5 z5 st5 hQ5
  subst l5 y5 z5
  obtain ⟨rfl, Nq5, e5⟩ := hQ5
  have N5 := Fr.app N0 Nq5
  have k6 : ∀ t, Steps p.tables e below (T5.setTop (mkF m 44 #[.val (.int p0), .val (.int p1), .val (.int p2), .val (.int av), .val (.int bv), .val (.double (own_norm (FP.i2d av) (FP.i2d bv))), .second, .unset, .unset, .unset, .unset] [(.int bv)])) t → Steps p.tables e below (s₁.setTop (entryFrame m #[(.int p0), (.int p1), (.int p2)] maxLocals)) t := by
    intro t k
    refine k4 _ ?_
    show Steps p.tables e below (s₁.setTop (mkF m 32 #[.val (.int p0), .val (.int p1), .val (.int p2), .val (.int av), .val (.int bv), .unset, .unset, .unset, .unset, .unset, .unset] [])) _
    refine XS.iloadN X0.here hx rfl (hb hby at_32) rfl ?_
    show Steps p.tables e below (s₁.setTop (mkF m 33 #[.val (.int p0), .val (.int p1), .val (.int p2), .val (.int av), .val (.int bv), .unset, .unset, .unset, .unset, .unset, .unset] [(.int av)])) _
    refine XS.i2dS X0.here hx rfl (hb hby at_33) rfl rfl ?_
    show Steps p.tables e below (s₁.setTop (mkF m 34 #[.val (.int p0), .val (.int p1), .val (.int p2), .val (.int av), .val (.int bv), .unset, .unset, .unset, .unset, .unset, .unset] [(.double (FP.i2d av))])) _
    refine XS.iload X0.here hx rfl (hb hby at_34) rfl ?_
    show Steps p.tables e below (s₁.setTop (mkF m 36 #[.val (.int p0), .val (.int p1), .val (.int p2), .val (.int av), .val (.int bv), .unset, .unset, .unset, .unset, .unset, .unset] [(.int bv), (.double (FP.i2d av))])) _
    refine XS.i2dS X0.here hx rfl (hb hby at_36) rfl rfl ?_
    show Steps p.tables e below (s₁.setTop (mkF m 37 #[.val (.int p0), .val (.int p1), .val (.int p2), .val (.int av), .val (.int bv), .unset, .unset, .unset, .unset, .unset, .unset] [(.double (FP.i2d bv)), (.double (FP.i2d av))])) _
    refine st5 _ ?_
    show Steps p.tables e below (T5.setTop (mkF m 40 #[.val (.int p0), .val (.int p1), .val (.int p2), .val (.int av), .val (.int bv), .unset, .unset, .unset, .unset, .unset, .unset] [(.double (own_norm (FP.i2d av) (FP.i2d bv)))])) _
    refine XS.dstore X5.here hx rfl (hb hby at_40) rfl (l' := #[.val (.int p0), .val (.int p1), .val (.int p2), .val (.int av), .val (.int bv), .val (.double (own_norm (FP.i2d av) (FP.i2d bv))), .second, .unset, .unset, .unset, .unset]) rfl ?_
    show Steps p.tables e below (T5.setTop (mkF m 42 #[.val (.int p0), .val (.int p1), .val (.int p2), .val (.int av), .val (.int bv), .val (.double (own_norm (FP.i2d av) (FP.i2d bv))), .second, .unset, .unset, .unset, .unset] [])) _
    refine XS.iload X5.here hx rfl (hb hby at_42) rfl ?_
    exact k
  by_cases hc44_3 : bv = (0 : Int32)
  · have k7 : ∀ t, Steps p.tables e below (T5.setTop (mkF m 48 #[.val (.int p0), .val (.int p1), .val (.int p2), .val (.int av), .val (.int bv), .val (.double (own_norm (FP.i2d av) (FP.i2d bv))), .second, .unset, .unset, .unset, .unset] [(.int av)])) t → Steps p.tables e below (s₁.setTop (entryFrame m #[(.int p0), (.int p1), (.int p2)] maxLocals)) t := by
      intro t k
      refine k6 _ ?_
      show Steps p.tables e below (T5.setTop (mkF m 44 #[.val (.int p0), .val (.int p1), .val (.int p2), .val (.int av), .val (.int bv), .val (.double (own_norm (FP.i2d av) (FP.i2d bv))), .second, .unset, .unset, .unset, .unset] [(.int bv)])) _
      refine XS.ifNo X5.here hx rfl (hb hby at_44) rfl ((if0 _ _).trans (teq hc44_3).2) ?_
      show Steps p.tables e below (T5.setTop (mkF m 47 #[.val (.int p0), .val (.int p1), .val (.int p2), .val (.int av), .val (.int bv), .val (.double (own_norm (FP.i2d av) (FP.i2d bv))), .second, .unset, .unset, .unset, .unset] [])) _
      refine XS.iloadN X5.here hx rfl (hb hby at_47) rfl ?_
      exact k
    by_cases hc48_4 : av = (0 : Int32)
    · have k8 : ∀ t, Steps p.tables e below (T5.setTop (mkF m 63 #[.val (.int p0), .val (.int p1), .val (.int p2), .val (.int av), .val (.int bv), .val (.double (own_norm (FP.i2d av) (FP.i2d bv))), .second, .unset, .unset, .unset, .unset] [(.int (1 : Int32))])) t → Steps p.tables e below (s₁.setTop (entryFrame m #[(.int p0), (.int p1), (.int p2)] maxLocals)) t := by
        intro t k
        refine k7 _ ?_
        show Steps p.tables e below (T5.setTop (mkF m 48 #[.val (.int p0), .val (.int p1), .val (.int p2), .val (.int av), .val (.int bv), .val (.double (own_norm (FP.i2d av) (FP.i2d bv))), .second, .unset, .unset, .unset, .unset] [(.int av)])) _
        refine XS.ifNo X5.here hx rfl (hb hby at_48) rfl ((if0 _ _).trans (teq hc48_4).2) ?_
        show Steps p.tables e below (T5.setTop (mkF m 51 #[.val (.int p0), .val (.int p1), .val (.int p2), .val (.int av), .val (.int bv), .val (.double (own_norm (FP.i2d av) (FP.i2d bv))), .second, .unset, .unset, .unset, .unset] [])) _
        refine XS.dload X5.here hx rfl (hb hby at_51) rfl ?_
        show Steps p.tables e below (T5.setTop (mkF m 53 #[.val (.int p0), .val (.int p1), .val (.int p2), .val (.int av), .val (.int bv), .val (.double (own_norm (FP.i2d av) (FP.i2d bv))), .second, .unset, .unset, .unset, .unset] [(.double (own_norm (FP.i2d av) (FP.i2d bv)))])) _
        refine XS.dconst1 X5.here hx rfl (hb hby at_53) rfl ?_
        show Steps p.tables e below (T5.setTop (mkF m 54 #[.val (.int p0), .val (.int p1), .val (.int p2), .val (.int av), .val (.int bv), .val (.double (own_norm (FP.i2d av) (FP.i2d bv))), .second, .unset, .unset, .unset, .unset] [(.double FP.dconst1), (.double (own_norm (FP.i2d av) (FP.i2d bv)))])) _
        refine XS.dcmpS X5.here hx rfl (hb hby at_54) rfl rfl ?_
        show Steps p.tables e below (T5.setTop (mkF m 55 #[.val (.int p0), .val (.int p1), .val (.int p2), .val (.int av), .val (.int bv), .val (.double (own_norm (FP.i2d av) (FP.i2d bv))), .second, .unset, .unset, .unset, .unset] [(.int (cmpValue (FP.dcmp (own_norm (FP.i2d av) (FP.i2d bv)) FP.dconst1) .l))])) _
        refine XS.ifNo X5.here hx rfl (hb hby at_55) rfl ((if0 _ _).trans (teq (own_A1 hc44_3 hc48_4)).2) ?_
        show Steps p.tables e below (T5.setTop (mkF m 58 #[.val (.int p0), .val (.int p1), .val (.int p2), .val (.int av), .val (.int bv), .val (.double (own_norm (FP.i2d av) (FP.i2d bv))), .second, .unset, .unset, .unset, .unset] [])) _
        refine XS.iconst X5.here hx rfl (hb hby at_58) ?_
        show Steps p.tables e below (T5.setTop (mkF m 59 #[.val (.int p0), .val (.int p1), .val (.int p2), .val (.int av), .val (.int bv), .val (.double (own_norm (FP.i2d av) (FP.i2d bv))), .second, .unset, .unset, .unset, .unset] [(.int (1 : Int32))])) _
        refine XS.goto X5.here hx rfl (pc0 := 59) (pc' := 63) rfl (hb hby at_59) (by decide) (by decide) ?_
        exact k
      obtain ⟨fs, hr, hrun, hended, hW, hsame⟩ := X5.leave (v := some (.int (1 : Int32))) (fun h => by rw [Bd.returns] at h; cases h)
      refine ⟨_, _, k8 _ ?_, hrun, hended, _, _, rfl, ?_, ⟨_, rfl⟩, hW, hsame.mono (by decide) (by decide)⟩
      · exact retN X5 hx (t := .boolean) Bd.returns (by simp) (hb hby at_63) hr
      · show own_R (some (.int 1)) n0 _ T5.heap _
        rw [e5]
        exact ⟨rfl, N5⟩
    · have k9 : ∀ t, Steps p.tables e below (T5.setTop (mkF m 78 #[.val (.int p0), .val (.int p1), .val (.int p2), .val (.int av), .val (.int bv), .val (.double (own_norm (FP.i2d av) (FP.i2d bv))), .second, .unset, .unset, .unset, .unset] [(.int (1 : Int32))])) t → Steps p.tables e below (s₁.setTop (entryFrame m #[(.int p0), (.int p1), (.int p2)] maxLocals)) t := by
        intro t k
        refine k7 _ ?_
        show Steps p.tables e below (T5.setTop (mkF m 48 #[.val (.int p0), .val (.int p1), .val (.int p2), .val (.int av), .val (.int bv), .val (.double (own_norm (FP.i2d av) (FP.i2d bv))), .second, .unset, .unset, .unset, .unset] [(.int av)])) _
        refine XS.ifYes X5.here hx rfl (pc0 := 48) (pc' := 64) rfl (hb hby at_48) rfl ((if0 _ _).trans (feq hc48_4).2) (by decide) (by decide) ?_
        show Steps p.tables e below (T5.setTop (mkF m 64 #[.val (.int p0), .val (.int p1), .val (.int p2), .val (.int av), .val (.int bv), .val (.double (own_norm (FP.i2d av) (FP.i2d bv))), .second, .unset, .unset, .unset, .unset] [])) _
        refine XS.dload X5.here hx rfl (hb hby at_64) rfl ?_
        show Steps p.tables e below (T5.setTop (mkF m 66 #[.val (.int p0), .val (.int p1), .val (.int p2), .val (.int av), .val (.int bv), .val (.double (own_norm (FP.i2d av) (FP.i2d bv))), .second, .unset, .unset, .unset, .unset] [(.double (own_norm (FP.i2d av) (FP.i2d bv)))])) _
        refine X5.ldc2DoubleC hx hown (mvT hZ (hw _ (List.mem_of_getElem? (i := 6) rfl))) (g := (mkF m 66 #[.val (.int p0), .val (.int p1), .val (.int p2), .val (.int av), .val (.int bv), .val (.double (own_norm (FP.i2d av) (FP.i2d bv))), .second, .unset, .unset, .unset, .unset] [(.double (own_norm (FP.i2d av) (FP.i2d bv)))])) rfl (hb hby at_66) _ ?_
        show Steps p.tables e below (T5.setTop (mkF m 69 #[.val (.int p0), .val (.int p1), .val (.int p2), .val (.int av), .val (.int bv), .val (.double (own_norm (FP.i2d av) (FP.i2d bv))), .second, .unset, .unset, .unset, .unset] [(.double (9218868437227405312 : UInt64)), (.double (own_norm (FP.i2d av) (FP.i2d bv)))])) _
        refine XS.dcmpS X5.here hx rfl (hb hby at_69) rfl rfl ?_
        show Steps p.tables e below (T5.setTop (mkF m 70 #[.val (.int p0), .val (.int p1), .val (.int p2), .val (.int av), .val (.int bv), .val (.double (own_norm (FP.i2d av) (FP.i2d bv))), .second, .unset, .unset, .unset, .unset] [(.int (cmpValue (FP.dcmp (own_norm (FP.i2d av) (FP.i2d bv)) (9218868437227405312 : UInt64)) .l))])) _
        refine XS.ifNo X5.here hx rfl (hb hby at_70) rfl ((if0 _ _).trans (teq (own_A2 hc44_3 hc48_4)).2) ?_
        show Steps p.tables e below (T5.setTop (mkF m 73 #[.val (.int p0), .val (.int p1), .val (.int p2), .val (.int av), .val (.int bv), .val (.double (own_norm (FP.i2d av) (FP.i2d bv))), .second, .unset, .unset, .unset, .unset] [])) _
        refine XS.iconst X5.here hx rfl (hb hby at_73) ?_
        show Steps p.tables e below (T5.setTop (mkF m 74 #[.val (.int p0), .val (.int p1), .val (.int p2), .val (.int av), .val (.int bv), .val (.double (own_norm (FP.i2d av) (FP.i2d bv))), .second, .unset, .unset, .unset, .unset] [(.int (1 : Int32))])) _
        refine XS.goto X5.here hx rfl (pc0 := 74) (pc' := 78) rfl (hb hby at_74) (by decide) (by decide) ?_
        exact k
      obtain ⟨fs, hr, hrun, hended, hW, hsame⟩ := X5.leave (v := some (.int (1 : Int32))) (fun h => by rw [Bd.returns] at h; cases h)
      refine ⟨_, _, k9 _ ?_, hrun, hended, _, _, rfl, ?_, ⟨_, rfl⟩, hW, hsame.mono (by decide) (by decide)⟩
      · exact retN X5 hx (t := .boolean) Bd.returns (by simp) (hb hby at_78) hr
      · show own_R (some (.int 1)) n0 _ T5.heap _
        rw [e5]
        exact ⟨rfl, N5⟩
  · obtain ⟨_, _, ⟨T10, L10, k10_, n10⟩, -, X10, ⟨Lc10, hQ10, l10, y10, z10⟩, st10⟩ := Jvm.LawKit.callS X5 hx (y := (⟨"com/example/interlace/interlace/model/Score", "normalized", "(DD)D"⟩ : MethodName)) hown (mvT hZ (hw _ (List.mem_of_getElem? (i := 1) rfl))) (mvT hZ (hw _ (List.mem_of_getElem? (i := 2) rfl))) (mvT hZ (hw _ (List.mem_of_getElem? (i := 3) rfl))) (mvT hZ (hw _ (List.mem_of_getElem? (i := 4) rfl))) (by decide) (backOf (W := 0) (rm1 l Z a0 hw [] (FP.i2d ((2 : Int32) * av)) (FP.i2d ((2 : Int32) * bv)) h0 n0 (own_nn (own_small _))) hZ (hw _ (List.mem_of_getElem? (i := 4) rfl)) (hw _ (List.mem_of_getElem? (i := 3) rfl)) (by decide) (by decide)) (g := (mkF m 88 #[.val (.int p0), .val (.int p1), .val (.int p2), .val (.int av), .val (.int bv), .val (.double (own_norm (FP.i2d av) (FP.i2d bv))), .second, .unset, .unset, .unset, .unset] [(.double (FP.i2d ((2 : Int32) * bv))), (.double (FP.i2d ((2 : Int32) * av)))])) rfl (by rw [hml]; rfl) (argsL := [(.double (FP.i2d ((2 : Int32) * av))), (.double (FP.i2d ((2 : Int32) * bv)))]) (rest := []) (lenOf pd_0 rfl) rfl (by show 2 * 0 + _ ≤ _; exact Nat.le_of_eq rfl) (hb hby at_88) (fun _ _ => ⟨rfl, e5, (by decide : 0 + 0 ≤ _), (by decide : 0 + 0 ≤ _)⟩)
    dsimp only [Pt.U, Pt.locs, Pt.cells, Pt.slots] at X10 l10 y10 z10 st10 hQ10
    subst l10 y10 z10
    obtain ⟨rfl, Nq10, e10⟩ := hQ10
    have N10 := Fr.app N5 Nq10
    have k11 : ∀ t, Steps p.tables e below (T10.setTop (mkF m 117 #[.val (.int p0), .val (.int p1), .val (.int p2), .val (.int av), .val (.int bv), .val (.double (own_norm (FP.i2d av) (FP.i2d bv))), .second, .val (.double (own_norm (FP.i2d ((2 : Int32) * av)) (FP.i2d ((2 : Int32) * bv)))), .second, .val (.int (av / bv)), .val (.int (av % bv))] [(.int (av % bv))])) t → Steps p.tables e below (s₁.setTop (entryFrame m #[(.int p0), (.int p1), (.int p2)] maxLocals)) t := by
      intro t k
      refine k6 _ ?_
      show Steps p.tables e below (T5.setTop (mkF m 44 #[.val (.int p0), .val (.int p1), .val (.int p2), .val (.int av), .val (.int bv), .val (.double (own_norm (FP.i2d av) (FP.i2d bv))), .second, .unset, .unset, .unset, .unset] [(.int bv)])) _
      refine XS.ifYes X5.here hx rfl (pc0 := 44) (pc' := 79) rfl (hb hby at_44) rfl ((if0 _ _).trans (feq hc44_3).2) (by decide) (by decide) ?_
      show Steps p.tables e below (T5.setTop (mkF m 79 #[.val (.int p0), .val (.int p1), .val (.int p2), .val (.int av), .val (.int bv), .val (.double (own_norm (FP.i2d av) (FP.i2d bv))), .second, .unset, .unset, .unset, .unset] [])) _
      refine XS.iconst X5.here hx rfl (hb hby at_79) ?_
      show Steps p.tables e below (T5.setTop (mkF m 80 #[.val (.int p0), .val (.int p1), .val (.int p2), .val (.int av), .val (.int bv), .val (.double (own_norm (FP.i2d av) (FP.i2d bv))), .second, .unset, .unset, .unset, .unset] [(.int (2 : Int32))])) _
      refine XS.iloadN X5.here hx rfl (hb hby at_80) rfl ?_
      show Steps p.tables e below (T5.setTop (mkF m 81 #[.val (.int p0), .val (.int p1), .val (.int p2), .val (.int av), .val (.int bv), .val (.double (own_norm (FP.i2d av) (FP.i2d bv))), .second, .unset, .unset, .unset, .unset] [(.int av), (.int (2 : Int32))])) _
      refine XS.imul X5.here hx rfl (hb hby at_81) rfl ?_
      show Steps p.tables e below (T5.setTop (mkF m 82 #[.val (.int p0), .val (.int p1), .val (.int p2), .val (.int av), .val (.int bv), .val (.double (own_norm (FP.i2d av) (FP.i2d bv))), .second, .unset, .unset, .unset, .unset] [(.int ((2 : Int32) * av))])) _
      refine XS.i2dS X5.here hx rfl (hb hby at_82) rfl rfl ?_
      show Steps p.tables e below (T5.setTop (mkF m 83 #[.val (.int p0), .val (.int p1), .val (.int p2), .val (.int av), .val (.int bv), .val (.double (own_norm (FP.i2d av) (FP.i2d bv))), .second, .unset, .unset, .unset, .unset] [(.double (FP.i2d ((2 : Int32) * av)))])) _
      refine XS.iconst X5.here hx rfl (hb hby at_83) ?_
      show Steps p.tables e below (T5.setTop (mkF m 84 #[.val (.int p0), .val (.int p1), .val (.int p2), .val (.int av), .val (.int bv), .val (.double (own_norm (FP.i2d av) (FP.i2d bv))), .second, .unset, .unset, .unset, .unset] [(.int (2 : Int32)), (.double (FP.i2d ((2 : Int32) * av)))])) _
      refine XS.iload X5.here hx rfl (hb hby at_84) rfl ?_
      show Steps p.tables e below (T5.setTop (mkF m 86 #[.val (.int p0), .val (.int p1), .val (.int p2), .val (.int av), .val (.int bv), .val (.double (own_norm (FP.i2d av) (FP.i2d bv))), .second, .unset, .unset, .unset, .unset] [(.int bv), (.int (2 : Int32)), (.double (FP.i2d ((2 : Int32) * av)))])) _
      refine XS.imul X5.here hx rfl (hb hby at_86) rfl ?_
      show Steps p.tables e below (T5.setTop (mkF m 87 #[.val (.int p0), .val (.int p1), .val (.int p2), .val (.int av), .val (.int bv), .val (.double (own_norm (FP.i2d av) (FP.i2d bv))), .second, .unset, .unset, .unset, .unset] [(.int ((2 : Int32) * bv)), (.double (FP.i2d ((2 : Int32) * av)))])) _
      refine XS.i2dS X5.here hx rfl (hb hby at_87) rfl rfl ?_
      show Steps p.tables e below (T5.setTop (mkF m 88 #[.val (.int p0), .val (.int p1), .val (.int p2), .val (.int av), .val (.int bv), .val (.double (own_norm (FP.i2d av) (FP.i2d bv))), .second, .unset, .unset, .unset, .unset] [(.double (FP.i2d ((2 : Int32) * bv))), (.double (FP.i2d ((2 : Int32) * av)))])) _
      refine st10 _ ?_
      show Steps p.tables e below (T10.setTop (mkF m 91 #[.val (.int p0), .val (.int p1), .val (.int p2), .val (.int av), .val (.int bv), .val (.double (own_norm (FP.i2d av) (FP.i2d bv))), .second, .unset, .unset, .unset, .unset] [(.double (own_norm (FP.i2d ((2 : Int32) * av)) (FP.i2d ((2 : Int32) * bv))))])) _
      refine XS.dstore X10.here hx rfl (hb hby at_91) rfl (l' := #[.val (.int p0), .val (.int p1), .val (.int p2), .val (.int av), .val (.int bv), .val (.double (own_norm (FP.i2d av) (FP.i2d bv))), .second, .val (.double (own_norm (FP.i2d ((2 : Int32) * av)) (FP.i2d ((2 : Int32) * bv)))), .second, .unset, .unset]) rfl ?_
      show Steps p.tables e below (T10.setTop (mkF m 93 #[.val (.int p0), .val (.int p1), .val (.int p2), .val (.int av), .val (.int bv), .val (.double (own_norm (FP.i2d av) (FP.i2d bv))), .second, .val (.double (own_norm (FP.i2d ((2 : Int32) * av)) (FP.i2d ((2 : Int32) * bv)))), .second, .unset, .unset] [])) _
      refine XS.dload X10.here hx rfl (hb hby at_93) rfl ?_
      show Steps p.tables e below (T10.setTop (mkF m 95 #[.val (.int p0), .val (.int p1), .val (.int p2), .val (.int av), .val (.int bv), .val (.double (own_norm (FP.i2d av) (FP.i2d bv))), .second, .val (.double (own_norm (FP.i2d ((2 : Int32) * av)) (FP.i2d ((2 : Int32) * bv)))), .second, .unset, .unset] [(.double (own_norm (FP.i2d ((2 : Int32) * av)) (FP.i2d ((2 : Int32) * bv))))])) _
      refine XS.dload X10.here hx rfl (hb hby at_95) rfl ?_
      show Steps p.tables e below (T10.setTop (mkF m 97 #[.val (.int p0), .val (.int p1), .val (.int p2), .val (.int av), .val (.int bv), .val (.double (own_norm (FP.i2d av) (FP.i2d bv))), .second, .val (.double (own_norm (FP.i2d ((2 : Int32) * av)) (FP.i2d ((2 : Int32) * bv)))), .second, .unset, .unset] [(.double (own_norm (FP.i2d av) (FP.i2d bv))), (.double (own_norm (FP.i2d ((2 : Int32) * av)) (FP.i2d ((2 : Int32) * bv))))])) _
      refine XS.dcmpS X10.here hx rfl (hb hby at_97) rfl rfl ?_
      show Steps p.tables e below (T10.setTop (mkF m 98 #[.val (.int p0), .val (.int p1), .val (.int p2), .val (.int av), .val (.int bv), .val (.double (own_norm (FP.i2d av) (FP.i2d bv))), .second, .val (.double (own_norm (FP.i2d ((2 : Int32) * av)) (FP.i2d ((2 : Int32) * bv)))), .second, .unset, .unset] [(.int (cmpValue (FP.dcmp (own_norm (FP.i2d ((2 : Int32) * av)) (FP.i2d ((2 : Int32) * bv))) (own_norm (FP.i2d av) (FP.i2d bv))) .l))])) _
      refine XS.ifYes X10.here hx rfl (pc0 := 98) (pc' := 103) rfl (hb hby at_98) rfl ((if0 _ _).trans (teq (own_B1 hr hc44_3)).1) (by decide) (by decide) ?_
      show Steps p.tables e below (T10.setTop (mkF m 103 #[.val (.int p0), .val (.int p1), .val (.int p2), .val (.int av), .val (.int bv), .val (.double (own_norm (FP.i2d av) (FP.i2d bv))), .second, .val (.double (own_norm (FP.i2d ((2 : Int32) * av)) (FP.i2d ((2 : Int32) * bv)))), .second, .unset, .unset] [])) _
      refine XS.iloadN X10.here hx rfl (hb hby at_103) rfl ?_
      show Steps p.tables e below (T10.setTop (mkF m 104 #[.val (.int p0), .val (.int p1), .val (.int p2), .val (.int av), .val (.int bv), .val (.double (own_norm (FP.i2d av) (FP.i2d bv))), .second, .val (.double (own_norm (FP.i2d ((2 : Int32) * av)) (FP.i2d ((2 : Int32) * bv)))), .second, .unset, .unset] [(.int av)])) _
      refine XS.iload X10.here hx rfl (hb hby at_104) rfl ?_
      show Steps p.tables e below (T10.setTop (mkF m 106 #[.val (.int p0), .val (.int p1), .val (.int p2), .val (.int av), .val (.int bv), .val (.double (own_norm (FP.i2d av) (FP.i2d bv))), .second, .val (.double (own_norm (FP.i2d ((2 : Int32) * av)) (FP.i2d ((2 : Int32) * bv)))), .second, .unset, .unset] [(.int bv), (.int av)])) _
      refine XS.idiv X10.here hx rfl (hb hby at_106) rfl hc44_3 ?_
      show Steps p.tables e below (T10.setTop (mkF m 107 #[.val (.int p0), .val (.int p1), .val (.int p2), .val (.int av), .val (.int bv), .val (.double (own_norm (FP.i2d av) (FP.i2d bv))), .second, .val (.double (own_norm (FP.i2d ((2 : Int32) * av)) (FP.i2d ((2 : Int32) * bv)))), .second, .unset, .unset] [(.int (av / bv))])) _
      refine XS.istore X10.here hx rfl (hb hby at_107) rfl (l' := #[.val (.int p0), .val (.int p1), .val (.int p2), .val (.int av), .val (.int bv), .val (.double (own_norm (FP.i2d av) (FP.i2d bv))), .second, .val (.double (own_norm (FP.i2d ((2 : Int32) * av)) (FP.i2d ((2 : Int32) * bv)))), .second, .val (.int (av / bv)), .unset]) rfl ?_
      show Steps p.tables e below (T10.setTop (mkF m 109 #[.val (.int p0), .val (.int p1), .val (.int p2), .val (.int av), .val (.int bv), .val (.double (own_norm (FP.i2d av) (FP.i2d bv))), .second, .val (.double (own_norm (FP.i2d ((2 : Int32) * av)) (FP.i2d ((2 : Int32) * bv)))), .second, .val (.int (av / bv)), .unset] [])) _
      refine XS.iloadN X10.here hx rfl (hb hby at_109) rfl ?_
      show Steps p.tables e below (T10.setTop (mkF m 110 #[.val (.int p0), .val (.int p1), .val (.int p2), .val (.int av), .val (.int bv), .val (.double (own_norm (FP.i2d av) (FP.i2d bv))), .second, .val (.double (own_norm (FP.i2d ((2 : Int32) * av)) (FP.i2d ((2 : Int32) * bv)))), .second, .val (.int (av / bv)), .unset] [(.int av)])) _
      refine XS.iload X10.here hx rfl (hb hby at_110) rfl ?_
      show Steps p.tables e below (T10.setTop (mkF m 112 #[.val (.int p0), .val (.int p1), .val (.int p2), .val (.int av), .val (.int bv), .val (.double (own_norm (FP.i2d av) (FP.i2d bv))), .second, .val (.double (own_norm (FP.i2d ((2 : Int32) * av)) (FP.i2d ((2 : Int32) * bv)))), .second, .val (.int (av / bv)), .unset] [(.int bv), (.int av)])) _
      refine iremM X10 hx rfl (hb hby at_112) rfl hc44_3 ?_
      show Steps p.tables e below (T10.setTop (mkF m 113 #[.val (.int p0), .val (.int p1), .val (.int p2), .val (.int av), .val (.int bv), .val (.double (own_norm (FP.i2d av) (FP.i2d bv))), .second, .val (.double (own_norm (FP.i2d ((2 : Int32) * av)) (FP.i2d ((2 : Int32) * bv)))), .second, .val (.int (av / bv)), .unset] [(.int (av % bv))])) _
      refine XS.istore X10.here hx rfl (hb hby at_113) rfl (l' := #[.val (.int p0), .val (.int p1), .val (.int p2), .val (.int av), .val (.int bv), .val (.double (own_norm (FP.i2d av) (FP.i2d bv))), .second, .val (.double (own_norm (FP.i2d ((2 : Int32) * av)) (FP.i2d ((2 : Int32) * bv)))), .second, .val (.int (av / bv)), .val (.int (av % bv))]) rfl ?_
      show Steps p.tables e below (T10.setTop (mkF m 115 #[.val (.int p0), .val (.int p1), .val (.int p2), .val (.int av), .val (.int bv), .val (.double (own_norm (FP.i2d av) (FP.i2d bv))), .second, .val (.double (own_norm (FP.i2d ((2 : Int32) * av)) (FP.i2d ((2 : Int32) * bv)))), .second, .val (.int (av / bv)), .val (.int (av % bv))] [])) _
      refine XS.iload X10.here hx rfl (hb hby at_115) rfl ?_
      exact k
    by_cases hc117_5 : (av % bv) = (0 : Int32)
    · have k12 : ∀ t, Steps p.tables e below (T10.setTop (mkF m 134 #[.val (.int p0), .val (.int p1), .val (.int p2), .val (.int av), .val (.int bv), .val (.double (own_norm (FP.i2d av) (FP.i2d bv))), .second, .val (.double (own_norm (FP.i2d ((2 : Int32) * av)) (FP.i2d ((2 : Int32) * bv)))), .second, .val (.int (av / bv)), .val (.int (av % bv))] [(.int (1 : Int32))])) t → Steps p.tables e below (s₁.setTop (entryFrame m #[(.int p0), (.int p1), (.int p2)] maxLocals)) t := by
        intro t k
        refine k11 _ ?_
        show Steps p.tables e below (T10.setTop (mkF m 117 #[.val (.int p0), .val (.int p1), .val (.int p2), .val (.int av), .val (.int bv), .val (.double (own_norm (FP.i2d av) (FP.i2d bv))), .second, .val (.double (own_norm (FP.i2d ((2 : Int32) * av)) (FP.i2d ((2 : Int32) * bv)))), .second, .val (.int (av / bv)), .val (.int (av % bv))] [(.int (av % bv))])) _
        refine XS.ifNo X10.here hx rfl (hb hby at_117) rfl ((if0 _ _).trans (teq hc117_5).2) ?_
        show Steps p.tables e below (T10.setTop (mkF m 120 #[.val (.int p0), .val (.int p1), .val (.int p2), .val (.int av), .val (.int bv), .val (.double (own_norm (FP.i2d av) (FP.i2d bv))), .second, .val (.double (own_norm (FP.i2d ((2 : Int32) * av)) (FP.i2d ((2 : Int32) * bv)))), .second, .val (.int (av / bv)), .val (.int (av % bv))] [])) _
        refine XS.dload X10.here hx rfl (hb hby at_120) rfl ?_
        show Steps p.tables e below (T10.setTop (mkF m 122 #[.val (.int p0), .val (.int p1), .val (.int p2), .val (.int av), .val (.int bv), .val (.double (own_norm (FP.i2d av) (FP.i2d bv))), .second, .val (.double (own_norm (FP.i2d ((2 : Int32) * av)) (FP.i2d ((2 : Int32) * bv)))), .second, .val (.int (av / bv)), .val (.int (av % bv))] [(.double (own_norm (FP.i2d av) (FP.i2d bv)))])) _
        refine XS.iload X10.here hx rfl (hb hby at_122) rfl ?_
        show Steps p.tables e below (T10.setTop (mkF m 124 #[.val (.int p0), .val (.int p1), .val (.int p2), .val (.int av), .val (.int bv), .val (.double (own_norm (FP.i2d av) (FP.i2d bv))), .second, .val (.double (own_norm (FP.i2d ((2 : Int32) * av)) (FP.i2d ((2 : Int32) * bv)))), .second, .val (.int (av / bv)), .val (.int (av % bv))] [(.int (av / bv)), (.double (own_norm (FP.i2d av) (FP.i2d bv)))])) _
        refine XS.i2dS X10.here hx rfl (hb hby at_124) rfl rfl ?_
        show Steps p.tables e below (T10.setTop (mkF m 125 #[.val (.int p0), .val (.int p1), .val (.int p2), .val (.int av), .val (.int bv), .val (.double (own_norm (FP.i2d av) (FP.i2d bv))), .second, .val (.double (own_norm (FP.i2d ((2 : Int32) * av)) (FP.i2d ((2 : Int32) * bv)))), .second, .val (.int (av / bv)), .val (.int (av % bv))] [(.double (FP.i2d (av / bv))), (.double (own_norm (FP.i2d av) (FP.i2d bv)))])) _
        refine XS.dcmpS X10.here hx rfl (hb hby at_125) rfl rfl ?_
        show Steps p.tables e below (T10.setTop (mkF m 126 #[.val (.int p0), .val (.int p1), .val (.int p2), .val (.int av), .val (.int bv), .val (.double (own_norm (FP.i2d av) (FP.i2d bv))), .second, .val (.double (own_norm (FP.i2d ((2 : Int32) * av)) (FP.i2d ((2 : Int32) * bv)))), .second, .val (.int (av / bv)), .val (.int (av % bv))] [(.int (cmpValue (FP.dcmp (own_norm (FP.i2d av) (FP.i2d bv)) (FP.i2d (av / bv))) .l))])) _
        refine XS.ifNo X10.here hx rfl (hb hby at_126) rfl ((if0 _ _).trans (teq (own_B2 hr hc44_3 hc117_5)).2) ?_
        show Steps p.tables e below (T10.setTop (mkF m 129 #[.val (.int p0), .val (.int p1), .val (.int p2), .val (.int av), .val (.int bv), .val (.double (own_norm (FP.i2d av) (FP.i2d bv))), .second, .val (.double (own_norm (FP.i2d ((2 : Int32) * av)) (FP.i2d ((2 : Int32) * bv)))), .second, .val (.int (av / bv)), .val (.int (av % bv))] [])) _
        refine XS.iconst X10.here hx rfl (hb hby at_129) ?_
        show Steps p.tables e below (T10.setTop (mkF m 130 #[.val (.int p0), .val (.int p1), .val (.int p2), .val (.int av), .val (.int bv), .val (.double (own_norm (FP.i2d av) (FP.i2d bv))), .second, .val (.double (own_norm (FP.i2d ((2 : Int32) * av)) (FP.i2d ((2 : Int32) * bv)))), .second, .val (.int (av / bv)), .val (.int (av % bv))] [(.int (1 : Int32))])) _
        refine XS.goto X10.here hx rfl (pc0 := 130) (pc' := 134) rfl (hb hby at_130) (by decide) (by decide) ?_
        exact k
      obtain ⟨fs, hr, hrun, hended, hW, hsame⟩ := X10.leave (v := some (.int (1 : Int32))) (fun h => by rw [Bd.returns] at h; cases h)
      refine ⟨_, _, k12 _ ?_, hrun, hended, _, _, rfl, ?_, ⟨_, rfl⟩, hW, hsame.mono (by decide) (by decide)⟩
      · exact retN X10 hx (t := .boolean) Bd.returns (by simp) (hb hby at_134) hr
      · show own_R (some (.int 1)) n0 _ T10.heap _
        rw [e10]
        exact ⟨rfl, N10⟩
    · have k13 : ∀ t, Steps p.tables e below (T10.setTop (mkF m 144 #[.val (.int p0), .val (.int p1), .val (.int p2), .val (.int av), .val (.int bv), .val (.double (own_norm (FP.i2d av) (FP.i2d bv))), .second, .val (.double (own_norm (FP.i2d ((2 : Int32) * av)) (FP.i2d ((2 : Int32) * bv)))), .second, .val (.int (av / bv)), .val (.int (av % bv))] [(.int (if av < (0 : Int32) then (1 : Int32) else (0 : Int32)))])) t → Steps p.tables e below (s₁.setTop (entryFrame m #[(.int p0), (.int p1), (.int p2)] maxLocals)) t := by
        intro t k
        refine k11 _ ?_
        show Steps p.tables e below (T10.setTop (mkF m 117 #[.val (.int p0), .val (.int p1), .val (.int p2), .val (.int av), .val (.int bv), .val (.double (own_norm (FP.i2d av) (FP.i2d bv))), .second, .val (.double (own_norm (FP.i2d ((2 : Int32) * av)) (FP.i2d ((2 : Int32) * bv)))), .second, .val (.int (av / bv)), .val (.int (av % bv))] [(.int (av % bv))])) _
        refine XS.ifYes X10.here hx rfl (pc0 := 117) (pc' := 135) rfl (hb hby at_117) rfl ((if0 _ _).trans (feq hc117_5).2) (by decide) (by decide) ?_
        show Steps p.tables e below (T10.setTop (mkF m 135 #[.val (.int p0), .val (.int p1), .val (.int p2), .val (.int av), .val (.int bv), .val (.double (own_norm (FP.i2d av) (FP.i2d bv))), .second, .val (.double (own_norm (FP.i2d ((2 : Int32) * av)) (FP.i2d ((2 : Int32) * bv)))), .second, .val (.int (av / bv)), .val (.int (av % bv))] [])) _
        refine XS.iloadN X10.here hx rfl (hb hby at_135) rfl ?_
        show Steps p.tables e below (T10.setTop (mkF m 136 #[.val (.int p0), .val (.int p1), .val (.int p2), .val (.int av), .val (.int bv), .val (.double (own_norm (FP.i2d av) (FP.i2d bv))), .second, .val (.double (own_norm (FP.i2d ((2 : Int32) * av)) (FP.i2d ((2 : Int32) * bv)))), .second, .val (.int (av / bv)), .val (.int (av % bv))] [(.int av)])) _
        by_cases hc136_6 : av < (0 : Int32)
        · refine XS.ifNo X10.here hx rfl (hb hby at_136) rfl ((if0 _ _).trans (tlt hc136_6).2.1) ?_
          show Steps p.tables e below (T10.setTop (mkF m 139 #[.val (.int p0), .val (.int p1), .val (.int p2), .val (.int av), .val (.int bv), .val (.double (own_norm (FP.i2d av) (FP.i2d bv))), .second, .val (.double (own_norm (FP.i2d ((2 : Int32) * av)) (FP.i2d ((2 : Int32) * bv)))), .second, .val (.int (av / bv)), .val (.int (av % bv))] [])) _
          refine XS.iconst X10.here hx rfl (hb hby at_139) ?_
          show Steps p.tables e below (T10.setTop (mkF m 140 #[.val (.int p0), .val (.int p1), .val (.int p2), .val (.int av), .val (.int bv), .val (.double (own_norm (FP.i2d av) (FP.i2d bv))), .second, .val (.double (own_norm (FP.i2d ((2 : Int32) * av)) (FP.i2d ((2 : Int32) * bv)))), .second, .val (.int (av / bv)), .val (.int (av % bv))] [(.int (1 : Int32))])) _
          refine XS.goto X10.here hx rfl (pc0 := 140) (pc' := 144) rfl (hb hby at_140) (by decide) (by decide) ?_
          try simp only [if_pos hc136_6] at k
          exact k
        · refine XS.ifYes X10.here hx rfl (pc0 := 136) (pc' := 143) rfl (hb hby at_136) rfl ((if0 _ _).trans (flt hc136_6).2.1) (by decide) (by decide) ?_
          show Steps p.tables e below (T10.setTop (mkF m 143 #[.val (.int p0), .val (.int p1), .val (.int p2), .val (.int av), .val (.int bv), .val (.double (own_norm (FP.i2d av) (FP.i2d bv))), .second, .val (.double (own_norm (FP.i2d ((2 : Int32) * av)) (FP.i2d ((2 : Int32) * bv)))), .second, .val (.int (av / bv)), .val (.int (av % bv))] [])) _
          refine XS.iconst X10.here hx rfl (hb hby at_143) ?_
          try simp only [if_neg hc136_6] at k
          exact k
      have k14 : ∀ t, Steps p.tables e below (T10.setTop (mkF m 154 #[.val (.int p0), .val (.int p1), .val (.int p2), .val (.int av), .val (.int bv), .val (.double (own_norm (FP.i2d av) (FP.i2d bv))), .second, .val (.double (own_norm (FP.i2d ((2 : Int32) * av)) (FP.i2d ((2 : Int32) * bv)))), .second, .val (.int (av / bv)), .val (.int (av % bv))] [(.int (if bv < (0 : Int32) then (1 : Int32) else (0 : Int32))), (.int (if av < (0 : Int32) then (1 : Int32) else (0 : Int32)))])) t → Steps p.tables e below (s₁.setTop (entryFrame m #[(.int p0), (.int p1), (.int p2)] maxLocals)) t := by
        intro t k
        refine k13 _ ?_
        show Steps p.tables e below (T10.setTop (mkF m 144 #[.val (.int p0), .val (.int p1), .val (.int p2), .val (.int av), .val (.int bv), .val (.double (own_norm (FP.i2d av) (FP.i2d bv))), .second, .val (.double (own_norm (FP.i2d ((2 : Int32) * av)) (FP.i2d ((2 : Int32) * bv)))), .second, .val (.int (av / bv)), .val (.int (av % bv))] [(.int (if av < (0 : Int32) then (1 : Int32) else (0 : Int32)))])) _
        refine XS.iload X10.here hx rfl (hb hby at_144) rfl ?_
        show Steps p.tables e below (T10.setTop (mkF m 146 #[.val (.int p0), .val (.int p1), .val (.int p2), .val (.int av), .val (.int bv), .val (.double (own_norm (FP.i2d av) (FP.i2d bv))), .second, .val (.double (own_norm (FP.i2d ((2 : Int32) * av)) (FP.i2d ((2 : Int32) * bv)))), .second, .val (.int (av / bv)), .val (.int (av % bv))] [(.int bv), (.int (if av < (0 : Int32) then (1 : Int32) else (0 : Int32)))])) _
        by_cases hc146_7 : bv < (0 : Int32)
        · refine XS.ifNo X10.here hx rfl (hb hby at_146) rfl ((if0 _ _).trans (tlt hc146_7).2.1) ?_
          show Steps p.tables e below (T10.setTop (mkF m 149 #[.val (.int p0), .val (.int p1), .val (.int p2), .val (.int av), .val (.int bv), .val (.double (own_norm (FP.i2d av) (FP.i2d bv))), .second, .val (.double (own_norm (FP.i2d ((2 : Int32) * av)) (FP.i2d ((2 : Int32) * bv)))), .second, .val (.int (av / bv)), .val (.int (av % bv))] [(.int (if av < (0 : Int32) then (1 : Int32) else (0 : Int32)))])) _
          refine XS.iconst X10.here hx rfl (hb hby at_149) ?_
          show Steps p.tables e below (T10.setTop (mkF m 150 #[.val (.int p0), .val (.int p1), .val (.int p2), .val (.int av), .val (.int bv), .val (.double (own_norm (FP.i2d av) (FP.i2d bv))), .second, .val (.double (own_norm (FP.i2d ((2 : Int32) * av)) (FP.i2d ((2 : Int32) * bv)))), .second, .val (.int (av / bv)), .val (.int (av % bv))] [(.int (1 : Int32)), (.int (if av < (0 : Int32) then (1 : Int32) else (0 : Int32)))])) _
          refine XS.goto X10.here hx rfl (pc0 := 150) (pc' := 154) rfl (hb hby at_150) (by decide) (by decide) ?_
          try simp only [if_pos hc146_7] at k
          exact k
        · refine XS.ifYes X10.here hx rfl (pc0 := 146) (pc' := 153) rfl (hb hby at_146) rfl ((if0 _ _).trans (flt hc146_7).2.1) (by decide) (by decide) ?_
          show Steps p.tables e below (T10.setTop (mkF m 153 #[.val (.int p0), .val (.int p1), .val (.int p2), .val (.int av), .val (.int bv), .val (.double (own_norm (FP.i2d av) (FP.i2d bv))), .second, .val (.double (own_norm (FP.i2d ((2 : Int32) * av)) (FP.i2d ((2 : Int32) * bv)))), .second, .val (.int (av / bv)), .val (.int (av % bv))] [(.int (if av < (0 : Int32) then (1 : Int32) else (0 : Int32)))])) _
          refine XS.iconst X10.here hx rfl (hb hby at_153) ?_
          try simp only [if_neg hc146_7] at k
          exact k
      by_cases hc154_8 : (if av < (0 : Int32) then (1 : Int32) else (0 : Int32)) = (if bv < (0 : Int32) then (1 : Int32) else (0 : Int32))
      · have k15 : ∀ t, Steps p.tables e below (T10.setTop (mkF m 182 #[.val (.int p0), .val (.int p1), .val (.int p2), .val (.int av), .val (.int bv), .val (.double (own_norm (FP.i2d av) (FP.i2d bv))), .second, .val (.double (own_norm (FP.i2d ((2 : Int32) * av)) (FP.i2d ((2 : Int32) * bv)))), .second, .val (.int (av / bv)), .val (.int (av % bv))] [(.int (1 : Int32))])) t → Steps p.tables e below (s₁.setTop (entryFrame m #[(.int p0), (.int p1), (.int p2)] maxLocals)) t := by
          intro t k
          refine k14 _ ?_
          show Steps p.tables e below (T10.setTop (mkF m 154 #[.val (.int p0), .val (.int p1), .val (.int p2), .val (.int av), .val (.int bv), .val (.double (own_norm (FP.i2d av) (FP.i2d bv))), .second, .val (.double (own_norm (FP.i2d ((2 : Int32) * av)) (FP.i2d ((2 : Int32) * bv)))), .second, .val (.int (av / bv)), .val (.int (av % bv))] [(.int (if bv < (0 : Int32) then (1 : Int32) else (0 : Int32))), (.int (if av < (0 : Int32) then (1 : Int32) else (0 : Int32)))])) _
          refine XS.icmpNo X10.here hx rfl (hb hby at_154) rfl (teq hc154_8).2 ?_
          show Steps p.tables e below (T10.setTop (mkF m 157 #[.val (.int p0), .val (.int p1), .val (.int p2), .val (.int av), .val (.int bv), .val (.double (own_norm (FP.i2d av) (FP.i2d bv))), .second, .val (.double (own_norm (FP.i2d ((2 : Int32) * av)) (FP.i2d ((2 : Int32) * bv)))), .second, .val (.int (av / bv)), .val (.int (av % bv))] [])) _
          refine XS.iload X10.here hx rfl (hb hby at_157) rfl ?_
          show Steps p.tables e below (T10.setTop (mkF m 159 #[.val (.int p0), .val (.int p1), .val (.int p2), .val (.int av), .val (.int bv), .val (.double (own_norm (FP.i2d av) (FP.i2d bv))), .second, .val (.double (own_norm (FP.i2d ((2 : Int32) * av)) (FP.i2d ((2 : Int32) * bv)))), .second, .val (.int (av / bv)), .val (.int (av % bv))] [(.int (av / bv))])) _
          refine XS.i2dS X10.here hx rfl (hb hby at_159) rfl rfl ?_
          show Steps p.tables e below (T10.setTop (mkF m 160 #[.val (.int p0), .val (.int p1), .val (.int p2), .val (.int av), .val (.int bv), .val (.double (own_norm (FP.i2d av) (FP.i2d bv))), .second, .val (.double (own_norm (FP.i2d ((2 : Int32) * av)) (FP.i2d ((2 : Int32) * bv)))), .second, .val (.int (av / bv)), .val (.int (av % bv))] [(.double (FP.i2d (av / bv)))])) _
          refine XS.dload X10.here hx rfl (hb hby at_160) rfl ?_
          show Steps p.tables e below (T10.setTop (mkF m 162 #[.val (.int p0), .val (.int p1), .val (.int p2), .val (.int av), .val (.int bv), .val (.double (own_norm (FP.i2d av) (FP.i2d bv))), .second, .val (.double (own_norm (FP.i2d ((2 : Int32) * av)) (FP.i2d ((2 : Int32) * bv)))), .second, .val (.int (av / bv)), .val (.int (av % bv))] [(.double (own_norm (FP.i2d av) (FP.i2d bv))), (.double (FP.i2d (av / bv)))])) _
          refine XS.dcmpS X10.here hx rfl (hb hby at_162) rfl rfl ?_
          show Steps p.tables e below (T10.setTop (mkF m 163 #[.val (.int p0), .val (.int p1), .val (.int p2), .val (.int av), .val (.int bv), .val (.double (own_norm (FP.i2d av) (FP.i2d bv))), .second, .val (.double (own_norm (FP.i2d ((2 : Int32) * av)) (FP.i2d ((2 : Int32) * bv)))), .second, .val (.int (av / bv)), .val (.int (av % bv))] [(.int (cmpValue (FP.dcmp (FP.i2d (av / bv)) (own_norm (FP.i2d av) (FP.i2d bv))) .g))])) _
          refine XS.ifNo X10.here hx rfl (hb hby at_163) rfl ((if0 _ _).trans (tlt (own_B3 hr hc44_3 hc117_5 hc154_8)).2.1) ?_
          show Steps p.tables e below (T10.setTop (mkF m 166 #[.val (.int p0), .val (.int p1), .val (.int p2), .val (.int av), .val (.int bv), .val (.double (own_norm (FP.i2d av) (FP.i2d bv))), .second, .val (.double (own_norm (FP.i2d ((2 : Int32) * av)) (FP.i2d ((2 : Int32) * bv)))), .second, .val (.int (av / bv)), .val (.int (av % bv))] [])) _
          refine XS.dload X10.here hx rfl (hb hby at_166) rfl ?_
          show Steps p.tables e below (T10.setTop (mkF m 168 #[.val (.int p0), .val (.int p1), .val (.int p2), .val (.int av), .val (.int bv), .val (.double (own_norm (FP.i2d av) (FP.i2d bv))), .second, .val (.double (own_norm (FP.i2d ((2 : Int32) * av)) (FP.i2d ((2 : Int32) * bv)))), .second, .val (.int (av / bv)), .val (.int (av % bv))] [(.double (own_norm (FP.i2d av) (FP.i2d bv)))])) _
          refine XS.iload X10.here hx rfl (hb hby at_168) rfl ?_
          show Steps p.tables e below (T10.setTop (mkF m 170 #[.val (.int p0), .val (.int p1), .val (.int p2), .val (.int av), .val (.int bv), .val (.double (own_norm (FP.i2d av) (FP.i2d bv))), .second, .val (.double (own_norm (FP.i2d ((2 : Int32) * av)) (FP.i2d ((2 : Int32) * bv)))), .second, .val (.int (av / bv)), .val (.int (av % bv))] [(.int (av / bv)), (.double (own_norm (FP.i2d av) (FP.i2d bv)))])) _
          refine XS.iconst X10.here hx rfl (hb hby at_170) ?_
          show Steps p.tables e below (T10.setTop (mkF m 171 #[.val (.int p0), .val (.int p1), .val (.int p2), .val (.int av), .val (.int bv), .val (.double (own_norm (FP.i2d av) (FP.i2d bv))), .second, .val (.double (own_norm (FP.i2d ((2 : Int32) * av)) (FP.i2d ((2 : Int32) * bv)))), .second, .val (.int (av / bv)), .val (.int (av % bv))] [(.int (1 : Int32)), (.int (av / bv)), (.double (own_norm (FP.i2d av) (FP.i2d bv)))])) _
          refine XS.iadd X10.here hx rfl (hb hby at_171) rfl ?_
          show Steps p.tables e below (T10.setTop (mkF m 172 #[.val (.int p0), .val (.int p1), .val (.int p2), .val (.int av), .val (.int bv), .val (.double (own_norm (FP.i2d av) (FP.i2d bv))), .second, .val (.double (own_norm (FP.i2d ((2 : Int32) * av)) (FP.i2d ((2 : Int32) * bv)))), .second, .val (.int (av / bv)), .val (.int (av % bv))] [(.int ((av / bv) + (1 : Int32))), (.double (own_norm (FP.i2d av) (FP.i2d bv)))])) _
          refine XS.i2dS X10.here hx rfl (hb hby at_172) rfl rfl ?_
          show Steps p.tables e below (T10.setTop (mkF m 173 #[.val (.int p0), .val (.int p1), .val (.int p2), .val (.int av), .val (.int bv), .val (.double (own_norm (FP.i2d av) (FP.i2d bv))), .second, .val (.double (own_norm (FP.i2d ((2 : Int32) * av)) (FP.i2d ((2 : Int32) * bv)))), .second, .val (.int (av / bv)), .val (.int (av % bv))] [(.double (FP.i2d ((av / bv) + (1 : Int32)))), (.double (own_norm (FP.i2d av) (FP.i2d bv)))])) _
          refine XS.dcmpS X10.here hx rfl (hb hby at_173) rfl rfl ?_
          show Steps p.tables e below (T10.setTop (mkF m 174 #[.val (.int p0), .val (.int p1), .val (.int p2), .val (.int av), .val (.int bv), .val (.double (own_norm (FP.i2d av) (FP.i2d bv))), .second, .val (.double (own_norm (FP.i2d ((2 : Int32) * av)) (FP.i2d ((2 : Int32) * bv)))), .second, .val (.int (av / bv)), .val (.int (av % bv))] [(.int (cmpValue (FP.dcmp (own_norm (FP.i2d av) (FP.i2d bv)) (FP.i2d ((av / bv) + (1 : Int32)))) .g))])) _
          refine XS.ifNo X10.here hx rfl (hb hby at_174) rfl ((if0 _ _).trans (tlt (own_B4 hr hc44_3 hc117_5 hc154_8)).2.1) ?_
          show Steps p.tables e below (T10.setTop (mkF m 177 #[.val (.int p0), .val (.int p1), .val (.int p2), .val (.int av), .val (.int bv), .val (.double (own_norm (FP.i2d av) (FP.i2d bv))), .second, .val (.double (own_norm (FP.i2d ((2 : Int32) * av)) (FP.i2d ((2 : Int32) * bv)))), .second, .val (.int (av / bv)), .val (.int (av % bv))] [])) _
          refine XS.iconst X10.here hx rfl (hb hby at_177) ?_
          show Steps p.tables e below (T10.setTop (mkF m 178 #[.val (.int p0), .val (.int p1), .val (.int p2), .val (.int av), .val (.int bv), .val (.double (own_norm (FP.i2d av) (FP.i2d bv))), .second, .val (.double (own_norm (FP.i2d ((2 : Int32) * av)) (FP.i2d ((2 : Int32) * bv)))), .second, .val (.int (av / bv)), .val (.int (av % bv))] [(.int (1 : Int32))])) _
          refine XS.goto X10.here hx rfl (pc0 := 178) (pc' := 182) rfl (hb hby at_178) (by decide) (by decide) ?_
          exact k
        obtain ⟨fs, hr, hrun, hended, hW, hsame⟩ := X10.leave (v := some (.int (1 : Int32))) (fun h => by rw [Bd.returns] at h; cases h)
        refine ⟨_, _, k15 _ ?_, hrun, hended, _, _, rfl, ?_, ⟨_, rfl⟩, hW, hsame.mono (by decide) (by decide)⟩
        · exact retN X10 hx (t := .boolean) Bd.returns (by simp) (hb hby at_182) hr
        · show own_R (some (.int 1)) n0 _ T10.heap _
          rw [e10]
          exact ⟨rfl, N10⟩
      · have k16 : ∀ t, Steps p.tables e below (T10.setTop (mkF m 208 #[.val (.int p0), .val (.int p1), .val (.int p2), .val (.int av), .val (.int bv), .val (.double (own_norm (FP.i2d av) (FP.i2d bv))), .second, .val (.double (own_norm (FP.i2d ((2 : Int32) * av)) (FP.i2d ((2 : Int32) * bv)))), .second, .val (.int (av / bv)), .val (.int (av % bv))] [(.int (1 : Int32))])) t → Steps p.tables e below (s₁.setTop (entryFrame m #[(.int p0), (.int p1), (.int p2)] maxLocals)) t := by
          intro t k
          refine k14 _ ?_
          show Steps p.tables e below (T10.setTop (mkF m 154 #[.val (.int p0), .val (.int p1), .val (.int p2), .val (.int av), .val (.int bv), .val (.double (own_norm (FP.i2d av) (FP.i2d bv))), .second, .val (.double (own_norm (FP.i2d ((2 : Int32) * av)) (FP.i2d ((2 : Int32) * bv)))), .second, .val (.int (av / bv)), .val (.int (av % bv))] [(.int (if bv < (0 : Int32) then (1 : Int32) else (0 : Int32))), (.int (if av < (0 : Int32) then (1 : Int32) else (0 : Int32)))])) _
          refine XS.icmpYes X10.here hx rfl (pc0 := 154) (pc' := 183) rfl (hb hby at_154) rfl (feq hc154_8).2 (by decide) (by decide) ?_
          show Steps p.tables e below (T10.setTop (mkF m 183 #[.val (.int p0), .val (.int p1), .val (.int p2), .val (.int av), .val (.int bv), .val (.double (own_norm (FP.i2d av) (FP.i2d bv))), .second, .val (.double (own_norm (FP.i2d ((2 : Int32) * av)) (FP.i2d ((2 : Int32) * bv)))), .second, .val (.int (av / bv)), .val (.int (av % bv))] [])) _
          refine XS.iload X10.here hx rfl (hb hby at_183) rfl ?_
          show Steps p.tables e below (T10.setTop (mkF m 185 #[.val (.int p0), .val (.int p1), .val (.int p2), .val (.int av), .val (.int bv), .val (.double (own_norm (FP.i2d av) (FP.i2d bv))), .second, .val (.double (own_norm (FP.i2d ((2 : Int32) * av)) (FP.i2d ((2 : Int32) * bv)))), .second, .val (.int (av / bv)), .val (.int (av % bv))] [(.int (av / bv))])) _
          refine XS.iconst X10.here hx rfl (hb hby at_185) ?_
          show Steps p.tables e below (T10.setTop (mkF m 186 #[.val (.int p0), .val (.int p1), .val (.int p2), .val (.int av), .val (.int bv), .val (.double (own_norm (FP.i2d av) (FP.i2d bv))), .second, .val (.double (own_norm (FP.i2d ((2 : Int32) * av)) (FP.i2d ((2 : Int32) * bv)))), .second, .val (.int (av / bv)), .val (.int (av % bv))] [(.int (1 : Int32)), (.int (av / bv))])) _
          refine XS.isub X10.here hx rfl (hb hby at_186) rfl ?_
          show Steps p.tables e below (T10.setTop (mkF m 187 #[.val (.int p0), .val (.int p1), .val (.int p2), .val (.int av), .val (.int bv), .val (.double (own_norm (FP.i2d av) (FP.i2d bv))), .second, .val (.double (own_norm (FP.i2d ((2 : Int32) * av)) (FP.i2d ((2 : Int32) * bv)))), .second, .val (.int (av / bv)), .val (.int (av % bv))] [(.int ((av / bv) - (1 : Int32)))])) _
          refine XS.i2dS X10.here hx rfl (hb hby at_187) rfl rfl ?_
          show Steps p.tables e below (T10.setTop (mkF m 188 #[.val (.int p0), .val (.int p1), .val (.int p2), .val (.int av), .val (.int bv), .val (.double (own_norm (FP.i2d av) (FP.i2d bv))), .second, .val (.double (own_norm (FP.i2d ((2 : Int32) * av)) (FP.i2d ((2 : Int32) * bv)))), .second, .val (.int (av / bv)), .val (.int (av % bv))] [(.double (FP.i2d ((av / bv) - (1 : Int32))))])) _
          refine XS.dload X10.here hx rfl (hb hby at_188) rfl ?_
          show Steps p.tables e below (T10.setTop (mkF m 190 #[.val (.int p0), .val (.int p1), .val (.int p2), .val (.int av), .val (.int bv), .val (.double (own_norm (FP.i2d av) (FP.i2d bv))), .second, .val (.double (own_norm (FP.i2d ((2 : Int32) * av)) (FP.i2d ((2 : Int32) * bv)))), .second, .val (.int (av / bv)), .val (.int (av % bv))] [(.double (own_norm (FP.i2d av) (FP.i2d bv))), (.double (FP.i2d ((av / bv) - (1 : Int32))))])) _
          refine XS.dcmpS X10.here hx rfl (hb hby at_190) rfl rfl ?_
          show Steps p.tables e below (T10.setTop (mkF m 191 #[.val (.int p0), .val (.int p1), .val (.int p2), .val (.int av), .val (.int bv), .val (.double (own_norm (FP.i2d av) (FP.i2d bv))), .second, .val (.double (own_norm (FP.i2d ((2 : Int32) * av)) (FP.i2d ((2 : Int32) * bv)))), .second, .val (.int (av / bv)), .val (.int (av % bv))] [(.int (cmpValue (FP.dcmp (FP.i2d ((av / bv) - (1 : Int32))) (own_norm (FP.i2d av) (FP.i2d bv))) .g))])) _
          refine XS.ifNo X10.here hx rfl (hb hby at_191) rfl ((if0 _ _).trans (tlt (own_B5 hr hc44_3 hc117_5 hc154_8)).2.1) ?_
          show Steps p.tables e below (T10.setTop (mkF m 194 #[.val (.int p0), .val (.int p1), .val (.int p2), .val (.int av), .val (.int bv), .val (.double (own_norm (FP.i2d av) (FP.i2d bv))), .second, .val (.double (own_norm (FP.i2d ((2 : Int32) * av)) (FP.i2d ((2 : Int32) * bv)))), .second, .val (.int (av / bv)), .val (.int (av % bv))] [])) _
          refine XS.dload X10.here hx rfl (hb hby at_194) rfl ?_
          show Steps p.tables e below (T10.setTop (mkF m 196 #[.val (.int p0), .val (.int p1), .val (.int p2), .val (.int av), .val (.int bv), .val (.double (own_norm (FP.i2d av) (FP.i2d bv))), .second, .val (.double (own_norm (FP.i2d ((2 : Int32) * av)) (FP.i2d ((2 : Int32) * bv)))), .second, .val (.int (av / bv)), .val (.int (av % bv))] [(.double (own_norm (FP.i2d av) (FP.i2d bv)))])) _
          refine XS.iload X10.here hx rfl (hb hby at_196) rfl ?_
          show Steps p.tables e below (T10.setTop (mkF m 198 #[.val (.int p0), .val (.int p1), .val (.int p2), .val (.int av), .val (.int bv), .val (.double (own_norm (FP.i2d av) (FP.i2d bv))), .second, .val (.double (own_norm (FP.i2d ((2 : Int32) * av)) (FP.i2d ((2 : Int32) * bv)))), .second, .val (.int (av / bv)), .val (.int (av % bv))] [(.int (av / bv)), (.double (own_norm (FP.i2d av) (FP.i2d bv)))])) _
          refine XS.i2dS X10.here hx rfl (hb hby at_198) rfl rfl ?_
          show Steps p.tables e below (T10.setTop (mkF m 199 #[.val (.int p0), .val (.int p1), .val (.int p2), .val (.int av), .val (.int bv), .val (.double (own_norm (FP.i2d av) (FP.i2d bv))), .second, .val (.double (own_norm (FP.i2d ((2 : Int32) * av)) (FP.i2d ((2 : Int32) * bv)))), .second, .val (.int (av / bv)), .val (.int (av % bv))] [(.double (FP.i2d (av / bv))), (.double (own_norm (FP.i2d av) (FP.i2d bv)))])) _
          refine XS.dcmpS X10.here hx rfl (hb hby at_199) rfl rfl ?_
          show Steps p.tables e below (T10.setTop (mkF m 200 #[.val (.int p0), .val (.int p1), .val (.int p2), .val (.int av), .val (.int bv), .val (.double (own_norm (FP.i2d av) (FP.i2d bv))), .second, .val (.double (own_norm (FP.i2d ((2 : Int32) * av)) (FP.i2d ((2 : Int32) * bv)))), .second, .val (.int (av / bv)), .val (.int (av % bv))] [(.int (cmpValue (FP.dcmp (own_norm (FP.i2d av) (FP.i2d bv)) (FP.i2d (av / bv))) .g))])) _
          refine XS.ifNo X10.here hx rfl (hb hby at_200) rfl ((if0 _ _).trans (tlt (own_B6 hr hc44_3 hc117_5 hc154_8)).2.1) ?_
          show Steps p.tables e below (T10.setTop (mkF m 203 #[.val (.int p0), .val (.int p1), .val (.int p2), .val (.int av), .val (.int bv), .val (.double (own_norm (FP.i2d av) (FP.i2d bv))), .second, .val (.double (own_norm (FP.i2d ((2 : Int32) * av)) (FP.i2d ((2 : Int32) * bv)))), .second, .val (.int (av / bv)), .val (.int (av % bv))] [])) _
          refine XS.iconst X10.here hx rfl (hb hby at_203) ?_
          show Steps p.tables e below (T10.setTop (mkF m 204 #[.val (.int p0), .val (.int p1), .val (.int p2), .val (.int av), .val (.int bv), .val (.double (own_norm (FP.i2d av) (FP.i2d bv))), .second, .val (.double (own_norm (FP.i2d ((2 : Int32) * av)) (FP.i2d ((2 : Int32) * bv)))), .second, .val (.int (av / bv)), .val (.int (av % bv))] [(.int (1 : Int32))])) _
          refine XS.goto X10.here hx rfl (pc0 := 204) (pc' := 208) rfl (hb hby at_204) (by decide) (by decide) ?_
          exact k
        obtain ⟨fs, hr, hrun, hended, hW, hsame⟩ := X10.leave (v := some (.int (1 : Int32))) (fun h => by rw [Bd.returns] at h; cases h)
        refine ⟨_, _, k16 _ ?_, hrun, hended, _, _, rfl, ?_, ⟨_, rfl⟩, hW, hsame.mono (by decide) (by decide)⟩
        · exact retN X10 hx (t := .boolean) Bd.returns (by simp) (hb hby at_208) hr
        · show own_R (some (.int 1)) n0 _ T10.heap _
          rw [e10]
          exact ⟨rfl, N10⟩
set_option maxRecDepth 65536 in
set_option maxHeartbeats 40000000 in
theorem comes_1 {Post : Tables → Env → Array Value → State → Outcome → State → Prop} (hpost : ∀ tb e args s v u, (limb_1_1.after args s (.returned v) u = true ∧ limb_1_2.after args s (.returned v) u = true ∧ True) → FrameEnd s (.returned v) u (Jvm.fieldLocs frame_1_writes args s ++ Jvm.arrayLocs frame_1_arrays args s ++ Jvm.staticLocs frame_1_statics s) 0 0 → Post tb e args s (.returned v) u) :
    ArmFor flags0 classFile x code maxLocals ret World_1 tables_1 room_1 Calls_1 rest_1 Pre_1 Post := by
  intro l hfl _ _ p e ha hc hk s m args below hf hA hF happ hP
  obtain ⟨hcalls, hrest, hpre⟩ := hP
  obtain ⟨-, -, -, hnamed, -, -, -, hat⟩ := (Spec.applies_iff hf).mp happ
  obtain ⟨hg, hn⟩ := and_e (Cond.before_iff.mp (show (Jvm.Cond.and given_1 narrow_1).before args s = true from hpre))
  obtain ⟨g0a, g0b⟩ := and_e hg
  obtain ⟨g1a, g1b⟩ := and_e g0b
  obtain ⟨g2a, g2b⟩ := and_e g1b
  obtain ⟨w0, w1, w2, rfl⟩ : ∃ w0 w1 w2 : Value, args = #[w0, w1, w2] := by
    have hs : args.size = 3 := by simpa [Cond.value, given_1] using g0a
    obtain ⟨L⟩ := args
    match L, hs with
    | [w0, w1, w2], _ => exact ⟨w0, w1, w2, rfl⟩
  have hw := fun d (hd : d ∈ tables_1) => atoms_spec (ws := Jvm.Cond.code x code maxLocals ret :: tables_1) hat d (List.mem_cons_of_mem _ hd)
  have hfit : Fit s := fun {y c} hc i hi => by
    obtain ⟨ha, rfl⟩ := Array.getElem?_eq_some_iff.mp hc
    have q := List.all_eq_true.mp ((Array.all_eq_true_iff_forall_mem.mp hF) _ (Array.getElem_mem ha)) i (List.mem_range.mpr hi)
    simpa [Array.getElem?_eq_getElem hi] using q
  obtain ⟨i0, ei0⟩ := is_v g1a
  obtain rfl : w0 = (.int i0) := Option.some.inj ei0
  obtain ⟨i1, ei1⟩ := is_v g2a
  obtain rfl : w1 = (.int i1) := Option.some.inj ei1
  obtain ⟨i2, ei2⟩ := is_v g2b
  obtain rfl : w2 = (.int i2) := Option.some.inj ei2
  obtain ⟨n, o, h1, h2, h3, _, L, rfl, ⟨rfl, N⟩, hq⟩ := rm0 l s _ hw tables_1 i0 i1 i2 s.heap s.heap.size p e ha hc hk s m _ below hf ((Spec.applies_iff_loose hf).mp happ).1 ⟨rfl, State.Warmed39.refl s, rfl⟩ trivial
  refine ⟨n, _, h1, h2, h3, hpost _ _ _ _ _ _ ⟨Cond.after_iff.mpr rfl, Cond.after_iff.mpr (eq_i res_at (Term.int_eval (1)) rfl), trivial⟩ ⟨hq.1, hq.2.1, (hq.2.2.sift fun y hy => Or.inr (N y hy)).mono (by decide) (by decide)⟩⟩
theorem main_1_1 : Claimed_1_1 := comes_1 fun _ _ _ _ _ _ h hF => ⟨h.1, hF⟩
theorem main_1_2 : Claimed_1_2 := comes_1 fun _ _ _ _ _ _ h hF => ⟨h.2.1, hF⟩
end Jvm.Pilot.@@N@@
namespace Jvm.Pilot.@@N@@
open Jvm Jvm.ClassFile Sem Op Lib Jvm.Free Jvm.Stand Jvm.Pilot.@@N@@.Jvm.D
/-! MADE BY PROGRAM (witnessworld.py) out of the Statement's table words and the real class files: 10 classes; the members and pool entries that the words name. The judged class is class 1, her method 1. -/
namespace start1
open Jvm.ClassFile
def u (s : String) : CpInfo := .utf8 (stringToUtf16 s)
/-- a pool by its gaps: so many unusable entries, then the entry; so many at the end -/
def gap : Nat → List CpInfo → List CpInfo
  | 0, r => r
  | n + 1, r => .unusable :: gap n r
def poolList (es : List (Nat × CpInfo)) (last : Nat) : List CpInfo := es.foldr (fun e r => gap e.1 (e.2 :: r)) (gap last [])
def pool (es : List (Nat × CpInfo)) (last : Nat) : Array CpInfo := ⟨poolList es last⟩
def fileOf (pool : Array CpInfo) (this : Nat) (attrs : Array Attribute := #[]) (ms : Array MethodInfo := #[]) (fl : Nat := 33) (sup : Nat := 0) (ifs : Array Nat := #[]) (fds : Array FieldInfo := #[]) : ClassFile where
  minorVersion := 0
  majorVersion := 65
  constantPool := pool
  accessFlags := fl
  thisClass := this
  superClass := sup
  interfaces := ifs
  fields := fds
  methods := ms
  attributes := attrs
def plain (name : String) (sup : Option ClassId) : Class where
  name := name
  kind := .ordinary
  loader := none
  accessFlags := 33
  super := sup
  interfaces := #[]
  cf := none
  fields := #[]
  methods := #[]
  instanceTypes := #[]
  staticTypes := #[]
  resolved := #[]
  callSites := []
  init := .initialized
  statics := none
  mirror := none

def pool0 : Array CpInfo := pool [(5, u "<init>"), (0, u "()V"), (1, .class_ 10), (1, u "java/lang/Object")] 113

def k0m0 : Method := { name := "<init>", desc := "()V", sig := { parameters := [], returnType := none }, accessFlags := 1, code := none }
/-- java/lang/Object -/
def k0 : Class := { plain "java/lang/Object" none with
  accessFlags := 33
  interfaces := #[]
  cf := some (fileOf pool0 8 #[] #[{ accessFlags := 1, nameIndex := 5, descriptorIndex := 6, attributes := #[] }] 33 0 #[] #[])
  fields := #[]
  methods := #[k0m0]
  instanceTypes := #[]
  staticTypes := #[]
  resolved := Array.replicate 124 none
  statics := none }

def pool1 : Array CpInfo := pool [(2, .class_ 4), (1, u "java/lang/Object"), (0, u "<init>"), (0, u "()V"), (0, .integer 1048576), (0, .methodref 9 10), (0, .class_ 11), (0, .nameAndType 12 13), (0, u "com/example/interlace/interlace/model/Score"), (0, u "normalized"), (0, u "(DD)D"), (2, .double 9218868437227405312), (1, .class_ 19), (0, u "com/example/interlace/interlace/model/ScoreNormalizedPinLaw"), (2, u "law"), (0, u "(III)Z")] 3

def k1m0 : Method := { name := "<init>", desc := "()V", sig := { parameters := [], returnType := none }, accessFlags := 1, code := none }
def k1c1 : Code := { maxStack := 4, maxLocals := 11, code := code, exceptionTable := #[], attributes := #[] }
def k1m1 : Method := { name := "law", desc := "(III)Z", sig := { parameters := [.int, .int, .int], returnType := some .boolean }, accessFlags := 9, code := some k1c1 }
/-- com/example/interlace/interlace/model/ScoreNormalizedPinLaw -/
def k1 : Class := { plain "com/example/interlace/interlace/model/ScoreNormalizedPinLaw" (some 0) with
  accessFlags := 49
  interfaces := #[]
  cf := some (fileOf pool1 18 #[] #[{ accessFlags := 1, nameIndex := 5, descriptorIndex := 6, attributes := #[] }, { accessFlags := 9, nameIndex := 22, descriptorIndex := 23, attributes := #[] }] 49 2 #[] #[])
  fields := #[]
  methods := #[k1m0, k1m1]
  instanceTypes := #[]
  staticTypes := #[]
  resolved := Array.replicate 27 none
  statics := none }

def pool2 : Array CpInfo := pool [(2, .class_ 4), (1, u "java/lang/Object"), (0, u "<init>"), (0, u "()V"), (0, .class_ 8), (0, u "java/lang/Record")] 13

def k2m0 : Method := { name := "<init>", desc := "()V", sig := { parameters := [], returnType := none }, accessFlags := 4, code := none }
/-- java/lang/Record -/
def k2 : Class := { plain "java/lang/Record" (some 0) with
  accessFlags := 1057
  interfaces := #[]
  cf := some (fileOf pool2 7 #[] #[{ accessFlags := 4, nameIndex := 5, descriptorIndex := 6, attributes := #[] }] 1057 2 #[] #[])
  fields := #[]
  methods := #[k2m0]
  instanceTypes := #[]
  staticTypes := #[]
  resolved := Array.replicate 22 none
  statics := none }

def pool3 : Array CpInfo := pool [(2, .class_ 4), (1, u "java/lang/Record"), (3, .class_ 10), (1, u "com/example/interlace/interlace/model/Score"), (0, u "clients"), (0, u "I"), (2, u "servers"), (2, u "serversUsed"), (2, u "largestLoad"), (2, u "total"), (0, u "D"), (2, u "lowerBound"), (6, u "normalized"), (0, u "(DD)D"), (2, .double 9218868437227405312)] 48

def k3c0 : Code := { maxStack := 4, maxLocals := 4, code := prog_69_method_5_code, exceptionTable := #[], attributes := #[] }
def k3m0 : Method := { name := "normalized", desc := "(DD)D", sig := { parameters := [.double, .double], returnType := some .double }, accessFlags := 9, code := some k3c0 }
/-- com/example/interlace/interlace/model/Score -/
def k3 : Class := { plain "com/example/interlace/interlace/model/Score" (some 2) with
  accessFlags := 49
  interfaces := #[]
  cf := some (fileOf pool3 8 #[] #[{ accessFlags := 9, nameIndex := 35, descriptorIndex := 36, attributes := #[] }] 49 2 #[] #[{ accessFlags := 18, nameIndex := 11, descriptorIndex := 12, attributes := #[] }, { accessFlags := 18, nameIndex := 15, descriptorIndex := 12, attributes := #[] }, { accessFlags := 18, nameIndex := 18, descriptorIndex := 12, attributes := #[] }, { accessFlags := 18, nameIndex := 21, descriptorIndex := 12, attributes := #[] }, { accessFlags := 18, nameIndex := 24, descriptorIndex := 25, attributes := #[] }, { accessFlags := 18, nameIndex := 28, descriptorIndex := 25, attributes := #[] }])
  fields := #[{ name := "clients", type := .int, accessFlags := 18, slot := 0, constantValue := 0 }, { name := "servers", type := .int, accessFlags := 18, slot := 1, constantValue := 0 }, { name := "serversUsed", type := .int, accessFlags := 18, slot := 2, constantValue := 0 }, { name := "largestLoad", type := .int, accessFlags := 18, slot := 3, constantValue := 0 }, { name := "total", type := .double, accessFlags := 18, slot := 4, constantValue := 0 }, { name := "lowerBound", type := .double, accessFlags := 18, slot := 5, constantValue := 0 }]
  methods := #[k3m0]
  instanceTypes := #[.int, .int, .int, .int, .double, .double]
  staticTypes := #[]
  resolved := Array.replicate 88 none
  statics := none }

def pool4 : Array CpInfo := pool [(1, u "java/lang/Cloneable"), (0, .class_ 1), (0, u "java/lang/Object"), (0, .class_ 3)] 3

/-- java/lang/Cloneable -/
def k4 : Class := { plain "java/lang/Cloneable" (some 0) with
  accessFlags := 1537
  interfaces := #[]
  cf := some (fileOf pool4 2 #[] #[] 1537 4 #[] #[])
  fields := #[]
  methods := #[]
  instanceTypes := #[]
  staticTypes := #[]
  resolved := Array.replicate 8 none
  statics := none }

def pool5 : Array CpInfo := pool [(1, u "java/io/Serializable"), (0, .class_ 1), (0, u "java/lang/Object"), (0, .class_ 3)] 3

/-- java/io/Serializable -/
def k5 : Class := { plain "java/io/Serializable" (some 0) with
  accessFlags := 1537
  interfaces := #[]
  cf := some (fileOf pool5 2 #[] #[] 1537 4 #[] #[])
  fields := #[]
  methods := #[]
  instanceTypes := #[]
  staticTypes := #[]
  resolved := Array.replicate 8 none
  statics := none }

/-- the primitive byte -/
def k6 : Class := { plain "byte" none with kind := .primitive 'B', accessFlags := 0x411 }
/-- [B -/
def k7 : Class := { plain "[B" (some 0) with kind := .array 6 .byte, interfaces := #[4, 5], accessFlags := 1041 }

/-- the primitive int -/
def k8 : Class := { plain "int" none with kind := .primitive 'I', accessFlags := 0x411 }
/-- [I -/
def k9 : Class := { plain "[I" (some 0) with kind := .array 8 .int, interfaces := #[4, 5], accessFlags := 1041 }

def heap : Heap := #[]
def classes : Array Class := #[k0, k1, k2, k3, k4, k5, k6, k7, k8, k9]
def interned : List (Array UInt16 × Addr) := []
def slotsUsed : Nat := 0
def theMethod : MethodId := ⟨1, 1⟩
def args0 : Array Value := #[.int 5, .int 5, .int 5]
def aboutOver (below : List Frame) : State where
  vm := { classes := classes, interned := interned.toArray }
  heap := heap
  slotsUsed := slotsUsed
  threads := #[{ frames := .invoking theMethod args0 :: below }]
def below0 : List Frame := [.native { method := ⟨0, 0⟩, args := #[] }]
def about1 : State := aboutOver below0
def p0 : Program := .bare "" "" ""
def e0 : Env := launch0.env 0 0 0
theorem w_frames : about1.frames = Frame.invoking theMethod args0 :: below0 := rfl
set_option maxRecDepth 65536 in
theorem w_args : argsFit about1.vm theMethod args0 = true := by decide +kernel
set_option maxRecDepth 65536 in
theorem w_heap : heapFits about1 = true := by decide +kernel
set_option maxRecDepth 65536 in
theorem w_runnable : about1.curStatus? = some .runnable := by decide +kernel
set_option maxRecDepth 65536 in
theorem w_alone : about1.alone = true := by decide +kernel
set_option maxRecDepth 65536 in
theorem w_named : about1.methodNamed? x = some theMethod := by decide +kernel
set_option maxRecDepth 65536 in
theorem w_hears : about1.hears theMethod below0 = true := by decide +kernel
set_option maxRecDepth 65536 in
theorem w_ripe : about1.ripe theMethod args0 below0 = true := by decide +kernel
theorem w_running : about1.status = .running := rfl
set_option maxRecDepth 65536 in
theorem w_room : about1.hasRoom e0.platform room_1 = true :=
  launch0.hasRoom_least _ room_1 (by decide +kernel) (by decide +kernel) (by decide +kernel) (by decide +kernel) (by decide +kernel) (by decide +kernel)
theorem allAtoms_all (ts : List Jvm.Cond) (a : Array Jvm.Value) (st : Jvm.State) : (allAtoms ts).before a st = ts.all (fun c => c.before a st) := by
  induction ts with
  | nil => rfl
  | cons c t ih =>
    show (Jvm.Cond.and c (allAtoms t)).before a st = _
    rw [Jvm.Cond.before_and, ih, List.all_cons]
def words1 : List Jvm.Cond := Jvm.Cond.code x code maxLocals ret :: tables_1
/-- a 'code' word, met by the world's own term for the bytes: nothing is compared byte by byte -/
theorem code_word {y : MethodName} {bytes : ByteArray} {mx : Nat} {rt : Option FieldType} {a : Array Value} {s : State} {m : MethodId} {meth : Method} {c : Code} (h1 : s.methodNamed? y = some m) (h2 : s.vm.method? m = some meth) (h3 : meth.code = some c) (h4 : c.code = bytes)
    (h5 : (c.maxLocals == mx && c.exceptionTable.isEmpty && decide (c.maxStack ≤ mostOperands) && decide (meth.sig.returnType = rt) && !meth.locks && decide (parseMethodDescriptor y.desc = some meth.sig)) = true) : (Jvm.Cond.code y bytes mx rt).before a s = true := by
  simp only [Bool.and_eq_true, beq_iff_eq, Bool.not_eq_true', decide_eq_true_eq] at h5
  obtain ⟨⟨⟨⟨⟨g1, g2⟩, g3⟩, g4⟩, g5⟩, g6⟩ := h5
  simp [Cond.before, Cond.holds, Cond.value, h1, h2, h3, h4, g1, g2, g3, g4, g5, g6]
def isCode : Jvm.Cond → Bool
  | .code _ _ _ _ => true
  | _ => false
theorem all_split {L : List Jvm.Cond} {P : Jvm.Cond → Bool} (h1 : L.all (fun c => isCode c || P c) = true) (h2 : ∀ c ∈ L.filter isCode, P c = true) : L.all P = true := by
  refine List.all_eq_true.mpr fun c hc => ?_
  have h := List.all_eq_true.mp h1 c hc
  rcases Bool.eq_false_or_eq_true (isCode c) with hi | hi
  · exact h2 c (List.mem_filter.mpr ⟨hc, hi⟩)
  · simpa [hi] using h
set_option maxRecDepth 65536 in
theorem w_c0 : (Jvm.Cond.code x code maxLocals ret).before args0 about1 = true := code_word (m := ⟨1, 1⟩) (meth := k1m1) (c := k1c1) (by decide +kernel) rfl rfl rfl (by decide +kernel)
set_option maxRecDepth 65536 in
theorem w_c1 : (Jvm.Cond.code ({ cls := "com/example/interlace/interlace/model/Score", name := "normalized", desc := "(DD)D" } : Jvm.MethodName) prog_69_method_5_code (4 : Nat) (Option.some Jvm.ClassFile.FieldType.double)).before args0 about1 = true := code_word (m := ⟨3, 0⟩) (meth := k3m0) (c := k3c0) (by decide +kernel) rfl rfl rfl (by decide +kernel)
def codes1 : List Jvm.Cond := [Jvm.Cond.code x code maxLocals ret, Jvm.Cond.code ({ cls := "com/example/interlace/interlace/model/Score", name := "normalized", desc := "(DD)D" } : Jvm.MethodName) prog_69_method_5_code (4 : Nat) (Option.some Jvm.ClassFile.FieldType.double)]
set_option maxRecDepth 65536 in
theorem codes_eq : words1.filter isCode = codes1 := rfl
theorem w_codes : ∀ c ∈ words1.filter isCode, c.before args0 about1 = true := by
  rw [codes_eq]
  intro c hc
  simp only [codes1, List.mem_cons, List.not_mem_nil, or_false] at hc
  rcases hc with rfl | rfl
  · exact w_c0
  · exact w_c1
set_option maxRecDepth 65536 in
theorem w_t1 : words1.all (fun c => isCode c || c.before args0 about1) = true := by decide +kernel
theorem w_tables : (allAtoms (Jvm.Cond.code x code maxLocals ret :: tables_1)).before args0 about1 = true := by
  rw [allAtoms_all]
  show words1.all (fun c => c.before args0 about1) = true
  refine all_split ?_ w_codes
  rw [w_t1]
set_option maxRecDepth 65536 in
theorem w_case : (Jvm.Cond.and given_1 narrow_1).before args0 about1 = true := by decide +kernel
theorem w_applies : (headSpec (Jvm.Cond.code x code maxLocals ret :: tables_1) room_1).applies x e0.platform about1 = true :=
  (Spec.applies_iff w_frames).mpr ⟨w_running, w_runnable, w_alone, w_named, w_hears, w_ripe, w_room, w_tables⟩
theorem atStart : AtStart classFile x code maxLocals ret World_1 tables_1 room_1 Calls_1 rest_1 Pre_1 launch0 p0 e0 about1 theMethod args0 below0 :=
  ⟨lists_1, trivial, launch0.admits_env _ _ _, launch0.least_env, fairChoices_fair.cas, fairChoices_fair.clock, w_frames, w_args, w_heap, w_applies, trivial, trivial, w_case⟩
end start1
theorem witness_1 : WitnessClaimed_1 := ⟨start1.p0, start1.e0, start1.about1, start1.theMethod, start1.args0, start1.below0, start1.atStart⟩
end Jvm.Pilot.@@N@@
