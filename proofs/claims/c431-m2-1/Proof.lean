import JvmDerived
import JvmDerived.Pilot.@@N@@Statement
import JvmDerived.Pilot.@@N@@Code
set_option linter.unusedVariables false
set_option linter.unusedSimpArgs false
namespace Jvm.Pilot.@@N@@.OwnF
open Jvm.FP.Core
/-- one, in units of 2^-1074 -/
def own_P : Nat := 2 ^ 1074
theorem own_P_pos : 0 < own_P := Nat.two_pow_pos _
/-- a datum's value, in units of 2^-1074 -/
def own_V : Datum → Int
  | .fin s c q => signed s (inUnits c q (-1074))
  | _ => 0
theorem own_qmin : b64.qmin = -1074 := by decide
theorem own_signed_mul (s : Bool) (c k : Nat) : signed s (c * k) = signed s c * (k : Int) := by
  unfold signed
  split
  · rw [Int.natCast_mul, Int.neg_mul]
  · rw [Int.natCast_mul]
theorem own_compare_mul {a b : Int} {k : Int} (hk : 0 < k) : compare (a * k) (b * k) = compare a b := by
  rcases Int.lt_trichotomy a b with h | h | h
  · have h2 : a * k < b * k := Int.mul_lt_mul_of_pos_right h hk
    rw [Int.compare_eq_lt.mpr h, Int.compare_eq_lt.mpr h2]
  · subst h; rw [Int.compare_eq_eq.mpr rfl, Int.compare_eq_eq.mpr rfl]
  · have h2 : b * k < a * k := Int.mul_lt_mul_of_pos_right h hk
    rw [Int.compare_eq_gt.mpr h, Int.compare_eq_gt.mpr h2]
theorem own_order {s t : Bool} {c d : Nat} {q r : Int} (h1 : -1074 ≤ q) (h2 : -1074 ≤ r) :
    order (.fin s c q) (.fin t d r) = some (compare (own_V (.fin s c q)) (own_V (.fin t d r))) := by
  show some (compare (signed s (inUnits c q (min q r))) (signed t (inUnits d r (min q r)))) = some (compare (signed s (inUnits c q (-1074))) (signed t (inUnits d r (-1074))))
  rw [inUnits_move c (e := -1074) (r := min q r) (q := q) (by omega) (by omega), inUnits_move d (e := -1074) (r := min q r) (q := r) (by omega) (by omega), own_signed_mul, own_signed_mul, own_compare_mul]
  have := Nat.two_pow_pos (min q r - -1074).toNat
  omega
/-- finite, with this value -/
def own_Is (a : UInt64) (v : Int) : Prop := ∃ s c q, val64 a = .fin s c q ∧ own_V (.fin s c q) = v
theorem own_Is.cmp {a b : UInt64} {v w : Int} (ha : own_Is a v) (hb : own_Is b w) : dcmp a b = some (compare v w) := by
  obtain ⟨s, c, q, h1, rfl⟩ := ha
  obtain ⟨t, d, r, h2, rfl⟩ := hb
  have f1 := val64_fits a
  have f2 := val64_fits b
  rw [h1] at f1
  rw [h2] at f2
  show order (val64 a) (val64 b) = _
  rw [h1, h2]
  exact own_order (by have := f1.2.1; rw [own_qmin] at this; exact this) (by have := f2.2.1; rw [own_qmin] at this; exact this)
theorem own_Is.noNaN {a : UInt64} {v : Int} (ha : own_Is a v) : val64 a ≠ .nan := by
  obtain ⟨s, c, q, h1, -⟩ := ha
  rw [h1]; exact fun h => by cases h
theorem own_units0 (n : Nat) : inUnits n 0 (-1074) = n * own_P := by
  have e : ((0 : Int) - (-1074)).toNat = 1074 := by decide
  unfold inUnits own_P
  rw [e]
theorem own_whole {i : Int} {a : UInt64} (h : DInt i a) : own_Is a (i * (own_P : Int)) := by
  unfold DInt at h
  have f := val64_fits a
  cases e : val64 a with
  | nan => rw [e] at h; exact h.elim
  | inf s => rw [e] at h; exact h.elim
  | fin s c q =>
    rw [e] at h f
    refine ⟨s, c, q, e, ?_⟩
    have hq : -1074 ≤ q := by have := f.2.1; rw [own_qmin] at this; exact this
    have h' : signed s (c * 2 ^ q.toNat) = i * ((2 ^ (-q).toNat : Nat) : Int) := h
    show signed s (c * 2 ^ (q - -1074).toNat) = _
    have e1 : c * 2 ^ (q - -1074).toNat * 2 ^ (-q).toNat = c * 2 ^ q.toNat * own_P := by
      unfold own_P
      rw [Nat.mul_assoc, Nat.mul_assoc, ← Nat.pow_add, ← Nat.pow_add]
      congr 2; omega
    have e2 : signed s (c * 2 ^ (q - -1074).toNat) * ((2 ^ (-q).toNat : Nat) : Int) = (i * (own_P : Int)) * ((2 ^ (-q).toNat : Nat) : Int) := by
      rw [← own_signed_mul, e1, own_signed_mul, h', Int.mul_assoc, Int.mul_comm ((2 ^ (-q).toNat : Nat) : Int), ← Int.mul_assoc]
    have p : (0 : Int) < ((2 ^ (-q).toNat : Nat) : Int) := by have := Nat.two_pow_pos (-q).toNat; omega
    exact Int.eq_of_mul_eq_mul_right (Int.ne_of_gt p) e2
theorem own_rr (f : Fmt) (s : Bool) (A B : Nat) (e : Int) : (∃ c q, roundRatio f s A B e = .fin s c q) ∨ roundRatio f s A B e = .inf s := by
  unfold roundRatio
  split
  · exact Or.inl ⟨_, _, rfl⟩
  · unfold roundAt settle bound
    split
    · split
      · exact Or.inl ⟨_, _, rfl⟩
      · exact Or.inr rfl
    · split
      · exact Or.inl ⟨_, _, rfl⟩
      · exact Or.inr rfl
theorem own_near {A M Y J : Nat} (hJ : 0 < J) (h : ((A : Int) - (M : Int) * (J : Int)).natAbs ≤ ((A : Int) - (Y : Int) * (J : Int)).natAbs) : (A ≤ Y * J → M ≤ Y) ∧ (Y * J ≤ A → Y ≤ M) := by
  rw [← Int.natCast_mul, ← Int.natCast_mul] at h
  constructor
  · intro h1
    refine Nat.le_of_not_lt fun h2 => ?_
    have h3 : (Y + 1) * J ≤ M * J := Nat.mul_le_mul_right J h2
    rw [Nat.add_mul, Nat.one_mul] at h3
    generalize M * J = x at *
    generalize Y * J = y at *
    omega
  · intro h1
    refine Nat.le_of_not_lt fun h2 => ?_
    have h3 : (M + 1) * J ≤ Y * J := Nat.mul_le_mul_right J h2
    rw [Nat.add_mul, Nat.one_mul] at h3
    generalize M * J = x at *
    generalize Y * J = y at *
    omega
/-- a magnitude A / J, rounded: it lies on the same side of every number of the format -/
theorem own_ratio {s : Bool} {A J : Nat} (hJ : 0 < J) (hA : A < 2 ^ 100) :
    ∃ c q, roundRatio b64 s A J 0 = .fin s c q ∧ (A = 0 → c = 0) ∧
      ∀ c' q', c' < 2 ^ 53 → -1074 ≤ q' → (A * own_P ≤ inUnits c' q' (-1074) * J → inUnits c q (-1074) ≤ inUnits c' q' (-1074)) ∧ (inUnits c' q' (-1074) * J ≤ A * own_P → inUnits c' q' (-1074) ≤ inUnits c q (-1074)) := by
  rcases own_rr b64 s A J 0 with ⟨c, q, e⟩ | e
  · refine ⟨c, q, e, fun h0 => ?_, fun c' q' g1 g2 => ?_⟩
    · unfold roundRatio at e
      rw [if_pos h0] at e
      cases e; rfl
    · have w := roundRatio_nearest good_b64 hJ e (c' := c') (q' := q') g1 (by rw [own_qmin]; exact g2) (e0 := -1074) (by rw [own_qmin]; omega) (by omega)
      unfold distance at w
      rw [own_units0] at w
      exact own_near hJ w
  · exfalso
    rw [roundRatio_inf good_b64 hJ (e0 := -1075) (by rw [own_qmin]; omega) (by omega)] at e
    have k0 : ((0 : Int) - (-1075)).toNat = 1075 := by decide
    have k1 : inUnits A 0 (-1075) = A * 2 ^ 1075 := by unfold inUnits; rw [k0]
    rw [k1] at e
    have k2 : (2 : Nat) ^ 100 * 2 ^ 1075 ≤ (2 ^ (b64.p + 1) - 1) * 2 ^ (b64.qmax - 1 - -1075).toNat := by decide +kernel
    have k3 : A * 2 ^ 1075 < 2 ^ 100 * 2 ^ 1075 := Nat.mul_lt_mul_of_pos_right hA (Nat.two_pow_pos _)
    have k4 : (2 ^ (b64.p + 1) - 1) * 2 ^ (b64.qmax - 1 - -1075).toNat * 1 ≤ (2 ^ (b64.p + 1) - 1) * 2 ^ (b64.qmax - 1 - -1075).toNat * J := Nat.mul_le_mul_left _ hJ
    rw [Nat.mul_one] at k4
    exact absurd (Nat.lt_of_lt_of_le k3 (Nat.le_trans k2 (Nat.le_trans k4 e))) (Nat.lt_irrefl _)
/-- the quotient of two whole numbers, as a rounded ratio -/
theorem own_divr {i j : Int} {a b : UInt64} (ha : DInt i a) (hb : DInt j b) (hj : j ≠ 0) :
    ∃ s, (i ≠ 0 → s = (decide (i < 0) != decide (j < 0))) ∧ val64 (ddiv a b) = roundRatio b64 s i.natAbs j.natAbs 0 := by
  unfold DInt at ha hb
  cases e1 : val64 a with
  | nan => rw [e1] at ha; exact ha.elim
  | inf s => rw [e1] at ha; exact ha.elim
  | fin s c q =>
  cases e2 : val64 b with
  | nan => rw [e2] at hb; exact hb.elim
  | inf s => rw [e2] at hb; exact hb.elim
  | fin t d r =>
  rw [e1] at ha
  rw [e2] at hb
  have d0 : d ≠ 0 := fun h => hj ((whole_zero hb).mp h)
  have hJ : 0 < j.natAbs := by omega
  have n1 := whole_natAbs ha
  have n2 := whole_natAbs hb
  refine ⟨s != t, fun hi0 => by rw [whole_sign ha hi0, whole_sign hb hj], ?_⟩
  rw [val64_ddiv, e1, e2]
  show (if d = 0 then _ else roundRatio b64 (s != t) c d (q - r)) = _
  rw [if_neg d0]
  refine roundRatio_congr (by omega) hJ ?_
  refine Nat.eq_of_mul_eq_mul_right (Nat.two_pow_pos (min q.toNat r.toNat + min (-q).toNat (-r).toNat)) ?_
  have x1 : (q - r - 0).toNat + (min q.toNat r.toNat + min (-q).toNat (-r).toNat) = q.toNat + (-r).toNat := by omega
  have x2 : (0 - (q - r)).toNat + (min q.toNat r.toNat + min (-q).toNat (-r).toNat) = r.toNat + (-q).toNat := by omega
  rw [Nat.mul_assoc, ← Nat.pow_add, x1, Nat.mul_assoc (i.natAbs * d), ← Nat.pow_add, x2, Nat.pow_add, Nat.pow_add]
  calc c * j.natAbs * (2 ^ q.toNat * 2 ^ (-r).toNat) = (c * 2 ^ q.toNat) * (j.natAbs * 2 ^ (-r).toNat) := by ac_rfl
    _ = (i.natAbs * 2 ^ (-q).toNat) * (d * 2 ^ r.toNat) := by rw [n1, n2]
    _ = i.natAbs * d * (2 ^ r.toNat * 2 ^ (-q).toNat) := by ac_rfl
/-- the rounded quotient of whole numbers: sign and magnitude -/
theorem own_div {i j : Int} {a b : UInt64} (ha : DInt i a) (hb : DInt j b) (hj : j ≠ 0) (hi : i.natAbs < 2 ^ 100) :
    ∃ (s : Bool) (M : Nat), own_Is (ddiv a b) (signed s M) ∧ (i ≠ 0 → s = (decide (i < 0) != decide (j < 0))) ∧ (i = 0 → M = 0) ∧
      ∀ c' q', c' < 2 ^ 53 → -1074 ≤ q' → (i.natAbs * own_P ≤ inUnits c' q' (-1074) * j.natAbs → M ≤ inUnits c' q' (-1074)) ∧ (inUnits c' q' (-1074) * j.natAbs ≤ i.natAbs * own_P → inUnits c' q' (-1074) ≤ M) := by
  obtain ⟨s, hs, e⟩ := own_divr ha hb hj
  obtain ⟨c, q, e2, h0, hn⟩ := own_ratio (s := s) (A := i.natAbs) (J := j.natAbs) (by omega) hi
  refine ⟨s, inUnits c q (-1074), ⟨s, c, q, e.trans e2, rfl⟩, hs, fun hi0 => ?_, hn⟩
  rw [h0 (by omega)]; unfold inUnits; exact Nat.zero_mul _
end Jvm.Pilot.@@N@@.OwnF
namespace Jvm.Pilot.@@N@@
open Jvm Jvm.ClassFile Sem Op Lib Jvm.Free Jvm.Stand Jvm.LawKit Jvm.RoadKit Bundle Jvm.Pilot.@@N@@.Jvm.D
def own_Q (r : Option Value) (h0 : Heap) (n0 : Nat) (v : Option Value) (h : Heap) (L : List Loc) : Prop := v = r ∧ Fr n0 L ∧ h = h0
def own_R (r : Option Value) (n0 : Nat) (v : Option Value) (h : Heap) (L : List Loc) : Prop := v = r ∧ Fr n0 L
theorem pn_0 : plainName "com/example/wee_wrapper/weewrapper/model/MiningSettings" = true := by first | (simp [plainName, overriddenIn]; done) | decide +kernel
theorem ef_rm1 (m : MethodId) (x0 : UInt64) : entryFrame m #[(.double x0)] 2 = mkF m 0 #[.val (.double x0), .second] [] := by first | (simp [entryFrame, mkF, argsToLocals, Value.category]; done) | rfl
theorem d1_0 : decode prog_11_method_2_code 0 = .ok (.dload_n 0, 1) := by decide +kernel
theorem d1_1 : decode prog_11_method_2_code 1 = .ok (.dconst 0, 1) := by decide +kernel
theorem d1_2 : decode prog_11_method_2_code 2 = .ok (.dcmp .l, 1) := by decide +kernel
theorem d1_3 : decode prog_11_method_2_code 3 = .ok (.ifCond .lt 9, 3) := by decide +kernel
theorem d1_6 : decode prog_11_method_2_code 6 = .ok (.dload_n 0, 1) := by decide +kernel
theorem d1_7 : decode prog_11_method_2_code 7 = .ok (.dconst 1, 1) := by decide +kernel
theorem d1_8 : decode prog_11_method_2_code 8 = .ok (.dcmp .g, 1) := by decide +kernel
theorem d1_9 : decode prog_11_method_2_code 9 = .ok (.ifCond .le 17, 3) := by decide +kernel
theorem d1_26 : decode prog_11_method_2_code 26 = .ok (.return_, 1) := by decide +kernel
set_option maxRecDepth 65536 in
set_option maxHeartbeats 40000000 in
theorem rm1 (l : Launch) (Z : State) (a0 : Array Value) (hw : ∀ d ∈ tables_1, d.before a0 Z = true) (ws : List Jvm.Cond) (d0 : UInt64) (h0 : Heap) (n0 : Nat) (hp1 : ¬ (cmpValue (FP.dcmp d0 FP.dconst0) .l) < (0 : Int32)) (hp2 : ¬ (0 : Int32) < (cmpValue (FP.dcmp d0 FP.dconst1) .g)) :
    MetFree l (⟨"com/example/wee_wrapper/weewrapper/model/MiningSettings", "checkThreshold", "(D)V"⟩ : MethodName) (head1 (Jvm.Cond.code (⟨"com/example/wee_wrapper/weewrapper/model/MiningSettings", "checkThreshold", "(D)V"⟩ : MethodName) prog_11_method_2_code 2 none :: ws) ({ frames := 0, cells := 0, slots := 0, locals := 0 } : Room)) (fun a U => a = #[(.double d0)] ∧ Z.Warmed39 U.vm ∧ U.heap = h0) (fun _ _ _ _ _ => True) (fun _ U o U' => ∃ v L, o = .returned v ∧ own_Q (none) h0 n0 v U'.heap L ∧ FrameEnd U o U' L ({ frames := 0, cells := 0, slots := 0, locals := 0 } : Room).cells ({ frames := 0, cells := 0, slots := 0, locals := 0 } : Room).slots) := by
  refine MetFree.of_bodySF (plainFor_of_name pn_0) hisR ?_
  intro p e s m args below meth c s₁ Bd hml0 hP hK
  obtain ⟨rfl, hZ, hh⟩ := hP
  have hx := Bd.exec
  have hby := Bd.bytes
  have hml : c.maxLocals = 2 := hml0
  have hown : s.vm.findClass "com/example/wee_wrapper/weewrapper/model/MiningSettings" = some m.cls := findClass_of_methodNamed Bd.named
  have hnm := (name_of_methodNamed Bd.named Bd.method).1
  have X0 : Stand p l e ({ frames := 0, cells := 0, slots := 0, locals := 0 } : Room) s m #[(.double d0)] below meth c s₁ [] 0 0 := Stand.of_body Bd
  have e0 : s₁.heap = h0 := by rw [← hh, Bd.state]; rfl
  have N0 := Fr.nil n0
  have pre0 : ∀ t, Steps p.tables e below (s₁.setTop (mkF m 0 #[.val (.double d0), .second] [])) t → Steps p.tables e below (s₁.setTop (entryFrame m #[(.double d0)] 2)) t := fun t k => castTop (ef_rm1 m d0) k
  have k1 : ∀ t, Steps p.tables e below (s₁.setTop (mkF m 26 #[.val (.double d0), .second] [])) t → Steps p.tables e below (s₁.setTop (entryFrame m #[(.double d0)] 2)) t := by
    intro t k
    refine pre0 _ ?_
    show Steps p.tables e below (s₁.setTop (mkF m 0 #[.val (.double d0), .second] [])) _
    refine XS.dloadN X0.here hx rfl (hb hby d1_0) rfl ?_
    show Steps p.tables e below (s₁.setTop (mkF m 1 #[.val (.double d0), .second] [(.double d0)])) _
    refine XS.dconst0 X0.here hx rfl (hb hby d1_1) rfl ?_
    show Steps p.tables e below (s₁.setTop (mkF m 2 #[.val (.double d0), .second] [(.double FP.dconst0), (.double d0)])) _
    refine XS.dcmpS X0.here hx rfl (hb hby d1_2) rfl rfl ?_
    show Steps p.tables e below (s₁.setTop (mkF m 3 #[.val (.double d0), .second] [(.int (cmpValue (FP.dcmp d0 FP.dconst0) .l))])) _
    refine XS.ifNo X0.here hx rfl (hb hby d1_3) rfl ((if0 _ _).trans (flt hp1).1) ?_
    show Steps p.tables e below (s₁.setTop (mkF m 6 #[.val (.double d0), .second] [])) _
    refine XS.dloadN X0.here hx rfl (hb hby d1_6) rfl ?_
    show Steps p.tables e below (s₁.setTop (mkF m 7 #[.val (.double d0), .second] [(.double d0)])) _
    refine XS.dconst1 X0.here hx rfl (hb hby d1_7) rfl ?_
    show Steps p.tables e below (s₁.setTop (mkF m 8 #[.val (.double d0), .second] [(.double FP.dconst1), (.double d0)])) _
    refine XS.dcmpS X0.here hx rfl (hb hby d1_8) rfl rfl ?_
    show Steps p.tables e below (s₁.setTop (mkF m 9 #[.val (.double d0), .second] [(.int (cmpValue (FP.dcmp d0 FP.dconst1) .g))])) _
    refine XS.ifYes X0.here hx rfl (pc0 := 9) (pc' := 26) rfl (hb hby d1_9) rfl ((if0 _ _).trans (flt hp2).2.2.2) (by decide) (by decide) ?_
    exact k
  obtain ⟨fs, hr, hrun, hended, hW, hsame⟩ := X0.leave (v := none) (fun _ => rfl)
  refine ⟨_, _, k1 _ ?_, hrun, hended, _, _, rfl, ?_, ⟨_, rfl⟩, hW, hsame.mono (by decide) (by decide)⟩
  · exact X0.returnOut hx Bd.returns (hb hby d1_26) hr
  · show own_Q (none) h0 n0 _ s₁.heap _
    rw [e0]
    exact ⟨rfl, N0, rfl⟩
theorem own_r (x : Int32) : 0 ≤ ((x &&& (2147483647 : Int32)) % (65537 : Int32)).toInt ∧ ((x &&& (2147483647 : Int32)) % (65537 : Int32)).toInt ≤ 65536 := by
  have a := c_mask x 2147483647 31 (by decide) (by decide)
  have r := c_irem (x &&& 2147483647) 65537 65537 (by decide)
  omega
theorem own_den : FP.Core.DInt 65536 (4679240012837945344 : UInt64) := by
  have e : FP.Core.val64 (4679240012837945344 : UInt64) = .fin false (2 ^ 52) (-36) := by decide +kernel
  unfold FP.Core.DInt
  rw [e]
  show FP.Core.signed false _ = _
  decide +kernel
theorem own_is0 : OwnF.own_Is FP.dconst0 0 := ⟨_, _, _, FP.Core.val64_dconst0, by decide +kernel⟩
theorem own_u1 : FP.Core.inUnits (2 ^ 52) (-52) (-1074) = OwnF.own_P := by decide +kernel
theorem own_is1 : OwnF.own_Is FP.dconst1 (OwnF.own_P : Int) := ⟨_, _, _, FP.Core.val64_dconst1, by show ((FP.Core.inUnits (2 ^ 52) (-52) (-1074) : Nat) : Int) = _; rw [own_u1]⟩
theorem own_q (n : Int32) (h0 : 0 ≤ n.toInt) (h1 : n.toInt ≤ 65536) : ∃ v, OwnF.own_Is (FP.ddiv (FP.i2d n) (4679240012837945344 : UInt64)) v ∧ 0 ≤ v ∧ v ≤ (OwnF.own_P : Int) := by
  obtain ⟨s, M, e, hs, hz, hn⟩ := OwnF.own_div (FP.Core.i2d_int n) own_den (by decide) (by omega)
  have w := (hn (2 ^ 52) (-52) (by decide) (by decide)).1
  rw [own_u1] at w
  have hM : M ≤ OwnF.own_P := w (by
    rw [Nat.mul_comm OwnF.own_P]
    exact Nat.mul_le_mul_right _ (by show n.toInt.natAbs ≤ 65536; omega))
  have hsg : FP.Core.signed s M = (M : Int) := by
    by_cases z : n.toInt = 0
    · rw [hz z]; unfold FP.Core.signed; split <;> rfl
    · rw [hs z, decide_eq_false (by omega : ¬ n.toInt < 0)]; rfl
  exact ⟨_, e, by rw [hsg]; omega, by rw [hsg]; omega⟩
theorem own_nn (x : Int32) : Jvm.Free.Fl.NoNaN64 (FP.ddiv (FP.i2d ((x &&& (2147483647 : Int32)) % (65537 : Int32))) (4679240012837945344 : UInt64)) := by
  obtain ⟨v, h, -⟩ := own_q _ (own_r x).1 (own_r x).2
  exact Jvm.Free.Fl.noNaN64_no.mpr ((FP.Core.notNaN_iff _).mpr h.noNaN)
theorem own_ok {d : UInt64} {v : Int} (h : OwnF.own_Is d v) (h0 : 0 ≤ v) (h1 : v ≤ (OwnF.own_P : Int)) : ¬ (cmpValue (FP.dcmp d FP.dconst0) .l) < (0 : Int32) ∧ ¬ (0 : Int32) < (cmpValue (FP.dcmp d FP.dconst1) .g) := by
  have e1 : FP.dcmp d FP.dconst0 = some (compare v 0) := h.cmp own_is0
  have e2 : FP.dcmp d FP.dconst1 = some (compare v (OwnF.own_P : Int)) := h.cmp own_is1
  rw [e1, e2]
  constructor
  · cases e : compare v 0 with
    | lt => rw [Int.compare_eq_lt] at e; omega
    | eq => decide
    | gt => decide
  · cases e : compare v (OwnF.own_P : Int) with
    | lt => decide
    | eq => decide
    | gt => rw [Int.compare_eq_gt] at e; omega
theorem own_ngz : OwnF.own_Is (9223372036854775808 : UInt64) 0 := ⟨true, 0, -1074, by decide +kernel, by decide +kernel⟩
theorem pn_1 : plainName "com/example/wee_wrapper/weewrapper/model/MiningSettingsCheckThresholdPinLaw" = true := by first | (simp [plainName, overriddenIn]; done) | decide +kernel
theorem ef_rm0 (m : MethodId) (x0 : Int32) (x1 : Int32) : entryFrame m #[(.int x0), (.int x1)] maxLocals = mkF m 0 #[.val (.int x0), .val (.int x1), .unset, .unset, .unset] [] := by first | (simp [entryFrame, mkF, argsToLocals, Value.category, maxLocals]; done) | rfl
theorem own_thr (p0 p1 : Int32) : ¬ (cmpValue (FP.dcmp (if ((p0 &&& (2147483647 : Int32)) % (65537 : Int32)) = (0 : Int32) then (if (p1 &&& (1 : Int32)) = (0 : Int32) then (FP.ddiv (FP.i2d ((p0 &&& (2147483647 : Int32)) % (65537 : Int32))) (4679240012837945344 : UInt64)) else (9223372036854775808 : UInt64)) else (FP.ddiv (FP.i2d ((p0 &&& (2147483647 : Int32)) % (65537 : Int32))) (4679240012837945344 : UInt64))) FP.dconst0) .l) < (0 : Int32) ∧ ¬ (0 : Int32) < (cmpValue (FP.dcmp (if ((p0 &&& (2147483647 : Int32)) % (65537 : Int32)) = (0 : Int32) then (if (p1 &&& (1 : Int32)) = (0 : Int32) then (FP.ddiv (FP.i2d ((p0 &&& (2147483647 : Int32)) % (65537 : Int32))) (4679240012837945344 : UInt64)) else (9223372036854775808 : UInt64)) else (FP.ddiv (FP.i2d ((p0 &&& (2147483647 : Int32)) % (65537 : Int32))) (4679240012837945344 : UInt64))) FP.dconst1) .g) := by
  obtain ⟨v, h, h0, h1⟩ := own_q _ (own_r p0).1 (own_r p0).2
  have a := own_ok h h0 h1
  have b := own_ok own_ngz (by decide) (Int.natCast_nonneg _)
  by_cases q1 : ((p0 &&& (2147483647 : Int32)) % (65537 : Int32)) = (0 : Int32)
  · by_cases q2 : (p1 &&& (1 : Int32)) = (0 : Int32)
    · simp only [if_pos q1, if_pos q2]; exact a
    · simp only [if_pos q1, if_neg q2]; exact b
  · simp only [if_neg q1]; exact a
theorem pd_0 : parseMethodDescriptor "(D)V" = some ⟨[.double], none⟩ := by decide +kernel
set_option maxRecDepth 65536 in
set_option maxHeartbeats 40000000 in
theorem rm0 (l : Launch) (Z : State) (a0 : Array Value) (hw : ∀ d ∈ tables_1, d.before a0 Z = true) (ws : List Jvm.Cond) (p0 : Int32) (p1 : Int32) (h0 : Heap) (n0 : Nat) :
    MetFree l x (head1 (Jvm.Cond.code x code maxLocals ret :: ws) room_1) (fun a U => a = #[(.int p0), (.int p1)] ∧ Z.Warmed39 U.vm ∧ U.heap = h0) (fun _ _ _ _ _ => True) (fun _ U o U' => ∃ v L, o = .returned v ∧ own_R (some (.int 1)) n0 v U'.heap L ∧ FrameEnd U o U' L room_1.cells room_1.slots) := by
  refine MetFree.of_bodySF (plainFor_of_name pn_1) hisR ?_
  intro p e s m args below meth c s₁ Bd hml0 hP hK
  obtain ⟨rfl, hZ, hh⟩ := hP
  have hx := Bd.exec
  have hby := Bd.bytes
  have hml : c.maxLocals = 5 := hml0
  have hown : s.vm.findClass "com/example/wee_wrapper/weewrapper/model/MiningSettingsCheckThresholdPinLaw" = some m.cls := findClass_of_methodNamed Bd.named
  have hnm := (name_of_methodNamed Bd.named Bd.method).1
  have X0 : Stand p l e room_1 s m #[(.int p0), (.int p1)] below meth c s₁ [] 0 0 := Stand.of_body Bd
  have e0 : s₁.heap = h0 := by rw [← hh, Bd.state]; rfl
  have N0 := Fr.nil n0
  have pre0 : ∀ t, Steps p.tables e below (s₁.setTop (mkF m 0 #[.val (.int p0), .val (.int p1), .unset, .unset, .unset] [])) t → Steps p.tables e below (s₁.setTop (entryFrame m #[(.int p0), (.int p1)] maxLocals)) t := fun t k => castTop (ef_rm0 m p0 p1) k
  have k1 : ∀ t, Steps p.tables e below (s₁.setTop (mkF m 29 #[.val (.int p0), .val (.int p1), .val (.int ((p0 &&& (2147483647 : Int32)) % (65537 : Int32))), .val (.double (if ((p0 &&& (2147483647 : Int32)) % (65537 : Int32)) = (0 : Int32) then (if (p1 &&& (1 : Int32)) = (0 : Int32) then (FP.ddiv (FP.i2d ((p0 &&& (2147483647 : Int32)) % (65537 : Int32))) (4679240012837945344 : UInt64)) else (9223372036854775808 : UInt64)) else (FP.ddiv (FP.i2d ((p0 &&& (2147483647 : Int32)) % (65537 : Int32))) (4679240012837945344 : UInt64)))), .second] [])) t → Steps p.tables e below (s₁.setTop (entryFrame m #[(.int p0), (.int p1)] maxLocals)) t := by
    intro t k
    refine pre0 _ ?_
    show Steps p.tables e below (s₁.setTop (mkF m 0 #[.val (.int p0), .val (.int p1), .unset, .unset, .unset] [])) _
    refine XS.iloadN X0.here hx rfl (hb hby at_0) rfl ?_
    show Steps p.tables e below (s₁.setTop (mkF m 1 #[.val (.int p0), .val (.int p1), .unset, .unset, .unset] [(.int p0)])) _
    refine X0.ldcInt hx hown (mvT hZ (hw _ (List.mem_of_getElem? (i := 0) rfl))) (g := (mkF m 1 #[.val (.int p0), .val (.int p1), .unset, .unset, .unset] [(.int p0)])) rfl (hb hby at_1) _ ?_
    show Steps p.tables e below (s₁.setTop (mkF m 3 #[.val (.int p0), .val (.int p1), .unset, .unset, .unset] [(.int (2147483647 : Int32)), (.int p0)])) _
    refine XS.iand X0.here hx rfl (hb hby at_3) rfl ?_
    show Steps p.tables e below (s₁.setTop (mkF m 4 #[.val (.int p0), .val (.int p1), .unset, .unset, .unset] [(.int (p0 &&& (2147483647 : Int32)))])) _
    refine X0.ldcInt hx hown (mvT hZ (hw _ (List.mem_of_getElem? (i := 1) rfl))) (g := (mkF m 4 #[.val (.int p0), .val (.int p1), .unset, .unset, .unset] [(.int (p0 &&& (2147483647 : Int32)))])) rfl (hb hby at_4) _ ?_
    show Steps p.tables e below (s₁.setTop (mkF m 6 #[.val (.int p0), .val (.int p1), .unset, .unset, .unset] [(.int (65537 : Int32)), (.int (p0 &&& (2147483647 : Int32)))])) _
    refine iremM X0 hx rfl (hb hby at_6) rfl (by decide) ?_
    show Steps p.tables e below (s₁.setTop (mkF m 7 #[.val (.int p0), .val (.int p1), .unset, .unset, .unset] [(.int ((p0 &&& (2147483647 : Int32)) % (65537 : Int32)))])) _
    refine XS.istoreN X0.here hx rfl (hb hby at_7) rfl (l' := #[.val (.int p0), .val (.int p1), .val (.int ((p0 &&& (2147483647 : Int32)) % (65537 : Int32))), .unset, .unset]) rfl ?_
    show Steps p.tables e below (s₁.setTop (mkF m 8 #[.val (.int p0), .val (.int p1), .val (.int ((p0 &&& (2147483647 : Int32)) % (65537 : Int32))), .unset, .unset] [])) _
    refine XS.iloadN X0.here hx rfl (hb hby at_8) rfl ?_
    show Steps p.tables e below (s₁.setTop (mkF m 9 #[.val (.int p0), .val (.int p1), .val (.int ((p0 &&& (2147483647 : Int32)) % (65537 : Int32))), .unset, .unset] [(.int ((p0 &&& (2147483647 : Int32)) % (65537 : Int32)))])) _
    refine XS.i2dS X0.here hx rfl (hb hby at_9) rfl rfl ?_
    show Steps p.tables e below (s₁.setTop (mkF m 10 #[.val (.int p0), .val (.int p1), .val (.int ((p0 &&& (2147483647 : Int32)) % (65537 : Int32))), .unset, .unset] [(.double (FP.i2d ((p0 &&& (2147483647 : Int32)) % (65537 : Int32))))])) _
    refine X0.ldc2DoubleC hx hown (mvT hZ (hw _ (List.mem_of_getElem? (i := 2) rfl))) (g := (mkF m 10 #[.val (.int p0), .val (.int p1), .val (.int ((p0 &&& (2147483647 : Int32)) % (65537 : Int32))), .unset, .unset] [(.double (FP.i2d ((p0 &&& (2147483647 : Int32)) % (65537 : Int32))))])) rfl (hb hby at_10) _ ?_
    show Steps p.tables e below (s₁.setTop (mkF m 13 #[.val (.int p0), .val (.int p1), .val (.int ((p0 &&& (2147483647 : Int32)) % (65537 : Int32))), .unset, .unset] [(.double (4679240012837945344 : UInt64)), (.double (FP.i2d ((p0 &&& (2147483647 : Int32)) % (65537 : Int32))))])) _
    refine XS.ddivS X0.here hx rfl (hb hby at_13) rfl (own_nn p0) rfl ?_
    show Steps p.tables e below (s₁.setTop (mkF m 14 #[.val (.int p0), .val (.int p1), .val (.int ((p0 &&& (2147483647 : Int32)) % (65537 : Int32))), .unset, .unset] [(.double (FP.ddiv (FP.i2d ((p0 &&& (2147483647 : Int32)) % (65537 : Int32))) (4679240012837945344 : UInt64)))])) _
    refine XS.dstoreN X0.here hx rfl (hb hby at_14) rfl (l' := #[.val (.int p0), .val (.int p1), .val (.int ((p0 &&& (2147483647 : Int32)) % (65537 : Int32))), .val (.double (FP.ddiv (FP.i2d ((p0 &&& (2147483647 : Int32)) % (65537 : Int32))) (4679240012837945344 : UInt64))), .second]) rfl ?_
    show Steps p.tables e below (s₁.setTop (mkF m 15 #[.val (.int p0), .val (.int p1), .val (.int ((p0 &&& (2147483647 : Int32)) % (65537 : Int32))), .val (.double (FP.ddiv (FP.i2d ((p0 &&& (2147483647 : Int32)) % (65537 : Int32))) (4679240012837945344 : UInt64))), .second] [])) _
    refine XS.iloadN X0.here hx rfl (hb hby at_15) rfl ?_
    show Steps p.tables e below (s₁.setTop (mkF m 16 #[.val (.int p0), .val (.int p1), .val (.int ((p0 &&& (2147483647 : Int32)) % (65537 : Int32))), .val (.double (FP.ddiv (FP.i2d ((p0 &&& (2147483647 : Int32)) % (65537 : Int32))) (4679240012837945344 : UInt64))), .second] [(.int ((p0 &&& (2147483647 : Int32)) % (65537 : Int32)))])) _
    by_cases hc16_1 : ((p0 &&& (2147483647 : Int32)) % (65537 : Int32)) = (0 : Int32)
    · refine XS.ifNo X0.here hx rfl (hb hby at_16) rfl ((if0 _ _).trans (teq hc16_1).2) ?_
      show Steps p.tables e below (s₁.setTop (mkF m 19 #[.val (.int p0), .val (.int p1), .val (.int ((p0 &&& (2147483647 : Int32)) % (65537 : Int32))), .val (.double (FP.ddiv (FP.i2d ((p0 &&& (2147483647 : Int32)) % (65537 : Int32))) (4679240012837945344 : UInt64))), .second] [])) _
      refine XS.iloadN X0.here hx rfl (hb hby at_19) rfl ?_
      show Steps p.tables e below (s₁.setTop (mkF m 20 #[.val (.int p0), .val (.int p1), .val (.int ((p0 &&& (2147483647 : Int32)) % (65537 : Int32))), .val (.double (FP.ddiv (FP.i2d ((p0 &&& (2147483647 : Int32)) % (65537 : Int32))) (4679240012837945344 : UInt64))), .second] [(.int p1)])) _
      refine XS.iconst X0.here hx rfl (hb hby at_20) ?_
      show Steps p.tables e below (s₁.setTop (mkF m 21 #[.val (.int p0), .val (.int p1), .val (.int ((p0 &&& (2147483647 : Int32)) % (65537 : Int32))), .val (.double (FP.ddiv (FP.i2d ((p0 &&& (2147483647 : Int32)) % (65537 : Int32))) (4679240012837945344 : UInt64))), .second] [(.int (1 : Int32)), (.int p1)])) _
      refine XS.iand X0.here hx rfl (hb hby at_21) rfl ?_
      show Steps p.tables e below (s₁.setTop (mkF m 22 #[.val (.int p0), .val (.int p1), .val (.int ((p0 &&& (2147483647 : Int32)) % (65537 : Int32))), .val (.double (FP.ddiv (FP.i2d ((p0 &&& (2147483647 : Int32)) % (65537 : Int32))) (4679240012837945344 : UInt64))), .second] [(.int (p1 &&& (1 : Int32)))])) _
      by_cases hc22_2 : (p1 &&& (1 : Int32)) = (0 : Int32)
      · refine XS.ifYes X0.here hx rfl (pc0 := 22) (pc' := 29) rfl (hb hby at_22) rfl ((if0 _ _).trans (teq hc22_2).1) (by decide) (by decide) ?_
        try simp only [if_pos hc16_1, if_pos hc22_2] at k
        exact k
      · refine XS.ifNo X0.here hx rfl (hb hby at_22) rfl ((if0 _ _).trans (feq hc22_2).1) ?_
        show Steps p.tables e below (s₁.setTop (mkF m 25 #[.val (.int p0), .val (.int p1), .val (.int ((p0 &&& (2147483647 : Int32)) % (65537 : Int32))), .val (.double (FP.ddiv (FP.i2d ((p0 &&& (2147483647 : Int32)) % (65537 : Int32))) (4679240012837945344 : UInt64))), .second] [])) _
        refine X0.ldc2DoubleC hx hown (mvT hZ (hw _ (List.mem_of_getElem? (i := 3) rfl))) (g := (mkF m 25 #[.val (.int p0), .val (.int p1), .val (.int ((p0 &&& (2147483647 : Int32)) % (65537 : Int32))), .val (.double (FP.ddiv (FP.i2d ((p0 &&& (2147483647 : Int32)) % (65537 : Int32))) (4679240012837945344 : UInt64))), .second] [])) rfl (hb hby at_25) _ ?_
        show Steps p.tables e below (s₁.setTop (mkF m 28 #[.val (.int p0), .val (.int p1), .val (.int ((p0 &&& (2147483647 : Int32)) % (65537 : Int32))), .val (.double (FP.ddiv (FP.i2d ((p0 &&& (2147483647 : Int32)) % (65537 : Int32))) (4679240012837945344 : UInt64))), .second] [(.double (9223372036854775808 : UInt64))])) _
        refine XS.dstoreN X0.here hx rfl (hb hby at_28) rfl (l' := #[.val (.int p0), .val (.int p1), .val (.int ((p0 &&& (2147483647 : Int32)) % (65537 : Int32))), .val (.double (9223372036854775808 : UInt64)), .second]) rfl ?_
        try simp only [if_pos hc16_1, if_neg hc22_2] at k
        exact k
    · refine XS.ifYes X0.here hx rfl (pc0 := 16) (pc' := 29) rfl (hb hby at_16) rfl ((if0 _ _).trans (feq hc16_1).2) (by decide) (by decide) ?_
      try simp only [if_neg hc16_1] at k
      exact k
  obtain ⟨_, _, ⟨T2, L2, k2_, n2⟩, -, X2, ⟨Lc2, hQ2, l2, y2, z2⟩, st2⟩ := Jvm.LawKit.callS X0 hx (y := (⟨"com/example/wee_wrapper/weewrapper/model/MiningSettings", "checkThreshold", "(D)V"⟩ : MethodName)) hown (mvT hZ (hw _ (List.mem_of_getElem? (i := 4) rfl))) (mvT hZ (hw _ (List.mem_of_getElem? (i := 5) rfl))) (mvT hZ (hw _ (List.mem_of_getElem? (i := 6) rfl))) (mvT hZ (hw _ (List.mem_of_getElem? (i := 7) rfl))) (by decide) (backOf (W := 0) (rm1 l Z a0 hw [] (if ((p0 &&& (2147483647 : Int32)) % (65537 : Int32)) = (0 : Int32) then (if (p1 &&& (1 : Int32)) = (0 : Int32) then (FP.ddiv (FP.i2d ((p0 &&& (2147483647 : Int32)) % (65537 : Int32))) (4679240012837945344 : UInt64)) else (9223372036854775808 : UInt64)) else (FP.ddiv (FP.i2d ((p0 &&& (2147483647 : Int32)) % (65537 : Int32))) (4679240012837945344 : UInt64))) h0 n0 (own_thr p0 p1).1 (own_thr p0 p1).2) hZ (hw _ (List.mem_of_getElem? (i := 7) rfl)) (hw _ (List.mem_of_getElem? (i := 6) rfl)) (by decide) (by decide)) (g := (mkF m 30 #[.val (.int p0), .val (.int p1), .val (.int ((p0 &&& (2147483647 : Int32)) % (65537 : Int32))), .val (.double (if ((p0 &&& (2147483647 : Int32)) % (65537 : Int32)) = (0 : Int32) then (if (p1 &&& (1 : Int32)) = (0 : Int32) then (FP.ddiv (FP.i2d ((p0 &&& (2147483647 : Int32)) % (65537 : Int32))) (4679240012837945344 : UInt64)) else (9223372036854775808 : UInt64)) else (FP.ddiv (FP.i2d ((p0 &&& (2147483647 : Int32)) % (65537 : Int32))) (4679240012837945344 : UInt64)))), .second] [(.double (if ((p0 &&& (2147483647 : Int32)) % (65537 : Int32)) = (0 : Int32) then (if (p1 &&& (1 : Int32)) = (0 : Int32) then (FP.ddiv (FP.i2d ((p0 &&& (2147483647 : Int32)) % (65537 : Int32))) (4679240012837945344 : UInt64)) else (9223372036854775808 : UInt64)) else (FP.ddiv (FP.i2d ((p0 &&& (2147483647 : Int32)) % (65537 : Int32))) (4679240012837945344 : UInt64))))])) rfl (by rw [hml]; rfl) (argsL := [(.double (if ((p0 &&& (2147483647 : Int32)) % (65537 : Int32)) = (0 : Int32) then (if (p1 &&& (1 : Int32)) = (0 : Int32) then (FP.ddiv (FP.i2d ((p0 &&& (2147483647 : Int32)) % (65537 : Int32))) (4679240012837945344 : UInt64)) else (9223372036854775808 : UInt64)) else (FP.ddiv (FP.i2d ((p0 &&& (2147483647 : Int32)) % (65537 : Int32))) (4679240012837945344 : UInt64))))]) (rest := []) (lenOf pd_0 rfl) rfl (by show 2 * 0 + _ ≤ _; exact Nat.le_of_eq rfl) (hb hby at_30) (fun _ _ => ⟨rfl, e0, (by decide : 0 + 0 ≤ _), (by decide : 0 + 0 ≤ _)⟩)
  dsimp only [Pt.U, Pt.locs, Pt.cells, Pt.slots] at X2 l2 y2 z2 st2 hQ2
  subst l2 y2 z2
  obtain ⟨rfl, Nq2, e2⟩ := hQ2
  have N2 := Fr.app N0 Nq2
  have k3 : ∀ t, Steps p.tables e below (T2.setTop (mkF m 34 #[.val (.int p0), .val (.int p1), .val (.int ((p0 &&& (2147483647 : Int32)) % (65537 : Int32))), .val (.double (if ((p0 &&& (2147483647 : Int32)) % (65537 : Int32)) = (0 : Int32) then (if (p1 &&& (1 : Int32)) = (0 : Int32) then (FP.ddiv (FP.i2d ((p0 &&& (2147483647 : Int32)) % (65537 : Int32))) (4679240012837945344 : UInt64)) else (9223372036854775808 : UInt64)) else (FP.ddiv (FP.i2d ((p0 &&& (2147483647 : Int32)) % (65537 : Int32))) (4679240012837945344 : UInt64)))), .second] [(.int (1 : Int32))])) t → Steps p.tables e below (s₁.setTop (entryFrame m #[(.int p0), (.int p1)] maxLocals)) t := by
    intro t k
    refine k1 _ ?_
    show Steps p.tables e below (s₁.setTop (mkF m 29 #[.val (.int p0), .val (.int p1), .val (.int ((p0 &&& (2147483647 : Int32)) % (65537 : Int32))), .val (.double (if ((p0 &&& (2147483647 : Int32)) % (65537 : Int32)) = (0 : Int32) then (if (p1 &&& (1 : Int32)) = (0 : Int32) then (FP.ddiv (FP.i2d ((p0 &&& (2147483647 : Int32)) % (65537 : Int32))) (4679240012837945344 : UInt64)) else (9223372036854775808 : UInt64)) else (FP.ddiv (FP.i2d ((p0 &&& (2147483647 : Int32)) % (65537 : Int32))) (4679240012837945344 : UInt64)))), .second] [])) _
    refine XS.dloadN X0.here hx rfl (hb hby at_29) rfl ?_
    show Steps p.tables e below (s₁.setTop (mkF m 30 #[.val (.int p0), .val (.int p1), .val (.int ((p0 &&& (2147483647 : Int32)) % (65537 : Int32))), .val (.double (if ((p0 &&& (2147483647 : Int32)) % (65537 : Int32)) = (0 : Int32) then (if (p1 &&& (1 : Int32)) = (0 : Int32) then (FP.ddiv (FP.i2d ((p0 &&& (2147483647 : Int32)) % (65537 : Int32))) (4679240012837945344 : UInt64)) else (9223372036854775808 : UInt64)) else (FP.ddiv (FP.i2d ((p0 &&& (2147483647 : Int32)) % (65537 : Int32))) (4679240012837945344 : UInt64)))), .second] [(.double (if ((p0 &&& (2147483647 : Int32)) % (65537 : Int32)) = (0 : Int32) then (if (p1 &&& (1 : Int32)) = (0 : Int32) then (FP.ddiv (FP.i2d ((p0 &&& (2147483647 : Int32)) % (65537 : Int32))) (4679240012837945344 : UInt64)) else (9223372036854775808 : UInt64)) else (FP.ddiv (FP.i2d ((p0 &&& (2147483647 : Int32)) % (65537 : Int32))) (4679240012837945344 : UInt64))))])) _
    refine st2 _ ?_
    show Steps p.tables e below (T2.setTop (mkF m 33 #[.val (.int p0), .val (.int p1), .val (.int ((p0 &&& (2147483647 : Int32)) % (65537 : Int32))), .val (.double (if ((p0 &&& (2147483647 : Int32)) % (65537 : Int32)) = (0 : Int32) then (if (p1 &&& (1 : Int32)) = (0 : Int32) then (FP.ddiv (FP.i2d ((p0 &&& (2147483647 : Int32)) % (65537 : Int32))) (4679240012837945344 : UInt64)) else (9223372036854775808 : UInt64)) else (FP.ddiv (FP.i2d ((p0 &&& (2147483647 : Int32)) % (65537 : Int32))) (4679240012837945344 : UInt64)))), .second] [])) _
    refine XS.iconst X2.here hx rfl (hb hby at_33) ?_
    exact k
  obtain ⟨fs, hr, hrun, hended, hW, hsame⟩ := X2.leave (v := some (.int (1 : Int32))) (fun h => by rw [Bd.returns] at h; cases h)
  refine ⟨_, _, k3 _ ?_, hrun, hended, _, _, rfl, ?_, ⟨_, rfl⟩, hW, hsame.mono (by decide) (by decide)⟩
  · exact retN X2 hx (t := .boolean) Bd.returns (by simp) (hb hby at_34) hr
  · show own_R (some (.int 1)) n0 _ T2.heap _
    rw [e2]
    exact ⟨rfl, N2⟩
set_option maxRecDepth 65536 in
set_option maxHeartbeats 40000000 in
theorem comes_1 {Post : Tables → Env → Array Value → State → Outcome → State → Prop} (hpost : ∀ tb e args s v u, (limb_1_1.after args s (.returned v) u = true ∧ limb_1_2.after args s (.returned v) u = true ∧ True) → FrameEnd s (.returned v) u (Jvm.fieldLocs frame_1_writes args s ++ Jvm.arrayLocs frame_1_arrays args s ++ Jvm.staticLocs frame_1_statics s) 0 0 → Post tb e args s (.returned v) u) :
    ArmFor flags0 classFile x code maxLocals ret World_1 tables_1 room_1 Calls_1 rest_1 Pre_1 Post := by
  intro l hfl _ _ p e ha hc hk s m args below hf hA hF happ hP
  obtain ⟨hcalls, hrest, hpre⟩ := hP
  obtain ⟨-, -, -, hnamed, -, -, -, hat⟩ := (Spec.applies_iff hf).mp happ
  obtain ⟨hg, hn⟩ := and_e (Cond.before_iff.mp (show (Jvm.Cond.and given_1 narrow_1).before args s = true from hpre))
  obtain ⟨g0a, g0b⟩ := and_e hg
  obtain ⟨g1a, g1b⟩ := and_e g0b
  obtain ⟨w0, w1, rfl⟩ : ∃ w0 w1 : Value, args = #[w0, w1] := by
    have hs : args.size = 2 := by simpa [Cond.value, given_1] using g0a
    obtain ⟨L⟩ := args
    match L, hs with
    | [w0, w1], _ => exact ⟨w0, w1, rfl⟩
  have hw := fun d (hd : d ∈ tables_1) => atoms_spec (ws := Jvm.Cond.code x code maxLocals ret :: tables_1) hat d (List.mem_cons_of_mem _ hd)
  have hfit : Fit s := fun {y c} hc i hi => by
    obtain ⟨ha, rfl⟩ := Array.getElem?_eq_some_iff.mp hc
    have q := List.all_eq_true.mp ((Array.all_eq_true_iff_forall_mem.mp hF) _ (Array.getElem_mem ha)) i (List.mem_range.mpr hi)
    simpa [Array.getElem?_eq_getElem hi] using q
  obtain ⟨i0, ei0⟩ := is_v g1a
  obtain rfl : w0 = (.int i0) := Option.some.inj ei0
  obtain ⟨i1, ei1⟩ := is_v g1b
  obtain rfl : w1 = (.int i1) := Option.some.inj ei1
  obtain ⟨n, o, h1, h2, h3, _, L, rfl, ⟨rfl, N⟩, hq⟩ := rm0 l s _ hw tables_1 i0 i1 s.heap s.heap.size p e ha hc hk s m _ below hf ((Spec.applies_iff_loose hf).mp happ).1 ⟨rfl, State.Warmed39.refl s, rfl⟩ trivial
  refine ⟨n, _, h1, h2, h3, hpost _ _ _ _ _ _ ⟨Cond.after_iff.mpr rfl, Cond.after_iff.mpr (eq_i res_at (Term.int_eval (1)) rfl), trivial⟩ ⟨hq.1, hq.2.1, (hq.2.2.sift fun y hy => Or.inr (N y hy)).mono (by decide) (by decide)⟩⟩
theorem main_1_1 : Claimed_1_1 := comes_1 fun _ _ _ _ _ _ h hF => ⟨h.1, hF⟩
theorem main_1_2 : Claimed_1_2 := comes_1 fun _ _ _ _ _ _ h hF => ⟨h.2.1, hF⟩
end Jvm.Pilot.@@N@@
namespace Jvm.Pilot.@@N@@
open Jvm Jvm.ClassFile Sem Op Lib Jvm.Free Jvm.Stand Jvm.Pilot.@@N@@.Jvm.D
/-! MADE BY PROGRAM (witnessworld.py) out of the Statement's table words and the real class files: 10 classes; the members and pool entries that the words name. The judged class is class 1, her method 1. -/
namespace start1
open Jvm.ClassFile
def u (s : String) : CpInfo := .utf8 (stringToUtf16 s)
/-- a pool by its gaps: so many unusable entries, then the entry; so many at the end -/
def gap : Nat → List CpInfo → List CpInfo
  | 0, r => r
  | n + 1, r => .unusable :: gap n r
def poolList (es : List (Nat × CpInfo)) (last : Nat) : List CpInfo := es.foldr (fun e r => gap e.1 (e.2 :: r)) (gap last [])
def pool (es : List (Nat × CpInfo)) (last : Nat) : Array CpInfo := ⟨poolList es last⟩
def fileOf (pool : Array CpInfo) (this : Nat) (attrs : Array Attribute := #[]) (ms : Array MethodInfo := #[]) (fl : Nat := 33) (sup : Nat := 0) (ifs : Array Nat := #[]) (fds : Array FieldInfo := #[]) : ClassFile where
  minorVersion := 0
  majorVersion := 65
  constantPool := pool
  accessFlags := fl
  thisClass := this
  superClass := sup
  interfaces := ifs
  fields := fds
  methods := ms
  attributes := attrs
def plain (name : String) (sup : Option ClassId) : Class where
  name := name
  kind := .ordinary
  loader := none
  accessFlags := 33
  super := sup
  interfaces := #[]
  cf := none
  fields := #[]
  methods := #[]
  instanceTypes := #[]
  staticTypes := #[]
  resolved := #[]
  callSites := []
  init := .initialized
  statics := none
  mirror := none

def pool0 : Array CpInfo := pool [(5, u "<init>"), (0, u "()V"), (1, .class_ 10), (1, u "java/lang/Object")] 113

def k0m0 : Method := { name := "<init>", desc := "()V", sig := { parameters := [], returnType := none }, accessFlags := 1, code := none }
/-- java/lang/Object -/
def k0 : Class := { plain "java/lang/Object" none with
  accessFlags := 33
  interfaces := #[]
  cf := some (fileOf pool0 8 #[] #[{ accessFlags := 1, nameIndex := 5, descriptorIndex := 6, attributes := #[] }] 33 0 #[] #[])
  fields := #[]
  methods := #[k0m0]
  instanceTypes := #[]
  staticTypes := #[]
  resolved := Array.replicate 124 none
  statics := none }

def pool1 : Array CpInfo := pool [(2, .class_ 4), (1, u "java/lang/Object"), (0, u "<init>"), (0, u "()V"), (0, .integer 2147483647), (0, .integer 65537), (0, .double 4679240012837945344), (1, .double 9223372036854775808), (1, .methodref 14 15), (0, .class_ 16), (0, .nameAndType 17 18), (0, u "com/example/wee_wrapper/weewrapper/model/MiningSettings"), (0, u "checkThreshold"), (0, u "(D)V"), (0, .class_ 20), (0, u "com/example/wee_wrapper/weewrapper/model/MiningSettingsCheckThresholdPinLaw"), (2, u "law"), (0, u "(II)Z")] 3

def k1m0 : Method := { name := "<init>", desc := "()V", sig := { parameters := [], returnType := none }, accessFlags := 2, code := none }
def k1c1 : Code := { maxStack := 4, maxLocals := 5, code := code, exceptionTable := #[], attributes := #[] }
def k1m1 : Method := { name := "law", desc := "(II)Z", sig := { parameters := [.int, .int], returnType := some .boolean }, accessFlags := 9, code := some k1c1 }
/-- com/example/wee_wrapper/weewrapper/model/MiningSettingsCheckThresholdPinLaw -/
def k1 : Class := { plain "com/example/wee_wrapper/weewrapper/model/MiningSettingsCheckThresholdPinLaw" (some 0) with
  accessFlags := 49
  interfaces := #[]
  cf := some (fileOf pool1 19 #[] #[{ accessFlags := 2, nameIndex := 5, descriptorIndex := 6, attributes := #[] }, { accessFlags := 9, nameIndex := 23, descriptorIndex := 24, attributes := #[] }] 49 2 #[] #[])
  fields := #[]
  methods := #[k1m0, k1m1]
  instanceTypes := #[]
  staticTypes := #[]
  resolved := Array.replicate 28 none
  statics := none }

def pool2 : Array CpInfo := pool [(2, .class_ 4), (1, u "java/lang/Object"), (0, u "<init>"), (0, u "()V"), (0, .class_ 8), (0, u "java/lang/Record")] 13

def k2m0 : Method := { name := "<init>", desc := "()V", sig := { parameters := [], returnType := none }, accessFlags := 4, code := none }
/-- java/lang/Record -/
def k2 : Class := { plain "java/lang/Record" (some 0) with
  accessFlags := 1057
  interfaces := #[]
  cf := some (fileOf pool2 7 #[] #[{ accessFlags := 4, nameIndex := 5, descriptorIndex := 6, attributes := #[] }] 1057 2 #[] #[])
  fields := #[]
  methods := #[k2m0]
  instanceTypes := #[]
  staticTypes := #[]
  resolved := Array.replicate 22 none
  statics := none }

def pool3 : Array CpInfo := pool [(2, .class_ 4), (1, u "java/lang/Record"), (3, .class_ 10), (1, u "com/example/wee_wrapper/weewrapper/model/MiningSettings"), (0, u "checkThreshold"), (0, u "(D)V"), (11, u "threshold"), (0, u "D"), (2, u "maxNodes"), (0, u "I"), (22, u "DEFAULT"), (0, u "Lcom/example/wee_wrapper/weewrapper/model/MiningSettings;"), (0, u "DEFAULT_THRESHOLD"), (1, u "DEFAULT_MAX_NODES")] 41

def k3c0 : Code := { maxStack := 4, maxLocals := 2, code := prog_11_method_2_code, exceptionTable := #[], attributes := #[] }
def k3m0 : Method := { name := "checkThreshold", desc := "(D)V", sig := { parameters := [.double], returnType := none }, accessFlags := 8, code := some k3c0 }
/-- com/example/wee_wrapper/weewrapper/model/MiningSettings -/
def k3 : Class := { plain "com/example/wee_wrapper/weewrapper/model/MiningSettings" (some 2) with
  accessFlags := 49
  interfaces := #[]
  cf := some (fileOf pool3 8 #[] #[{ accessFlags := 8, nameIndex := 11, descriptorIndex := 12, attributes := #[] }] 49 2 #[] #[{ accessFlags := 18, nameIndex := 24, descriptorIndex := 25, attributes := #[] }, { accessFlags := 18, nameIndex := 28, descriptorIndex := 29, attributes := #[] }, { accessFlags := 25, nameIndex := 54, descriptorIndex := 25, attributes := #[] }, { accessFlags := 25, nameIndex := 56, descriptorIndex := 29, attributes := #[] }, { accessFlags := 25, nameIndex := 52, descriptorIndex := 53, attributes := #[] }])
  fields := #[{ name := "threshold", type := .double, accessFlags := 18, slot := 0, constantValue := 0 }, { name := "maxNodes", type := .int, accessFlags := 18, slot := 1, constantValue := 0 }, { name := "DEFAULT_THRESHOLD", type := .double, accessFlags := 25, slot := 0, constantValue := 0 }, { name := "DEFAULT_MAX_NODES", type := .int, accessFlags := 25, slot := 1, constantValue := 0 }, { name := "DEFAULT", type := (.object "com/example/wee_wrapper/weewrapper/model/MiningSettings"), accessFlags := 25, slot := 2, constantValue := 0 }]
  methods := #[k3m0]
  instanceTypes := #[.double, .int]
  staticTypes := #[.double, .int, (.object "com/example/wee_wrapper/weewrapper/model/MiningSettings")]
  resolved := Array.replicate 98 none
  statics := none }

def pool4 : Array CpInfo := pool [(1, u "java/lang/Cloneable"), (0, .class_ 1), (0, u "java/lang/Object"), (0, .class_ 3)] 3

/-- java/lang/Cloneable -/
def k4 : Class := { plain "java/lang/Cloneable" (some 0) with
  accessFlags := 1537
  interfaces := #[]
  cf := some (fileOf pool4 2 #[] #[] 1537 4 #[] #[])
  fields := #[]
  methods := #[]
  instanceTypes := #[]
  staticTypes := #[]
  resolved := Array.replicate 8 none
  statics := none }

def pool5 : Array CpInfo := pool [(1, u "java/io/Serializable"), (0, .class_ 1), (0, u "java/lang/Object"), (0, .class_ 3)] 3

/-- java/io/Serializable -/
def k5 : Class := { plain "java/io/Serializable" (some 0) with
  accessFlags := 1537
  interfaces := #[]
  cf := some (fileOf pool5 2 #[] #[] 1537 4 #[] #[])
  fields := #[]
  methods := #[]
  instanceTypes := #[]
  staticTypes := #[]
  resolved := Array.replicate 8 none
  statics := none }

/-- the primitive byte -/
def k6 : Class := { plain "byte" none with kind := .primitive 'B', accessFlags := 0x411 }
/-- [B -/
def k7 : Class := { plain "[B" (some 0) with kind := .array 6 .byte, interfaces := #[4, 5], accessFlags := 1041 }

/-- the primitive int -/
def k8 : Class := { plain "int" none with kind := .primitive 'I', accessFlags := 0x411 }
/-- [I -/
def k9 : Class := { plain "[I" (some 0) with kind := .array 8 .int, interfaces := #[4, 5], accessFlags := 1041 }

def heap : Heap := #[]
def classes : Array Class := #[k0, k1, k2, k3, k4, k5, k6, k7, k8, k9]
def interned : List (Array UInt16 × Addr) := []
def slotsUsed : Nat := 0
def theMethod : MethodId := ⟨1, 1⟩
def args0 : Array Value := #[.int 5, .int 5]
def aboutOver (below : List Frame) : State where
  vm := { classes := classes, interned := interned.toArray }
  heap := heap
  slotsUsed := slotsUsed
  threads := #[{ frames := .invoking theMethod args0 :: below }]
def below0 : List Frame := [.native { method := ⟨0, 0⟩, args := #[] }]
def about1 : State := aboutOver below0
def p0 : Program := .bare "" "" ""
def e0 : Env := launch0.env 0 0 0
theorem w_frames : about1.frames = Frame.invoking theMethod args0 :: below0 := rfl
set_option maxRecDepth 65536 in
theorem w_args : argsFit about1.vm theMethod args0 = true := by decide +kernel
set_option maxRecDepth 65536 in
theorem w_heap : heapFits about1 = true := by decide +kernel
set_option maxRecDepth 65536 in
theorem w_runnable : about1.curStatus? = some .runnable := by decide +kernel
set_option maxRecDepth 65536 in
theorem w_alone : about1.alone = true := by decide +kernel
set_option maxRecDepth 65536 in
theorem w_named : about1.methodNamed? x = some theMethod := by decide +kernel
set_option maxRecDepth 65536 in
theorem w_hears : about1.hears theMethod below0 = true := by decide +kernel
set_option maxRecDepth 65536 in
theorem w_ripe : about1.ripe theMethod args0 below0 = true := by decide +kernel
theorem w_running : about1.status = .running := rfl
set_option maxRecDepth 65536 in
theorem w_room : about1.hasRoom e0.platform room_1 = true :=
  launch0.hasRoom_least _ room_1 (by decide +kernel) (by decide +kernel) (by decide +kernel) (by decide +kernel) (by decide +kernel) (by decide +kernel)
theorem allAtoms_all (ts : List Jvm.Cond) (a : Array Jvm.Value) (st : Jvm.State) : (allAtoms ts).before a st = ts.all (fun c => c.before a st) := by
  induction ts with
  | nil => rfl
  | cons c t ih =>
    show (Jvm.Cond.and c (allAtoms t)).before a st = _
    rw [Jvm.Cond.before_and, ih, List.all_cons]
def words1 : List Jvm.Cond := Jvm.Cond.code x code maxLocals ret :: tables_1
/-- a 'code' word, met by the world's own term for the bytes: nothing is compared byte by byte -/
theorem code_word {y : MethodName} {bytes : ByteArray} {mx : Nat} {rt : Option FieldType} {a : Array Value} {s : State} {m : MethodId} {meth : Method} {c : Code} (h1 : s.methodNamed? y = some m) (h2 : s.vm.method? m = some meth) (h3 : meth.code = some c) (h4 : c.code = bytes)
    (h5 : (c.maxLocals == mx && c.exceptionTable.isEmpty && decide (c.maxStack ≤ mostOperands) && decide (meth.sig.returnType = rt) && !meth.locks && decide (parseMethodDescriptor y.desc = some meth.sig)) = true) : (Jvm.Cond.code y bytes mx rt).before a s = true := by
  simp only [Bool.and_eq_true, beq_iff_eq, Bool.not_eq_true', decide_eq_true_eq] at h5
  obtain ⟨⟨⟨⟨⟨g1, g2⟩, g3⟩, g4⟩, g5⟩, g6⟩ := h5
  simp [Cond.before, Cond.holds, Cond.value, h1, h2, h3, h4, g1, g2, g3, g4, g5, g6]
def isCode : Jvm.Cond → Bool
  | .code _ _ _ _ => true
  | _ => false
theorem all_split {L : List Jvm.Cond} {P : Jvm.Cond → Bool} (h1 : L.all (fun c => isCode c || P c) = true) (h2 : ∀ c ∈ L.filter isCode, P c = true) : L.all P = true := by
  refine List.all_eq_true.mpr fun c hc => ?_
  have h := List.all_eq_true.mp h1 c hc
  rcases Bool.eq_false_or_eq_true (isCode c) with hi | hi
  · exact h2 c (List.mem_filter.mpr ⟨hc, hi⟩)
  · simpa [hi] using h
set_option maxRecDepth 65536 in
theorem w_c0 : (Jvm.Cond.code x code maxLocals ret).before args0 about1 = true := code_word (m := ⟨1, 1⟩) (meth := k1m1) (c := k1c1) (by decide +kernel) rfl rfl rfl (by decide +kernel)
set_option maxRecDepth 65536 in
theorem w_c1 : (Jvm.Cond.code ({ cls := "com/example/wee_wrapper/weewrapper/model/MiningSettings", name := "checkThreshold", desc := "(D)V" } : Jvm.MethodName) prog_11_method_2_code (2 : Nat) (Option.none : Option Jvm.ClassFile.FieldType)).before args0 about1 = true := code_word (m := ⟨3, 0⟩) (meth := k3m0) (c := k3c0) (by decide +kernel) rfl rfl rfl (by decide +kernel)
def codes1 : List Jvm.Cond := [Jvm.Cond.code x code maxLocals ret, Jvm.Cond.code ({ cls := "com/example/wee_wrapper/weewrapper/model/MiningSettings", name := "checkThreshold", desc := "(D)V" } : Jvm.MethodName) prog_11_method_2_code (2 : Nat) (Option.none : Option Jvm.ClassFile.FieldType)]
set_option maxRecDepth 65536 in
theorem codes_eq : words1.filter isCode = codes1 := rfl
theorem w_codes : ∀ c ∈ words1.filter isCode, c.before args0 about1 = true := by
  rw [codes_eq]
  intro c hc
  simp only [codes1, List.mem_cons, List.not_mem_nil, or_false] at hc
  rcases hc with rfl | rfl
  · exact w_c0
  · exact w_c1
set_option maxRecDepth 65536 in
theorem w_t1 : words1.all (fun c => isCode c || c.before args0 about1) = true := by decide +kernel
theorem w_tables : (allAtoms (Jvm.Cond.code x code maxLocals ret :: tables_1)).before args0 about1 = true := by
  rw [allAtoms_all]
  show words1.all (fun c => c.before args0 about1) = true
  refine all_split ?_ w_codes
  rw [w_t1]
set_option maxRecDepth 65536 in
theorem w_case : (Jvm.Cond.and given_1 narrow_1).before args0 about1 = true := by decide +kernel
theorem w_applies : (headSpec (Jvm.Cond.code x code maxLocals ret :: tables_1) room_1).applies x e0.platform about1 = true :=
  (Spec.applies_iff w_frames).mpr ⟨w_running, w_runnable, w_alone, w_named, w_hears, w_ripe, w_room, w_tables⟩
theorem atStart : AtStart classFile x code maxLocals ret World_1 tables_1 room_1 Calls_1 rest_1 Pre_1 launch0 p0 e0 about1 theMethod args0 below0 :=
  ⟨lists_1, trivial, launch0.admits_env _ _ _, launch0.least_env, fairChoices_fair.cas, fairChoices_fair.clock, w_frames, w_args, w_heap, w_applies, trivial, trivial, w_case⟩
end start1
theorem witness_1 : WitnessClaimed_1 := ⟨start1.p0, start1.e0, start1.about1, start1.theMethod, start1.args0, start1.below0, start1.atStart⟩
end Jvm.Pilot.@@N@@
