import JvmDerived
import JvmDerived.Pilot.@@N@@Statement
import JvmDerived.Pilot.@@N@@Code
set_option linter.unusedVariables false
set_option linter.unusedSimpArgs false
namespace Jvm.Pilot.@@N@@.OwnF
open Jvm.FP.Core
/-- one, in units of 2^-1074 -/
def own_P : Nat := 2 ^ 1074
theorem own_P_pos : 0 < own_P := Nat.two_pow_pos _
/-- a datum's value, in units of 2^-1074 -/
def own_V : Datum → Int
  | .fin s c q => signed s (inUnits c q (-1074))
  | _ => 0
theorem own_qmin : b64.qmin = -1074 := by decide
theorem own_signed_mul (s : Bool) (c k : Nat) : signed s (c * k) = signed s c * (k : Int) := by
  unfold signed
  split
  · rw [Int.natCast_mul, Int.neg_mul]
  · rw [Int.natCast_mul]
theorem own_compare_mul {a b : Int} {k : Int} (hk : 0 < k) : compare (a * k) (b * k) = compare a b := by
  rcases Int.lt_trichotomy a b with h | h | h
  · have h2 : a * k < b * k := Int.mul_lt_mul_of_pos_right h hk
    rw [Int.compare_eq_lt.mpr h, Int.compare_eq_lt.mpr h2]
  · subst h; rw [Int.compare_eq_eq.mpr rfl, Int.compare_eq_eq.mpr rfl]
  · have h2 : b * k < a * k := Int.mul_lt_mul_of_pos_right h hk
    rw [Int.compare_eq_gt.mpr h, Int.compare_eq_gt.mpr h2]
theorem own_order {s t : Bool} {c d : Nat} {q r : Int} (h1 : -1074 ≤ q) (h2 : -1074 ≤ r) :
    order (.fin s c q) (.fin t d r) = some (compare (own_V (.fin s c q)) (own_V (.fin t d r))) := by
  show some (compare (signed s (inUnits c q (min q r))) (signed t (inUnits d r (min q r)))) = some (compare (signed s (inUnits c q (-1074))) (signed t (inUnits d r (-1074))))
  rw [inUnits_move c (e := -1074) (r := min q r) (q := q) (by omega) (by omega), inUnits_move d (e := -1074) (r := min q r) (q := r) (by omega) (by omega), own_signed_mul, own_signed_mul, own_compare_mul]
  have := Nat.two_pow_pos (min q r - -1074).toNat
  omega
/-- finite, with this value -/
def own_Is (a : UInt64) (v : Int) : Prop := ∃ s c q, val64 a = .fin s c q ∧ own_V (.fin s c q) = v
theorem own_Is.cmp {a b : UInt64} {v w : Int} (ha : own_Is a v) (hb : own_Is b w) : dcmp a b = some (compare v w) := by
  obtain ⟨s, c, q, h1, rfl⟩ := ha
  obtain ⟨t, d, r, h2, rfl⟩ := hb
  have f1 := val64_fits a
  have f2 := val64_fits b
  rw [h1] at f1
  rw [h2] at f2
  show order (val64 a) (val64 b) = _
  rw [h1, h2]
  exact own_order (by have := f1.2.1; rw [own_qmin] at this; exact this) (by have := f2.2.1; rw [own_qmin] at this; exact this)
theorem own_Is.noNaN {a : UInt64} {v : Int} (ha : own_Is a v) : val64 a ≠ .nan := by
  obtain ⟨s, c, q, h1, -⟩ := ha
  rw [h1]; exact fun h => by cases h
theorem own_units0 (n : Nat) : inUnits n 0 (-1074) = n * own_P := by
  have e : ((0 : Int) - (-1074)).toNat = 1074 := by decide
  unfold inUnits own_P
  rw [e]
theorem own_whole {i : Int} {a : UInt64} (h : DInt i a) : own_Is a (i * (own_P : Int)) := by
  unfold DInt at h
  have f := val64_fits a
  cases e : val64 a with
  | nan => rw [e] at h; exact h.elim
  | inf s => rw [e] at h; exact h.elim
  | fin s c q =>
    rw [e] at h f
    refine ⟨s, c, q, e, ?_⟩
    have hq : -1074 ≤ q := by have := f.2.1; rw [own_qmin] at this; exact this
    have h' : signed s (c * 2 ^ q.toNat) = i * ((2 ^ (-q).toNat : Nat) : Int) := h
    show signed s (c * 2 ^ (q - -1074).toNat) = _
    have e1 : c * 2 ^ (q - -1074).toNat * 2 ^ (-q).toNat = c * 2 ^ q.toNat * own_P := by
      unfold own_P
      rw [Nat.mul_assoc, Nat.mul_assoc, ← Nat.pow_add, ← Nat.pow_add]
      congr 2; omega
    have e2 : signed s (c * 2 ^ (q - -1074).toNat) * ((2 ^ (-q).toNat : Nat) : Int) = (i * (own_P : Int)) * ((2 ^ (-q).toNat : Nat) : Int) := by
      rw [← own_signed_mul, e1, own_signed_mul, h', Int.mul_assoc, Int.mul_comm ((2 ^ (-q).toNat : Nat) : Int), ← Int.mul_assoc]
    have p : (0 : Int) < ((2 ^ (-q).toNat : Nat) : Int) := by have := Nat.two_pow_pos (-q).toNat; omega
    exact Int.eq_of_mul_eq_mul_right (Int.ne_of_gt p) e2
theorem own_rr (f : Fmt) (s : Bool) (A B : Nat) (e : Int) : (∃ c q, roundRatio f s A B e = .fin s c q) ∨ roundRatio f s A B e = .inf s := by
  unfold roundRatio
  split
  · exact Or.inl ⟨_, _, rfl⟩
  · unfold roundAt settle bound
    split
    · split
      · exact Or.inl ⟨_, _, rfl⟩
      · exact Or.inr rfl
    · split
      · exact Or.inl ⟨_, _, rfl⟩
      · exact Or.inr rfl
theorem own_near {A M Y J : Nat} (hJ : 0 < J) (h : ((A : Int) - (M : Int) * (J : Int)).natAbs ≤ ((A : Int) - (Y : Int) * (J : Int)).natAbs) : (A ≤ Y * J → M ≤ Y) ∧ (Y * J ≤ A → Y ≤ M) := by
  rw [← Int.natCast_mul, ← Int.natCast_mul] at h
  constructor
  · intro h1
    refine Nat.le_of_not_lt fun h2 => ?_
    have h3 : (Y + 1) * J ≤ M * J := Nat.mul_le_mul_right J h2
    rw [Nat.add_mul, Nat.one_mul] at h3
    generalize M * J = x at *
    generalize Y * J = y at *
    omega
  · intro h1
    refine Nat.le_of_not_lt fun h2 => ?_
    have h3 : (M + 1) * J ≤ Y * J := Nat.mul_le_mul_right J h2
    rw [Nat.add_mul, Nat.one_mul] at h3
    generalize M * J = x at *
    generalize Y * J = y at *
    omega
/-- a magnitude A / J, rounded: it lies on the same side of every number of the format -/
theorem own_ratio {s : Bool} {A J : Nat} (hJ : 0 < J) (hA : A < 2 ^ 100) :
    ∃ c q, roundRatio b64 s A J 0 = .fin s c q ∧ (A = 0 → c = 0) ∧
      ∀ c' q', c' < 2 ^ 53 → -1074 ≤ q' → (A * own_P ≤ inUnits c' q' (-1074) * J → inUnits c q (-1074) ≤ inUnits c' q' (-1074)) ∧ (inUnits c' q' (-1074) * J ≤ A * own_P → inUnits c' q' (-1074) ≤ inUnits c q (-1074)) := by
  rcases own_rr b64 s A J 0 with ⟨c, q, e⟩ | e
  · refine ⟨c, q, e, fun h0 => ?_, fun c' q' g1 g2 => ?_⟩
    · unfold roundRatio at e
      rw [if_pos h0] at e
      cases e; rfl
    · have w := roundRatio_nearest good_b64 hJ e (c' := c') (q' := q') g1 (by rw [own_qmin]; exact g2) (e0 := -1074) (by rw [own_qmin]; omega) (by omega)
      unfold distance at w
      rw [own_units0] at w
      exact own_near hJ w
  · exfalso
    rw [roundRatio_inf good_b64 hJ (e0 := -1075) (by rw [own_qmin]; omega) (by omega)] at e
    have k0 : ((0 : Int) - (-1075)).toNat = 1075 := by decide
    have k1 : inUnits A 0 (-1075) = A * 2 ^ 1075 := by unfold inUnits; rw [k0]
    rw [k1] at e
    have k2 : (2 : Nat) ^ 100 * 2 ^ 1075 ≤ (2 ^ (b64.p + 1) - 1) * 2 ^ (b64.qmax - 1 - -1075).toNat := by decide +kernel
    have k3 : A * 2 ^ 1075 < 2 ^ 100 * 2 ^ 1075 := Nat.mul_lt_mul_of_pos_right hA (Nat.two_pow_pos _)
    have k4 : (2 ^ (b64.p + 1) - 1) * 2 ^ (b64.qmax - 1 - -1075).toNat * 1 ≤ (2 ^ (b64.p + 1) - 1) * 2 ^ (b64.qmax - 1 - -1075).toNat * J := Nat.mul_le_mul_left _ hJ
    rw [Nat.mul_one] at k4
    exact absurd (Nat.lt_of_lt_of_le k3 (Nat.le_trans k2 (Nat.le_trans k4 e))) (Nat.lt_irrefl _)
/-- the quotient of two whole numbers, as a rounded ratio -/
theorem own_divr {i j : Int} {a b : UInt64} (ha : DInt i a) (hb : DInt j b) (hj : j ≠ 0) :
    ∃ s, (i ≠ 0 → s = (decide (i < 0) != decide (j < 0))) ∧ val64 (ddiv a b) = roundRatio b64 s i.natAbs j.natAbs 0 := by
  unfold DInt at ha hb
  cases e1 : val64 a with
  | nan => rw [e1] at ha; exact ha.elim
  | inf s => rw [e1] at ha; exact ha.elim
  | fin s c q =>
  cases e2 : val64 b with
  | nan => rw [e2] at hb; exact hb.elim
  | inf s => rw [e2] at hb; exact hb.elim
  | fin t d r =>
  rw [e1] at ha
  rw [e2] at hb
  have d0 : d ≠ 0 := fun h => hj ((whole_zero hb).mp h)
  have hJ : 0 < j.natAbs := by omega
  have n1 := whole_natAbs ha
  have n2 := whole_natAbs hb
  refine ⟨s != t, fun hi0 => by rw [whole_sign ha hi0, whole_sign hb hj], ?_⟩
  rw [val64_ddiv, e1, e2]
  show (if d = 0 then _ else roundRatio b64 (s != t) c d (q - r)) = _
  rw [if_neg d0]
  refine roundRatio_congr (by omega) hJ ?_
  refine Nat.eq_of_mul_eq_mul_right (Nat.two_pow_pos (min q.toNat r.toNat + min (-q).toNat (-r).toNat)) ?_
  have x1 : (q - r - 0).toNat + (min q.toNat r.toNat + min (-q).toNat (-r).toNat) = q.toNat + (-r).toNat := by omega
  have x2 : (0 - (q - r)).toNat + (min q.toNat r.toNat + min (-q).toNat (-r).toNat) = r.toNat + (-q).toNat := by omega
  rw [Nat.mul_assoc, ← Nat.pow_add, x1, Nat.mul_assoc (i.natAbs * d), ← Nat.pow_add, x2, Nat.pow_add, Nat.pow_add]
  calc c * j.natAbs * (2 ^ q.toNat * 2 ^ (-r).toNat) = (c * 2 ^ q.toNat) * (j.natAbs * 2 ^ (-r).toNat) := by ac_rfl
    _ = (i.natAbs * 2 ^ (-q).toNat) * (d * 2 ^ r.toNat) := by rw [n1, n2]
    _ = i.natAbs * d * (2 ^ r.toNat * 2 ^ (-q).toNat) := by ac_rfl
/-- the rounded quotient of whole numbers: sign and magnitude -/
theorem own_div {i j : Int} {a b : UInt64} (ha : DInt i a) (hb : DInt j b) (hj : j ≠ 0) (hi : i.natAbs < 2 ^ 100) :
    ∃ (s : Bool) (M : Nat), own_Is (ddiv a b) (signed s M) ∧ (i ≠ 0 → s = (decide (i < 0) != decide (j < 0))) ∧ (i = 0 → M = 0) ∧
      ∀ c' q', c' < 2 ^ 53 → -1074 ≤ q' → (i.natAbs * own_P ≤ inUnits c' q' (-1074) * j.natAbs → M ≤ inUnits c' q' (-1074)) ∧ (inUnits c' q' (-1074) * j.natAbs ≤ i.natAbs * own_P → inUnits c' q' (-1074) ≤ M) := by
  obtain ⟨s, hs, e⟩ := own_divr ha hb hj
  obtain ⟨c, q, e2, h0, hn⟩ := own_ratio (s := s) (A := i.natAbs) (J := j.natAbs) (by omega) hi
  refine ⟨s, inUnits c q (-1074), ⟨s, c, q, e.trans e2, rfl⟩, hs, fun hi0 => ?_, hn⟩
  rw [h0 (by omega)]; unfold inUnits; exact Nat.zero_mul _
end Jvm.Pilot.@@N@@.OwnF
namespace Jvm.Pilot.@@N@@
open Jvm Jvm.ClassFile Sem Op Lib Jvm.Free Jvm.Stand Jvm.LawKit Jvm.RoadKit Bundle Jvm.Pilot.@@N@@.Jvm.D
def own_Q (r : Option Value) (h0 : Heap) (n0 : Nat) (v : Option Value) (h : Heap) (L : List Loc) : Prop := v = r ∧ Fr n0 L ∧ h = h0
def own_R (r : Option Value) (n0 : Nat) (v : Option Value) (h : Heap) (L : List Loc) : Prop := v = r ∧ Fr n0 L
theorem pn_0 : plainName "java/lang/Record" = true := by first | (simp [plainName, overriddenIn]; done) | decide +kernel
theorem ef_rm2 (m : MethodId) (x0 : Addr) : entryFrame m #[(.ref x0)] 1 = mkF m 0 #[.val (.ref x0)] [] := by first | (simp [entryFrame, mkF, argsToLocals, Value.category]; done) | rfl
theorem d2_0 : decode jdk_30_method_1_code 0 = .ok (.aload_n 0, 1) := by decide +kernel
theorem d2_1 : decode jdk_30_method_1_code 1 = .ok (.invokespecial 1, 3) := by decide +kernel
theorem d2_4 : decode jdk_30_method_1_code 4 = .ok (.return_, 1) := by decide +kernel
set_option maxRecDepth 65536 in
set_option maxHeartbeats 40000000 in
theorem rm2 (l : Launch) (Z : State) (a0 : Array Value) (hw : ∀ d ∈ tables_1, d.before a0 Z = true) (ws : List Jvm.Cond) (r0 : Addr) (h0 : Heap) (n0 : Nat) :
    MetFree l (⟨"java/lang/Record", "<init>", "()V"⟩ : MethodName) (head1 (Jvm.Cond.code (⟨"java/lang/Record", "<init>", "()V"⟩ : MethodName) jdk_30_method_1_code 1 none :: ws) ({ frames := 1, cells := 0, slots := 0, locals := 12 } : Room)) (fun a U => a = #[(.ref r0)] ∧ Z.Warmed39 U.vm ∧ U.heap = h0) (fun _ _ _ _ _ => True) (fun _ U o U' => ∃ v L, o = .returned v ∧ own_Q (none) h0 n0 v U'.heap L ∧ FrameEnd U o U' L ({ frames := 1, cells := 0, slots := 0, locals := 12 } : Room).cells ({ frames := 1, cells := 0, slots := 0, locals := 12 } : Room).slots) := by
  refine MetFree.of_bodySF (plainFor_of_name pn_0) hisR ?_
  intro p e s m args below meth c s₁ Bd hml0 hP hK
  obtain ⟨rfl, hZ, hh⟩ := hP
  have hx := Bd.exec
  have hby := Bd.bytes
  have hml : c.maxLocals = 1 := hml0
  have hown : s.vm.findClass "java/lang/Record" = some m.cls := findClass_of_methodNamed Bd.named
  have hnm := (name_of_methodNamed Bd.named Bd.method).1
  have X0 : Stand p l e ({ frames := 1, cells := 0, slots := 0, locals := 12 } : Room) s m #[(.ref r0)] below meth c s₁ [] 0 0 := Stand.of_body Bd
  have e0 : s₁.heap = h0 := by rw [← hh, Bd.state]; rfl
  have N0 := Fr.nil n0
  have pre0 : ∀ t, Steps p.tables e below (s₁.setTop (mkF m 0 #[.val (.ref r0)] [])) t → Steps p.tables e below (s₁.setTop (entryFrame m #[(.ref r0)] 1)) t := fun t k => castTop (ef_rm2 m r0) k
  obtain ⟨T1, X1, e1, st1⟩ := initO X0 hx hZ hown (hw _ (List.mem_of_getElem? (i := 14) rfl)) (hw _ (List.mem_of_getElem? (i := 15) rfl)) (hw _ (List.mem_of_getElem? (i := 16) rfl)) e0 (g := (mkF m 1 #[.val (.ref r0)] [(.ref r0)])) rfl (by rw [hml]; rfl) rfl (hb hby d2_1) (by decide) (W := 0) (by show 2 * 0 + _ ≤ _; exact Nat.le_of_eq rfl) (by decide)
  have k2 : ∀ t, Steps p.tables e below (T1.setTop (mkF m 4 #[.val (.ref r0)] [])) t → Steps p.tables e below (s₁.setTop (entryFrame m #[(.ref r0)] 1)) t := by
    intro t k
    refine pre0 _ ?_
    show Steps p.tables e below (s₁.setTop (mkF m 0 #[.val (.ref r0)] [])) _
    refine XS.aloadN X0.here hx rfl (hb hby d2_0) rfl rfl ?_
    show Steps p.tables e below (s₁.setTop (mkF m 1 #[.val (.ref r0)] [(.ref r0)])) _
    refine st1 _ ?_
    exact k
  obtain ⟨fs, hr, hrun, hended, hW, hsame⟩ := X1.leave (v := none) (fun _ => rfl)
  refine ⟨_, _, k2 _ ?_, hrun, hended, _, _, rfl, ?_, ⟨_, rfl⟩, hW, hsame.mono (by decide) (by decide)⟩
  · exact X1.returnOut hx Bd.returns (hb hby d2_4) hr
  · show own_Q (none) h0 n0 _ T1.heap _
    rw [e1]
    exact ⟨rfl, N0, rfl⟩
theorem pn_1 : plainName "com/example/lightloom/lightloom/plan/Simulation$Result" = true := by first | (simp [plainName, overriddenIn]; done) | decide +kernel
theorem ef_rm1 (m : MethodId) (x0 : Addr) (x1 : Int32) (x2 : Int32) (x3 : UInt64) (x4 : Int64) : entryFrame m #[(.ref x0), (.int x1), (.int x2), (.double x3), (.long x4)] 7 = mkF m 0 #[.val (.ref x0), .val (.int x1), .val (.int x2), .val (.double x3), .second, .val (.long x4), .second] [] := by first | (simp [entryFrame, mkF, argsToLocals, Value.category]; done) | rfl
theorem d1_0 : decode prog_49_method_1_code 0 = .ok (.aload_n 0, 1) := by decide +kernel
theorem pd_0 : parseMethodDescriptor "()V" = some ⟨[], none⟩ := by decide +kernel
theorem d1_1 : decode prog_49_method_1_code 1 = .ok (.invokespecial 1, 3) := by decide +kernel
theorem d1_4 : decode prog_49_method_1_code 4 = .ok (.aload_n 0, 1) := by decide +kernel
theorem d1_5 : decode prog_49_method_1_code 5 = .ok (.iload_n 1, 1) := by decide +kernel
theorem d1_6 : decode prog_49_method_1_code 6 = .ok (.putfield 7, 3) := by decide +kernel
theorem d1_9 : decode prog_49_method_1_code 9 = .ok (.aload_n 0, 1) := by decide +kernel
theorem d1_10 : decode prog_49_method_1_code 10 = .ok (.iload_n 2, 1) := by decide +kernel
theorem d1_11 : decode prog_49_method_1_code 11 = .ok (.putfield 13, 3) := by decide +kernel
theorem d1_14 : decode prog_49_method_1_code 14 = .ok (.aload_n 0, 1) := by decide +kernel
theorem d1_15 : decode prog_49_method_1_code 15 = .ok (.dload_n 3, 1) := by decide +kernel
theorem d1_16 : decode prog_49_method_1_code 16 = .ok (.putfield 16, 3) := by decide +kernel
theorem d1_19 : decode prog_49_method_1_code 19 = .ok (.aload_n 0, 1) := by decide +kernel
theorem d1_20 : decode prog_49_method_1_code 20 = .ok (.lload 5, 2) := by decide +kernel
theorem d1_22 : decode prog_49_method_1_code 22 = .ok (.putfield 20, 3) := by decide +kernel
theorem d1_25 : decode prog_49_method_1_code 25 = .ok (.return_, 1) := by decide +kernel
def own_C1 (Z : State) (r0 : Addr) (p1 : Int32) (p2 : Int32) (d3 : UInt64) (q4 : Int64) (h0 : Heap) (n0 : Nat) (v : Option Value) (h : Heap) (L : List Loc) : Prop := v = none ∧ Fr n0 L ∧ Keep h0 h [r0] ∧ Exa Z h r0 "com/example/lightloom/lightloom/plan/Simulation$Result" ∧ Fld Z h r0 "com/example/lightloom/lightloom/plan/Simulation$Result" "arrivals" "I" (.int p1) ∧ Fld Z h r0 "com/example/lightloom/lightloom/plan/Simulation$Result" "blocked" "I" (.int p2) ∧ Fld Z h r0 "com/example/lightloom/lightloom/plan/Simulation$Result" "carriedHops" "J" (.long q4)
set_option maxRecDepth 65536 in
set_option maxHeartbeats 40000000 in
theorem rm1 (l : Launch) (Z : State) (a0 : Array Value) (hw : ∀ d ∈ tables_1, d.before a0 Z = true) (ws : List Jvm.Cond) (r0 : Addr) (p1 : Int32) (p2 : Int32) (d3 : UInt64) (q4 : Int64) (h0 : Heap) (n0 : Nat) (Z0 : n0 ≤ h0.size) (g_r0 : n0 ≤ r0) (E_r0 : Exa Z h0 r0 "com/example/lightloom/lightloom/plan/Simulation$Result") (F_arrivals_r0 : Fld Z h0 r0 "com/example/lightloom/lightloom/plan/Simulation$Result" "arrivals" "I" (.int (0 : Int32))) (F_blocked_r0 : Fld Z h0 r0 "com/example/lightloom/lightloom/plan/Simulation$Result" "blocked" "I" (.int (0 : Int32))) (F_standardError_r0 : Fld Z h0 r0 "com/example/lightloom/lightloom/plan/Simulation$Result" "standardError" "D" (.double (0 : UInt64))) (F_carriedHops_r0 : Fld Z h0 r0 "com/example/lightloom/lightloom/plan/Simulation$Result" "carriedHops" "J" (.long (0 : Int64))) :
    MetFree l (⟨"com/example/lightloom/lightloom/plan/Simulation$Result", "<init>", "(IIDJ)V"⟩ : MethodName) (head1 (Jvm.Cond.code (⟨"com/example/lightloom/lightloom/plan/Simulation$Result", "<init>", "(IIDJ)V"⟩ : MethodName) prog_49_method_1_code 7 none :: ws) ({ frames := 2, cells := 0, slots := 0, locals := 24 } : Room)) (fun a U => a = #[(.ref r0), (.int p1), (.int p2), (.double d3), (.long q4)] ∧ Z.Warmed39 U.vm ∧ U.heap = h0) (fun _ _ _ _ _ => True) (fun _ U o U' => ∃ v L, o = .returned v ∧ own_C1 Z r0 p1 p2 d3 q4 h0 n0 v U'.heap L ∧ FrameEnd U o U' L ({ frames := 2, cells := 0, slots := 0, locals := 24 } : Room).cells ({ frames := 2, cells := 0, slots := 0, locals := 24 } : Room).slots) := by
  refine MetFree.of_bodySF (plainFor_of_name pn_1) hisR ?_
  intro p e s m args below meth c s₁ Bd hml0 hP hK
  obtain ⟨rfl, hZ, hh⟩ := hP
  have hx := Bd.exec
  have hby := Bd.bytes
  have hml : c.maxLocals = 7 := hml0
  have hown : s.vm.findClass "com/example/lightloom/lightloom/plan/Simulation$Result" = some m.cls := findClass_of_methodNamed Bd.named
  have hnm := (name_of_methodNamed Bd.named Bd.method).1
  have X0 : Stand p l e ({ frames := 2, cells := 0, slots := 0, locals := 24 } : Room) s m #[(.ref r0), (.int p1), (.int p2), (.double d3), (.long q4)] below meth c s₁ [] 0 0 := Stand.of_body Bd
  have e0 : s₁.heap = h0 := by rw [← hh, Bd.state]; rfl
  have N0 := Fr.nil n0
  have pre0 : ∀ t, Steps p.tables e below (s₁.setTop (mkF m 0 #[.val (.ref r0), .val (.int p1), .val (.int p2), .val (.double d3), .second, .val (.long q4), .second] [])) t → Steps p.tables e below (s₁.setTop (entryFrame m #[(.ref r0), (.int p1), (.int p2), (.double d3), (.long q4)] 7)) t := fun t k => castTop (ef_rm1 m r0 p1 p2 d3 q4) k
  have K0 : Keep h0 h0 [r0] := Keep.refl _ _
  obtain ⟨_, _, ⟨T1, L1, k1_, n1⟩, -, X1, ⟨Lc1, hQ1, l1, y1, z1⟩, st1⟩ := X0.specialBack hx (y := (⟨"java/lang/Record", "<init>", "()V"⟩ : MethodName)) rfl hown (mvT hZ (hw _ (List.mem_of_getElem? (i := 9) rfl))) (mvT hZ (hw _ (List.mem_of_getElem? (i := 10) rfl))) (mvT hZ (hw _ (List.mem_of_getElem? (i := 13) rfl))) (by decide) (backOf (W := 0) (rm2 l Z a0 hw [] r0 h0 n0 ) hZ (hw _ (List.mem_of_getElem? (i := 13) rfl)) (hw _ (List.mem_of_getElem? (i := 12) rfl)) (by decide) (by decide)) (g := (mkF m 1 #[.val (.ref r0), .val (.int p1), .val (.int p2), .val (.double d3), .second, .val (.long q4), .second] [(.ref r0)])) rfl (by rw [hml]; rfl) (Steps.refl _) (a := r0) (argsL := []) (rest := []) (lenOf pd_0 rfl) rfl (by show 2 * 0 + _ ≤ _; exact Nat.le_of_eq rfl) (hb hby d1_1) (fun _ _ => ⟨rfl, e0, (by decide : 0 + 0 ≤ _), (by decide : 0 + 0 ≤ _)⟩)
  dsimp only [Pt.U, Pt.locs, Pt.cells, Pt.slots] at X1 l1 y1 z1 st1 hQ1
  subst l1 y1 z1
  obtain ⟨rfl, Nq1, e1⟩ := hQ1
  have N1 := Fr.app N0 Nq1
  obtain ⟨T2, h2, X2, e2, W2, st2⟩ := putF X1 hx hZ hown (host := "") (Or.inl (hw _ (List.mem_of_getElem? (i := 17) rfl))) Via.refl e1 F_arrivals_r0 E_r0 (Or.inr ⟨(hw _ (List.mem_of_getElem? (i := 18) rfl)), rfl, hnm⟩) (hw _ (List.mem_of_getElem? (i := 4) rfl)) (ty := .int) (by decide) rfl rfl (g := (mkF m 6 #[.val (.ref r0), .val (.int p1), .val (.int p2), .val (.double d3), .second, .val (.long q4), .second] [(.int p1), (.ref r0)])) rfl rfl (hb hby d1_6)
  replace E_r0 := E_r0.wr W2
  replace F_blocked_r0 := F_blocked_r0.other W2 (Or.inr (slot_ne (Or.inr (hw _ (List.mem_of_getElem? (i := 20) rfl))) (Or.inr (hw _ (List.mem_of_getElem? (i := 18) rfl))) (by decide) (t := .int) (t' := .int) (by decide) (by decide)))
  replace F_standardError_r0 := F_standardError_r0.other W2 (Or.inr (slot_ne (Or.inr (hw _ (List.mem_of_getElem? (i := 22) rfl))) (Or.inr (hw _ (List.mem_of_getElem? (i := 18) rfl))) (by decide) (t := .double) (t' := .int) (by decide) (by decide)))
  replace F_carriedHops_r0 := F_carriedHops_r0.other W2 (Or.inr (slot_ne (Or.inr (hw _ (List.mem_of_getElem? (i := 24) rfl))) (Or.inr (hw _ (List.mem_of_getElem? (i := 18) rfl))) (by decide) (t := .long) (t' := .int) (by decide) (by decide)))
  replace K0 := K0.wr W2 (Or.inl (List.mem_of_getElem? (i := 0) rfl))
  replace F_arrivals_r0 := F_arrivals_r0.same W2
  have N2 := Fr.snoc X2 N1 g_r0
  have Zs2 : n0 ≤ h2.size := by rw [W2.size]; exact Z0
  obtain ⟨T3, h3, X3, e3, W3, st3⟩ := putF X2 hx hZ hown (host := "") (Or.inl (hw _ (List.mem_of_getElem? (i := 19) rfl))) Via.refl e2 F_blocked_r0 E_r0 (Or.inr ⟨(hw _ (List.mem_of_getElem? (i := 20) rfl)), rfl, hnm⟩) (hw _ (List.mem_of_getElem? (i := 4) rfl)) (ty := .int) (by decide) rfl rfl (g := (mkF m 11 #[.val (.ref r0), .val (.int p1), .val (.int p2), .val (.double d3), .second, .val (.long q4), .second] [(.int p2), (.ref r0)])) rfl rfl (hb hby d1_11)
  replace E_r0 := E_r0.wr W3
  replace F_arrivals_r0 := F_arrivals_r0.other W3 (Or.inr (slot_ne (Or.inr (hw _ (List.mem_of_getElem? (i := 18) rfl))) (Or.inr (hw _ (List.mem_of_getElem? (i := 20) rfl))) (by decide) (t := .int) (t' := .int) (by decide) (by decide)))
  replace F_standardError_r0 := F_standardError_r0.other W3 (Or.inr (slot_ne (Or.inr (hw _ (List.mem_of_getElem? (i := 22) rfl))) (Or.inr (hw _ (List.mem_of_getElem? (i := 20) rfl))) (by decide) (t := .double) (t' := .int) (by decide) (by decide)))
  replace F_carriedHops_r0 := F_carriedHops_r0.other W3 (Or.inr (slot_ne (Or.inr (hw _ (List.mem_of_getElem? (i := 24) rfl))) (Or.inr (hw _ (List.mem_of_getElem? (i := 20) rfl))) (by decide) (t := .long) (t' := .int) (by decide) (by decide)))
  replace K0 := K0.wr W3 (Or.inl (List.mem_of_getElem? (i := 0) rfl))
  replace F_blocked_r0 := F_blocked_r0.same W3
  have N3 := Fr.snoc X3 N2 g_r0
  have Zs3 : n0 ≤ h3.size := by rw [W3.size]; exact Zs2
  obtain ⟨T4, h4, X4, e4, W4, st4⟩ := putF X3 hx hZ hown (host := "") (Or.inl (hw _ (List.mem_of_getElem? (i := 21) rfl))) Via.refl e3 F_standardError_r0 E_r0 (Or.inr ⟨(hw _ (List.mem_of_getElem? (i := 22) rfl)), rfl, hnm⟩) (hw _ (List.mem_of_getElem? (i := 4) rfl)) (ty := .double) (by decide) rfl rfl (g := (mkF m 16 #[.val (.ref r0), .val (.int p1), .val (.int p2), .val (.double d3), .second, .val (.long q4), .second] [(.double d3), (.ref r0)])) rfl rfl (hb hby d1_16)
  replace E_r0 := E_r0.wr W4
  replace F_arrivals_r0 := F_arrivals_r0.other W4 (Or.inr (slot_ne (Or.inr (hw _ (List.mem_of_getElem? (i := 18) rfl))) (Or.inr (hw _ (List.mem_of_getElem? (i := 22) rfl))) (by decide) (t := .int) (t' := .double) (by decide) (by decide)))
  replace F_blocked_r0 := F_blocked_r0.other W4 (Or.inr (slot_ne (Or.inr (hw _ (List.mem_of_getElem? (i := 20) rfl))) (Or.inr (hw _ (List.mem_of_getElem? (i := 22) rfl))) (by decide) (t := .int) (t' := .double) (by decide) (by decide)))
  replace F_carriedHops_r0 := F_carriedHops_r0.other W4 (Or.inr (slot_ne (Or.inr (hw _ (List.mem_of_getElem? (i := 24) rfl))) (Or.inr (hw _ (List.mem_of_getElem? (i := 22) rfl))) (by decide) (t := .long) (t' := .double) (by decide) (by decide)))
  replace K0 := K0.wr W4 (Or.inl (List.mem_of_getElem? (i := 0) rfl))
  replace F_standardError_r0 := F_standardError_r0.same W4
  have N4 := Fr.snoc X4 N3 g_r0
  have Zs4 : n0 ≤ h4.size := by rw [W4.size]; exact Zs3
  obtain ⟨T5, h5, X5, e5, W5, st5⟩ := putF X4 hx hZ hown (host := "") (Or.inl (hw _ (List.mem_of_getElem? (i := 23) rfl))) Via.refl e4 F_carriedHops_r0 E_r0 (Or.inr ⟨(hw _ (List.mem_of_getElem? (i := 24) rfl)), rfl, hnm⟩) (hw _ (List.mem_of_getElem? (i := 4) rfl)) (ty := .long) (by decide) rfl rfl (g := (mkF m 22 #[.val (.ref r0), .val (.int p1), .val (.int p2), .val (.double d3), .second, .val (.long q4), .second] [(.long q4), (.ref r0)])) rfl rfl (hb hby d1_22)
  replace E_r0 := E_r0.wr W5
  replace F_arrivals_r0 := F_arrivals_r0.other W5 (Or.inr (slot_ne (Or.inr (hw _ (List.mem_of_getElem? (i := 18) rfl))) (Or.inr (hw _ (List.mem_of_getElem? (i := 24) rfl))) (by decide) (t := .int) (t' := .long) (by decide) (by decide)))
  replace F_blocked_r0 := F_blocked_r0.other W5 (Or.inr (slot_ne (Or.inr (hw _ (List.mem_of_getElem? (i := 20) rfl))) (Or.inr (hw _ (List.mem_of_getElem? (i := 24) rfl))) (by decide) (t := .int) (t' := .long) (by decide) (by decide)))
  replace F_standardError_r0 := F_standardError_r0.other W5 (Or.inr (slot_ne (Or.inr (hw _ (List.mem_of_getElem? (i := 22) rfl))) (Or.inr (hw _ (List.mem_of_getElem? (i := 24) rfl))) (by decide) (t := .double) (t' := .long) (by decide) (by decide)))
  replace K0 := K0.wr W5 (Or.inl (List.mem_of_getElem? (i := 0) rfl))
  replace F_carriedHops_r0 := F_carriedHops_r0.same W5
  have N5 := Fr.snoc X5 N4 g_r0
  have Zs5 : n0 ≤ h5.size := by rw [W5.size]; exact Zs4
  have k6 : ∀ t, Steps p.tables e below (T5.setTop (mkF m 25 #[.val (.ref r0), .val (.int p1), .val (.int p2), .val (.double d3), .second, .val (.long q4), .second] [])) t → Steps p.tables e below (s₁.setTop (entryFrame m #[(.ref r0), (.int p1), (.int p2), (.double d3), (.long q4)] 7)) t := by
    intro t k
    refine pre0 _ ?_
    show Steps p.tables e below (s₁.setTop (mkF m 0 #[.val (.ref r0), .val (.int p1), .val (.int p2), .val (.double d3), .second, .val (.long q4), .second] [])) _
    refine XS.aloadN X0.here hx rfl (hb hby d1_0) rfl rfl ?_
    show Steps p.tables e below (s₁.setTop (mkF m 1 #[.val (.ref r0), .val (.int p1), .val (.int p2), .val (.double d3), .second, .val (.long q4), .second] [(.ref r0)])) _
    refine st1.trans ?_
    show Steps p.tables e below (T1.setTop (mkF m 4 #[.val (.ref r0), .val (.int p1), .val (.int p2), .val (.double d3), .second, .val (.long q4), .second] [])) _
    refine XS.aloadN X1.here hx rfl (hb hby d1_4) rfl rfl ?_
    show Steps p.tables e below (T1.setTop (mkF m 5 #[.val (.ref r0), .val (.int p1), .val (.int p2), .val (.double d3), .second, .val (.long q4), .second] [(.ref r0)])) _
    refine XS.iloadN X1.here hx rfl (hb hby d1_5) rfl ?_
    show Steps p.tables e below (T1.setTop (mkF m 6 #[.val (.ref r0), .val (.int p1), .val (.int p2), .val (.double d3), .second, .val (.long q4), .second] [(.int p1), (.ref r0)])) _
    refine st2 _ ?_
    show Steps p.tables e below (T2.setTop (mkF m 9 #[.val (.ref r0), .val (.int p1), .val (.int p2), .val (.double d3), .second, .val (.long q4), .second] [])) _
    refine XS.aloadN X2.here hx rfl (hb hby d1_9) rfl rfl ?_
    show Steps p.tables e below (T2.setTop (mkF m 10 #[.val (.ref r0), .val (.int p1), .val (.int p2), .val (.double d3), .second, .val (.long q4), .second] [(.ref r0)])) _
    refine XS.iloadN X2.here hx rfl (hb hby d1_10) rfl ?_
    show Steps p.tables e below (T2.setTop (mkF m 11 #[.val (.ref r0), .val (.int p1), .val (.int p2), .val (.double d3), .second, .val (.long q4), .second] [(.int p2), (.ref r0)])) _
    refine st3 _ ?_
    show Steps p.tables e below (T3.setTop (mkF m 14 #[.val (.ref r0), .val (.int p1), .val (.int p2), .val (.double d3), .second, .val (.long q4), .second] [])) _
    refine XS.aloadN X3.here hx rfl (hb hby d1_14) rfl rfl ?_
    show Steps p.tables e below (T3.setTop (mkF m 15 #[.val (.ref r0), .val (.int p1), .val (.int p2), .val (.double d3), .second, .val (.long q4), .second] [(.ref r0)])) _
    refine XS.dloadN X3.here hx rfl (hb hby d1_15) rfl ?_
    show Steps p.tables e below (T3.setTop (mkF m 16 #[.val (.ref r0), .val (.int p1), .val (.int p2), .val (.double d3), .second, .val (.long q4), .second] [(.double d3), (.ref r0)])) _
    refine st4 _ ?_
    show Steps p.tables e below (T4.setTop (mkF m 19 #[.val (.ref r0), .val (.int p1), .val (.int p2), .val (.double d3), .second, .val (.long q4), .second] [])) _
    refine XS.aloadN X4.here hx rfl (hb hby d1_19) rfl rfl ?_
    show Steps p.tables e below (T4.setTop (mkF m 20 #[.val (.ref r0), .val (.int p1), .val (.int p2), .val (.double d3), .second, .val (.long q4), .second] [(.ref r0)])) _
    refine XS.lload X4.here hx rfl (hb hby d1_20) rfl ?_
    show Steps p.tables e below (T4.setTop (mkF m 22 #[.val (.ref r0), .val (.int p1), .val (.int p2), .val (.double d3), .second, .val (.long q4), .second] [(.long q4), (.ref r0)])) _
    refine st5 _ ?_
    exact k
  obtain ⟨fs, hr, hrun, hended, hW, hsame⟩ := X5.leave (v := none) (fun _ => rfl)
  refine ⟨_, _, k6 _ ?_, hrun, hended, _, _, rfl, ?_, ⟨_, rfl⟩, hW, hsame.mono (by decide) (by decide)⟩
  · exact X5.returnOut hx Bd.returns (hb hby d1_25) hr
  · show own_C1 Z r0 p1 p2 d3 q4 h0 n0 _ T5.heap _
    rw [e5]
    exact ⟨rfl, N5, K0, E_r0, F_arrivals_r0, F_blocked_r0, F_carriedHops_r0⟩
theorem ef_rm5 (m : MethodId) (x0 : Addr) : entryFrame m #[(.ref x0)] 1 = mkF m 0 #[.val (.ref x0)] [] := by first | (simp [entryFrame, mkF, argsToLocals, Value.category]; done) | rfl
theorem d5_0 : decode prog_49_method_2_code 0 = .ok (.aload_n 0, 1) := by decide +kernel
theorem d5_1 : decode prog_49_method_2_code 1 = .ok (.getfield 7, 3) := by decide +kernel
theorem d5_4 : decode prog_49_method_2_code 4 = .ok (.aload_n 0, 1) := by decide +kernel
theorem d5_5 : decode prog_49_method_2_code 5 = .ok (.getfield 13, 3) := by decide +kernel
theorem d5_8 : decode prog_49_method_2_code 8 = .ok (.isub, 1) := by decide +kernel
theorem d5_9 : decode prog_49_method_2_code 9 = .ok (.ireturn, 1) := by decide +kernel
def own_car (fa fb : Int32) : Int32 := (fa - fb)
set_option maxRecDepth 65536 in
set_option maxHeartbeats 40000000 in
theorem rm5 (l : Launch) (Z : State) (a0 : Array Value) (hw : ∀ d ∈ tables_1, d.before a0 Z = true) (ws : List Jvm.Cond) (r0 : Addr) (fa fb : Int32) (h0 : Heap) (n0 : Nat) (Farrivals : Fld Z h0 r0 "com/example/lightloom/lightloom/plan/Simulation$Result" "arrivals" "I" (.int fa)) (Fblocked : Fld Z h0 r0 "com/example/lightloom/lightloom/plan/Simulation$Result" "blocked" "I" (.int fb)) :
    MetFree l (⟨"com/example/lightloom/lightloom/plan/Simulation$Result", "carried", "()I"⟩ : MethodName) (head1 (Jvm.Cond.code (⟨"com/example/lightloom/lightloom/plan/Simulation$Result", "carried", "()I"⟩ : MethodName) prog_49_method_2_code 1 (some .int) :: ws) ({ frames := 0, cells := 0, slots := 0, locals := 0 } : Room)) (fun a U => a = #[(.ref r0)] ∧ Z.Warmed39 U.vm ∧ U.heap = h0) (fun _ _ _ _ _ => True) (fun _ U o U' => ∃ v L, o = .returned v ∧ own_Q (some (.int (own_car fa fb))) h0 n0 v U'.heap L ∧ FrameEnd U o U' L ({ frames := 0, cells := 0, slots := 0, locals := 0 } : Room).cells ({ frames := 0, cells := 0, slots := 0, locals := 0 } : Room).slots) := by
  refine MetFree.of_bodySF (plainFor_of_name pn_1) hisR ?_
  intro p e s m args below meth c s₁ Bd hml0 hP hK
  obtain ⟨rfl, hZ, hh⟩ := hP
  have hx := Bd.exec
  have hby := Bd.bytes
  have hml : c.maxLocals = 1 := hml0
  have hown : s.vm.findClass "com/example/lightloom/lightloom/plan/Simulation$Result" = some m.cls := findClass_of_methodNamed Bd.named
  have hnm := (name_of_methodNamed Bd.named Bd.method).1
  have X0 : Stand p l e ({ frames := 0, cells := 0, slots := 0, locals := 0 } : Room) s m #[(.ref r0)] below meth c s₁ [] 0 0 := Stand.of_body Bd
  have e0 : s₁.heap = h0 := by rw [← hh, Bd.state]; rfl
  have N0 := Fr.nil n0
  have pre0 : ∀ t, Steps p.tables e below (s₁.setTop (mkF m 0 #[.val (.ref r0)] [])) t → Steps p.tables e below (s₁.setTop (entryFrame m #[(.ref r0)] 1)) t := fun t k => castTop (ef_rm5 m r0) k
  obtain ⟨T1, X1, e1, st1⟩ := getF X0 hx hZ hown (host := "") (Or.inl (hw _ (List.mem_of_getElem? (i := 17) rfl))) Via.refl e0 Farrivals (g := (mkF m 1 #[.val (.ref r0)] [(.ref r0)])) rfl rfl (hb hby d5_1)
  obtain ⟨T2, X2, e2, st2⟩ := getF X1 hx hZ hown (host := "") (Or.inl (hw _ (List.mem_of_getElem? (i := 19) rfl))) Via.refl e1 Fblocked (g := (mkF m 5 #[.val (.ref r0)] [(.ref r0), (.int fa)])) rfl rfl (hb hby d5_5)
  have k3 : ∀ t, Steps p.tables e below (T2.setTop (mkF m 9 #[.val (.ref r0)] [(.int (fa - fb))])) t → Steps p.tables e below (s₁.setTop (entryFrame m #[(.ref r0)] 1)) t := by
    intro t k
    refine pre0 _ ?_
    show Steps p.tables e below (s₁.setTop (mkF m 0 #[.val (.ref r0)] [])) _
    refine XS.aloadN X0.here hx rfl (hb hby d5_0) rfl rfl ?_
    show Steps p.tables e below (s₁.setTop (mkF m 1 #[.val (.ref r0)] [(.ref r0)])) _
    refine st1 _ ?_
    show Steps p.tables e below (T1.setTop (mkF m 4 #[.val (.ref r0)] [(.int fa)])) _
    refine XS.aloadN X1.here hx rfl (hb hby d5_4) rfl rfl ?_
    show Steps p.tables e below (T1.setTop (mkF m 5 #[.val (.ref r0)] [(.ref r0), (.int fa)])) _
    refine st2 _ ?_
    show Steps p.tables e below (T2.setTop (mkF m 8 #[.val (.ref r0)] [(.int fb), (.int fa)])) _
    refine XS.isub X2.here hx rfl (hb hby d5_8) rfl ?_
    exact k
  obtain ⟨fs, hr, hrun, hended, hW, hsame⟩ := X2.leave (v := some (.int (fa - fb))) (fun h => by rw [Bd.returns] at h; cases h)
  refine ⟨_, _, k3 _ ?_, hrun, hended, _, _, rfl, ?_, ⟨_, rfl⟩, hW, hsame.mono (by decide) (by decide)⟩
  · exact retOut X2 hx Bd.returns rfl (Or.inl ⟨rfl, Or.inl rfl, _, rfl⟩) (hb hby d5_9) hr
  · show own_Q (some (.int (own_car fa fb))) h0 n0 _ T2.heap _
    rw [e2]
    exact ⟨rfl, N0, rfl⟩
theorem ef_rm4 (m : MethodId) (x0 : Addr) : entryFrame m #[(.ref x0)] 1 = mkF m 0 #[.val (.ref x0)] [] := by first | (simp [entryFrame, mkF, argsToLocals, Value.category]; done) | rfl
theorem d4_0 : decode prog_49_method_4_code 0 = .ok (.aload_n 0, 1) := by decide +kernel
theorem pd_1 : parseMethodDescriptor "()I" = some ⟨[], some .int⟩ := by decide +kernel
theorem d4_1 : decode prog_49_method_4_code 1 = .ok (.invokevirtual 24, 3) := by decide +kernel
theorem d4_4 : decode prog_49_method_4_code 4 = .ok (.ifCond .ne 7, 3) := by decide +kernel
theorem d4_7 : decode prog_49_method_4_code 7 = .ok (.dconst 0, 1) := by decide +kernel
theorem d4_8 : decode prog_49_method_4_code 8 = .ok (.goto 14, 3) := by decide +kernel
theorem d4_22 : decode prog_49_method_4_code 22 = .ok (.dreturn, 1) := by decide +kernel
theorem d4_11 : decode prog_49_method_4_code 11 = .ok (.aload_n 0, 1) := by decide +kernel
theorem d4_12 : decode prog_49_method_4_code 12 = .ok (.getfield 20, 3) := by decide +kernel
theorem d4_15 : decode prog_49_method_4_code 15 = .ok (.l2d, 1) := by decide +kernel
theorem d4_16 : decode prog_49_method_4_code 16 = .ok (.aload_n 0, 1) := by decide +kernel
theorem d4_17 : decode prog_49_method_4_code 17 = .ok (.invokevirtual 24, 3) := by decide +kernel
theorem d4_20 : decode prog_49_method_4_code 20 = .ok (.i2d, 1) := by decide +kernel
theorem d4_21 : decode prog_49_method_4_code 21 = .ok (.ddiv, 1) := by decide +kernel
def own_mh (fa fb : Int32) (fh : Int64) : UInt64 := (if (own_car fa fb) = (0 : Int32) then FP.dconst0 else (FP.ddiv (FP.l2d fh) (FP.i2d (own_car fa fb))))
set_option maxRecDepth 65536 in
set_option maxHeartbeats 40000000 in
theorem rm4 (l : Launch) (Z : State) (a0 : Array Value) (hw : ∀ d ∈ tables_1, d.before a0 Z = true) (ws : List Jvm.Cond) (r0 : Addr) (fa fb : Int32) (fh : Int64) (h0 : Heap) (n0 : Nat) (Farrivals : Fld Z h0 r0 "com/example/lightloom/lightloom/plan/Simulation$Result" "arrivals" "I" (.int fa)) (Fblocked : Fld Z h0 r0 "com/example/lightloom/lightloom/plan/Simulation$Result" "blocked" "I" (.int fb)) (FcarriedHops : Fld Z h0 r0 "com/example/lightloom/lightloom/plan/Simulation$Result" "carriedHops" "J" (.long fh)) (E_r0 : Exa Z h0 r0 "com/example/lightloom/lightloom/plan/Simulation$Result") (hnn : ¬ (own_car fa fb) = (0 : Int32) → Jvm.Free.Fl.NoNaN64 (FP.ddiv (FP.l2d fh) (FP.i2d (own_car fa fb)))) :
    MetFree l (⟨"com/example/lightloom/lightloom/plan/Simulation$Result", "meanHops", "()D"⟩ : MethodName) (head1 (Jvm.Cond.code (⟨"com/example/lightloom/lightloom/plan/Simulation$Result", "meanHops", "()D"⟩ : MethodName) prog_49_method_4_code 1 (some .double) :: ws) ({ frames := 1, cells := 0, slots := 0, locals := 14 } : Room)) (fun a U => a = #[(.ref r0)] ∧ Z.Warmed39 U.vm ∧ U.heap = h0) (fun _ _ _ _ _ => True) (fun _ U o U' => ∃ v L, o = .returned v ∧ own_Q (some (.double (own_mh fa fb fh))) h0 n0 v U'.heap L ∧ FrameEnd U o U' L ({ frames := 1, cells := 0, slots := 0, locals := 14 } : Room).cells ({ frames := 1, cells := 0, slots := 0, locals := 14 } : Room).slots) := by
  refine MetFree.of_bodySF (plainFor_of_name pn_1) hisR ?_
  intro p e s m args below meth c s₁ Bd hml0 hP hK
  obtain ⟨rfl, hZ, hh⟩ := hP
  have hx := Bd.exec
  have hby := Bd.bytes
  have hml : c.maxLocals = 1 := hml0
  have hown : s.vm.findClass "com/example/lightloom/lightloom/plan/Simulation$Result" = some m.cls := findClass_of_methodNamed Bd.named
  have hnm := (name_of_methodNamed Bd.named Bd.method).1
  have X0 : Stand p l e ({ frames := 1, cells := 0, slots := 0, locals := 14 } : Room) s m #[(.ref r0)] below meth c s₁ [] 0 0 := Stand.of_body Bd
  have e0 : s₁.heap = h0 := by rw [← hh, Bd.state]; rfl
  have N0 := Fr.nil n0
  have pre0 : ∀ t, Steps p.tables e below (s₁.setTop (mkF m 0 #[.val (.ref r0)] [])) t → Steps p.tables e below (s₁.setTop (entryFrame m #[(.ref r0)] 1)) t := fun t k => castTop (ef_rm4 m r0) k
  obtain ⟨cq1, kq1, q1a, q1b, q1c⟩ := isOf hZ e0 E_r0
  obtain ⟨_, _, ⟨T1, L1, k1_, n1⟩, -, X1, ⟨Lc1, hQ1, l1, y1, z1⟩, st1⟩ := X0.virtualBack hx (y := (⟨"com/example/lightloom/lightloom/plan/Simulation$Result", "carried", "()I"⟩ : MethodName)) (z := (⟨"com/example/lightloom/lightloom/plan/Simulation$Result", "carried", "()I"⟩ : MethodName)) hown (mvT hZ (hw _ (List.mem_of_getElem? (i := 30) rfl))) (mvT hZ (hw _ (List.mem_of_getElem? (i := 31) rfl))) (notFace_of_selects (args := #[]) (mvT hZ (hw _ (List.mem_of_getElem? (i := 33) rfl)))) (mvT hZ (hw _ (List.mem_of_getElem? (i := 33) rfl))) (mvT hZ (hw _ (List.mem_of_getElem? (i := 32) rfl))) (by decide) (backOf (W := 0) (rm5 l Z a0 hw [] r0 fa fb h0 n0 Farrivals Fblocked) hZ (hw _ (List.mem_of_getElem? (i := 34) rfl)) (hw _ (List.mem_of_getElem? (i := 5) rfl)) (by decide) (by decide)) q1a q1c (g := (mkF m 1 #[.val (.ref r0)] [(.ref r0)])) rfl (by rw [hml]; rfl) (Steps.refl _) (argsL := []) (rest := []) (lenOf pd_1 rfl) rfl (by show 2 * 0 + _ ≤ _; exact Nat.le_of_eq rfl) (hb hby d4_1) (fun _ _ => ⟨rfl, e0, (by decide : 0 + 0 ≤ _), (by decide : 0 + 0 ≤ _)⟩)
  dsimp only [Pt.U, Pt.locs, Pt.cells, Pt.slots] at X1 l1 y1 z1 st1 hQ1
  subst l1 y1 z1
  obtain ⟨rfl, Nq1, e1⟩ := hQ1
  have N1 := Fr.app N0 Nq1
  have k2 : ∀ t, Steps p.tables e below (T1.setTop (mkF m 4 #[.val (.ref r0)] [(.int (own_car fa fb))])) t → Steps p.tables e below (s₁.setTop (entryFrame m #[(.ref r0)] 1)) t := by
    intro t k
    refine pre0 _ ?_
    show Steps p.tables e below (s₁.setTop (mkF m 0 #[.val (.ref r0)] [])) _
    refine XS.aloadN X0.here hx rfl (hb hby d4_0) rfl rfl ?_
    show Steps p.tables e below (s₁.setTop (mkF m 1 #[.val (.ref r0)] [(.ref r0)])) _
    refine st1.trans ?_
    exact k
  by_cases hc4_1 : (own_car fa fb) = (0 : Int32)
  · have k3 : ∀ t, Steps p.tables e below (T1.setTop (mkF m 22 #[.val (.ref r0)] [(.double FP.dconst0)])) t → Steps p.tables e below (s₁.setTop (entryFrame m #[(.ref r0)] 1)) t := by
      intro t k
      refine k2 _ ?_
      show Steps p.tables e below (T1.setTop (mkF m 4 #[.val (.ref r0)] [(.int (own_car fa fb))])) _
      refine XS.ifNo X1.here hx rfl (hb hby d4_4) rfl ((if0 _ _).trans (teq hc4_1).2) ?_
      show Steps p.tables e below (T1.setTop (mkF m 7 #[.val (.ref r0)] [])) _
      refine XS.dconst0 X1.here hx rfl (hb hby d4_7) rfl ?_
      show Steps p.tables e below (T1.setTop (mkF m 8 #[.val (.ref r0)] [(.double FP.dconst0)])) _
      refine XS.goto X1.here hx rfl (pc0 := 8) (pc' := 22) rfl (hb hby d4_8) (by decide) (by decide) ?_
      exact k
    obtain ⟨fs, hr, hrun, hended, hW, hsame⟩ := X1.leave (v := some (.double FP.dconst0)) (fun h => by rw [Bd.returns] at h; cases h)
    refine ⟨_, _, k3 _ ?_, hrun, hended, _, _, rfl, ?_, ⟨_, rfl⟩, hW, hsame.mono (by decide) (by decide)⟩
    · exact retOut X1 hx Bd.returns rfl (Or.inr (Or.inr (Or.inl ⟨rfl, rfl, _, rfl⟩))) (hb hby d4_22) hr
    · show own_Q (some (.double (own_mh fa fb fh))) h0 n0 _ T1.heap _
      rw [e1]
      exact ⟨by simp only [own_mh, if_pos hc4_1], N1, rfl⟩
  · obtain ⟨T4, X4, e4, st4⟩ := getF X1 hx hZ hown (host := "") (Or.inl (hw _ (List.mem_of_getElem? (i := 23) rfl))) Via.refl e1 FcarriedHops (g := (mkF m 12 #[.val (.ref r0)] [(.ref r0)])) rfl rfl (hb hby d4_12)
    obtain ⟨cq5, kq5, q5a, q5b, q5c⟩ := isOf hZ e4 E_r0
    obtain ⟨_, _, ⟨T5, L5, k5_, n5⟩, -, X5, ⟨Lc5, hQ5, l5, y5, z5⟩, st5⟩ := X4.virtualBack hx (y := (⟨"com/example/lightloom/lightloom/plan/Simulation$Result", "carried", "()I"⟩ : MethodName)) (z := (⟨"com/example/lightloom/lightloom/plan/Simulation$Result", "carried", "()I"⟩ : MethodName)) hown (mvT hZ (hw _ (List.mem_of_getElem? (i := 30) rfl))) (mvT hZ (hw _ (List.mem_of_getElem? (i := 31) rfl))) (notFace_of_selects (args := #[]) (mvT hZ (hw _ (List.mem_of_getElem? (i := 33) rfl)))) (mvT hZ (hw _ (List.mem_of_getElem? (i := 33) rfl))) (mvT hZ (hw _ (List.mem_of_getElem? (i := 32) rfl))) (by decide) (backOf (W := 2) (rm5 l Z a0 hw [] r0 fa fb h0 n0 Farrivals Fblocked) hZ (hw _ (List.mem_of_getElem? (i := 34) rfl)) (hw _ (List.mem_of_getElem? (i := 5) rfl)) (by decide) (by decide)) q5a q5c (g := (mkF m 17 #[.val (.ref r0)] [(.ref r0), (.double (FP.l2d fh))])) rfl (by rw [hml]; rfl) (Steps.refl _) (argsL := []) (rest := [(.double (FP.l2d fh))]) (lenOf pd_1 rfl) rfl (by show 2 * 0 + _ ≤ _; exact Nat.le_of_eq rfl) (hb hby d4_17) (fun _ _ => ⟨rfl, e4, (by decide : 0 + 0 ≤ _), (by decide : 0 + 0 ≤ _)⟩)
    dsimp only [Pt.U, Pt.locs, Pt.cells, Pt.slots] at X5 l5 y5 z5 st5 hQ5
    subst l5 y5 z5
    obtain ⟨rfl, Nq5, e5⟩ := hQ5
    have N5 := Fr.app N1 Nq5
    have k6 : ∀ t, Steps p.tables e below (T5.setTop (mkF m 22 #[.val (.ref r0)] [(.double (FP.ddiv (FP.l2d fh) (FP.i2d (own_car fa fb))))])) t → Steps p.tables e below (s₁.setTop (entryFrame m #[(.ref r0)] 1)) t := by
      intro t k
      refine k2 _ ?_
      show Steps p.tables e below (T1.setTop (mkF m 4 #[.val (.ref r0)] [(.int (own_car fa fb))])) _
      refine XS.ifYes X1.here hx rfl (pc0 := 4) (pc' := 11) rfl (hb hby d4_4) rfl ((if0 _ _).trans (feq hc4_1).2) (by decide) (by decide) ?_
      show Steps p.tables e below (T1.setTop (mkF m 11 #[.val (.ref r0)] [])) _
      refine XS.aloadN X1.here hx rfl (hb hby d4_11) rfl rfl ?_
      show Steps p.tables e below (T1.setTop (mkF m 12 #[.val (.ref r0)] [(.ref r0)])) _
      refine st4 _ ?_
      show Steps p.tables e below (T4.setTop (mkF m 15 #[.val (.ref r0)] [(.long fh)])) _
      refine XS.l2dS X4.here hx rfl (hb hby d4_15) rfl rfl ?_
      show Steps p.tables e below (T4.setTop (mkF m 16 #[.val (.ref r0)] [(.double (FP.l2d fh))])) _
      refine XS.aloadN X4.here hx rfl (hb hby d4_16) rfl rfl ?_
      show Steps p.tables e below (T4.setTop (mkF m 17 #[.val (.ref r0)] [(.ref r0), (.double (FP.l2d fh))])) _
      refine st5.trans ?_
      show Steps p.tables e below (T5.setTop (mkF m 20 #[.val (.ref r0)] [(.int (own_car fa fb)), (.double (FP.l2d fh))])) _
      refine XS.i2dS X5.here hx rfl (hb hby d4_20) rfl rfl ?_
      show Steps p.tables e below (T5.setTop (mkF m 21 #[.val (.ref r0)] [(.double (FP.i2d (own_car fa fb))), (.double (FP.l2d fh))])) _
      refine XS.ddivS X5.here hx rfl (hb hby d4_21) rfl (hnn hc4_1) rfl ?_
      exact k
    obtain ⟨fs, hr, hrun, hended, hW, hsame⟩ := X5.leave (v := some (.double (FP.ddiv (FP.l2d fh) (FP.i2d (own_car fa fb))))) (fun h => by rw [Bd.returns] at h; cases h)
    refine ⟨_, _, k6 _ ?_, hrun, hended, _, _, rfl, ?_, ⟨_, rfl⟩, hW, hsame.mono (by decide) (by decide)⟩
    · exact retOut X5 hx Bd.returns rfl (Or.inr (Or.inr (Or.inl ⟨rfl, rfl, _, rfl⟩))) (hb hby d4_22) hr
    · show own_Q (some (.double (own_mh fa fb fh))) h0 n0 _ T5.heap _
      rw [e5]
      exact ⟨by simp only [own_mh, if_neg hc4_1], N5, rfl⟩
theorem own_nz (x : Int32) : ¬ (((x &&& (2147483647 : Int32)).toInt64) + (1 : Int64)) = (0 : Int64) := by
  have a := c_mask x 2147483647 31 (by decide) (by decide)
  have b := c_i2l (x &&& 2147483647)
  have d := c_ladd ((x &&& (2147483647 : Int32)).toInt64) 1
  have z0 : (0 : Int64).toInt = 0 := by decide
  have z1 : (1 : Int64).toInt = 1 := by decide
  have r := rng64 (((x &&& (2147483647 : Int32)).toInt64) + (1 : Int64))
  rw [← Int64.toInt_inj]
  omega
theorem own_b (x y : Int32) : 0 ≤ ((((y.toInt64) &&& (2147483647 : Int64)) - (((y.toInt64) &&& (2147483647 : Int64)) / (((x &&& (2147483647 : Int32)).toInt64) + (1 : Int64))) * (((x &&& (2147483647 : Int32)).toInt64) + (1 : Int64))).toInt32).toInt ∧ ((((y.toInt64) &&& (2147483647 : Int64)) - (((y.toInt64) &&& (2147483647 : Int64)) / (((x &&& (2147483647 : Int32)).toInt64) + (1 : Int64))) * (((x &&& (2147483647 : Int32)).toInt64) + (1 : Int64))).toInt32).toInt ≤ (x &&& (2147483647 : Int32)).toInt := by
  have a := c_mask x 2147483647 31 (by decide) (by decide)
  have b := c_i2l (x &&& 2147483647)
  have d := c_ladd ((x &&& (2147483647 : Int32)).toInt64) 1
  have z1 : (1 : Int64).toInt = 1 := by decide
  have r := rng64 (((x &&& (2147483647 : Int32)).toInt64) + (1 : Int64))
  have g := c_maskL y.toInt64 2147483647 31 (by decide) (by decide)
  rw [lrem_mod]
  have e : ((y.toInt64 &&& (2147483647 : Int64)) % (((x &&& (2147483647 : Int32)).toInt64) + (1 : Int64))).toInt = (y.toInt64 &&& (2147483647 : Int64)).toInt.tmod (((x &&& (2147483647 : Int32)).toInt64) + (1 : Int64)).toInt := Int64.toInt_mod _ _
  have t1 := Int.tmod_nonneg (a := (y.toInt64 &&& (2147483647 : Int64)).toInt) (((x &&& (2147483647 : Int32)).toInt64) + (1 : Int64)).toInt (by omega)
  have t2 := Int.tmod_lt_of_pos (y.toInt64 &&& (2147483647 : Int64)).toInt (b := (((x &&& (2147483647 : Int32)).toInt64) + (1 : Int64)).toInt) (by omega)
  have f := c_l2i ((y.toInt64 &&& (2147483647 : Int64)) % (((x &&& (2147483647 : Int32)).toInt64) + (1 : Int64)))
  have q := rng32 (((y.toInt64 &&& (2147483647 : Int64)) % (((x &&& (2147483647 : Int32)).toInt64) + (1 : Int64))).toInt32)
  rw [← e] at t1 t2
  omega
theorem own_c (x : Int32) {av bv cv : Int32} (h1 : (x &&& (2147483647 : Int32)) = av) (h2 : 0 ≤ bv.toInt ∧ bv.toInt ≤ (x &&& (2147483647 : Int32)).toInt) (h3 : (av - bv) = cv) : 0 ≤ cv.toInt := by
  have a := c_mask x 2147483647 31 (by decide) (by decide)
  have d := c_isub av bv
  have r := rng32 (av - bv)
  rw [h1] at a h2
  rw [h3] at d r
  omega
theorem own_A {av bv : Int32} (h : (av - bv) = (0 : Int32)) (q : Int64) : (cmpValue (FP.dcmp (own_mh av bv q) FP.dconst0) .l) = (0 : Int32) := by
  have e : own_car av bv = 0 := h
  rw [own_mh, if_pos e]; decide +kernel
theorem own_K : OwnF.own_P = 4294967296 * 2 ^ 1042 := by
  unfold OwnF.own_P
  rw [show (4294967296 : Nat) = 2 ^ 32 from rfl, ← Nat.pow_add]
theorem own_u32 (n : Nat) : FP.Core.inUnits n (-32) (-1074) = n * 2 ^ 1042 := by
  have e : ((-32 : Int) - (-1074)).toNat = 1042 := by decide
  unfold FP.Core.inUnits
  rw [e]
theorem own_hops {c m r : Nat} (hc : 0 < c) (hc2 : c < 2147483648) (hm : m < 1048576) (hr : r < c) {a b : UInt64} (ha : FP.Core.DInt ((c * m + r : Nat) : Int) a) (hb : FP.Core.DInt (c : Int) b) :
    ∃ v : Nat, OwnF.own_Is (FP.ddiv a b) (v : Int) ∧ (r = 0 → v = m * OwnF.own_P) ∧ (0 < r → m * OwnF.own_P < v) ∧ v < (m + 1) * OwnF.own_P := by
  have hb1 : c * m ≤ 2147483648 * 1048576 := Nat.mul_le_mul (by omega) (by omega)
  obtain ⟨s, V, e, hs, hz, hn⟩ := OwnF.own_div ha hb (by omega) (by
    have : (((c * m + r : Nat) : Int)).natAbs = c * m + r := rfl
    rw [this]
    exact Nat.lt_of_le_of_lt (Nat.add_le_add hb1 (Nat.le_of_lt hr)) (Nat.lt_of_lt_of_le (Nat.add_lt_add_left hc2 _) (by decide)))
  rw [show (((c * m + r : Nat) : Int)).natAbs = c * m + r from rfl, show ((c : Int)).natAbs = c from rfl] at hn
  have hsg : FP.Core.signed s V = (V : Int) := by
    by_cases z : ((c * m + r : Nat) : Int) = 0
    · rw [hz z]; unfold FP.Core.signed; split <;> rfl
    · rw [hs z, decide_eq_false (by omega : ¬ ((c * m + r : Nat) : Int) < 0), decide_eq_false (by omega : ¬ (c : Int) < 0)]; rfl
  rw [hsg] at e
  have hK : 0 < 2 ^ 1042 := Nat.two_pow_pos _
  refine ⟨V, e, fun h0 => ?_, fun h0 => ?_, ?_⟩
  · have w := hn m 0 (by omega) (by decide)
    rw [OwnF.own_units0] at w
    have q : (c * m + r) * OwnF.own_P = m * OwnF.own_P * c := by rw [h0, Nat.add_zero, Nat.mul_comm c m, Nat.mul_right_comm]
    exact Nat.le_antisymm (w.1 (Nat.le_of_eq q)) (w.2 (Nat.le_of_eq q.symm))
  · have w := (hn (m * 4294967296 + 1) (-32) (by omega) (by decide)).2
    rw [own_u32, own_K] at w
    rw [own_K]
    generalize (2 : Nat) ^ 1042 = K at *
    have q : (m * 4294967296 + 1) * K * c ≤ (c * m + r) * (4294967296 * K) := by
      have q1 : (m * 4294967296 + 1) * K * c = (c * m * 4294967296 + c) * K := by
        rw [Nat.mul_right_comm, Nat.add_mul, Nat.one_mul, Nat.mul_comm c m, Nat.mul_right_comm m]
      have q2 : (c * m + r) * (4294967296 * K) = (c * m * 4294967296 + r * 4294967296) * K := by rw [← Nat.mul_assoc, Nat.add_mul]
      rw [q1, q2]
      exact Nat.mul_le_mul_right _ (by omega)
    have w2 := w q
    have q3 : m * (4294967296 * K) = (m * 4294967296) * K := by rw [Nat.mul_assoc]
    rw [q3]
    exact Nat.lt_of_lt_of_le (Nat.mul_lt_mul_of_pos_right (by omega) hK) w2
  · have w := (hn ((m + 1) * 4294967296 - 1) (-32) (by omega) (by decide)).1
    rw [own_u32, own_K] at w
    rw [own_K]
    generalize (2 : Nat) ^ 1042 = K at *
    have q : (c * m + r) * (4294967296 * K) ≤ ((m + 1) * 4294967296 - 1) * K * c := by
      have q2 : (c * m + r) * (4294967296 * K) = (c * m * 4294967296 + r * 4294967296) * K := by rw [← Nat.mul_assoc, Nat.add_mul]
      have q1 : ((m + 1) * 4294967296 - 1) * K * c = (((m + 1) * 4294967296 - 1) * c) * K := by rw [Nat.mul_right_comm]
      rw [q1, q2]
      refine Nat.mul_le_mul_right _ ?_
      rw [Nat.sub_mul, Nat.one_mul]
      have q4 : (m + 1) * 4294967296 * c = c * m * 4294967296 + c * 4294967296 := by
        rw [Nat.add_mul, Nat.one_mul, Nat.add_mul]; congr 1
        · ac_rfl
        · exact Nat.mul_comm _ _
      rw [q4]
      have q5 : (r + 1) * 4294967296 ≤ c * 4294967296 := Nat.mul_le_mul_right _ hr
      omega
    have w2 := w q
    have q3 : (m + 1) * (4294967296 * K) = ((m + 1) * 4294967296) * K := by rw [Nat.mul_assoc]
    rw [q3]
    exact Nat.lt_of_le_of_lt w2 (Nat.mul_lt_mul_of_pos_right (by omega) hK)
theorem own_one : FP.Core.DInt 1 FP.dconst1 := by
  unfold FP.Core.DInt
  have e : FP.Core.val64 FP.dconst1 = .fin false (2 ^ 52) (-52) := FP.Core.val64_dconst1
  rw [e]
  show FP.Core.signed false _ = _
  decide +kernel
theorem own_m64 (p : Int32) : 0 ≤ ((p &&& (1048575 : Int32)).toInt64).toInt ∧ ((p &&& (1048575 : Int32)).toInt64).toInt < 1048576 := by
  have a := c_mask p 1048575 20 (by decide) (by decide)
  have b := c_i2l (p &&& 1048575)
  omega
theorem own_nnd (p : Int32) : Jvm.Free.Fl.NoNaN64 (FP.dadd (FP.l2d ((p &&& (1048575 : Int32)).toInt64)) FP.dconst1) := by
  have h := own_m64 p
  have d := FP.Core.dadd_int (FP.Core.l2d_int (a := ((p &&& (1048575 : Int32)).toInt64)) (by omega)) own_one (by omega)
  exact Jvm.Free.Fl.noNaN64_no.mpr ((FP.Core.notNaN_iff _).mpr (OwnF.own_whole d).noNaN)
/-- what the quotient says, on Java's own terms -/
theorem own_quot {av bv cv : Int32} (p2 p3 : Int32) (hcv : (av - bv) = cv) (h0 : 0 ≤ cv.toInt) (hz : ¬ cv = (0 : Int32)) :
    ∃ v : Nat, OwnF.own_Is (own_mh av bv (cv.toInt64 * ((p2 &&& (1048575 : Int32)).toInt64) + (((p3 &&& (2147483647 : Int32)) % cv).toInt64))) (v : Int) ∧ ((((p3 &&& (2147483647 : Int32)) % cv).toInt64) = (0 : Int64) → (v : Int) = (((p2 &&& (1048575 : Int32)).toInt64).toInt) * (OwnF.own_P : Int)) ∧ (¬ (((p3 &&& (2147483647 : Int32)) % cv).toInt64) = (0 : Int64) → (((p2 &&& (1048575 : Int32)).toInt64).toInt) * (OwnF.own_P : Int) < v) ∧ (v : Int) < (((p2 &&& (1048575 : Int32)).toInt64).toInt + 1) * (OwnF.own_P : Int) := by
  have hm := own_m64 p2
  have z0 : (0 : Int32).toInt = 0 := by decide
  have z1 : (0 : Int64).toInt = 0 := by decide
  have hc1 : 0 < cv.toInt := by rw [← Int32.toInt_inj] at hz; omega
  have rc := rng32 cv
  have k := c_mask p3 2147483647 31 (by decide) (by decide)
  have rr := (c_iremV (p3 &&& 2147483647) cv).1 (by omega) hc1
  have r1 := c_i2l ((p3 &&& 2147483647) % cv)
  have c1 := c_i2l cv
  have l1 := c_lmul cv.toInt64 ((p2 &&& (1048575 : Int32)).toInt64)
  have l2 := c_ladd (cv.toInt64 * ((p2 &&& (1048575 : Int32)).toInt64)) (((p3 &&& (2147483647 : Int32)) % cv).toInt64)
  have g1 := rng64 (cv.toInt64 * ((p2 &&& (1048575 : Int32)).toInt64))
  have g2 := rng64 (cv.toInt64 * ((p2 &&& (1048575 : Int32)).toInt64) + (((p3 &&& (2147483647 : Int32)) % cv).toInt64))
  have pb : 0 ≤ cv.toInt * ((p2 &&& (1048575 : Int32)).toInt64).toInt ∧ cv.toInt * ((p2 &&& (1048575 : Int32)).toInt64).toInt ≤ 2147483648 * 1048576 := ⟨Int.mul_nonneg h0 hm.1, Int.mul_le_mul (by omega) (by omega) hm.1 (by omega)⟩
  rw [c1] at l1
  have e : (cv.toInt64 * ((p2 &&& (1048575 : Int32)).toInt64) + (((p3 &&& (2147483647 : Int32)) % cv).toInt64)).toInt = cv.toInt * ((p2 &&& (1048575 : Int32)).toInt64).toInt + (((p3 &&& (2147483647 : Int32)) % cv).toInt64).toInt := by
    generalize cv.toInt * ((p2 &&& (1048575 : Int32)).toInt64).toInt = z at *
    omega
  have hh : FP.Core.DInt ((cv.toInt.toNat * ((p2 &&& (1048575 : Int32)).toInt64).toInt.toNat + (((p3 &&& (2147483647 : Int32)) % cv).toInt64).toInt.toNat : Nat) : Int) (FP.l2d (cv.toInt64 * ((p2 &&& (1048575 : Int32)).toInt64) + (((p3 &&& (2147483647 : Int32)) % cv).toInt64))) := by
    have q := FP.Core.l2d_int (a := (cv.toInt64 * ((p2 &&& (1048575 : Int32)).toInt64) + (((p3 &&& (2147483647 : Int32)) % cv).toInt64))) (by
      rw [e]
      generalize cv.toInt * ((p2 &&& (1048575 : Int32)).toInt64).toInt = z at *
      omega)
    rw [e] at q
    have q2 : ((cv.toInt.toNat * ((p2 &&& (1048575 : Int32)).toInt64).toInt.toNat + (((p3 &&& (2147483647 : Int32)) % cv).toInt64).toInt.toNat : Nat) : Int) = cv.toInt * ((p2 &&& (1048575 : Int32)).toInt64).toInt + (((p3 &&& (2147483647 : Int32)) % cv).toInt64).toInt := by
      rw [Int.natCast_add, Int.natCast_mul, Int.toNat_of_nonneg h0, Int.toNat_of_nonneg hm.1, Int.toNat_of_nonneg (by omega)]
    rw [q2]; exact q
  have hd : FP.Core.DInt ((cv.toInt.toNat : Nat) : Int) (FP.i2d cv) := by
    rw [Int.toNat_of_nonneg h0]; exact FP.Core.i2d_int cv
  obtain ⟨v, i1, i2, i3, i4⟩ := own_hops (c := cv.toInt.toNat) (m := ((p2 &&& (1048575 : Int32)).toInt64).toInt.toNat) (r := (((p3 &&& (2147483647 : Int32)) % cv).toInt64).toInt.toNat) (by omega) (by omega) (by omega) (by omega) hh hd
  have em : ((((p2 &&& (1048575 : Int32)).toInt64).toInt.toNat : Nat) : Int) = ((p2 &&& (1048575 : Int32)).toInt64).toInt := Int.toNat_of_nonneg hm.1
  refine ⟨v, ?_, fun q => ?_, fun q => ?_, ?_⟩
  · have ec : own_car av bv = cv := hcv
    rw [own_mh, ec, if_neg hz]; exact i1
  · rw [i2 (by rw [q]; rfl), Int.natCast_mul, em]
  · have := i3 (by rw [← Int64.toInt_inj] at q; omega)
    have t : (((((p2 &&& (1048575 : Int32)).toInt64).toInt.toNat * OwnF.own_P : Nat)) : Int) < (v : Int) := by omega
    rwa [Int.natCast_mul, em] at t
  · have t : (v : Int) < (((((p2 &&& (1048575 : Int32)).toInt64).toInt.toNat + 1) * OwnF.own_P : Nat) : Int) := by omega
    rw [Int.natCast_mul, Int.natCast_add, em] at t
    exact t
theorem own_B1 {av bv cv : Int32} (p2 p3 : Int32) (hcv : (av - bv) = cv) (h0 : 0 ≤ cv.toInt) (hz : ¬ cv = (0 : Int32)) (hr : (((p3 &&& (2147483647 : Int32)) % cv).toInt64) = (0 : Int64)) : (cmpValue (FP.dcmp (own_mh av bv (cv.toInt64 * ((p2 &&& (1048575 : Int32)).toInt64) + (((p3 &&& (2147483647 : Int32)) % cv).toInt64))) (FP.l2d ((p2 &&& (1048575 : Int32)).toInt64))) .l) = (0 : Int32) := by
  obtain ⟨v, i1, i2, -, -⟩ := own_quot p2 p3 hcv h0 hz
  have hm := own_m64 p2
  have e : FP.dcmp (own_mh av bv (cv.toInt64 * ((p2 &&& (1048575 : Int32)).toInt64) + (((p3 &&& (2147483647 : Int32)) % cv).toInt64))) (FP.l2d ((p2 &&& (1048575 : Int32)).toInt64)) = _ := i1.cmp (OwnF.own_whole (FP.Core.l2d_int (a := ((p2 &&& (1048575 : Int32)).toInt64)) (by omega)))
  rw [e, i2 hr, Int.compare_eq_eq.mpr rfl]; rfl
theorem own_B2 {av bv cv : Int32} (p2 p3 : Int32) (hcv : (av - bv) = cv) (h0 : 0 ≤ cv.toInt) (hz : ¬ cv = (0 : Int32)) (hr : ¬ (((p3 &&& (2147483647 : Int32)) % cv).toInt64) = (0 : Int64)) : (0 : Int32) < (cmpValue (FP.dcmp (own_mh av bv (cv.toInt64 * ((p2 &&& (1048575 : Int32)).toInt64) + (((p3 &&& (2147483647 : Int32)) % cv).toInt64))) (FP.l2d ((p2 &&& (1048575 : Int32)).toInt64))) .l) := by
  obtain ⟨v, i1, -, i3, -⟩ := own_quot p2 p3 hcv h0 hz
  have hm := own_m64 p2
  have e : FP.dcmp (own_mh av bv (cv.toInt64 * ((p2 &&& (1048575 : Int32)).toInt64) + (((p3 &&& (2147483647 : Int32)) % cv).toInt64))) (FP.l2d ((p2 &&& (1048575 : Int32)).toInt64)) = _ := i1.cmp (OwnF.own_whole (FP.Core.l2d_int (a := ((p2 &&& (1048575 : Int32)).toInt64)) (by omega)))
  rw [e, Int.compare_eq_gt.mpr (i3 hr)]; decide
theorem own_B3 {av bv cv : Int32} (p2 p3 : Int32) (hcv : (av - bv) = cv) (h0 : 0 ≤ cv.toInt) (hz : ¬ cv = (0 : Int32)) : (cmpValue (FP.dcmp (own_mh av bv (cv.toInt64 * ((p2 &&& (1048575 : Int32)).toInt64) + (((p3 &&& (2147483647 : Int32)) % cv).toInt64))) (FP.dadd (FP.l2d ((p2 &&& (1048575 : Int32)).toInt64)) FP.dconst1)) .g) < (0 : Int32) := by
  obtain ⟨v, i1, -, -, i4⟩ := own_quot p2 p3 hcv h0 hz
  have hm := own_m64 p2
  have d := FP.Core.dadd_int (FP.Core.l2d_int (a := ((p2 &&& (1048575 : Int32)).toInt64)) (by omega)) own_one (by omega)
  have e : FP.dcmp (own_mh av bv (cv.toInt64 * ((p2 &&& (1048575 : Int32)).toInt64) + (((p3 &&& (2147483647 : Int32)) % cv).toInt64))) (FP.dadd (FP.l2d ((p2 &&& (1048575 : Int32)).toInt64)) FP.dconst1) = _ := i1.cmp (OwnF.own_whole d)
  rw [e, Int.compare_eq_lt.mpr i4]; decide
theorem own_nnq {av bv cv : Int32} (p2 p3 : Int32) (hcv : (av - bv) = cv) (h0 : 0 ≤ cv.toInt) (hz : ¬ cv = (0 : Int32)) : ¬ (own_car av bv) = (0 : Int32) → Jvm.Free.Fl.NoNaN64 (FP.ddiv (FP.l2d (cv.toInt64 * ((p2 &&& (1048575 : Int32)).toInt64) + (((p3 &&& (2147483647 : Int32)) % cv).toInt64))) (FP.i2d (own_car av bv))) := by
  intro hn
  obtain ⟨v, i1, -⟩ := own_quot p2 p3 hcv h0 hz
  rw [own_mh, if_neg hn] at i1
  exact Jvm.Free.Fl.noNaN64_no.mpr ((FP.Core.notNaN_iff _).mpr i1.noNaN)
theorem pn_2 : plainName "com/example/lightloom/lightloom/plan/ResultMeanHopsPinLaw" = true := by first | (simp [plainName, overriddenIn]; done) | decide +kernel
theorem ef_rm0 (m : MethodId) (x0 : Int32) (x1 : Int32) (x2 : Int32) (x3 : Int32) (x4 : Int64) (x5 : Int32) : entryFrame m #[(.int x0), (.int x1), (.int x2), (.int x3), (.long x4), (.int x5)] maxLocals = mkF m 0 #[.val (.int x0), .val (.int x1), .val (.int x2), .val (.int x3), .val (.long x4), .second, .val (.int x5), .unset, .unset, .unset, .unset, .unset, .unset, .unset, .unset, .unset, .unset, .unset, .unset, .unset, .unset, .unset] [] := by first | (simp [entryFrame, mkF, argsToLocals, Value.category, maxLocals]; done) | rfl
theorem pd_2 : parseMethodDescriptor "(IIDJ)V" = some ⟨[.int, .int, .double, .long], none⟩ := by decide +kernel
theorem pd_3 : parseMethodDescriptor "()D" = some ⟨[], some .double⟩ := by decide +kernel
set_option maxRecDepth 65536 in
set_option maxHeartbeats 40000000 in
theorem rm0 (l : Launch) (Z : State) (a0 : Array Value) (hw : ∀ d ∈ tables_1, d.before a0 Z = true) (ws : List Jvm.Cond) (p0 : Int32) (p1 : Int32) (p2 : Int32) (p3 : Int32) (q4 : Int64) (p5 : Int32) (h0 : Heap) (n0 : Nat) (Z0 : n0 ≤ h0.size) :
    MetFree l x (head1 (Jvm.Cond.code x code maxLocals ret :: ws) room_1) (fun a U => a = #[(.int p0), (.int p1), (.int p2), (.int p3), (.long q4), (.int p5)] ∧ Z.Warmed39 U.vm ∧ U.heap = h0) (fun _ _ _ _ _ => True) (fun _ U o U' => ∃ v L, o = .returned v ∧ own_R (some (.int 1)) n0 v U'.heap L ∧ FrameEnd U o U' L room_1.cells room_1.slots) := by
  refine MetFree.of_bodySF (plainFor_of_name pn_2) hisR ?_
  intro p e s m args below meth c s₁ Bd hml0 hP hK
  obtain ⟨rfl, hZ, hh⟩ := hP
  have hx := Bd.exec
  have hby := Bd.bytes
  have hml : c.maxLocals = 22 := hml0
  have hown : s.vm.findClass "com/example/lightloom/lightloom/plan/ResultMeanHopsPinLaw" = some m.cls := findClass_of_methodNamed Bd.named
  have hnm := (name_of_methodNamed Bd.named Bd.method).1
  have X0 : Stand p l e room_1 s m #[(.int p0), (.int p1), (.int p2), (.int p3), (.long q4), (.int p5)] below meth c s₁ [] 0 0 := Stand.of_body Bd
  have e0 : s₁.heap = h0 := by rw [← hh, Bd.state]; rfl
  have N0 := Fr.nil n0
  have pre0 : ∀ t, Steps p.tables e below (s₁.setTop (mkF m 0 #[.val (.int p0), .val (.int p1), .val (.int p2), .val (.int p3), .val (.long q4), .second, .val (.int p5), .unset, .unset, .unset, .unset, .unset, .unset, .unset, .unset, .unset, .unset, .unset, .unset, .unset, .unset, .unset] [])) t → Steps p.tables e below (s₁.setTop (entryFrame m #[(.int p0), (.int p1), (.int p2), (.int p3), (.long q4), (.int p5)] maxLocals)) t := fun t k => castTop (ef_rm0 m p0 p1 p2 p3 q4 p5) k
  have k1 : ∀ t, Steps p.tables e below (s₁.setTop (mkF m 28 #[.val (.int p0), .val (.int p1), .val (.int p2), .val (.int p3), .val (.long q4), .second, .val (.int p5), .val (.int (p0 &&& (2147483647 : Int32))), .val (.int ((((p1.toInt64) &&& (2147483647 : Int64)) - (((p1.toInt64) &&& (2147483647 : Int64)) / (((p0 &&& (2147483647 : Int32)).toInt64) + (1 : Int64))) * (((p0 &&& (2147483647 : Int32)).toInt64) + (1 : Int64))).toInt32)), .val (.int ((p0 &&& (2147483647 : Int32)) - ((((p1.toInt64) &&& (2147483647 : Int64)) - (((p1.toInt64) &&& (2147483647 : Int64)) / (((p0 &&& (2147483647 : Int32)).toInt64) + (1 : Int64))) * (((p0 &&& (2147483647 : Int32)).toInt64) + (1 : Int64))).toInt32))), .unset, .unset, .unset, .unset, .unset, .unset, .unset, .unset, .unset, .unset, .unset, .unset] [])) t → Steps p.tables e below (s₁.setTop (entryFrame m #[(.int p0), (.int p1), (.int p2), (.int p3), (.long q4), (.int p5)] maxLocals)) t := by
    intro t k
    refine pre0 _ ?_
    show Steps p.tables e below (s₁.setTop (mkF m 0 #[.val (.int p0), .val (.int p1), .val (.int p2), .val (.int p3), .val (.long q4), .second, .val (.int p5), .unset, .unset, .unset, .unset, .unset, .unset, .unset, .unset, .unset, .unset, .unset, .unset, .unset, .unset, .unset] [])) _
    refine XS.iloadN X0.here hx rfl (hb hby at_0) rfl ?_
    show Steps p.tables e below (s₁.setTop (mkF m 1 #[.val (.int p0), .val (.int p1), .val (.int p2), .val (.int p3), .val (.long q4), .second, .val (.int p5), .unset, .unset, .unset, .unset, .unset, .unset, .unset, .unset, .unset, .unset, .unset, .unset, .unset, .unset, .unset] [(.int p0)])) _
    refine X0.ldcInt hx hown (mvT hZ (hw _ (List.mem_of_getElem? (i := 0) rfl))) (g := (mkF m 1 #[.val (.int p0), .val (.int p1), .val (.int p2), .val (.int p3), .val (.long q4), .second, .val (.int p5), .unset, .unset, .unset, .unset, .unset, .unset, .unset, .unset, .unset, .unset, .unset, .unset, .unset, .unset, .unset] [(.int p0)])) rfl (hb hby at_1) _ ?_
    show Steps p.tables e below (s₁.setTop (mkF m 3 #[.val (.int p0), .val (.int p1), .val (.int p2), .val (.int p3), .val (.long q4), .second, .val (.int p5), .unset, .unset, .unset, .unset, .unset, .unset, .unset, .unset, .unset, .unset, .unset, .unset, .unset, .unset, .unset] [(.int (2147483647 : Int32)), (.int p0)])) _
    refine XS.iand X0.here hx rfl (hb hby at_3) rfl ?_
    show Steps p.tables e below (s₁.setTop (mkF m 4 #[.val (.int p0), .val (.int p1), .val (.int p2), .val (.int p3), .val (.long q4), .second, .val (.int p5), .unset, .unset, .unset, .unset, .unset, .unset, .unset, .unset, .unset, .unset, .unset, .unset, .unset, .unset, .unset] [(.int (p0 &&& (2147483647 : Int32)))])) _
    refine XS.istore X0.here hx rfl (hb hby at_4) rfl (l' := #[.val (.int p0), .val (.int p1), .val (.int p2), .val (.int p3), .val (.long q4), .second, .val (.int p5), .val (.int (p0 &&& (2147483647 : Int32))), .unset, .unset, .unset, .unset, .unset, .unset, .unset, .unset, .unset, .unset, .unset, .unset, .unset, .unset]) rfl ?_
    show Steps p.tables e below (s₁.setTop (mkF m 6 #[.val (.int p0), .val (.int p1), .val (.int p2), .val (.int p3), .val (.long q4), .second, .val (.int p5), .val (.int (p0 &&& (2147483647 : Int32))), .unset, .unset, .unset, .unset, .unset, .unset, .unset, .unset, .unset, .unset, .unset, .unset, .unset, .unset] [])) _
    refine XS.iloadN X0.here hx rfl (hb hby at_6) rfl ?_
    show Steps p.tables e below (s₁.setTop (mkF m 7 #[.val (.int p0), .val (.int p1), .val (.int p2), .val (.int p3), .val (.long q4), .second, .val (.int p5), .val (.int (p0 &&& (2147483647 : Int32))), .unset, .unset, .unset, .unset, .unset, .unset, .unset, .unset, .unset, .unset, .unset, .unset, .unset, .unset] [(.int p1)])) _
    refine XS.i2l X0.here hx rfl (hb hby at_7) rfl ?_
    show Steps p.tables e below (s₁.setTop (mkF m 8 #[.val (.int p0), .val (.int p1), .val (.int p2), .val (.int p3), .val (.long q4), .second, .val (.int p5), .val (.int (p0 &&& (2147483647 : Int32))), .unset, .unset, .unset, .unset, .unset, .unset, .unset, .unset, .unset, .unset, .unset, .unset, .unset, .unset] [(.long (p1.toInt64))])) _
    refine X0.ldc2Long hx hown (mvT hZ (hw _ (List.mem_of_getElem? (i := 1) rfl))) (g := (mkF m 8 #[.val (.int p0), .val (.int p1), .val (.int p2), .val (.int p3), .val (.long q4), .second, .val (.int p5), .val (.int (p0 &&& (2147483647 : Int32))), .unset, .unset, .unset, .unset, .unset, .unset, .unset, .unset, .unset, .unset, .unset, .unset, .unset, .unset] [(.long (p1.toInt64))])) rfl (hb hby at_8) _ ?_
    show Steps p.tables e below (s₁.setTop (mkF m 11 #[.val (.int p0), .val (.int p1), .val (.int p2), .val (.int p3), .val (.long q4), .second, .val (.int p5), .val (.int (p0 &&& (2147483647 : Int32))), .unset, .unset, .unset, .unset, .unset, .unset, .unset, .unset, .unset, .unset, .unset, .unset, .unset, .unset] [(.long (2147483647 : Int64)), (.long (p1.toInt64))])) _
    refine XS.land X0.here hx rfl (hb hby at_11) rfl ?_
    show Steps p.tables e below (s₁.setTop (mkF m 12 #[.val (.int p0), .val (.int p1), .val (.int p2), .val (.int p3), .val (.long q4), .second, .val (.int p5), .val (.int (p0 &&& (2147483647 : Int32))), .unset, .unset, .unset, .unset, .unset, .unset, .unset, .unset, .unset, .unset, .unset, .unset, .unset, .unset] [(.long ((p1.toInt64) &&& (2147483647 : Int64)))])) _
    refine XS.iload X0.here hx rfl (hb hby at_12) rfl ?_
    show Steps p.tables e below (s₁.setTop (mkF m 14 #[.val (.int p0), .val (.int p1), .val (.int p2), .val (.int p3), .val (.long q4), .second, .val (.int p5), .val (.int (p0 &&& (2147483647 : Int32))), .unset, .unset, .unset, .unset, .unset, .unset, .unset, .unset, .unset, .unset, .unset, .unset, .unset, .unset] [(.int (p0 &&& (2147483647 : Int32))), (.long ((p1.toInt64) &&& (2147483647 : Int64)))])) _
    refine XS.i2l X0.here hx rfl (hb hby at_14) rfl ?_
    show Steps p.tables e below (s₁.setTop (mkF m 15 #[.val (.int p0), .val (.int p1), .val (.int p2), .val (.int p3), .val (.long q4), .second, .val (.int p5), .val (.int (p0 &&& (2147483647 : Int32))), .unset, .unset, .unset, .unset, .unset, .unset, .unset, .unset, .unset, .unset, .unset, .unset, .unset, .unset] [(.long ((p0 &&& (2147483647 : Int32)).toInt64)), (.long ((p1.toInt64) &&& (2147483647 : Int64)))])) _
    refine XS.lconst X0.here hx rfl (hb hby at_15) ?_
    show Steps p.tables e below (s₁.setTop (mkF m 16 #[.val (.int p0), .val (.int p1), .val (.int p2), .val (.int p3), .val (.long q4), .second, .val (.int p5), .val (.int (p0 &&& (2147483647 : Int32))), .unset, .unset, .unset, .unset, .unset, .unset, .unset, .unset, .unset, .unset, .unset, .unset, .unset, .unset] [(.long (1 : Int64)), (.long ((p0 &&& (2147483647 : Int32)).toInt64)), (.long ((p1.toInt64) &&& (2147483647 : Int64)))])) _
    refine XS.ladd X0.here hx rfl (hb hby at_16) rfl ?_
    show Steps p.tables e below (s₁.setTop (mkF m 17 #[.val (.int p0), .val (.int p1), .val (.int p2), .val (.int p3), .val (.long q4), .second, .val (.int p5), .val (.int (p0 &&& (2147483647 : Int32))), .unset, .unset, .unset, .unset, .unset, .unset, .unset, .unset, .unset, .unset, .unset, .unset, .unset, .unset] [(.long (((p0 &&& (2147483647 : Int32)).toInt64) + (1 : Int64))), (.long ((p1.toInt64) &&& (2147483647 : Int64)))])) _
    refine XS.lrem X0.here hx rfl (hb hby at_17) rfl (own_nz p0) ?_
    show Steps p.tables e below (s₁.setTop (mkF m 18 #[.val (.int p0), .val (.int p1), .val (.int p2), .val (.int p3), .val (.long q4), .second, .val (.int p5), .val (.int (p0 &&& (2147483647 : Int32))), .unset, .unset, .unset, .unset, .unset, .unset, .unset, .unset, .unset, .unset, .unset, .unset, .unset, .unset] [(.long (((p1.toInt64) &&& (2147483647 : Int64)) - (((p1.toInt64) &&& (2147483647 : Int64)) / (((p0 &&& (2147483647 : Int32)).toInt64) + (1 : Int64))) * (((p0 &&& (2147483647 : Int32)).toInt64) + (1 : Int64))))])) _
    refine XS.l2i X0.here hx rfl (hb hby at_18) rfl ?_
    show Steps p.tables e below (s₁.setTop (mkF m 19 #[.val (.int p0), .val (.int p1), .val (.int p2), .val (.int p3), .val (.long q4), .second, .val (.int p5), .val (.int (p0 &&& (2147483647 : Int32))), .unset, .unset, .unset, .unset, .unset, .unset, .unset, .unset, .unset, .unset, .unset, .unset, .unset, .unset] [(.int ((((p1.toInt64) &&& (2147483647 : Int64)) - (((p1.toInt64) &&& (2147483647 : Int64)) / (((p0 &&& (2147483647 : Int32)).toInt64) + (1 : Int64))) * (((p0 &&& (2147483647 : Int32)).toInt64) + (1 : Int64))).toInt32))])) _
    refine XS.istore X0.here hx rfl (hb hby at_19) rfl (l' := #[.val (.int p0), .val (.int p1), .val (.int p2), .val (.int p3), .val (.long q4), .second, .val (.int p5), .val (.int (p0 &&& (2147483647 : Int32))), .val (.int ((((p1.toInt64) &&& (2147483647 : Int64)) - (((p1.toInt64) &&& (2147483647 : Int64)) / (((p0 &&& (2147483647 : Int32)).toInt64) + (1 : Int64))) * (((p0 &&& (2147483647 : Int32)).toInt64) + (1 : Int64))).toInt32)), .unset, .unset, .unset, .unset, .unset, .unset, .unset, .unset, .unset, .unset, .unset, .unset, .unset]) rfl ?_
    show Steps p.tables e below (s₁.setTop (mkF m 21 #[.val (.int p0), .val (.int p1), .val (.int p2), .val (.int p3), .val (.long q4), .second, .val (.int p5), .val (.int (p0 &&& (2147483647 : Int32))), .val (.int ((((p1.toInt64) &&& (2147483647 : Int64)) - (((p1.toInt64) &&& (2147483647 : Int64)) / (((p0 &&& (2147483647 : Int32)).toInt64) + (1 : Int64))) * (((p0 &&& (2147483647 : Int32)).toInt64) + (1 : Int64))).toInt32)), .unset, .unset, .unset, .unset, .unset, .unset, .unset, .unset, .unset, .unset, .unset, .unset, .unset] [])) _
    refine XS.iload X0.here hx rfl (hb hby at_21) rfl ?_
    show Steps p.tables e below (s₁.setTop (mkF m 23 #[.val (.int p0), .val (.int p1), .val (.int p2), .val (.int p3), .val (.long q4), .second, .val (.int p5), .val (.int (p0 &&& (2147483647 : Int32))), .val (.int ((((p1.toInt64) &&& (2147483647 : Int64)) - (((p1.toInt64) &&& (2147483647 : Int64)) / (((p0 &&& (2147483647 : Int32)).toInt64) + (1 : Int64))) * (((p0 &&& (2147483647 : Int32)).toInt64) + (1 : Int64))).toInt32)), .unset, .unset, .unset, .unset, .unset, .unset, .unset, .unset, .unset, .unset, .unset, .unset, .unset] [(.int (p0 &&& (2147483647 : Int32)))])) _
    refine XS.iload X0.here hx rfl (hb hby at_23) rfl ?_
    show Steps p.tables e below (s₁.setTop (mkF m 25 #[.val (.int p0), .val (.int p1), .val (.int p2), .val (.int p3), .val (.long q4), .second, .val (.int p5), .val (.int (p0 &&& (2147483647 : Int32))), .val (.int ((((p1.toInt64) &&& (2147483647 : Int64)) - (((p1.toInt64) &&& (2147483647 : Int64)) / (((p0 &&& (2147483647 : Int32)).toInt64) + (1 : Int64))) * (((p0 &&& (2147483647 : Int32)).toInt64) + (1 : Int64))).toInt32)), .unset, .unset, .unset, .unset, .unset, .unset, .unset, .unset, .unset, .unset, .unset, .unset, .unset] [(.int ((((p1.toInt64) &&& (2147483647 : Int64)) - (((p1.toInt64) &&& (2147483647 : Int64)) / (((p0 &&& (2147483647 : Int32)).toInt64) + (1 : Int64))) * (((p0 &&& (2147483647 : Int32)).toInt64) + (1 : Int64))).toInt32)), (.int (p0 &&& (2147483647 : Int32)))])) _
    refine XS.isub X0.here hx rfl (hb hby at_25) rfl ?_
    show Steps p.tables e below (s₁.setTop (mkF m 26 #[.val (.int p0), .val (.int p1), .val (.int p2), .val (.int p3), .val (.long q4), .second, .val (.int p5), .val (.int (p0 &&& (2147483647 : Int32))), .val (.int ((((p1.toInt64) &&& (2147483647 : Int64)) - (((p1.toInt64) &&& (2147483647 : Int64)) / (((p0 &&& (2147483647 : Int32)).toInt64) + (1 : Int64))) * (((p0 &&& (2147483647 : Int32)).toInt64) + (1 : Int64))).toInt32)), .unset, .unset, .unset, .unset, .unset, .unset, .unset, .unset, .unset, .unset, .unset, .unset, .unset] [(.int ((p0 &&& (2147483647 : Int32)) - ((((p1.toInt64) &&& (2147483647 : Int64)) - (((p1.toInt64) &&& (2147483647 : Int64)) / (((p0 &&& (2147483647 : Int32)).toInt64) + (1 : Int64))) * (((p0 &&& (2147483647 : Int32)).toInt64) + (1 : Int64))).toInt32)))])) _
    refine XS.istore X0.here hx rfl (hb hby at_26) rfl (l' := #[.val (.int p0), .val (.int p1), .val (.int p2), .val (.int p3), .val (.long q4), .second, .val (.int p5), .val (.int (p0 &&& (2147483647 : Int32))), .val (.int ((((p1.toInt64) &&& (2147483647 : Int64)) - (((p1.toInt64) &&& (2147483647 : Int64)) / (((p0 &&& (2147483647 : Int32)).toInt64) + (1 : Int64))) * (((p0 &&& (2147483647 : Int32)).toInt64) + (1 : Int64))).toInt32)), .val (.int ((p0 &&& (2147483647 : Int32)) - ((((p1.toInt64) &&& (2147483647 : Int64)) - (((p1.toInt64) &&& (2147483647 : Int64)) / (((p0 &&& (2147483647 : Int32)).toInt64) + (1 : Int64))) * (((p0 &&& (2147483647 : Int32)).toInt64) + (1 : Int64))).toInt32))), .unset, .unset, .unset, .unset, .unset, .unset, .unset, .unset, .unset, .unset, .unset, .unset]) rfl ?_
    exact k
  obtain ⟨av, hav⟩ : ∃ z : Int32, (p0 &&& (2147483647 : Int32)) = z := ⟨_, rfl⟩
  obtain ⟨bv, hbv⟩ : ∃ z : Int32, ((((p1.toInt64) &&& (2147483647 : Int64)) - (((p1.toInt64) &&& (2147483647 : Int64)) / (((p0 &&& (2147483647 : Int32)).toInt64) + (1 : Int64))) * (((p0 &&& (2147483647 : Int32)).toInt64) + (1 : Int64))).toInt32) = z := ⟨_, rfl⟩
  obtain ⟨cv, hcv⟩ : ∃ z : Int32, (av - bv) = z := ⟨_, rfl⟩
  have hc0 : 0 ≤ cv.toInt := own_c p0 hav (hbv ▸ own_b p0 p1) hcv
  have k2 : ∀ t, Steps p.tables e below (s₁.setTop (mkF m 28 #[.val (.int p0), .val (.int p1), .val (.int p2), .val (.int p3), .val (.long q4), .second, .val (.int p5), .val (.int av), .val (.int bv), .val (.int cv), .unset, .unset, .unset, .unset, .unset, .unset, .unset, .unset, .unset, .unset, .unset, .unset] [])) t → Steps p.tables e below (s₁.setTop (entryFrame m #[(.int p0), (.int p1), (.int p2), (.int p3), (.long q4), (.int p5)] maxLocals)) t := by
    intro t k
    refine k1 _ ?_
    rw [hbv, hav, hcv]
    exact k
  have k3 : ∀ t, Steps p.tables e below (s₁.setTop (mkF m 35 #[.val (.int p0), .val (.int p1), .val (.int p2), .val (.int p3), .val (.long q4), .second, .val (.int p5), .val (.int av), .val (.int bv), .val (.int cv), .val (.long ((p2 &&& (1048575 : Int32)).toInt64)), .second, .unset, .unset, .unset, .unset, .unset, .unset, .unset, .unset, .unset, .unset] [])) t → Steps p.tables e below (s₁.setTop (entryFrame m #[(.int p0), (.int p1), (.int p2), (.int p3), (.long q4), (.int p5)] maxLocals)) t := by
    intro t k
    refine k2 _ ?_
    show Steps p.tables e below (s₁.setTop (mkF m 28 #[.val (.int p0), .val (.int p1), .val (.int p2), .val (.int p3), .val (.long q4), .second, .val (.int p5), .val (.int av), .val (.int bv), .val (.int cv), .unset, .unset, .unset, .unset, .unset, .unset, .unset, .unset, .unset, .unset, .unset, .unset] [])) _
    refine XS.iloadN X0.here hx rfl (hb hby at_28) rfl ?_
    show Steps p.tables e below (s₁.setTop (mkF m 29 #[.val (.int p0), .val (.int p1), .val (.int p2), .val (.int p3), .val (.long q4), .second, .val (.int p5), .val (.int av), .val (.int bv), .val (.int cv), .unset, .unset, .unset, .unset, .unset, .unset, .unset, .unset, .unset, .unset, .unset, .unset] [(.int p2)])) _
    refine X0.ldcInt hx hown (mvT hZ (hw _ (List.mem_of_getElem? (i := 2) rfl))) (g := (mkF m 29 #[.val (.int p0), .val (.int p1), .val (.int p2), .val (.int p3), .val (.long q4), .second, .val (.int p5), .val (.int av), .val (.int bv), .val (.int cv), .unset, .unset, .unset, .unset, .unset, .unset, .unset, .unset, .unset, .unset, .unset, .unset] [(.int p2)])) rfl (hb hby at_29) _ ?_
    show Steps p.tables e below (s₁.setTop (mkF m 31 #[.val (.int p0), .val (.int p1), .val (.int p2), .val (.int p3), .val (.long q4), .second, .val (.int p5), .val (.int av), .val (.int bv), .val (.int cv), .unset, .unset, .unset, .unset, .unset, .unset, .unset, .unset, .unset, .unset, .unset, .unset] [(.int (1048575 : Int32)), (.int p2)])) _
    refine XS.iand X0.here hx rfl (hb hby at_31) rfl ?_
    show Steps p.tables e below (s₁.setTop (mkF m 32 #[.val (.int p0), .val (.int p1), .val (.int p2), .val (.int p3), .val (.long q4), .second, .val (.int p5), .val (.int av), .val (.int bv), .val (.int cv), .unset, .unset, .unset, .unset, .unset, .unset, .unset, .unset, .unset, .unset, .unset, .unset] [(.int (p2 &&& (1048575 : Int32)))])) _
    refine XS.i2l X0.here hx rfl (hb hby at_32) rfl ?_
    show Steps p.tables e below (s₁.setTop (mkF m 33 #[.val (.int p0), .val (.int p1), .val (.int p2), .val (.int p3), .val (.long q4), .second, .val (.int p5), .val (.int av), .val (.int bv), .val (.int cv), .unset, .unset, .unset, .unset, .unset, .unset, .unset, .unset, .unset, .unset, .unset, .unset] [(.long ((p2 &&& (1048575 : Int32)).toInt64))])) _
    refine XS.lstore X0.here hx rfl (hb hby at_33) rfl (l' := #[.val (.int p0), .val (.int p1), .val (.int p2), .val (.int p3), .val (.long q4), .second, .val (.int p5), .val (.int av), .val (.int bv), .val (.int cv), .val (.long ((p2 &&& (1048575 : Int32)).toInt64)), .second, .unset, .unset, .unset, .unset, .unset, .unset, .unset, .unset, .unset, .unset]) rfl ?_
    exact k
  by_cases hcz : cv = (0 : Int32)
  · obtain ⟨T4, h4, X4, e4, E4, A4, D4, -, st4⟩ := newO X0 hx hZ hown (hw _ (List.mem_of_getElem? (i := 3) rfl)) (hw _ (List.mem_of_getElem? (i := 4) rfl)) (hw _ (List.mem_of_getElem? (i := 5) rfl)) e0 (g := (mkF m 84 #[.val (.int p0), .val (.int p1), .val (.int p2), .val (.int p3), .val (.long q4), .second, .val (.int p5), .val (.int av), .val (.int bv), .val (.int cv), .val (.long ((p2 &&& (1048575 : Int32)).toInt64)), .second, .val (.long (0 : Int64)), .second, .val (.long q4), .second, .val (.double (FP.i2d (p5 &&& (1023 : Int32)))), .second, .unset, .unset, .unset, .unset] [])) rfl (hb hby at_84) (by decide) (by decide)
    obtain ⟨b4, g4⟩ : ∃ z, z = h0.size := ⟨_, rfl⟩
    rw [← g4] at A4 D4 st4
    have gn_b4 : n0 ≤ b4 := Nat.le_trans Z0 (Nat.le_of_eq g4.symm)
    have Zs4 : n0 ≤ h4.size := Nat.le_trans Z0 E4.1
    have E_b4 := A4
    have F_arrivals_b4 : Fld Z h4 b4 "com/example/lightloom/lightloom/plan/Simulation$Result" "arrivals" "I" (.int (0 : Int32)) := D4 (Or.inr (hw _ (List.mem_of_getElem? (i := 18) rfl))) (ty := .int) (by decide)
    have F_blocked_b4 : Fld Z h4 b4 "com/example/lightloom/lightloom/plan/Simulation$Result" "blocked" "I" (.int (0 : Int32)) := D4 (Or.inr (hw _ (List.mem_of_getElem? (i := 20) rfl))) (ty := .int) (by decide)
    have F_standardError_b4 : Fld Z h4 b4 "com/example/lightloom/lightloom/plan/Simulation$Result" "standardError" "D" (.double (0 : UInt64)) := D4 (Or.inr (hw _ (List.mem_of_getElem? (i := 22) rfl))) (ty := .double) (by decide)
    have F_carriedHops_b4 : Fld Z h4 b4 "com/example/lightloom/lightloom/plan/Simulation$Result" "carriedHops" "J" (.long (0 : Int64)) := D4 (Or.inr (hw _ (List.mem_of_getElem? (i := 24) rfl))) (ty := .long) (by decide)
    obtain ⟨_, _, ⟨T5, L5, k5_, n5⟩, -, X5, ⟨Lc5, hQ5, l5, y5, z5⟩, st5⟩ := X4.specialBack hx (y := (⟨"com/example/lightloom/lightloom/plan/Simulation$Result", "<init>", "(IIDJ)V"⟩ : MethodName)) rfl hown (mvT hZ (hw _ (List.mem_of_getElem? (i := 6) rfl))) (mvT hZ (hw _ (List.mem_of_getElem? (i := 7) rfl))) (mvT hZ (hw _ (List.mem_of_getElem? (i := 8) rfl))) (by decide) (backOf (W := 1) (rm1 l Z a0 hw [] b4 av bv (FP.i2d (p5 &&& (1023 : Int32))) q4 h4 n0 Zs4 gn_b4 E_b4 F_arrivals_b4 F_blocked_b4 F_standardError_b4 F_carriedHops_b4) hZ (hw _ (List.mem_of_getElem? (i := 8) rfl)) (hw _ (List.mem_of_getElem? (i := 5) rfl)) (by decide) (by decide)) (g := (mkF m 96 #[.val (.int p0), .val (.int p1), .val (.int p2), .val (.int p3), .val (.long q4), .second, .val (.int p5), .val (.int av), .val (.int bv), .val (.int cv), .val (.long ((p2 &&& (1048575 : Int32)).toInt64)), .second, .val (.long (0 : Int64)), .second, .val (.long q4), .second, .val (.double (FP.i2d (p5 &&& (1023 : Int32)))), .second, .unset, .unset, .unset, .unset] [(.long q4), (.double (FP.i2d (p5 &&& (1023 : Int32)))), (.int bv), (.int av), (.ref b4), (.ref b4)])) rfl (by rw [hml]; rfl) (Steps.refl _) (a := b4) (argsL := [(.int av), (.int bv), (.double (FP.i2d (p5 &&& (1023 : Int32)))), (.long q4)]) (rest := [(.ref b4)]) (lenOf pd_2 rfl) rfl (by show 2 * 0 + _ ≤ _; exact Nat.le_of_eq rfl) (hb hby at_96) (fun _ _ => ⟨rfl, e4, (by decide : 1 + 0 ≤ _), (by decide : 4 + 0 ≤ _)⟩)
    dsimp only [Pt.U, Pt.locs, Pt.cells, Pt.slots] at X5 l5 y5 z5 st5 hQ5
    subst l5 y5 z5
    obtain ⟨rfl, Nq5, Kq5, Eq5, Fn_arrivals_5, Fn_blocked_5, Fn_carriedHops_5⟩ := hQ5
    have N5 := Fr.app N0 Nq5
    have Zs5 : n0 ≤ T5.heap.size := Nat.le_trans Zs4 Kq5.1
    replace E_b4 := E_b4.keep Kq5
    obtain ⟨cq6, kq6, q6a, q6b, q6c⟩ := isOf hZ rfl E_b4
    obtain ⟨_, _, ⟨T6, L6, k6_, n6⟩, -, X6, ⟨Lc6, hQ6, l6, y6, z6⟩, st6⟩ := X5.virtualBack hx (y := (⟨"com/example/lightloom/lightloom/plan/Simulation$Result", "meanHops", "()D"⟩ : MethodName)) (z := (⟨"com/example/lightloom/lightloom/plan/Simulation$Result", "meanHops", "()D"⟩ : MethodName)) hown (mvT hZ (hw _ (List.mem_of_getElem? (i := 25) rfl))) (mvT hZ (hw _ (List.mem_of_getElem? (i := 26) rfl))) (notFace_of_selects (args := #[]) (mvT hZ (hw _ (List.mem_of_getElem? (i := 28) rfl)))) (mvT hZ (hw _ (List.mem_of_getElem? (i := 28) rfl))) (mvT hZ (hw _ (List.mem_of_getElem? (i := 27) rfl))) (by decide) (backOf (W := 0) (rm4 l Z a0 hw [] b4 av bv q4 T5.heap n0 Fn_arrivals_5 Fn_blocked_5 Fn_carriedHops_5 E_b4 (fun q => absurd (show own_car av bv = 0 from (hcv.trans hcz)) q)) hZ (hw _ (List.mem_of_getElem? (i := 29) rfl)) (hw _ (List.mem_of_getElem? (i := 5) rfl)) (by decide) (by decide)) q6a q6c (g := (mkF m 103 #[.val (.int p0), .val (.int p1), .val (.int p2), .val (.int p3), .val (.long q4), .second, .val (.int p5), .val (.int av), .val (.int bv), .val (.int cv), .val (.long ((p2 &&& (1048575 : Int32)).toInt64)), .second, .val (.long (0 : Int64)), .second, .val (.long q4), .second, .val (.double (FP.i2d (p5 &&& (1023 : Int32)))), .second, .val (.ref b4), .unset, .unset, .unset] [(.ref b4)])) rfl (by rw [hml]; rfl) (Steps.refl _) (argsL := []) (rest := []) (lenOf pd_3 rfl) rfl (by show 2 * 0 + _ ≤ _; exact Nat.le_of_eq rfl) (hb hby at_103) (fun _ _ => ⟨rfl, rfl, (by decide : 1 + 0 ≤ _), (by decide : 4 + 0 ≤ _)⟩)
    dsimp only [Pt.U, Pt.locs, Pt.cells, Pt.slots] at X6 l6 y6 z6 st6 hQ6
    subst l6 y6 z6
    obtain ⟨rfl, Nq6, e6⟩ := hQ6
    have N6 := Fr.app N5 Nq6
    have k7 : ∀ t, Steps p.tables e below (T6.setTop (mkF m 125 #[.val (.int p0), .val (.int p1), .val (.int p2), .val (.int p3), .val (.long q4), .second, .val (.int p5), .val (.int av), .val (.int bv), .val (.int cv), .val (.long ((p2 &&& (1048575 : Int32)).toInt64)), .second, .val (.long (0 : Int64)), .second, .val (.long q4), .second, .val (.double (FP.i2d (p5 &&& (1023 : Int32)))), .second, .val (.ref b4), .val (.double (own_mh av bv q4)), .second, .unset] [(.int (1 : Int32))])) t → Steps p.tables e below (s₁.setTop (entryFrame m #[(.int p0), (.int p1), (.int p2), (.int p3), (.long q4), (.int p5)] maxLocals)) t := by
      intro t k
      refine k3 _ ?_
      show Steps p.tables e below (s₁.setTop (mkF m 35 #[.val (.int p0), .val (.int p1), .val (.int p2), .val (.int p3), .val (.long q4), .second, .val (.int p5), .val (.int av), .val (.int bv), .val (.int cv), .val (.long ((p2 &&& (1048575 : Int32)).toInt64)), .second, .unset, .unset, .unset, .unset, .unset, .unset, .unset, .unset, .unset, .unset] [])) _
      refine XS.iload X0.here hx rfl (hb hby at_35) rfl ?_
      show Steps p.tables e below (s₁.setTop (mkF m 37 #[.val (.int p0), .val (.int p1), .val (.int p2), .val (.int p3), .val (.long q4), .second, .val (.int p5), .val (.int av), .val (.int bv), .val (.int cv), .val (.long ((p2 &&& (1048575 : Int32)).toInt64)), .second, .unset, .unset, .unset, .unset, .unset, .unset, .unset, .unset, .unset, .unset] [(.int cv)])) _
      refine XS.ifYes X0.here hx rfl (pc0 := 37) (pc' := 51) rfl (hb hby at_37) rfl ((if0 _ _).trans (flt (by rw [hcz]; decide)).2.2.2) (by decide) (by decide) ?_
      show Steps p.tables e below (s₁.setTop (mkF m 51 #[.val (.int p0), .val (.int p1), .val (.int p2), .val (.int p3), .val (.long q4), .second, .val (.int p5), .val (.int av), .val (.int bv), .val (.int cv), .val (.long ((p2 &&& (1048575 : Int32)).toInt64)), .second, .unset, .unset, .unset, .unset, .unset, .unset, .unset, .unset, .unset, .unset] [])) _
      refine XS.lconst X0.here hx rfl (hb hby at_51) ?_
      show Steps p.tables e below (s₁.setTop (mkF m 52 #[.val (.int p0), .val (.int p1), .val (.int p2), .val (.int p3), .val (.long q4), .second, .val (.int p5), .val (.int av), .val (.int bv), .val (.int cv), .val (.long ((p2 &&& (1048575 : Int32)).toInt64)), .second, .unset, .unset, .unset, .unset, .unset, .unset, .unset, .unset, .unset, .unset] [(.long (0 : Int64))])) _
      refine XS.lstore X0.here hx rfl (hb hby at_52) rfl (l' := #[.val (.int p0), .val (.int p1), .val (.int p2), .val (.int p3), .val (.long q4), .second, .val (.int p5), .val (.int av), .val (.int bv), .val (.int cv), .val (.long ((p2 &&& (1048575 : Int32)).toInt64)), .second, .val (.long (0 : Int64)), .second, .unset, .unset, .unset, .unset, .unset, .unset, .unset, .unset]) rfl ?_
      show Steps p.tables e below (s₁.setTop (mkF m 54 #[.val (.int p0), .val (.int p1), .val (.int p2), .val (.int p3), .val (.long q4), .second, .val (.int p5), .val (.int av), .val (.int bv), .val (.int cv), .val (.long ((p2 &&& (1048575 : Int32)).toInt64)), .second, .val (.long (0 : Int64)), .second, .unset, .unset, .unset, .unset, .unset, .unset, .unset, .unset] [])) _
      refine XS.iload X0.here hx rfl (hb hby at_54) rfl ?_
      show Steps p.tables e below (s₁.setTop (mkF m 56 #[.val (.int p0), .val (.int p1), .val (.int p2), .val (.int p3), .val (.long q4), .second, .val (.int p5), .val (.int av), .val (.int bv), .val (.int cv), .val (.long ((p2 &&& (1048575 : Int32)).toInt64)), .second, .val (.long (0 : Int64)), .second, .unset, .unset, .unset, .unset, .unset, .unset, .unset, .unset] [(.int cv)])) _
      refine XS.ifNo X0.here hx rfl (hb hby at_56) rfl ((if0 _ _).trans (teq hcz).2) ?_
      show Steps p.tables e below (s₁.setTop (mkF m 59 #[.val (.int p0), .val (.int p1), .val (.int p2), .val (.int p3), .val (.long q4), .second, .val (.int p5), .val (.int av), .val (.int bv), .val (.int cv), .val (.long ((p2 &&& (1048575 : Int32)).toInt64)), .second, .val (.long (0 : Int64)), .second, .unset, .unset, .unset, .unset, .unset, .unset, .unset, .unset] [])) _
      refine XS.lload X0.here hx rfl (hb hby at_59) rfl ?_
      show Steps p.tables e below (s₁.setTop (mkF m 61 #[.val (.int p0), .val (.int p1), .val (.int p2), .val (.int p3), .val (.long q4), .second, .val (.int p5), .val (.int av), .val (.int bv), .val (.int cv), .val (.long ((p2 &&& (1048575 : Int32)).toInt64)), .second, .val (.long (0 : Int64)), .second, .unset, .unset, .unset, .unset, .unset, .unset, .unset, .unset] [(.long q4)])) _
      refine XS.goto X0.here hx rfl (pc0 := 61) (pc' := 73) rfl (hb hby at_61) (by decide) (by decide) ?_
      show Steps p.tables e below (s₁.setTop (mkF m 73 #[.val (.int p0), .val (.int p1), .val (.int p2), .val (.int p3), .val (.long q4), .second, .val (.int p5), .val (.int av), .val (.int bv), .val (.int cv), .val (.long ((p2 &&& (1048575 : Int32)).toInt64)), .second, .val (.long (0 : Int64)), .second, .unset, .unset, .unset, .unset, .unset, .unset, .unset, .unset] [(.long q4)])) _
      refine XS.lstore X0.here hx rfl (hb hby at_73) rfl (l' := #[.val (.int p0), .val (.int p1), .val (.int p2), .val (.int p3), .val (.long q4), .second, .val (.int p5), .val (.int av), .val (.int bv), .val (.int cv), .val (.long ((p2 &&& (1048575 : Int32)).toInt64)), .second, .val (.long (0 : Int64)), .second, .val (.long q4), .second, .unset, .unset, .unset, .unset, .unset, .unset]) rfl ?_
      show Steps p.tables e below (s₁.setTop (mkF m 75 #[.val (.int p0), .val (.int p1), .val (.int p2), .val (.int p3), .val (.long q4), .second, .val (.int p5), .val (.int av), .val (.int bv), .val (.int cv), .val (.long ((p2 &&& (1048575 : Int32)).toInt64)), .second, .val (.long (0 : Int64)), .second, .val (.long q4), .second, .unset, .unset, .unset, .unset, .unset, .unset] [])) _
      refine XS.iload X0.here hx rfl (hb hby at_75) rfl ?_
      show Steps p.tables e below (s₁.setTop (mkF m 77 #[.val (.int p0), .val (.int p1), .val (.int p2), .val (.int p3), .val (.long q4), .second, .val (.int p5), .val (.int av), .val (.int bv), .val (.int cv), .val (.long ((p2 &&& (1048575 : Int32)).toInt64)), .second, .val (.long (0 : Int64)), .second, .val (.long q4), .second, .unset, .unset, .unset, .unset, .unset, .unset] [(.int p5)])) _
      refine XS.sipush X0.here hx rfl (hb hby at_77) ?_
      show Steps p.tables e below (s₁.setTop (mkF m 80 #[.val (.int p0), .val (.int p1), .val (.int p2), .val (.int p3), .val (.long q4), .second, .val (.int p5), .val (.int av), .val (.int bv), .val (.int cv), .val (.long ((p2 &&& (1048575 : Int32)).toInt64)), .second, .val (.long (0 : Int64)), .second, .val (.long q4), .second, .unset, .unset, .unset, .unset, .unset, .unset] [(.int (1023 : Int32)), (.int p5)])) _
      refine XS.iand X0.here hx rfl (hb hby at_80) rfl ?_
      show Steps p.tables e below (s₁.setTop (mkF m 81 #[.val (.int p0), .val (.int p1), .val (.int p2), .val (.int p3), .val (.long q4), .second, .val (.int p5), .val (.int av), .val (.int bv), .val (.int cv), .val (.long ((p2 &&& (1048575 : Int32)).toInt64)), .second, .val (.long (0 : Int64)), .second, .val (.long q4), .second, .unset, .unset, .unset, .unset, .unset, .unset] [(.int (p5 &&& (1023 : Int32)))])) _
      refine XS.i2dS X0.here hx rfl (hb hby at_81) rfl rfl ?_
      show Steps p.tables e below (s₁.setTop (mkF m 82 #[.val (.int p0), .val (.int p1), .val (.int p2), .val (.int p3), .val (.long q4), .second, .val (.int p5), .val (.int av), .val (.int bv), .val (.int cv), .val (.long ((p2 &&& (1048575 : Int32)).toInt64)), .second, .val (.long (0 : Int64)), .second, .val (.long q4), .second, .unset, .unset, .unset, .unset, .unset, .unset] [(.double (FP.i2d (p5 &&& (1023 : Int32))))])) _
      refine XS.dstore X0.here hx rfl (hb hby at_82) rfl (l' := #[.val (.int p0), .val (.int p1), .val (.int p2), .val (.int p3), .val (.long q4), .second, .val (.int p5), .val (.int av), .val (.int bv), .val (.int cv), .val (.long ((p2 &&& (1048575 : Int32)).toInt64)), .second, .val (.long (0 : Int64)), .second, .val (.long q4), .second, .val (.double (FP.i2d (p5 &&& (1023 : Int32)))), .second, .unset, .unset, .unset, .unset]) rfl ?_
      show Steps p.tables e below (s₁.setTop (mkF m 84 #[.val (.int p0), .val (.int p1), .val (.int p2), .val (.int p3), .val (.long q4), .second, .val (.int p5), .val (.int av), .val (.int bv), .val (.int cv), .val (.long ((p2 &&& (1048575 : Int32)).toInt64)), .second, .val (.long (0 : Int64)), .second, .val (.long q4), .second, .val (.double (FP.i2d (p5 &&& (1023 : Int32)))), .second, .unset, .unset, .unset, .unset] [])) _
      refine st4 _ ?_
      show Steps p.tables e below (T4.setTop (mkF m 87 #[.val (.int p0), .val (.int p1), .val (.int p2), .val (.int p3), .val (.long q4), .second, .val (.int p5), .val (.int av), .val (.int bv), .val (.int cv), .val (.long ((p2 &&& (1048575 : Int32)).toInt64)), .second, .val (.long (0 : Int64)), .second, .val (.long q4), .second, .val (.double (FP.i2d (p5 &&& (1023 : Int32)))), .second, .unset, .unset, .unset, .unset] [(.ref b4)])) _
      refine XS.dup X4.here hx rfl (hb hby at_87) rfl rfl ?_
      show Steps p.tables e below (T4.setTop (mkF m 88 #[.val (.int p0), .val (.int p1), .val (.int p2), .val (.int p3), .val (.long q4), .second, .val (.int p5), .val (.int av), .val (.int bv), .val (.int cv), .val (.long ((p2 &&& (1048575 : Int32)).toInt64)), .second, .val (.long (0 : Int64)), .second, .val (.long q4), .second, .val (.double (FP.i2d (p5 &&& (1023 : Int32)))), .second, .unset, .unset, .unset, .unset] [(.ref b4), (.ref b4)])) _
      refine XS.iload X4.here hx rfl (hb hby at_88) rfl ?_
      show Steps p.tables e below (T4.setTop (mkF m 90 #[.val (.int p0), .val (.int p1), .val (.int p2), .val (.int p3), .val (.long q4), .second, .val (.int p5), .val (.int av), .val (.int bv), .val (.int cv), .val (.long ((p2 &&& (1048575 : Int32)).toInt64)), .second, .val (.long (0 : Int64)), .second, .val (.long q4), .second, .val (.double (FP.i2d (p5 &&& (1023 : Int32)))), .second, .unset, .unset, .unset, .unset] [(.int av), (.ref b4), (.ref b4)])) _
      refine XS.iload X4.here hx rfl (hb hby at_90) rfl ?_
      show Steps p.tables e below (T4.setTop (mkF m 92 #[.val (.int p0), .val (.int p1), .val (.int p2), .val (.int p3), .val (.long q4), .second, .val (.int p5), .val (.int av), .val (.int bv), .val (.int cv), .val (.long ((p2 &&& (1048575 : Int32)).toInt64)), .second, .val (.long (0 : Int64)), .second, .val (.long q4), .second, .val (.double (FP.i2d (p5 &&& (1023 : Int32)))), .second, .unset, .unset, .unset, .unset] [(.int bv), (.int av), (.ref b4), (.ref b4)])) _
      refine XS.dload X4.here hx rfl (hb hby at_92) rfl ?_
      show Steps p.tables e below (T4.setTop (mkF m 94 #[.val (.int p0), .val (.int p1), .val (.int p2), .val (.int p3), .val (.long q4), .second, .val (.int p5), .val (.int av), .val (.int bv), .val (.int cv), .val (.long ((p2 &&& (1048575 : Int32)).toInt64)), .second, .val (.long (0 : Int64)), .second, .val (.long q4), .second, .val (.double (FP.i2d (p5 &&& (1023 : Int32)))), .second, .unset, .unset, .unset, .unset] [(.double (FP.i2d (p5 &&& (1023 : Int32)))), (.int bv), (.int av), (.ref b4), (.ref b4)])) _
      refine XS.lload X4.here hx rfl (hb hby at_94) rfl ?_
      show Steps p.tables e below (T4.setTop (mkF m 96 #[.val (.int p0), .val (.int p1), .val (.int p2), .val (.int p3), .val (.long q4), .second, .val (.int p5), .val (.int av), .val (.int bv), .val (.int cv), .val (.long ((p2 &&& (1048575 : Int32)).toInt64)), .second, .val (.long (0 : Int64)), .second, .val (.long q4), .second, .val (.double (FP.i2d (p5 &&& (1023 : Int32)))), .second, .unset, .unset, .unset, .unset] [(.long q4), (.double (FP.i2d (p5 &&& (1023 : Int32)))), (.int bv), (.int av), (.ref b4), (.ref b4)])) _
      refine st5.trans ?_
      show Steps p.tables e below (T5.setTop (mkF m 99 #[.val (.int p0), .val (.int p1), .val (.int p2), .val (.int p3), .val (.long q4), .second, .val (.int p5), .val (.int av), .val (.int bv), .val (.int cv), .val (.long ((p2 &&& (1048575 : Int32)).toInt64)), .second, .val (.long (0 : Int64)), .second, .val (.long q4), .second, .val (.double (FP.i2d (p5 &&& (1023 : Int32)))), .second, .unset, .unset, .unset, .unset] [(.ref b4)])) _
      refine XS.astore X5.here hx rfl (hb hby at_99) rfl rfl (l' := #[.val (.int p0), .val (.int p1), .val (.int p2), .val (.int p3), .val (.long q4), .second, .val (.int p5), .val (.int av), .val (.int bv), .val (.int cv), .val (.long ((p2 &&& (1048575 : Int32)).toInt64)), .second, .val (.long (0 : Int64)), .second, .val (.long q4), .second, .val (.double (FP.i2d (p5 &&& (1023 : Int32)))), .second, .val (.ref b4), .unset, .unset, .unset]) rfl ?_
      show Steps p.tables e below (T5.setTop (mkF m 101 #[.val (.int p0), .val (.int p1), .val (.int p2), .val (.int p3), .val (.long q4), .second, .val (.int p5), .val (.int av), .val (.int bv), .val (.int cv), .val (.long ((p2 &&& (1048575 : Int32)).toInt64)), .second, .val (.long (0 : Int64)), .second, .val (.long q4), .second, .val (.double (FP.i2d (p5 &&& (1023 : Int32)))), .second, .val (.ref b4), .unset, .unset, .unset] [])) _
      refine XS.aload X5.here hx rfl (hb hby at_101) rfl rfl ?_
      show Steps p.tables e below (T5.setTop (mkF m 103 #[.val (.int p0), .val (.int p1), .val (.int p2), .val (.int p3), .val (.long q4), .second, .val (.int p5), .val (.int av), .val (.int bv), .val (.int cv), .val (.long ((p2 &&& (1048575 : Int32)).toInt64)), .second, .val (.long (0 : Int64)), .second, .val (.long q4), .second, .val (.double (FP.i2d (p5 &&& (1023 : Int32)))), .second, .val (.ref b4), .unset, .unset, .unset] [(.ref b4)])) _
      refine st6.trans ?_
      show Steps p.tables e below (T6.setTop (mkF m 106 #[.val (.int p0), .val (.int p1), .val (.int p2), .val (.int p3), .val (.long q4), .second, .val (.int p5), .val (.int av), .val (.int bv), .val (.int cv), .val (.long ((p2 &&& (1048575 : Int32)).toInt64)), .second, .val (.long (0 : Int64)), .second, .val (.long q4), .second, .val (.double (FP.i2d (p5 &&& (1023 : Int32)))), .second, .val (.ref b4), .unset, .unset, .unset] [(.double (own_mh av bv q4))])) _
      refine XS.dstore X6.here hx rfl (hb hby at_106) rfl (l' := #[.val (.int p0), .val (.int p1), .val (.int p2), .val (.int p3), .val (.long q4), .second, .val (.int p5), .val (.int av), .val (.int bv), .val (.int cv), .val (.long ((p2 &&& (1048575 : Int32)).toInt64)), .second, .val (.long (0 : Int64)), .second, .val (.long q4), .second, .val (.double (FP.i2d (p5 &&& (1023 : Int32)))), .second, .val (.ref b4), .val (.double (own_mh av bv q4)), .second, .unset]) rfl ?_
      show Steps p.tables e below (T6.setTop (mkF m 108 #[.val (.int p0), .val (.int p1), .val (.int p2), .val (.int p3), .val (.long q4), .second, .val (.int p5), .val (.int av), .val (.int bv), .val (.int cv), .val (.long ((p2 &&& (1048575 : Int32)).toInt64)), .second, .val (.long (0 : Int64)), .second, .val (.long q4), .second, .val (.double (FP.i2d (p5 &&& (1023 : Int32)))), .second, .val (.ref b4), .val (.double (own_mh av bv q4)), .second, .unset] [])) _
      refine XS.iload X6.here hx rfl (hb hby at_108) rfl ?_
      show Steps p.tables e below (T6.setTop (mkF m 110 #[.val (.int p0), .val (.int p1), .val (.int p2), .val (.int p3), .val (.long q4), .second, .val (.int p5), .val (.int av), .val (.int bv), .val (.int cv), .val (.long ((p2 &&& (1048575 : Int32)).toInt64)), .second, .val (.long (0 : Int64)), .second, .val (.long q4), .second, .val (.double (FP.i2d (p5 &&& (1023 : Int32)))), .second, .val (.ref b4), .val (.double (own_mh av bv q4)), .second, .unset] [(.int cv)])) _
      refine XS.ifNo X6.here hx rfl (hb hby at_110) rfl ((if0 _ _).trans (teq hcz).2) ?_
      show Steps p.tables e below (T6.setTop (mkF m 113 #[.val (.int p0), .val (.int p1), .val (.int p2), .val (.int p3), .val (.long q4), .second, .val (.int p5), .val (.int av), .val (.int bv), .val (.int cv), .val (.long ((p2 &&& (1048575 : Int32)).toInt64)), .second, .val (.long (0 : Int64)), .second, .val (.long q4), .second, .val (.double (FP.i2d (p5 &&& (1023 : Int32)))), .second, .val (.ref b4), .val (.double (own_mh av bv q4)), .second, .unset] [])) _
      refine XS.dload X6.here hx rfl (hb hby at_113) rfl ?_
      show Steps p.tables e below (T6.setTop (mkF m 115 #[.val (.int p0), .val (.int p1), .val (.int p2), .val (.int p3), .val (.long q4), .second, .val (.int p5), .val (.int av), .val (.int bv), .val (.int cv), .val (.long ((p2 &&& (1048575 : Int32)).toInt64)), .second, .val (.long (0 : Int64)), .second, .val (.long q4), .second, .val (.double (FP.i2d (p5 &&& (1023 : Int32)))), .second, .val (.ref b4), .val (.double (own_mh av bv q4)), .second, .unset] [(.double (own_mh av bv q4))])) _
      refine XS.dconst0 X6.here hx rfl (hb hby at_115) rfl ?_
      show Steps p.tables e below (T6.setTop (mkF m 116 #[.val (.int p0), .val (.int p1), .val (.int p2), .val (.int p3), .val (.long q4), .second, .val (.int p5), .val (.int av), .val (.int bv), .val (.int cv), .val (.long ((p2 &&& (1048575 : Int32)).toInt64)), .second, .val (.long (0 : Int64)), .second, .val (.long q4), .second, .val (.double (FP.i2d (p5 &&& (1023 : Int32)))), .second, .val (.ref b4), .val (.double (own_mh av bv q4)), .second, .unset] [(.double FP.dconst0), (.double (own_mh av bv q4))])) _
      refine XS.dcmpS X6.here hx rfl (hb hby at_116) rfl rfl ?_
      show Steps p.tables e below (T6.setTop (mkF m 117 #[.val (.int p0), .val (.int p1), .val (.int p2), .val (.int p3), .val (.long q4), .second, .val (.int p5), .val (.int av), .val (.int bv), .val (.int cv), .val (.long ((p2 &&& (1048575 : Int32)).toInt64)), .second, .val (.long (0 : Int64)), .second, .val (.long q4), .second, .val (.double (FP.i2d (p5 &&& (1023 : Int32)))), .second, .val (.ref b4), .val (.double (own_mh av bv q4)), .second, .unset] [(.int (cmpValue (FP.dcmp (own_mh av bv q4) FP.dconst0) .l))])) _
      refine XS.ifNo X6.here hx rfl (hb hby at_117) rfl ((if0 _ _).trans (teq (own_A (hcv.trans hcz) _)).2) ?_
      show Steps p.tables e below (T6.setTop (mkF m 120 #[.val (.int p0), .val (.int p1), .val (.int p2), .val (.int p3), .val (.long q4), .second, .val (.int p5), .val (.int av), .val (.int bv), .val (.int cv), .val (.long ((p2 &&& (1048575 : Int32)).toInt64)), .second, .val (.long (0 : Int64)), .second, .val (.long q4), .second, .val (.double (FP.i2d (p5 &&& (1023 : Int32)))), .second, .val (.ref b4), .val (.double (own_mh av bv q4)), .second, .unset] [])) _
      refine XS.iconst X6.here hx rfl (hb hby at_120) ?_
      show Steps p.tables e below (T6.setTop (mkF m 121 #[.val (.int p0), .val (.int p1), .val (.int p2), .val (.int p3), .val (.long q4), .second, .val (.int p5), .val (.int av), .val (.int bv), .val (.int cv), .val (.long ((p2 &&& (1048575 : Int32)).toInt64)), .second, .val (.long (0 : Int64)), .second, .val (.long q4), .second, .val (.double (FP.i2d (p5 &&& (1023 : Int32)))), .second, .val (.ref b4), .val (.double (own_mh av bv q4)), .second, .unset] [(.int (1 : Int32))])) _
      refine XS.goto X6.here hx rfl (pc0 := 121) (pc' := 125) rfl (hb hby at_121) (by decide) (by decide) ?_
      exact k
    obtain ⟨fs, hr, hrun, hended, hW, hsame⟩ := X6.leave (v := some (.int (1 : Int32))) (fun h => by rw [Bd.returns] at h; cases h)
    refine ⟨_, _, k7 _ ?_, hrun, hended, _, _, rfl, ?_, ⟨_, rfl⟩, hW, hsame.mono (by decide) (by decide)⟩
    · exact retN X6 hx (t := .boolean) Bd.returns (by simp) (hb hby at_125) hr
    · show own_R (some (.int 1)) n0 _ T6.heap _
      rw [e6]
      exact ⟨rfl, N6⟩
  · have hcp : (0 : Int32) < cv := by
      have z0 : (0 : Int32).toInt = 0 := by decide
      have q : ¬ cv.toInt = (0 : Int32).toInt := fun h => hcz (Int32.toInt_inj.mp h)
      rw [Int32.lt_iff_toInt_lt]
      omega
    obtain ⟨T8, h8, X8, e8, E8, A8, D8, -, st8⟩ := newO X0 hx hZ hown (hw _ (List.mem_of_getElem? (i := 3) rfl)) (hw _ (List.mem_of_getElem? (i := 4) rfl)) (hw _ (List.mem_of_getElem? (i := 5) rfl)) e0 (g := (mkF m 84 #[.val (.int p0), .val (.int p1), .val (.int p2), .val (.int p3), .val (.long q4), .second, .val (.int p5), .val (.int av), .val (.int bv), .val (.int cv), .val (.long ((p2 &&& (1048575 : Int32)).toInt64)), .second, .val (.long (((p3 &&& (2147483647 : Int32)) % cv).toInt64)), .second, .val (.long (((cv.toInt64) * ((p2 &&& (1048575 : Int32)).toInt64)) + (((p3 &&& (2147483647 : Int32)) % cv).toInt64))), .second, .val (.double (FP.i2d (p5 &&& (1023 : Int32)))), .second, .unset, .unset, .unset, .unset] [])) rfl (hb hby at_84) (by decide) (by decide)
    obtain ⟨b8, g8⟩ : ∃ z, z = h0.size := ⟨_, rfl⟩
    rw [← g8] at A8 D8 st8
    have gn_b8 : n0 ≤ b8 := Nat.le_trans Z0 (Nat.le_of_eq g8.symm)
    have Zs8 : n0 ≤ h8.size := Nat.le_trans Z0 E8.1
    have E_b8 := A8
    have F_arrivals_b8 : Fld Z h8 b8 "com/example/lightloom/lightloom/plan/Simulation$Result" "arrivals" "I" (.int (0 : Int32)) := D8 (Or.inr (hw _ (List.mem_of_getElem? (i := 18) rfl))) (ty := .int) (by decide)
    have F_blocked_b8 : Fld Z h8 b8 "com/example/lightloom/lightloom/plan/Simulation$Result" "blocked" "I" (.int (0 : Int32)) := D8 (Or.inr (hw _ (List.mem_of_getElem? (i := 20) rfl))) (ty := .int) (by decide)
    have F_standardError_b8 : Fld Z h8 b8 "com/example/lightloom/lightloom/plan/Simulation$Result" "standardError" "D" (.double (0 : UInt64)) := D8 (Or.inr (hw _ (List.mem_of_getElem? (i := 22) rfl))) (ty := .double) (by decide)
    have F_carriedHops_b8 : Fld Z h8 b8 "com/example/lightloom/lightloom/plan/Simulation$Result" "carriedHops" "J" (.long (0 : Int64)) := D8 (Or.inr (hw _ (List.mem_of_getElem? (i := 24) rfl))) (ty := .long) (by decide)
    obtain ⟨_, _, ⟨T9, L9, k9_, n9⟩, -, X9, ⟨Lc9, hQ9, l9, y9, z9⟩, st9⟩ := X8.specialBack hx (y := (⟨"com/example/lightloom/lightloom/plan/Simulation$Result", "<init>", "(IIDJ)V"⟩ : MethodName)) rfl hown (mvT hZ (hw _ (List.mem_of_getElem? (i := 6) rfl))) (mvT hZ (hw _ (List.mem_of_getElem? (i := 7) rfl))) (mvT hZ (hw _ (List.mem_of_getElem? (i := 8) rfl))) (by decide) (backOf (W := 1) (rm1 l Z a0 hw [] b8 av bv (FP.i2d (p5 &&& (1023 : Int32))) (((cv.toInt64) * ((p2 &&& (1048575 : Int32)).toInt64)) + (((p3 &&& (2147483647 : Int32)) % cv).toInt64)) h8 n0 Zs8 gn_b8 E_b8 F_arrivals_b8 F_blocked_b8 F_standardError_b8 F_carriedHops_b8) hZ (hw _ (List.mem_of_getElem? (i := 8) rfl)) (hw _ (List.mem_of_getElem? (i := 5) rfl)) (by decide) (by decide)) (g := (mkF m 96 #[.val (.int p0), .val (.int p1), .val (.int p2), .val (.int p3), .val (.long q4), .second, .val (.int p5), .val (.int av), .val (.int bv), .val (.int cv), .val (.long ((p2 &&& (1048575 : Int32)).toInt64)), .second, .val (.long (((p3 &&& (2147483647 : Int32)) % cv).toInt64)), .second, .val (.long (((cv.toInt64) * ((p2 &&& (1048575 : Int32)).toInt64)) + (((p3 &&& (2147483647 : Int32)) % cv).toInt64))), .second, .val (.double (FP.i2d (p5 &&& (1023 : Int32)))), .second, .unset, .unset, .unset, .unset] [(.long (((cv.toInt64) * ((p2 &&& (1048575 : Int32)).toInt64)) + (((p3 &&& (2147483647 : Int32)) % cv).toInt64))), (.double (FP.i2d (p5 &&& (1023 : Int32)))), (.int bv), (.int av), (.ref b8), (.ref b8)])) rfl (by rw [hml]; rfl) (Steps.refl _) (a := b8) (argsL := [(.int av), (.int bv), (.double (FP.i2d (p5 &&& (1023 : Int32)))), (.long (((cv.toInt64) * ((p2 &&& (1048575 : Int32)).toInt64)) + (((p3 &&& (2147483647 : Int32)) % cv).toInt64)))]) (rest := [(.ref b8)]) (lenOf pd_2 rfl) rfl (by show 2 * 0 + _ ≤ _; exact Nat.le_of_eq rfl) (hb hby at_96) (fun _ _ => ⟨rfl, e8, (by decide : 1 + 0 ≤ _), (by decide : 4 + 0 ≤ _)⟩)
    dsimp only [Pt.U, Pt.locs, Pt.cells, Pt.slots] at X9 l9 y9 z9 st9 hQ9
    subst l9 y9 z9
    obtain ⟨rfl, Nq9, Kq9, Eq9, Fn_arrivals_9, Fn_blocked_9, Fn_carriedHops_9⟩ := hQ9
    have N9 := Fr.app N0 Nq9
    have Zs9 : n0 ≤ T9.heap.size := Nat.le_trans Zs8 Kq9.1
    replace E_b8 := E_b8.keep Kq9
    obtain ⟨cq10, kq10, q10a, q10b, q10c⟩ := isOf hZ rfl E_b8
    obtain ⟨_, _, ⟨T10, L10, k10_, n10⟩, -, X10, ⟨Lc10, hQ10, l10, y10, z10⟩, st10⟩ := X9.virtualBack hx (y := (⟨"com/example/lightloom/lightloom/plan/Simulation$Result", "meanHops", "()D"⟩ : MethodName)) (z := (⟨"com/example/lightloom/lightloom/plan/Simulation$Result", "meanHops", "()D"⟩ : MethodName)) hown (mvT hZ (hw _ (List.mem_of_getElem? (i := 25) rfl))) (mvT hZ (hw _ (List.mem_of_getElem? (i := 26) rfl))) (notFace_of_selects (args := #[]) (mvT hZ (hw _ (List.mem_of_getElem? (i := 28) rfl)))) (mvT hZ (hw _ (List.mem_of_getElem? (i := 28) rfl))) (mvT hZ (hw _ (List.mem_of_getElem? (i := 27) rfl))) (by decide) (backOf (W := 0) (rm4 l Z a0 hw [] b8 av bv (((cv.toInt64) * ((p2 &&& (1048575 : Int32)).toInt64)) + (((p3 &&& (2147483647 : Int32)) % cv).toInt64)) T9.heap n0 Fn_arrivals_9 Fn_blocked_9 Fn_carriedHops_9 E_b8 (own_nnq p2 p3 hcv hc0 hcz)) hZ (hw _ (List.mem_of_getElem? (i := 29) rfl)) (hw _ (List.mem_of_getElem? (i := 5) rfl)) (by decide) (by decide)) q10a q10c (g := (mkF m 103 #[.val (.int p0), .val (.int p1), .val (.int p2), .val (.int p3), .val (.long q4), .second, .val (.int p5), .val (.int av), .val (.int bv), .val (.int cv), .val (.long ((p2 &&& (1048575 : Int32)).toInt64)), .second, .val (.long (((p3 &&& (2147483647 : Int32)) % cv).toInt64)), .second, .val (.long (((cv.toInt64) * ((p2 &&& (1048575 : Int32)).toInt64)) + (((p3 &&& (2147483647 : Int32)) % cv).toInt64))), .second, .val (.double (FP.i2d (p5 &&& (1023 : Int32)))), .second, .val (.ref b8), .unset, .unset, .unset] [(.ref b8)])) rfl (by rw [hml]; rfl) (Steps.refl _) (argsL := []) (rest := []) (lenOf pd_3 rfl) rfl (by show 2 * 0 + _ ≤ _; exact Nat.le_of_eq rfl) (hb hby at_103) (fun _ _ => ⟨rfl, rfl, (by decide : 1 + 0 ≤ _), (by decide : 4 + 0 ≤ _)⟩)
    dsimp only [Pt.U, Pt.locs, Pt.cells, Pt.slots] at X10 l10 y10 z10 st10 hQ10
    subst l10 y10 z10
    obtain ⟨rfl, Nq10, e10⟩ := hQ10
    have N10 := Fr.app N9 Nq10
    have k11 : ∀ t, Steps p.tables e below (T10.setTop (mkF m 130 #[.val (.int p0), .val (.int p1), .val (.int p2), .val (.int p3), .val (.long q4), .second, .val (.int p5), .val (.int av), .val (.int bv), .val (.int cv), .val (.long ((p2 &&& (1048575 : Int32)).toInt64)), .second, .val (.long (((p3 &&& (2147483647 : Int32)) % cv).toInt64)), .second, .val (.long (((cv.toInt64) * ((p2 &&& (1048575 : Int32)).toInt64)) + (((p3 &&& (2147483647 : Int32)) % cv).toInt64))), .second, .val (.double (FP.i2d (p5 &&& (1023 : Int32)))), .second, .val (.ref b8), .val (.double (own_mh av bv (((cv.toInt64) * ((p2 &&& (1048575 : Int32)).toInt64)) + (((p3 &&& (2147483647 : Int32)) % cv).toInt64)))), .second, .unset] [(.int (lcmpW (((p3 &&& (2147483647 : Int32)) % cv).toInt64) (0 : Int64)))])) t → Steps p.tables e below (s₁.setTop (entryFrame m #[(.int p0), (.int p1), (.int p2), (.int p3), (.long q4), (.int p5)] maxLocals)) t := by
      intro t k
      refine k3 _ ?_
      show Steps p.tables e below (s₁.setTop (mkF m 35 #[.val (.int p0), .val (.int p1), .val (.int p2), .val (.int p3), .val (.long q4), .second, .val (.int p5), .val (.int av), .val (.int bv), .val (.int cv), .val (.long ((p2 &&& (1048575 : Int32)).toInt64)), .second, .unset, .unset, .unset, .unset, .unset, .unset, .unset, .unset, .unset, .unset] [])) _
      refine XS.iload X0.here hx rfl (hb hby at_35) rfl ?_
      show Steps p.tables e below (s₁.setTop (mkF m 37 #[.val (.int p0), .val (.int p1), .val (.int p2), .val (.int p3), .val (.long q4), .second, .val (.int p5), .val (.int av), .val (.int bv), .val (.int cv), .val (.long ((p2 &&& (1048575 : Int32)).toInt64)), .second, .unset, .unset, .unset, .unset, .unset, .unset, .unset, .unset, .unset, .unset] [(.int cv)])) _
      refine XS.ifNo X0.here hx rfl (hb hby at_37) rfl ((if0 _ _).trans (tlt hcp).2.2.2) ?_
      show Steps p.tables e below (s₁.setTop (mkF m 40 #[.val (.int p0), .val (.int p1), .val (.int p2), .val (.int p3), .val (.long q4), .second, .val (.int p5), .val (.int av), .val (.int bv), .val (.int cv), .val (.long ((p2 &&& (1048575 : Int32)).toInt64)), .second, .unset, .unset, .unset, .unset, .unset, .unset, .unset, .unset, .unset, .unset] [])) _
      refine XS.iloadN X0.here hx rfl (hb hby at_40) rfl ?_
      show Steps p.tables e below (s₁.setTop (mkF m 41 #[.val (.int p0), .val (.int p1), .val (.int p2), .val (.int p3), .val (.long q4), .second, .val (.int p5), .val (.int av), .val (.int bv), .val (.int cv), .val (.long ((p2 &&& (1048575 : Int32)).toInt64)), .second, .unset, .unset, .unset, .unset, .unset, .unset, .unset, .unset, .unset, .unset] [(.int p3)])) _
      refine X0.ldcInt hx hown (mvT hZ (hw _ (List.mem_of_getElem? (i := 0) rfl))) (g := (mkF m 41 #[.val (.int p0), .val (.int p1), .val (.int p2), .val (.int p3), .val (.long q4), .second, .val (.int p5), .val (.int av), .val (.int bv), .val (.int cv), .val (.long ((p2 &&& (1048575 : Int32)).toInt64)), .second, .unset, .unset, .unset, .unset, .unset, .unset, .unset, .unset, .unset, .unset] [(.int p3)])) rfl (hb hby at_41) _ ?_
      show Steps p.tables e below (s₁.setTop (mkF m 43 #[.val (.int p0), .val (.int p1), .val (.int p2), .val (.int p3), .val (.long q4), .second, .val (.int p5), .val (.int av), .val (.int bv), .val (.int cv), .val (.long ((p2 &&& (1048575 : Int32)).toInt64)), .second, .unset, .unset, .unset, .unset, .unset, .unset, .unset, .unset, .unset, .unset] [(.int (2147483647 : Int32)), (.int p3)])) _
      refine XS.iand X0.here hx rfl (hb hby at_43) rfl ?_
      show Steps p.tables e below (s₁.setTop (mkF m 44 #[.val (.int p0), .val (.int p1), .val (.int p2), .val (.int p3), .val (.long q4), .second, .val (.int p5), .val (.int av), .val (.int bv), .val (.int cv), .val (.long ((p2 &&& (1048575 : Int32)).toInt64)), .second, .unset, .unset, .unset, .unset, .unset, .unset, .unset, .unset, .unset, .unset] [(.int (p3 &&& (2147483647 : Int32)))])) _
      refine XS.iload X0.here hx rfl (hb hby at_44) rfl ?_
      show Steps p.tables e below (s₁.setTop (mkF m 46 #[.val (.int p0), .val (.int p1), .val (.int p2), .val (.int p3), .val (.long q4), .second, .val (.int p5), .val (.int av), .val (.int bv), .val (.int cv), .val (.long ((p2 &&& (1048575 : Int32)).toInt64)), .second, .unset, .unset, .unset, .unset, .unset, .unset, .unset, .unset, .unset, .unset] [(.int cv), (.int (p3 &&& (2147483647 : Int32)))])) _
      refine iremM X0 hx rfl (hb hby at_46) rfl hcz ?_
      show Steps p.tables e below (s₁.setTop (mkF m 47 #[.val (.int p0), .val (.int p1), .val (.int p2), .val (.int p3), .val (.long q4), .second, .val (.int p5), .val (.int av), .val (.int bv), .val (.int cv), .val (.long ((p2 &&& (1048575 : Int32)).toInt64)), .second, .unset, .unset, .unset, .unset, .unset, .unset, .unset, .unset, .unset, .unset] [(.int ((p3 &&& (2147483647 : Int32)) % cv))])) _
      refine XS.i2l X0.here hx rfl (hb hby at_47) rfl ?_
      show Steps p.tables e below (s₁.setTop (mkF m 48 #[.val (.int p0), .val (.int p1), .val (.int p2), .val (.int p3), .val (.long q4), .second, .val (.int p5), .val (.int av), .val (.int bv), .val (.int cv), .val (.long ((p2 &&& (1048575 : Int32)).toInt64)), .second, .unset, .unset, .unset, .unset, .unset, .unset, .unset, .unset, .unset, .unset] [(.long (((p3 &&& (2147483647 : Int32)) % cv).toInt64))])) _
      refine XS.goto X0.here hx rfl (pc0 := 48) (pc' := 52) rfl (hb hby at_48) (by decide) (by decide) ?_
      show Steps p.tables e below (s₁.setTop (mkF m 52 #[.val (.int p0), .val (.int p1), .val (.int p2), .val (.int p3), .val (.long q4), .second, .val (.int p5), .val (.int av), .val (.int bv), .val (.int cv), .val (.long ((p2 &&& (1048575 : Int32)).toInt64)), .second, .unset, .unset, .unset, .unset, .unset, .unset, .unset, .unset, .unset, .unset] [(.long (((p3 &&& (2147483647 : Int32)) % cv).toInt64))])) _
      refine XS.lstore X0.here hx rfl (hb hby at_52) rfl (l' := #[.val (.int p0), .val (.int p1), .val (.int p2), .val (.int p3), .val (.long q4), .second, .val (.int p5), .val (.int av), .val (.int bv), .val (.int cv), .val (.long ((p2 &&& (1048575 : Int32)).toInt64)), .second, .val (.long (((p3 &&& (2147483647 : Int32)) % cv).toInt64)), .second, .unset, .unset, .unset, .unset, .unset, .unset, .unset, .unset]) rfl ?_
      show Steps p.tables e below (s₁.setTop (mkF m 54 #[.val (.int p0), .val (.int p1), .val (.int p2), .val (.int p3), .val (.long q4), .second, .val (.int p5), .val (.int av), .val (.int bv), .val (.int cv), .val (.long ((p2 &&& (1048575 : Int32)).toInt64)), .second, .val (.long (((p3 &&& (2147483647 : Int32)) % cv).toInt64)), .second, .unset, .unset, .unset, .unset, .unset, .unset, .unset, .unset] [])) _
      refine XS.iload X0.here hx rfl (hb hby at_54) rfl ?_
      show Steps p.tables e below (s₁.setTop (mkF m 56 #[.val (.int p0), .val (.int p1), .val (.int p2), .val (.int p3), .val (.long q4), .second, .val (.int p5), .val (.int av), .val (.int bv), .val (.int cv), .val (.long ((p2 &&& (1048575 : Int32)).toInt64)), .second, .val (.long (((p3 &&& (2147483647 : Int32)) % cv).toInt64)), .second, .unset, .unset, .unset, .unset, .unset, .unset, .unset, .unset] [(.int cv)])) _
      refine XS.ifYes X0.here hx rfl (pc0 := 56) (pc' := 64) rfl (hb hby at_56) rfl ((if0 _ _).trans (feq hcz).2) (by decide) (by decide) ?_
      show Steps p.tables e below (s₁.setTop (mkF m 64 #[.val (.int p0), .val (.int p1), .val (.int p2), .val (.int p3), .val (.long q4), .second, .val (.int p5), .val (.int av), .val (.int bv), .val (.int cv), .val (.long ((p2 &&& (1048575 : Int32)).toInt64)), .second, .val (.long (((p3 &&& (2147483647 : Int32)) % cv).toInt64)), .second, .unset, .unset, .unset, .unset, .unset, .unset, .unset, .unset] [])) _
      refine XS.iload X0.here hx rfl (hb hby at_64) rfl ?_
      show Steps p.tables e below (s₁.setTop (mkF m 66 #[.val (.int p0), .val (.int p1), .val (.int p2), .val (.int p3), .val (.long q4), .second, .val (.int p5), .val (.int av), .val (.int bv), .val (.int cv), .val (.long ((p2 &&& (1048575 : Int32)).toInt64)), .second, .val (.long (((p3 &&& (2147483647 : Int32)) % cv).toInt64)), .second, .unset, .unset, .unset, .unset, .unset, .unset, .unset, .unset] [(.int cv)])) _
      refine XS.i2l X0.here hx rfl (hb hby at_66) rfl ?_
      show Steps p.tables e below (s₁.setTop (mkF m 67 #[.val (.int p0), .val (.int p1), .val (.int p2), .val (.int p3), .val (.long q4), .second, .val (.int p5), .val (.int av), .val (.int bv), .val (.int cv), .val (.long ((p2 &&& (1048575 : Int32)).toInt64)), .second, .val (.long (((p3 &&& (2147483647 : Int32)) % cv).toInt64)), .second, .unset, .unset, .unset, .unset, .unset, .unset, .unset, .unset] [(.long (cv.toInt64))])) _
      refine XS.lload X0.here hx rfl (hb hby at_67) rfl ?_
      show Steps p.tables e below (s₁.setTop (mkF m 69 #[.val (.int p0), .val (.int p1), .val (.int p2), .val (.int p3), .val (.long q4), .second, .val (.int p5), .val (.int av), .val (.int bv), .val (.int cv), .val (.long ((p2 &&& (1048575 : Int32)).toInt64)), .second, .val (.long (((p3 &&& (2147483647 : Int32)) % cv).toInt64)), .second, .unset, .unset, .unset, .unset, .unset, .unset, .unset, .unset] [(.long ((p2 &&& (1048575 : Int32)).toInt64)), (.long (cv.toInt64))])) _
      refine XS.lmul X0.here hx rfl (hb hby at_69) rfl ?_
      show Steps p.tables e below (s₁.setTop (mkF m 70 #[.val (.int p0), .val (.int p1), .val (.int p2), .val (.int p3), .val (.long q4), .second, .val (.int p5), .val (.int av), .val (.int bv), .val (.int cv), .val (.long ((p2 &&& (1048575 : Int32)).toInt64)), .second, .val (.long (((p3 &&& (2147483647 : Int32)) % cv).toInt64)), .second, .unset, .unset, .unset, .unset, .unset, .unset, .unset, .unset] [(.long ((cv.toInt64) * ((p2 &&& (1048575 : Int32)).toInt64)))])) _
      refine XS.lload X0.here hx rfl (hb hby at_70) rfl ?_
      show Steps p.tables e below (s₁.setTop (mkF m 72 #[.val (.int p0), .val (.int p1), .val (.int p2), .val (.int p3), .val (.long q4), .second, .val (.int p5), .val (.int av), .val (.int bv), .val (.int cv), .val (.long ((p2 &&& (1048575 : Int32)).toInt64)), .second, .val (.long (((p3 &&& (2147483647 : Int32)) % cv).toInt64)), .second, .unset, .unset, .unset, .unset, .unset, .unset, .unset, .unset] [(.long (((p3 &&& (2147483647 : Int32)) % cv).toInt64)), (.long ((cv.toInt64) * ((p2 &&& (1048575 : Int32)).toInt64)))])) _
      refine XS.ladd X0.here hx rfl (hb hby at_72) rfl ?_
      show Steps p.tables e below (s₁.setTop (mkF m 73 #[.val (.int p0), .val (.int p1), .val (.int p2), .val (.int p3), .val (.long q4), .second, .val (.int p5), .val (.int av), .val (.int bv), .val (.int cv), .val (.long ((p2 &&& (1048575 : Int32)).toInt64)), .second, .val (.long (((p3 &&& (2147483647 : Int32)) % cv).toInt64)), .second, .unset, .unset, .unset, .unset, .unset, .unset, .unset, .unset] [(.long (((cv.toInt64) * ((p2 &&& (1048575 : Int32)).toInt64)) + (((p3 &&& (2147483647 : Int32)) % cv).toInt64)))])) _
      refine XS.lstore X0.here hx rfl (hb hby at_73) rfl (l' := #[.val (.int p0), .val (.int p1), .val (.int p2), .val (.int p3), .val (.long q4), .second, .val (.int p5), .val (.int av), .val (.int bv), .val (.int cv), .val (.long ((p2 &&& (1048575 : Int32)).toInt64)), .second, .val (.long (((p3 &&& (2147483647 : Int32)) % cv).toInt64)), .second, .val (.long (((cv.toInt64) * ((p2 &&& (1048575 : Int32)).toInt64)) + (((p3 &&& (2147483647 : Int32)) % cv).toInt64))), .second, .unset, .unset, .unset, .unset, .unset, .unset]) rfl ?_
      show Steps p.tables e below (s₁.setTop (mkF m 75 #[.val (.int p0), .val (.int p1), .val (.int p2), .val (.int p3), .val (.long q4), .second, .val (.int p5), .val (.int av), .val (.int bv), .val (.int cv), .val (.long ((p2 &&& (1048575 : Int32)).toInt64)), .second, .val (.long (((p3 &&& (2147483647 : Int32)) % cv).toInt64)), .second, .val (.long (((cv.toInt64) * ((p2 &&& (1048575 : Int32)).toInt64)) + (((p3 &&& (2147483647 : Int32)) % cv).toInt64))), .second, .unset, .unset, .unset, .unset, .unset, .unset] [])) _
      refine XS.iload X0.here hx rfl (hb hby at_75) rfl ?_
      show Steps p.tables e below (s₁.setTop (mkF m 77 #[.val (.int p0), .val (.int p1), .val (.int p2), .val (.int p3), .val (.long q4), .second, .val (.int p5), .val (.int av), .val (.int bv), .val (.int cv), .val (.long ((p2 &&& (1048575 : Int32)).toInt64)), .second, .val (.long (((p3 &&& (2147483647 : Int32)) % cv).toInt64)), .second, .val (.long (((cv.toInt64) * ((p2 &&& (1048575 : Int32)).toInt64)) + (((p3 &&& (2147483647 : Int32)) % cv).toInt64))), .second, .unset, .unset, .unset, .unset, .unset, .unset] [(.int p5)])) _
      refine XS.sipush X0.here hx rfl (hb hby at_77) ?_
      show Steps p.tables e below (s₁.setTop (mkF m 80 #[.val (.int p0), .val (.int p1), .val (.int p2), .val (.int p3), .val (.long q4), .second, .val (.int p5), .val (.int av), .val (.int bv), .val (.int cv), .val (.long ((p2 &&& (1048575 : Int32)).toInt64)), .second, .val (.long (((p3 &&& (2147483647 : Int32)) % cv).toInt64)), .second, .val (.long (((cv.toInt64) * ((p2 &&& (1048575 : Int32)).toInt64)) + (((p3 &&& (2147483647 : Int32)) % cv).toInt64))), .second, .unset, .unset, .unset, .unset, .unset, .unset] [(.int (1023 : Int32)), (.int p5)])) _
      refine XS.iand X0.here hx rfl (hb hby at_80) rfl ?_
      show Steps p.tables e below (s₁.setTop (mkF m 81 #[.val (.int p0), .val (.int p1), .val (.int p2), .val (.int p3), .val (.long q4), .second, .val (.int p5), .val (.int av), .val (.int bv), .val (.int cv), .val (.long ((p2 &&& (1048575 : Int32)).toInt64)), .second, .val (.long (((p3 &&& (2147483647 : Int32)) % cv).toInt64)), .second, .val (.long (((cv.toInt64) * ((p2 &&& (1048575 : Int32)).toInt64)) + (((p3 &&& (2147483647 : Int32)) % cv).toInt64))), .second, .unset, .unset, .unset, .unset, .unset, .unset] [(.int (p5 &&& (1023 : Int32)))])) _
      refine XS.i2dS X0.here hx rfl (hb hby at_81) rfl rfl ?_
      show Steps p.tables e below (s₁.setTop (mkF m 82 #[.val (.int p0), .val (.int p1), .val (.int p2), .val (.int p3), .val (.long q4), .second, .val (.int p5), .val (.int av), .val (.int bv), .val (.int cv), .val (.long ((p2 &&& (1048575 : Int32)).toInt64)), .second, .val (.long (((p3 &&& (2147483647 : Int32)) % cv).toInt64)), .second, .val (.long (((cv.toInt64) * ((p2 &&& (1048575 : Int32)).toInt64)) + (((p3 &&& (2147483647 : Int32)) % cv).toInt64))), .second, .unset, .unset, .unset, .unset, .unset, .unset] [(.double (FP.i2d (p5 &&& (1023 : Int32))))])) _
      refine XS.dstore X0.here hx rfl (hb hby at_82) rfl (l' := #[.val (.int p0), .val (.int p1), .val (.int p2), .val (.int p3), .val (.long q4), .second, .val (.int p5), .val (.int av), .val (.int bv), .val (.int cv), .val (.long ((p2 &&& (1048575 : Int32)).toInt64)), .second, .val (.long (((p3 &&& (2147483647 : Int32)) % cv).toInt64)), .second, .val (.long (((cv.toInt64) * ((p2 &&& (1048575 : Int32)).toInt64)) + (((p3 &&& (2147483647 : Int32)) % cv).toInt64))), .second, .val (.double (FP.i2d (p5 &&& (1023 : Int32)))), .second, .unset, .unset, .unset, .unset]) rfl ?_
      show Steps p.tables e below (s₁.setTop (mkF m 84 #[.val (.int p0), .val (.int p1), .val (.int p2), .val (.int p3), .val (.long q4), .second, .val (.int p5), .val (.int av), .val (.int bv), .val (.int cv), .val (.long ((p2 &&& (1048575 : Int32)).toInt64)), .second, .val (.long (((p3 &&& (2147483647 : Int32)) % cv).toInt64)), .second, .val (.long (((cv.toInt64) * ((p2 &&& (1048575 : Int32)).toInt64)) + (((p3 &&& (2147483647 : Int32)) % cv).toInt64))), .second, .val (.double (FP.i2d (p5 &&& (1023 : Int32)))), .second, .unset, .unset, .unset, .unset] [])) _
      refine st8 _ ?_
      show Steps p.tables e below (T8.setTop (mkF m 87 #[.val (.int p0), .val (.int p1), .val (.int p2), .val (.int p3), .val (.long q4), .second, .val (.int p5), .val (.int av), .val (.int bv), .val (.int cv), .val (.long ((p2 &&& (1048575 : Int32)).toInt64)), .second, .val (.long (((p3 &&& (2147483647 : Int32)) % cv).toInt64)), .second, .val (.long (((cv.toInt64) * ((p2 &&& (1048575 : Int32)).toInt64)) + (((p3 &&& (2147483647 : Int32)) % cv).toInt64))), .second, .val (.double (FP.i2d (p5 &&& (1023 : Int32)))), .second, .unset, .unset, .unset, .unset] [(.ref b8)])) _
      refine XS.dup X8.here hx rfl (hb hby at_87) rfl rfl ?_
      show Steps p.tables e below (T8.setTop (mkF m 88 #[.val (.int p0), .val (.int p1), .val (.int p2), .val (.int p3), .val (.long q4), .second, .val (.int p5), .val (.int av), .val (.int bv), .val (.int cv), .val (.long ((p2 &&& (1048575 : Int32)).toInt64)), .second, .val (.long (((p3 &&& (2147483647 : Int32)) % cv).toInt64)), .second, .val (.long (((cv.toInt64) * ((p2 &&& (1048575 : Int32)).toInt64)) + (((p3 &&& (2147483647 : Int32)) % cv).toInt64))), .second, .val (.double (FP.i2d (p5 &&& (1023 : Int32)))), .second, .unset, .unset, .unset, .unset] [(.ref b8), (.ref b8)])) _
      refine XS.iload X8.here hx rfl (hb hby at_88) rfl ?_
      show Steps p.tables e below (T8.setTop (mkF m 90 #[.val (.int p0), .val (.int p1), .val (.int p2), .val (.int p3), .val (.long q4), .second, .val (.int p5), .val (.int av), .val (.int bv), .val (.int cv), .val (.long ((p2 &&& (1048575 : Int32)).toInt64)), .second, .val (.long (((p3 &&& (2147483647 : Int32)) % cv).toInt64)), .second, .val (.long (((cv.toInt64) * ((p2 &&& (1048575 : Int32)).toInt64)) + (((p3 &&& (2147483647 : Int32)) % cv).toInt64))), .second, .val (.double (FP.i2d (p5 &&& (1023 : Int32)))), .second, .unset, .unset, .unset, .unset] [(.int av), (.ref b8), (.ref b8)])) _
      refine XS.iload X8.here hx rfl (hb hby at_90) rfl ?_
      show Steps p.tables e below (T8.setTop (mkF m 92 #[.val (.int p0), .val (.int p1), .val (.int p2), .val (.int p3), .val (.long q4), .second, .val (.int p5), .val (.int av), .val (.int bv), .val (.int cv), .val (.long ((p2 &&& (1048575 : Int32)).toInt64)), .second, .val (.long (((p3 &&& (2147483647 : Int32)) % cv).toInt64)), .second, .val (.long (((cv.toInt64) * ((p2 &&& (1048575 : Int32)).toInt64)) + (((p3 &&& (2147483647 : Int32)) % cv).toInt64))), .second, .val (.double (FP.i2d (p5 &&& (1023 : Int32)))), .second, .unset, .unset, .unset, .unset] [(.int bv), (.int av), (.ref b8), (.ref b8)])) _
      refine XS.dload X8.here hx rfl (hb hby at_92) rfl ?_
      show Steps p.tables e below (T8.setTop (mkF m 94 #[.val (.int p0), .val (.int p1), .val (.int p2), .val (.int p3), .val (.long q4), .second, .val (.int p5), .val (.int av), .val (.int bv), .val (.int cv), .val (.long ((p2 &&& (1048575 : Int32)).toInt64)), .second, .val (.long (((p3 &&& (2147483647 : Int32)) % cv).toInt64)), .second, .val (.long (((cv.toInt64) * ((p2 &&& (1048575 : Int32)).toInt64)) + (((p3 &&& (2147483647 : Int32)) % cv).toInt64))), .second, .val (.double (FP.i2d (p5 &&& (1023 : Int32)))), .second, .unset, .unset, .unset, .unset] [(.double (FP.i2d (p5 &&& (1023 : Int32)))), (.int bv), (.int av), (.ref b8), (.ref b8)])) _
      refine XS.lload X8.here hx rfl (hb hby at_94) rfl ?_
      show Steps p.tables e below (T8.setTop (mkF m 96 #[.val (.int p0), .val (.int p1), .val (.int p2), .val (.int p3), .val (.long q4), .second, .val (.int p5), .val (.int av), .val (.int bv), .val (.int cv), .val (.long ((p2 &&& (1048575 : Int32)).toInt64)), .second, .val (.long (((p3 &&& (2147483647 : Int32)) % cv).toInt64)), .second, .val (.long (((cv.toInt64) * ((p2 &&& (1048575 : Int32)).toInt64)) + (((p3 &&& (2147483647 : Int32)) % cv).toInt64))), .second, .val (.double (FP.i2d (p5 &&& (1023 : Int32)))), .second, .unset, .unset, .unset, .unset] [(.long (((cv.toInt64) * ((p2 &&& (1048575 : Int32)).toInt64)) + (((p3 &&& (2147483647 : Int32)) % cv).toInt64))), (.double (FP.i2d (p5 &&& (1023 : Int32)))), (.int bv), (.int av), (.ref b8), (.ref b8)])) _
      refine st9.trans ?_
      show Steps p.tables e below (T9.setTop (mkF m 99 #[.val (.int p0), .val (.int p1), .val (.int p2), .val (.int p3), .val (.long q4), .second, .val (.int p5), .val (.int av), .val (.int bv), .val (.int cv), .val (.long ((p2 &&& (1048575 : Int32)).toInt64)), .second, .val (.long (((p3 &&& (2147483647 : Int32)) % cv).toInt64)), .second, .val (.long (((cv.toInt64) * ((p2 &&& (1048575 : Int32)).toInt64)) + (((p3 &&& (2147483647 : Int32)) % cv).toInt64))), .second, .val (.double (FP.i2d (p5 &&& (1023 : Int32)))), .second, .unset, .unset, .unset, .unset] [(.ref b8)])) _
      refine XS.astore X9.here hx rfl (hb hby at_99) rfl rfl (l' := #[.val (.int p0), .val (.int p1), .val (.int p2), .val (.int p3), .val (.long q4), .second, .val (.int p5), .val (.int av), .val (.int bv), .val (.int cv), .val (.long ((p2 &&& (1048575 : Int32)).toInt64)), .second, .val (.long (((p3 &&& (2147483647 : Int32)) % cv).toInt64)), .second, .val (.long (((cv.toInt64) * ((p2 &&& (1048575 : Int32)).toInt64)) + (((p3 &&& (2147483647 : Int32)) % cv).toInt64))), .second, .val (.double (FP.i2d (p5 &&& (1023 : Int32)))), .second, .val (.ref b8), .unset, .unset, .unset]) rfl ?_
      show Steps p.tables e below (T9.setTop (mkF m 101 #[.val (.int p0), .val (.int p1), .val (.int p2), .val (.int p3), .val (.long q4), .second, .val (.int p5), .val (.int av), .val (.int bv), .val (.int cv), .val (.long ((p2 &&& (1048575 : Int32)).toInt64)), .second, .val (.long (((p3 &&& (2147483647 : Int32)) % cv).toInt64)), .second, .val (.long (((cv.toInt64) * ((p2 &&& (1048575 : Int32)).toInt64)) + (((p3 &&& (2147483647 : Int32)) % cv).toInt64))), .second, .val (.double (FP.i2d (p5 &&& (1023 : Int32)))), .second, .val (.ref b8), .unset, .unset, .unset] [])) _
      refine XS.aload X9.here hx rfl (hb hby at_101) rfl rfl ?_
      show Steps p.tables e below (T9.setTop (mkF m 103 #[.val (.int p0), .val (.int p1), .val (.int p2), .val (.int p3), .val (.long q4), .second, .val (.int p5), .val (.int av), .val (.int bv), .val (.int cv), .val (.long ((p2 &&& (1048575 : Int32)).toInt64)), .second, .val (.long (((p3 &&& (2147483647 : Int32)) % cv).toInt64)), .second, .val (.long (((cv.toInt64) * ((p2 &&& (1048575 : Int32)).toInt64)) + (((p3 &&& (2147483647 : Int32)) % cv).toInt64))), .second, .val (.double (FP.i2d (p5 &&& (1023 : Int32)))), .second, .val (.ref b8), .unset, .unset, .unset] [(.ref b8)])) _
      refine st10.trans ?_
      show Steps p.tables e below (T10.setTop (mkF m 106 #[.val (.int p0), .val (.int p1), .val (.int p2), .val (.int p3), .val (.long q4), .second, .val (.int p5), .val (.int av), .val (.int bv), .val (.int cv), .val (.long ((p2 &&& (1048575 : Int32)).toInt64)), .second, .val (.long (((p3 &&& (2147483647 : Int32)) % cv).toInt64)), .second, .val (.long (((cv.toInt64) * ((p2 &&& (1048575 : Int32)).toInt64)) + (((p3 &&& (2147483647 : Int32)) % cv).toInt64))), .second, .val (.double (FP.i2d (p5 &&& (1023 : Int32)))), .second, .val (.ref b8), .unset, .unset, .unset] [(.double (own_mh av bv (((cv.toInt64) * ((p2 &&& (1048575 : Int32)).toInt64)) + (((p3 &&& (2147483647 : Int32)) % cv).toInt64))))])) _
      refine XS.dstore X10.here hx rfl (hb hby at_106) rfl (l' := #[.val (.int p0), .val (.int p1), .val (.int p2), .val (.int p3), .val (.long q4), .second, .val (.int p5), .val (.int av), .val (.int bv), .val (.int cv), .val (.long ((p2 &&& (1048575 : Int32)).toInt64)), .second, .val (.long (((p3 &&& (2147483647 : Int32)) % cv).toInt64)), .second, .val (.long (((cv.toInt64) * ((p2 &&& (1048575 : Int32)).toInt64)) + (((p3 &&& (2147483647 : Int32)) % cv).toInt64))), .second, .val (.double (FP.i2d (p5 &&& (1023 : Int32)))), .second, .val (.ref b8), .val (.double (own_mh av bv (((cv.toInt64) * ((p2 &&& (1048575 : Int32)).toInt64)) + (((p3 &&& (2147483647 : Int32)) % cv).toInt64)))), .second, .unset]) rfl ?_
      show Steps p.tables e below (T10.setTop (mkF m 108 #[.val (.int p0), .val (.int p1), .val (.int p2), .val (.int p3), .val (.long q4), .second, .val (.int p5), .val (.int av), .val (.int bv), .val (.int cv), .val (.long ((p2 &&& (1048575 : Int32)).toInt64)), .second, .val (.long (((p3 &&& (2147483647 : Int32)) % cv).toInt64)), .second, .val (.long (((cv.toInt64) * ((p2 &&& (1048575 : Int32)).toInt64)) + (((p3 &&& (2147483647 : Int32)) % cv).toInt64))), .second, .val (.double (FP.i2d (p5 &&& (1023 : Int32)))), .second, .val (.ref b8), .val (.double (own_mh av bv (((cv.toInt64) * ((p2 &&& (1048575 : Int32)).toInt64)) + (((p3 &&& (2147483647 : Int32)) % cv).toInt64)))), .second, .unset] [])) _
      refine XS.iload X10.here hx rfl (hb hby at_108) rfl ?_
      show Steps p.tables e below (T10.setTop (mkF m 110 #[.val (.int p0), .val (.int p1), .val (.int p2), .val (.int p3), .val (.long q4), .second, .val (.int p5), .val (.int av), .val (.int bv), .val (.int cv), .val (.long ((p2 &&& (1048575 : Int32)).toInt64)), .second, .val (.long (((p3 &&& (2147483647 : Int32)) % cv).toInt64)), .second, .val (.long (((cv.toInt64) * ((p2 &&& (1048575 : Int32)).toInt64)) + (((p3 &&& (2147483647 : Int32)) % cv).toInt64))), .second, .val (.double (FP.i2d (p5 &&& (1023 : Int32)))), .second, .val (.ref b8), .val (.double (own_mh av bv (((cv.toInt64) * ((p2 &&& (1048575 : Int32)).toInt64)) + (((p3 &&& (2147483647 : Int32)) % cv).toInt64)))), .second, .unset] [(.int cv)])) _
      refine XS.ifYes X10.here hx rfl (pc0 := 110) (pc' := 126) rfl (hb hby at_110) rfl ((if0 _ _).trans (feq hcz).2) (by decide) (by decide) ?_
      show Steps p.tables e below (T10.setTop (mkF m 126 #[.val (.int p0), .val (.int p1), .val (.int p2), .val (.int p3), .val (.long q4), .second, .val (.int p5), .val (.int av), .val (.int bv), .val (.int cv), .val (.long ((p2 &&& (1048575 : Int32)).toInt64)), .second, .val (.long (((p3 &&& (2147483647 : Int32)) % cv).toInt64)), .second, .val (.long (((cv.toInt64) * ((p2 &&& (1048575 : Int32)).toInt64)) + (((p3 &&& (2147483647 : Int32)) % cv).toInt64))), .second, .val (.double (FP.i2d (p5 &&& (1023 : Int32)))), .second, .val (.ref b8), .val (.double (own_mh av bv (((cv.toInt64) * ((p2 &&& (1048575 : Int32)).toInt64)) + (((p3 &&& (2147483647 : Int32)) % cv).toInt64)))), .second, .unset] [])) _
      refine XS.lload X10.here hx rfl (hb hby at_126) rfl ?_
      show Steps p.tables e below (T10.setTop (mkF m 128 #[.val (.int p0), .val (.int p1), .val (.int p2), .val (.int p3), .val (.long q4), .second, .val (.int p5), .val (.int av), .val (.int bv), .val (.int cv), .val (.long ((p2 &&& (1048575 : Int32)).toInt64)), .second, .val (.long (((p3 &&& (2147483647 : Int32)) % cv).toInt64)), .second, .val (.long (((cv.toInt64) * ((p2 &&& (1048575 : Int32)).toInt64)) + (((p3 &&& (2147483647 : Int32)) % cv).toInt64))), .second, .val (.double (FP.i2d (p5 &&& (1023 : Int32)))), .second, .val (.ref b8), .val (.double (own_mh av bv (((cv.toInt64) * ((p2 &&& (1048575 : Int32)).toInt64)) + (((p3 &&& (2147483647 : Int32)) % cv).toInt64)))), .second, .unset] [(.long (((p3 &&& (2147483647 : Int32)) % cv).toInt64))])) _
      refine XS.lconst X10.here hx rfl (hb hby at_128) ?_
      show Steps p.tables e below (T10.setTop (mkF m 129 #[.val (.int p0), .val (.int p1), .val (.int p2), .val (.int p3), .val (.long q4), .second, .val (.int p5), .val (.int av), .val (.int bv), .val (.int cv), .val (.long ((p2 &&& (1048575 : Int32)).toInt64)), .second, .val (.long (((p3 &&& (2147483647 : Int32)) % cv).toInt64)), .second, .val (.long (((cv.toInt64) * ((p2 &&& (1048575 : Int32)).toInt64)) + (((p3 &&& (2147483647 : Int32)) % cv).toInt64))), .second, .val (.double (FP.i2d (p5 &&& (1023 : Int32)))), .second, .val (.ref b8), .val (.double (own_mh av bv (((cv.toInt64) * ((p2 &&& (1048575 : Int32)).toInt64)) + (((p3 &&& (2147483647 : Int32)) % cv).toInt64)))), .second, .unset] [(.long (0 : Int64)), (.long (((p3 &&& (2147483647 : Int32)) % cv).toInt64))])) _
      refine XS.lcmp X10.here hx rfl (hb hby at_129) rfl ?_
      exact k
    by_cases hc130_1 : (((p3 &&& (2147483647 : Int32)) % cv).toInt64) = (0 : Int64)
    · have k12 : ∀ t, Steps p.tables e below (T10.setTop (mkF m 187 #[.val (.int p0), .val (.int p1), .val (.int p2), .val (.int p3), .val (.long q4), .second, .val (.int p5), .val (.int av), .val (.int bv), .val (.int cv), .val (.long ((p2 &&& (1048575 : Int32)).toInt64)), .second, .val (.long (((p3 &&& (2147483647 : Int32)) % cv).toInt64)), .second, .val (.long (((cv.toInt64) * ((p2 &&& (1048575 : Int32)).toInt64)) + (((p3 &&& (2147483647 : Int32)) % cv).toInt64))), .second, .val (.double (FP.i2d (p5 &&& (1023 : Int32)))), .second, .val (.ref b8), .val (.double (own_mh av bv (((cv.toInt64) * ((p2 &&& (1048575 : Int32)).toInt64)) + (((p3 &&& (2147483647 : Int32)) % cv).toInt64)))), .second, .val (.int (1 : Int32))] [(.int (1 : Int32))])) t → Steps p.tables e below (s₁.setTop (entryFrame m #[(.int p0), (.int p1), (.int p2), (.int p3), (.long q4), (.int p5)] maxLocals)) t := by
        intro t k
        refine k11 _ ?_
        show Steps p.tables e below (T10.setTop (mkF m 130 #[.val (.int p0), .val (.int p1), .val (.int p2), .val (.int p3), .val (.long q4), .second, .val (.int p5), .val (.int av), .val (.int bv), .val (.int cv), .val (.long ((p2 &&& (1048575 : Int32)).toInt64)), .second, .val (.long (((p3 &&& (2147483647 : Int32)) % cv).toInt64)), .second, .val (.long (((cv.toInt64) * ((p2 &&& (1048575 : Int32)).toInt64)) + (((p3 &&& (2147483647 : Int32)) % cv).toInt64))), .second, .val (.double (FP.i2d (p5 &&& (1023 : Int32)))), .second, .val (.ref b8), .val (.double (own_mh av bv (((cv.toInt64) * ((p2 &&& (1048575 : Int32)).toInt64)) + (((p3 &&& (2147483647 : Int32)) % cv).toInt64)))), .second, .unset] [(.int (lcmpW (((p3 &&& (2147483647 : Int32)) % cv).toInt64) (0 : Int64)))])) _
        refine XS.ifNo X10.here hx rfl (hb hby at_130) rfl ((if0 _ _).trans (teq ((lw_eq _ _).mpr hc130_1)).2) ?_
        show Steps p.tables e below (T10.setTop (mkF m 133 #[.val (.int p0), .val (.int p1), .val (.int p2), .val (.int p3), .val (.long q4), .second, .val (.int p5), .val (.int av), .val (.int bv), .val (.int cv), .val (.long ((p2 &&& (1048575 : Int32)).toInt64)), .second, .val (.long (((p3 &&& (2147483647 : Int32)) % cv).toInt64)), .second, .val (.long (((cv.toInt64) * ((p2 &&& (1048575 : Int32)).toInt64)) + (((p3 &&& (2147483647 : Int32)) % cv).toInt64))), .second, .val (.double (FP.i2d (p5 &&& (1023 : Int32)))), .second, .val (.ref b8), .val (.double (own_mh av bv (((cv.toInt64) * ((p2 &&& (1048575 : Int32)).toInt64)) + (((p3 &&& (2147483647 : Int32)) % cv).toInt64)))), .second, .unset] [])) _
        refine XS.dload X10.here hx rfl (hb hby at_133) rfl ?_
        show Steps p.tables e below (T10.setTop (mkF m 135 #[.val (.int p0), .val (.int p1), .val (.int p2), .val (.int p3), .val (.long q4), .second, .val (.int p5), .val (.int av), .val (.int bv), .val (.int cv), .val (.long ((p2 &&& (1048575 : Int32)).toInt64)), .second, .val (.long (((p3 &&& (2147483647 : Int32)) % cv).toInt64)), .second, .val (.long (((cv.toInt64) * ((p2 &&& (1048575 : Int32)).toInt64)) + (((p3 &&& (2147483647 : Int32)) % cv).toInt64))), .second, .val (.double (FP.i2d (p5 &&& (1023 : Int32)))), .second, .val (.ref b8), .val (.double (own_mh av bv (((cv.toInt64) * ((p2 &&& (1048575 : Int32)).toInt64)) + (((p3 &&& (2147483647 : Int32)) % cv).toInt64)))), .second, .unset] [(.double (own_mh av bv (((cv.toInt64) * ((p2 &&& (1048575 : Int32)).toInt64)) + (((p3 &&& (2147483647 : Int32)) % cv).toInt64))))])) _
        refine XS.lload X10.here hx rfl (hb hby at_135) rfl ?_
        show Steps p.tables e below (T10.setTop (mkF m 137 #[.val (.int p0), .val (.int p1), .val (.int p2), .val (.int p3), .val (.long q4), .second, .val (.int p5), .val (.int av), .val (.int bv), .val (.int cv), .val (.long ((p2 &&& (1048575 : Int32)).toInt64)), .second, .val (.long (((p3 &&& (2147483647 : Int32)) % cv).toInt64)), .second, .val (.long (((cv.toInt64) * ((p2 &&& (1048575 : Int32)).toInt64)) + (((p3 &&& (2147483647 : Int32)) % cv).toInt64))), .second, .val (.double (FP.i2d (p5 &&& (1023 : Int32)))), .second, .val (.ref b8), .val (.double (own_mh av bv (((cv.toInt64) * ((p2 &&& (1048575 : Int32)).toInt64)) + (((p3 &&& (2147483647 : Int32)) % cv).toInt64)))), .second, .unset] [(.long ((p2 &&& (1048575 : Int32)).toInt64)), (.double (own_mh av bv (((cv.toInt64) * ((p2 &&& (1048575 : Int32)).toInt64)) + (((p3 &&& (2147483647 : Int32)) % cv).toInt64))))])) _
        refine XS.l2dS X10.here hx rfl (hb hby at_137) rfl rfl ?_
        show Steps p.tables e below (T10.setTop (mkF m 138 #[.val (.int p0), .val (.int p1), .val (.int p2), .val (.int p3), .val (.long q4), .second, .val (.int p5), .val (.int av), .val (.int bv), .val (.int cv), .val (.long ((p2 &&& (1048575 : Int32)).toInt64)), .second, .val (.long (((p3 &&& (2147483647 : Int32)) % cv).toInt64)), .second, .val (.long (((cv.toInt64) * ((p2 &&& (1048575 : Int32)).toInt64)) + (((p3 &&& (2147483647 : Int32)) % cv).toInt64))), .second, .val (.double (FP.i2d (p5 &&& (1023 : Int32)))), .second, .val (.ref b8), .val (.double (own_mh av bv (((cv.toInt64) * ((p2 &&& (1048575 : Int32)).toInt64)) + (((p3 &&& (2147483647 : Int32)) % cv).toInt64)))), .second, .unset] [(.double (FP.l2d ((p2 &&& (1048575 : Int32)).toInt64))), (.double (own_mh av bv (((cv.toInt64) * ((p2 &&& (1048575 : Int32)).toInt64)) + (((p3 &&& (2147483647 : Int32)) % cv).toInt64))))])) _
        refine XS.dcmpS X10.here hx rfl (hb hby at_138) rfl rfl ?_
        show Steps p.tables e below (T10.setTop (mkF m 139 #[.val (.int p0), .val (.int p1), .val (.int p2), .val (.int p3), .val (.long q4), .second, .val (.int p5), .val (.int av), .val (.int bv), .val (.int cv), .val (.long ((p2 &&& (1048575 : Int32)).toInt64)), .second, .val (.long (((p3 &&& (2147483647 : Int32)) % cv).toInt64)), .second, .val (.long (((cv.toInt64) * ((p2 &&& (1048575 : Int32)).toInt64)) + (((p3 &&& (2147483647 : Int32)) % cv).toInt64))), .second, .val (.double (FP.i2d (p5 &&& (1023 : Int32)))), .second, .val (.ref b8), .val (.double (own_mh av bv (((cv.toInt64) * ((p2 &&& (1048575 : Int32)).toInt64)) + (((p3 &&& (2147483647 : Int32)) % cv).toInt64)))), .second, .unset] [(.int (cmpValue (FP.dcmp (own_mh av bv (((cv.toInt64) * ((p2 &&& (1048575 : Int32)).toInt64)) + (((p3 &&& (2147483647 : Int32)) % cv).toInt64))) (FP.l2d ((p2 &&& (1048575 : Int32)).toInt64))) .l))])) _
        refine XS.ifNo X10.here hx rfl (hb hby at_139) rfl ((if0 _ _).trans (teq (own_B1 p2 p3 hcv hc0 hcz hc130_1)).2) ?_
        show Steps p.tables e below (T10.setTop (mkF m 142 #[.val (.int p0), .val (.int p1), .val (.int p2), .val (.int p3), .val (.long q4), .second, .val (.int p5), .val (.int av), .val (.int bv), .val (.int cv), .val (.long ((p2 &&& (1048575 : Int32)).toInt64)), .second, .val (.long (((p3 &&& (2147483647 : Int32)) % cv).toInt64)), .second, .val (.long (((cv.toInt64) * ((p2 &&& (1048575 : Int32)).toInt64)) + (((p3 &&& (2147483647 : Int32)) % cv).toInt64))), .second, .val (.double (FP.i2d (p5 &&& (1023 : Int32)))), .second, .val (.ref b8), .val (.double (own_mh av bv (((cv.toInt64) * ((p2 &&& (1048575 : Int32)).toInt64)) + (((p3 &&& (2147483647 : Int32)) % cv).toInt64)))), .second, .unset] [])) _
        refine XS.iconst X10.here hx rfl (hb hby at_142) ?_
        show Steps p.tables e below (T10.setTop (mkF m 143 #[.val (.int p0), .val (.int p1), .val (.int p2), .val (.int p3), .val (.long q4), .second, .val (.int p5), .val (.int av), .val (.int bv), .val (.int cv), .val (.long ((p2 &&& (1048575 : Int32)).toInt64)), .second, .val (.long (((p3 &&& (2147483647 : Int32)) % cv).toInt64)), .second, .val (.long (((cv.toInt64) * ((p2 &&& (1048575 : Int32)).toInt64)) + (((p3 &&& (2147483647 : Int32)) % cv).toInt64))), .second, .val (.double (FP.i2d (p5 &&& (1023 : Int32)))), .second, .val (.ref b8), .val (.double (own_mh av bv (((cv.toInt64) * ((p2 &&& (1048575 : Int32)).toInt64)) + (((p3 &&& (2147483647 : Int32)) % cv).toInt64)))), .second, .unset] [(.int (1 : Int32))])) _
        refine XS.goto X10.here hx rfl (pc0 := 143) (pc' := 164) rfl (hb hby at_143) (by decide) (by decide) ?_
        show Steps p.tables e below (T10.setTop (mkF m 164 #[.val (.int p0), .val (.int p1), .val (.int p2), .val (.int p3), .val (.long q4), .second, .val (.int p5), .val (.int av), .val (.int bv), .val (.int cv), .val (.long ((p2 &&& (1048575 : Int32)).toInt64)), .second, .val (.long (((p3 &&& (2147483647 : Int32)) % cv).toInt64)), .second, .val (.long (((cv.toInt64) * ((p2 &&& (1048575 : Int32)).toInt64)) + (((p3 &&& (2147483647 : Int32)) % cv).toInt64))), .second, .val (.double (FP.i2d (p5 &&& (1023 : Int32)))), .second, .val (.ref b8), .val (.double (own_mh av bv (((cv.toInt64) * ((p2 &&& (1048575 : Int32)).toInt64)) + (((p3 &&& (2147483647 : Int32)) % cv).toInt64)))), .second, .unset] [(.int (1 : Int32))])) _
        refine XS.istore X10.here hx rfl (hb hby at_164) rfl (l' := #[.val (.int p0), .val (.int p1), .val (.int p2), .val (.int p3), .val (.long q4), .second, .val (.int p5), .val (.int av), .val (.int bv), .val (.int cv), .val (.long ((p2 &&& (1048575 : Int32)).toInt64)), .second, .val (.long (((p3 &&& (2147483647 : Int32)) % cv).toInt64)), .second, .val (.long (((cv.toInt64) * ((p2 &&& (1048575 : Int32)).toInt64)) + (((p3 &&& (2147483647 : Int32)) % cv).toInt64))), .second, .val (.double (FP.i2d (p5 &&& (1023 : Int32)))), .second, .val (.ref b8), .val (.double (own_mh av bv (((cv.toInt64) * ((p2 &&& (1048575 : Int32)).toInt64)) + (((p3 &&& (2147483647 : Int32)) % cv).toInt64)))), .second, .val (.int (1 : Int32))]) rfl ?_
        show Steps p.tables e below (T10.setTop (mkF m 166 #[.val (.int p0), .val (.int p1), .val (.int p2), .val (.int p3), .val (.long q4), .second, .val (.int p5), .val (.int av), .val (.int bv), .val (.int cv), .val (.long ((p2 &&& (1048575 : Int32)).toInt64)), .second, .val (.long (((p3 &&& (2147483647 : Int32)) % cv).toInt64)), .second, .val (.long (((cv.toInt64) * ((p2 &&& (1048575 : Int32)).toInt64)) + (((p3 &&& (2147483647 : Int32)) % cv).toInt64))), .second, .val (.double (FP.i2d (p5 &&& (1023 : Int32)))), .second, .val (.ref b8), .val (.double (own_mh av bv (((cv.toInt64) * ((p2 &&& (1048575 : Int32)).toInt64)) + (((p3 &&& (2147483647 : Int32)) % cv).toInt64)))), .second, .val (.int (1 : Int32))] [])) _
        refine XS.iload X10.here hx rfl (hb hby at_166) rfl ?_
        show Steps p.tables e below (T10.setTop (mkF m 168 #[.val (.int p0), .val (.int p1), .val (.int p2), .val (.int p3), .val (.long q4), .second, .val (.int p5), .val (.int av), .val (.int bv), .val (.int cv), .val (.long ((p2 &&& (1048575 : Int32)).toInt64)), .second, .val (.long (((p3 &&& (2147483647 : Int32)) % cv).toInt64)), .second, .val (.long (((cv.toInt64) * ((p2 &&& (1048575 : Int32)).toInt64)) + (((p3 &&& (2147483647 : Int32)) % cv).toInt64))), .second, .val (.double (FP.i2d (p5 &&& (1023 : Int32)))), .second, .val (.ref b8), .val (.double (own_mh av bv (((cv.toInt64) * ((p2 &&& (1048575 : Int32)).toInt64)) + (((p3 &&& (2147483647 : Int32)) % cv).toInt64)))), .second, .val (.int (1 : Int32))] [(.int (1 : Int32))])) _
        refine XS.ifNo X10.here hx rfl (hb hby at_168) rfl ((if0 _ _).trans (feq (by decide)).1) ?_
        show Steps p.tables e below (T10.setTop (mkF m 171 #[.val (.int p0), .val (.int p1), .val (.int p2), .val (.int p3), .val (.long q4), .second, .val (.int p5), .val (.int av), .val (.int bv), .val (.int cv), .val (.long ((p2 &&& (1048575 : Int32)).toInt64)), .second, .val (.long (((p3 &&& (2147483647 : Int32)) % cv).toInt64)), .second, .val (.long (((cv.toInt64) * ((p2 &&& (1048575 : Int32)).toInt64)) + (((p3 &&& (2147483647 : Int32)) % cv).toInt64))), .second, .val (.double (FP.i2d (p5 &&& (1023 : Int32)))), .second, .val (.ref b8), .val (.double (own_mh av bv (((cv.toInt64) * ((p2 &&& (1048575 : Int32)).toInt64)) + (((p3 &&& (2147483647 : Int32)) % cv).toInt64)))), .second, .val (.int (1 : Int32))] [])) _
        refine XS.dload X10.here hx rfl (hb hby at_171) rfl ?_
        show Steps p.tables e below (T10.setTop (mkF m 173 #[.val (.int p0), .val (.int p1), .val (.int p2), .val (.int p3), .val (.long q4), .second, .val (.int p5), .val (.int av), .val (.int bv), .val (.int cv), .val (.long ((p2 &&& (1048575 : Int32)).toInt64)), .second, .val (.long (((p3 &&& (2147483647 : Int32)) % cv).toInt64)), .second, .val (.long (((cv.toInt64) * ((p2 &&& (1048575 : Int32)).toInt64)) + (((p3 &&& (2147483647 : Int32)) % cv).toInt64))), .second, .val (.double (FP.i2d (p5 &&& (1023 : Int32)))), .second, .val (.ref b8), .val (.double (own_mh av bv (((cv.toInt64) * ((p2 &&& (1048575 : Int32)).toInt64)) + (((p3 &&& (2147483647 : Int32)) % cv).toInt64)))), .second, .val (.int (1 : Int32))] [(.double (own_mh av bv (((cv.toInt64) * ((p2 &&& (1048575 : Int32)).toInt64)) + (((p3 &&& (2147483647 : Int32)) % cv).toInt64))))])) _
        refine XS.lload X10.here hx rfl (hb hby at_173) rfl ?_
        show Steps p.tables e below (T10.setTop (mkF m 175 #[.val (.int p0), .val (.int p1), .val (.int p2), .val (.int p3), .val (.long q4), .second, .val (.int p5), .val (.int av), .val (.int bv), .val (.int cv), .val (.long ((p2 &&& (1048575 : Int32)).toInt64)), .second, .val (.long (((p3 &&& (2147483647 : Int32)) % cv).toInt64)), .second, .val (.long (((cv.toInt64) * ((p2 &&& (1048575 : Int32)).toInt64)) + (((p3 &&& (2147483647 : Int32)) % cv).toInt64))), .second, .val (.double (FP.i2d (p5 &&& (1023 : Int32)))), .second, .val (.ref b8), .val (.double (own_mh av bv (((cv.toInt64) * ((p2 &&& (1048575 : Int32)).toInt64)) + (((p3 &&& (2147483647 : Int32)) % cv).toInt64)))), .second, .val (.int (1 : Int32))] [(.long ((p2 &&& (1048575 : Int32)).toInt64)), (.double (own_mh av bv (((cv.toInt64) * ((p2 &&& (1048575 : Int32)).toInt64)) + (((p3 &&& (2147483647 : Int32)) % cv).toInt64))))])) _
        refine XS.l2dS X10.here hx rfl (hb hby at_175) rfl rfl ?_
        show Steps p.tables e below (T10.setTop (mkF m 176 #[.val (.int p0), .val (.int p1), .val (.int p2), .val (.int p3), .val (.long q4), .second, .val (.int p5), .val (.int av), .val (.int bv), .val (.int cv), .val (.long ((p2 &&& (1048575 : Int32)).toInt64)), .second, .val (.long (((p3 &&& (2147483647 : Int32)) % cv).toInt64)), .second, .val (.long (((cv.toInt64) * ((p2 &&& (1048575 : Int32)).toInt64)) + (((p3 &&& (2147483647 : Int32)) % cv).toInt64))), .second, .val (.double (FP.i2d (p5 &&& (1023 : Int32)))), .second, .val (.ref b8), .val (.double (own_mh av bv (((cv.toInt64) * ((p2 &&& (1048575 : Int32)).toInt64)) + (((p3 &&& (2147483647 : Int32)) % cv).toInt64)))), .second, .val (.int (1 : Int32))] [(.double (FP.l2d ((p2 &&& (1048575 : Int32)).toInt64))), (.double (own_mh av bv (((cv.toInt64) * ((p2 &&& (1048575 : Int32)).toInt64)) + (((p3 &&& (2147483647 : Int32)) % cv).toInt64))))])) _
        refine XS.dconst1 X10.here hx rfl (hb hby at_176) rfl ?_
        show Steps p.tables e below (T10.setTop (mkF m 177 #[.val (.int p0), .val (.int p1), .val (.int p2), .val (.int p3), .val (.long q4), .second, .val (.int p5), .val (.int av), .val (.int bv), .val (.int cv), .val (.long ((p2 &&& (1048575 : Int32)).toInt64)), .second, .val (.long (((p3 &&& (2147483647 : Int32)) % cv).toInt64)), .second, .val (.long (((cv.toInt64) * ((p2 &&& (1048575 : Int32)).toInt64)) + (((p3 &&& (2147483647 : Int32)) % cv).toInt64))), .second, .val (.double (FP.i2d (p5 &&& (1023 : Int32)))), .second, .val (.ref b8), .val (.double (own_mh av bv (((cv.toInt64) * ((p2 &&& (1048575 : Int32)).toInt64)) + (((p3 &&& (2147483647 : Int32)) % cv).toInt64)))), .second, .val (.int (1 : Int32))] [(.double FP.dconst1), (.double (FP.l2d ((p2 &&& (1048575 : Int32)).toInt64))), (.double (own_mh av bv (((cv.toInt64) * ((p2 &&& (1048575 : Int32)).toInt64)) + (((p3 &&& (2147483647 : Int32)) % cv).toInt64))))])) _
        refine XS.daddS X10.here hx rfl (hb hby at_177) rfl (own_nnd p2) rfl ?_
        show Steps p.tables e below (T10.setTop (mkF m 178 #[.val (.int p0), .val (.int p1), .val (.int p2), .val (.int p3), .val (.long q4), .second, .val (.int p5), .val (.int av), .val (.int bv), .val (.int cv), .val (.long ((p2 &&& (1048575 : Int32)).toInt64)), .second, .val (.long (((p3 &&& (2147483647 : Int32)) % cv).toInt64)), .second, .val (.long (((cv.toInt64) * ((p2 &&& (1048575 : Int32)).toInt64)) + (((p3 &&& (2147483647 : Int32)) % cv).toInt64))), .second, .val (.double (FP.i2d (p5 &&& (1023 : Int32)))), .second, .val (.ref b8), .val (.double (own_mh av bv (((cv.toInt64) * ((p2 &&& (1048575 : Int32)).toInt64)) + (((p3 &&& (2147483647 : Int32)) % cv).toInt64)))), .second, .val (.int (1 : Int32))] [(.double (FP.dadd (FP.l2d ((p2 &&& (1048575 : Int32)).toInt64)) FP.dconst1)), (.double (own_mh av bv (((cv.toInt64) * ((p2 &&& (1048575 : Int32)).toInt64)) + (((p3 &&& (2147483647 : Int32)) % cv).toInt64))))])) _
        refine XS.dcmpS X10.here hx rfl (hb hby at_178) rfl rfl ?_
        show Steps p.tables e below (T10.setTop (mkF m 179 #[.val (.int p0), .val (.int p1), .val (.int p2), .val (.int p3), .val (.long q4), .second, .val (.int p5), .val (.int av), .val (.int bv), .val (.int cv), .val (.long ((p2 &&& (1048575 : Int32)).toInt64)), .second, .val (.long (((p3 &&& (2147483647 : Int32)) % cv).toInt64)), .second, .val (.long (((cv.toInt64) * ((p2 &&& (1048575 : Int32)).toInt64)) + (((p3 &&& (2147483647 : Int32)) % cv).toInt64))), .second, .val (.double (FP.i2d (p5 &&& (1023 : Int32)))), .second, .val (.ref b8), .val (.double (own_mh av bv (((cv.toInt64) * ((p2 &&& (1048575 : Int32)).toInt64)) + (((p3 &&& (2147483647 : Int32)) % cv).toInt64)))), .second, .val (.int (1 : Int32))] [(.int (cmpValue (FP.dcmp (own_mh av bv (((cv.toInt64) * ((p2 &&& (1048575 : Int32)).toInt64)) + (((p3 &&& (2147483647 : Int32)) % cv).toInt64))) (FP.dadd (FP.l2d ((p2 &&& (1048575 : Int32)).toInt64)) FP.dconst1)) .g))])) _
        refine XS.ifNo X10.here hx rfl (hb hby at_179) rfl ((if0 _ _).trans (tlt (own_B3 p2 p3 hcv hc0 hcz)).2.1) ?_
        show Steps p.tables e below (T10.setTop (mkF m 182 #[.val (.int p0), .val (.int p1), .val (.int p2), .val (.int p3), .val (.long q4), .second, .val (.int p5), .val (.int av), .val (.int bv), .val (.int cv), .val (.long ((p2 &&& (1048575 : Int32)).toInt64)), .second, .val (.long (((p3 &&& (2147483647 : Int32)) % cv).toInt64)), .second, .val (.long (((cv.toInt64) * ((p2 &&& (1048575 : Int32)).toInt64)) + (((p3 &&& (2147483647 : Int32)) % cv).toInt64))), .second, .val (.double (FP.i2d (p5 &&& (1023 : Int32)))), .second, .val (.ref b8), .val (.double (own_mh av bv (((cv.toInt64) * ((p2 &&& (1048575 : Int32)).toInt64)) + (((p3 &&& (2147483647 : Int32)) % cv).toInt64)))), .second, .val (.int (1 : Int32))] [])) _
        refine XS.iconst X10.here hx rfl (hb hby at_182) ?_
        show Steps p.tables e below (T10.setTop (mkF m 183 #[.val (.int p0), .val (.int p1), .val (.int p2), .val (.int p3), .val (.long q4), .second, .val (.int p5), .val (.int av), .val (.int bv), .val (.int cv), .val (.long ((p2 &&& (1048575 : Int32)).toInt64)), .second, .val (.long (((p3 &&& (2147483647 : Int32)) % cv).toInt64)), .second, .val (.long (((cv.toInt64) * ((p2 &&& (1048575 : Int32)).toInt64)) + (((p3 &&& (2147483647 : Int32)) % cv).toInt64))), .second, .val (.double (FP.i2d (p5 &&& (1023 : Int32)))), .second, .val (.ref b8), .val (.double (own_mh av bv (((cv.toInt64) * ((p2 &&& (1048575 : Int32)).toInt64)) + (((p3 &&& (2147483647 : Int32)) % cv).toInt64)))), .second, .val (.int (1 : Int32))] [(.int (1 : Int32))])) _
        refine XS.goto X10.here hx rfl (pc0 := 183) (pc' := 187) rfl (hb hby at_183) (by decide) (by decide) ?_
        exact k
      obtain ⟨fs, hr, hrun, hended, hW, hsame⟩ := X10.leave (v := some (.int (1 : Int32))) (fun h => by rw [Bd.returns] at h; cases h)
      refine ⟨_, _, k12 _ ?_, hrun, hended, _, _, rfl, ?_, ⟨_, rfl⟩, hW, hsame.mono (by decide) (by decide)⟩
      · exact retN X10 hx (t := .boolean) Bd.returns (by simp) (hb hby at_187) hr
      · show own_R (some (.int 1)) n0 _ T10.heap _
        rw [e10]
        exact ⟨rfl, N10⟩
    · have k13 : ∀ t, Steps p.tables e below (T10.setTop (mkF m 187 #[.val (.int p0), .val (.int p1), .val (.int p2), .val (.int p3), .val (.long q4), .second, .val (.int p5), .val (.int av), .val (.int bv), .val (.int cv), .val (.long ((p2 &&& (1048575 : Int32)).toInt64)), .second, .val (.long (((p3 &&& (2147483647 : Int32)) % cv).toInt64)), .second, .val (.long (((cv.toInt64) * ((p2 &&& (1048575 : Int32)).toInt64)) + (((p3 &&& (2147483647 : Int32)) % cv).toInt64))), .second, .val (.double (FP.i2d (p5 &&& (1023 : Int32)))), .second, .val (.ref b8), .val (.double (own_mh av bv (((cv.toInt64) * ((p2 &&& (1048575 : Int32)).toInt64)) + (((p3 &&& (2147483647 : Int32)) % cv).toInt64)))), .second, .val (.int (1 : Int32))] [(.int (1 : Int32))])) t → Steps p.tables e below (s₁.setTop (entryFrame m #[(.int p0), (.int p1), (.int p2), (.int p3), (.long q4), (.int p5)] maxLocals)) t := by
        intro t k
        refine k11 _ ?_
        show Steps p.tables e below (T10.setTop (mkF m 130 #[.val (.int p0), .val (.int p1), .val (.int p2), .val (.int p3), .val (.long q4), .second, .val (.int p5), .val (.int av), .val (.int bv), .val (.int cv), .val (.long ((p2 &&& (1048575 : Int32)).toInt64)), .second, .val (.long (((p3 &&& (2147483647 : Int32)) % cv).toInt64)), .second, .val (.long (((cv.toInt64) * ((p2 &&& (1048575 : Int32)).toInt64)) + (((p3 &&& (2147483647 : Int32)) % cv).toInt64))), .second, .val (.double (FP.i2d (p5 &&& (1023 : Int32)))), .second, .val (.ref b8), .val (.double (own_mh av bv (((cv.toInt64) * ((p2 &&& (1048575 : Int32)).toInt64)) + (((p3 &&& (2147483647 : Int32)) % cv).toInt64)))), .second, .unset] [(.int (lcmpW (((p3 &&& (2147483647 : Int32)) % cv).toInt64) (0 : Int64)))])) _
        refine XS.ifYes X10.here hx rfl (pc0 := 130) (pc' := 150) rfl (hb hby at_130) rfl ((if0 _ _).trans (feq (fun q => hc130_1 ((lw_eq _ _).mp q))).2) (by decide) (by decide) ?_
        show Steps p.tables e below (T10.setTop (mkF m 150 #[.val (.int p0), .val (.int p1), .val (.int p2), .val (.int p3), .val (.long q4), .second, .val (.int p5), .val (.int av), .val (.int bv), .val (.int cv), .val (.long ((p2 &&& (1048575 : Int32)).toInt64)), .second, .val (.long (((p3 &&& (2147483647 : Int32)) % cv).toInt64)), .second, .val (.long (((cv.toInt64) * ((p2 &&& (1048575 : Int32)).toInt64)) + (((p3 &&& (2147483647 : Int32)) % cv).toInt64))), .second, .val (.double (FP.i2d (p5 &&& (1023 : Int32)))), .second, .val (.ref b8), .val (.double (own_mh av bv (((cv.toInt64) * ((p2 &&& (1048575 : Int32)).toInt64)) + (((p3 &&& (2147483647 : Int32)) % cv).toInt64)))), .second, .unset] [])) _
        refine XS.dload X10.here hx rfl (hb hby at_150) rfl ?_
        show Steps p.tables e below (T10.setTop (mkF m 152 #[.val (.int p0), .val (.int p1), .val (.int p2), .val (.int p3), .val (.long q4), .second, .val (.int p5), .val (.int av), .val (.int bv), .val (.int cv), .val (.long ((p2 &&& (1048575 : Int32)).toInt64)), .second, .val (.long (((p3 &&& (2147483647 : Int32)) % cv).toInt64)), .second, .val (.long (((cv.toInt64) * ((p2 &&& (1048575 : Int32)).toInt64)) + (((p3 &&& (2147483647 : Int32)) % cv).toInt64))), .second, .val (.double (FP.i2d (p5 &&& (1023 : Int32)))), .second, .val (.ref b8), .val (.double (own_mh av bv (((cv.toInt64) * ((p2 &&& (1048575 : Int32)).toInt64)) + (((p3 &&& (2147483647 : Int32)) % cv).toInt64)))), .second, .unset] [(.double (own_mh av bv (((cv.toInt64) * ((p2 &&& (1048575 : Int32)).toInt64)) + (((p3 &&& (2147483647 : Int32)) % cv).toInt64))))])) _
        refine XS.lload X10.here hx rfl (hb hby at_152) rfl ?_
        show Steps p.tables e below (T10.setTop (mkF m 154 #[.val (.int p0), .val (.int p1), .val (.int p2), .val (.int p3), .val (.long q4), .second, .val (.int p5), .val (.int av), .val (.int bv), .val (.int cv), .val (.long ((p2 &&& (1048575 : Int32)).toInt64)), .second, .val (.long (((p3 &&& (2147483647 : Int32)) % cv).toInt64)), .second, .val (.long (((cv.toInt64) * ((p2 &&& (1048575 : Int32)).toInt64)) + (((p3 &&& (2147483647 : Int32)) % cv).toInt64))), .second, .val (.double (FP.i2d (p5 &&& (1023 : Int32)))), .second, .val (.ref b8), .val (.double (own_mh av bv (((cv.toInt64) * ((p2 &&& (1048575 : Int32)).toInt64)) + (((p3 &&& (2147483647 : Int32)) % cv).toInt64)))), .second, .unset] [(.long ((p2 &&& (1048575 : Int32)).toInt64)), (.double (own_mh av bv (((cv.toInt64) * ((p2 &&& (1048575 : Int32)).toInt64)) + (((p3 &&& (2147483647 : Int32)) % cv).toInt64))))])) _
        refine XS.l2dS X10.here hx rfl (hb hby at_154) rfl rfl ?_
        show Steps p.tables e below (T10.setTop (mkF m 155 #[.val (.int p0), .val (.int p1), .val (.int p2), .val (.int p3), .val (.long q4), .second, .val (.int p5), .val (.int av), .val (.int bv), .val (.int cv), .val (.long ((p2 &&& (1048575 : Int32)).toInt64)), .second, .val (.long (((p3 &&& (2147483647 : Int32)) % cv).toInt64)), .second, .val (.long (((cv.toInt64) * ((p2 &&& (1048575 : Int32)).toInt64)) + (((p3 &&& (2147483647 : Int32)) % cv).toInt64))), .second, .val (.double (FP.i2d (p5 &&& (1023 : Int32)))), .second, .val (.ref b8), .val (.double (own_mh av bv (((cv.toInt64) * ((p2 &&& (1048575 : Int32)).toInt64)) + (((p3 &&& (2147483647 : Int32)) % cv).toInt64)))), .second, .unset] [(.double (FP.l2d ((p2 &&& (1048575 : Int32)).toInt64))), (.double (own_mh av bv (((cv.toInt64) * ((p2 &&& (1048575 : Int32)).toInt64)) + (((p3 &&& (2147483647 : Int32)) % cv).toInt64))))])) _
        refine XS.dcmpS X10.here hx rfl (hb hby at_155) rfl rfl ?_
        show Steps p.tables e below (T10.setTop (mkF m 156 #[.val (.int p0), .val (.int p1), .val (.int p2), .val (.int p3), .val (.long q4), .second, .val (.int p5), .val (.int av), .val (.int bv), .val (.int cv), .val (.long ((p2 &&& (1048575 : Int32)).toInt64)), .second, .val (.long (((p3 &&& (2147483647 : Int32)) % cv).toInt64)), .second, .val (.long (((cv.toInt64) * ((p2 &&& (1048575 : Int32)).toInt64)) + (((p3 &&& (2147483647 : Int32)) % cv).toInt64))), .second, .val (.double (FP.i2d (p5 &&& (1023 : Int32)))), .second, .val (.ref b8), .val (.double (own_mh av bv (((cv.toInt64) * ((p2 &&& (1048575 : Int32)).toInt64)) + (((p3 &&& (2147483647 : Int32)) % cv).toInt64)))), .second, .unset] [(.int (cmpValue (FP.dcmp (own_mh av bv (((cv.toInt64) * ((p2 &&& (1048575 : Int32)).toInt64)) + (((p3 &&& (2147483647 : Int32)) % cv).toInt64))) (FP.l2d ((p2 &&& (1048575 : Int32)).toInt64))) .l))])) _
        refine XS.ifNo X10.here hx rfl (hb hby at_156) rfl ((if0 _ _).trans (tlt (own_B2 p2 p3 hcv hc0 hcz hc130_1)).2.2.2) ?_
        show Steps p.tables e below (T10.setTop (mkF m 159 #[.val (.int p0), .val (.int p1), .val (.int p2), .val (.int p3), .val (.long q4), .second, .val (.int p5), .val (.int av), .val (.int bv), .val (.int cv), .val (.long ((p2 &&& (1048575 : Int32)).toInt64)), .second, .val (.long (((p3 &&& (2147483647 : Int32)) % cv).toInt64)), .second, .val (.long (((cv.toInt64) * ((p2 &&& (1048575 : Int32)).toInt64)) + (((p3 &&& (2147483647 : Int32)) % cv).toInt64))), .second, .val (.double (FP.i2d (p5 &&& (1023 : Int32)))), .second, .val (.ref b8), .val (.double (own_mh av bv (((cv.toInt64) * ((p2 &&& (1048575 : Int32)).toInt64)) + (((p3 &&& (2147483647 : Int32)) % cv).toInt64)))), .second, .unset] [])) _
        refine XS.iconst X10.here hx rfl (hb hby at_159) ?_
        show Steps p.tables e below (T10.setTop (mkF m 160 #[.val (.int p0), .val (.int p1), .val (.int p2), .val (.int p3), .val (.long q4), .second, .val (.int p5), .val (.int av), .val (.int bv), .val (.int cv), .val (.long ((p2 &&& (1048575 : Int32)).toInt64)), .second, .val (.long (((p3 &&& (2147483647 : Int32)) % cv).toInt64)), .second, .val (.long (((cv.toInt64) * ((p2 &&& (1048575 : Int32)).toInt64)) + (((p3 &&& (2147483647 : Int32)) % cv).toInt64))), .second, .val (.double (FP.i2d (p5 &&& (1023 : Int32)))), .second, .val (.ref b8), .val (.double (own_mh av bv (((cv.toInt64) * ((p2 &&& (1048575 : Int32)).toInt64)) + (((p3 &&& (2147483647 : Int32)) % cv).toInt64)))), .second, .unset] [(.int (1 : Int32))])) _
        refine XS.goto X10.here hx rfl (pc0 := 160) (pc' := 164) rfl (hb hby at_160) (by decide) (by decide) ?_
        show Steps p.tables e below (T10.setTop (mkF m 164 #[.val (.int p0), .val (.int p1), .val (.int p2), .val (.int p3), .val (.long q4), .second, .val (.int p5), .val (.int av), .val (.int bv), .val (.int cv), .val (.long ((p2 &&& (1048575 : Int32)).toInt64)), .second, .val (.long (((p3 &&& (2147483647 : Int32)) % cv).toInt64)), .second, .val (.long (((cv.toInt64) * ((p2 &&& (1048575 : Int32)).toInt64)) + (((p3 &&& (2147483647 : Int32)) % cv).toInt64))), .second, .val (.double (FP.i2d (p5 &&& (1023 : Int32)))), .second, .val (.ref b8), .val (.double (own_mh av bv (((cv.toInt64) * ((p2 &&& (1048575 : Int32)).toInt64)) + (((p3 &&& (2147483647 : Int32)) % cv).toInt64)))), .second, .unset] [(.int (1 : Int32))])) _
        refine XS.istore X10.here hx rfl (hb hby at_164) rfl (l' := #[.val (.int p0), .val (.int p1), .val (.int p2), .val (.int p3), .val (.long q4), .second, .val (.int p5), .val (.int av), .val (.int bv), .val (.int cv), .val (.long ((p2 &&& (1048575 : Int32)).toInt64)), .second, .val (.long (((p3 &&& (2147483647 : Int32)) % cv).toInt64)), .second, .val (.long (((cv.toInt64) * ((p2 &&& (1048575 : Int32)).toInt64)) + (((p3 &&& (2147483647 : Int32)) % cv).toInt64))), .second, .val (.double (FP.i2d (p5 &&& (1023 : Int32)))), .second, .val (.ref b8), .val (.double (own_mh av bv (((cv.toInt64) * ((p2 &&& (1048575 : Int32)).toInt64)) + (((p3 &&& (2147483647 : Int32)) % cv).toInt64)))), .second, .val (.int (1 : Int32))]) rfl ?_
        show Steps p.tables e below (T10.setTop (mkF m 166 #[.val (.int p0), .val (.int p1), .val (.int p2), .val (.int p3), .val (.long q4), .second, .val (.int p5), .val (.int av), .val (.int bv), .val (.int cv), .val (.long ((p2 &&& (1048575 : Int32)).toInt64)), .second, .val (.long (((p3 &&& (2147483647 : Int32)) % cv).toInt64)), .second, .val (.long (((cv.toInt64) * ((p2 &&& (1048575 : Int32)).toInt64)) + (((p3 &&& (2147483647 : Int32)) % cv).toInt64))), .second, .val (.double (FP.i2d (p5 &&& (1023 : Int32)))), .second, .val (.ref b8), .val (.double (own_mh av bv (((cv.toInt64) * ((p2 &&& (1048575 : Int32)).toInt64)) + (((p3 &&& (2147483647 : Int32)) % cv).toInt64)))), .second, .val (.int (1 : Int32))] [])) _
        refine XS.iload X10.here hx rfl (hb hby at_166) rfl ?_
        show Steps p.tables e below (T10.setTop (mkF m 168 #[.val (.int p0), .val (.int p1), .val (.int p2), .val (.int p3), .val (.long q4), .second, .val (.int p5), .val (.int av), .val (.int bv), .val (.int cv), .val (.long ((p2 &&& (1048575 : Int32)).toInt64)), .second, .val (.long (((p3 &&& (2147483647 : Int32)) % cv).toInt64)), .second, .val (.long (((cv.toInt64) * ((p2 &&& (1048575 : Int32)).toInt64)) + (((p3 &&& (2147483647 : Int32)) % cv).toInt64))), .second, .val (.double (FP.i2d (p5 &&& (1023 : Int32)))), .second, .val (.ref b8), .val (.double (own_mh av bv (((cv.toInt64) * ((p2 &&& (1048575 : Int32)).toInt64)) + (((p3 &&& (2147483647 : Int32)) % cv).toInt64)))), .second, .val (.int (1 : Int32))] [(.int (1 : Int32))])) _
        refine XS.ifNo X10.here hx rfl (hb hby at_168) rfl ((if0 _ _).trans (feq (by decide)).1) ?_
        show Steps p.tables e below (T10.setTop (mkF m 171 #[.val (.int p0), .val (.int p1), .val (.int p2), .val (.int p3), .val (.long q4), .second, .val (.int p5), .val (.int av), .val (.int bv), .val (.int cv), .val (.long ((p2 &&& (1048575 : Int32)).toInt64)), .second, .val (.long (((p3 &&& (2147483647 : Int32)) % cv).toInt64)), .second, .val (.long (((cv.toInt64) * ((p2 &&& (1048575 : Int32)).toInt64)) + (((p3 &&& (2147483647 : Int32)) % cv).toInt64))), .second, .val (.double (FP.i2d (p5 &&& (1023 : Int32)))), .second, .val (.ref b8), .val (.double (own_mh av bv (((cv.toInt64) * ((p2 &&& (1048575 : Int32)).toInt64)) + (((p3 &&& (2147483647 : Int32)) % cv).toInt64)))), .second, .val (.int (1 : Int32))] [])) _
        refine XS.dload X10.here hx rfl (hb hby at_171) rfl ?_
        show Steps p.tables e below (T10.setTop (mkF m 173 #[.val (.int p0), .val (.int p1), .val (.int p2), .val (.int p3), .val (.long q4), .second, .val (.int p5), .val (.int av), .val (.int bv), .val (.int cv), .val (.long ((p2 &&& (1048575 : Int32)).toInt64)), .second, .val (.long (((p3 &&& (2147483647 : Int32)) % cv).toInt64)), .second, .val (.long (((cv.toInt64) * ((p2 &&& (1048575 : Int32)).toInt64)) + (((p3 &&& (2147483647 : Int32)) % cv).toInt64))), .second, .val (.double (FP.i2d (p5 &&& (1023 : Int32)))), .second, .val (.ref b8), .val (.double (own_mh av bv (((cv.toInt64) * ((p2 &&& (1048575 : Int32)).toInt64)) + (((p3 &&& (2147483647 : Int32)) % cv).toInt64)))), .second, .val (.int (1 : Int32))] [(.double (own_mh av bv (((cv.toInt64) * ((p2 &&& (1048575 : Int32)).toInt64)) + (((p3 &&& (2147483647 : Int32)) % cv).toInt64))))])) _
        refine XS.lload X10.here hx rfl (hb hby at_173) rfl ?_
        show Steps p.tables e below (T10.setTop (mkF m 175 #[.val (.int p0), .val (.int p1), .val (.int p2), .val (.int p3), .val (.long q4), .second, .val (.int p5), .val (.int av), .val (.int bv), .val (.int cv), .val (.long ((p2 &&& (1048575 : Int32)).toInt64)), .second, .val (.long (((p3 &&& (2147483647 : Int32)) % cv).toInt64)), .second, .val (.long (((cv.toInt64) * ((p2 &&& (1048575 : Int32)).toInt64)) + (((p3 &&& (2147483647 : Int32)) % cv).toInt64))), .second, .val (.double (FP.i2d (p5 &&& (1023 : Int32)))), .second, .val (.ref b8), .val (.double (own_mh av bv (((cv.toInt64) * ((p2 &&& (1048575 : Int32)).toInt64)) + (((p3 &&& (2147483647 : Int32)) % cv).toInt64)))), .second, .val (.int (1 : Int32))] [(.long ((p2 &&& (1048575 : Int32)).toInt64)), (.double (own_mh av bv (((cv.toInt64) * ((p2 &&& (1048575 : Int32)).toInt64)) + (((p3 &&& (2147483647 : Int32)) % cv).toInt64))))])) _
        refine XS.l2dS X10.here hx rfl (hb hby at_175) rfl rfl ?_
        show Steps p.tables e below (T10.setTop (mkF m 176 #[.val (.int p0), .val (.int p1), .val (.int p2), .val (.int p3), .val (.long q4), .second, .val (.int p5), .val (.int av), .val (.int bv), .val (.int cv), .val (.long ((p2 &&& (1048575 : Int32)).toInt64)), .second, .val (.long (((p3 &&& (2147483647 : Int32)) % cv).toInt64)), .second, .val (.long (((cv.toInt64) * ((p2 &&& (1048575 : Int32)).toInt64)) + (((p3 &&& (2147483647 : Int32)) % cv).toInt64))), .second, .val (.double (FP.i2d (p5 &&& (1023 : Int32)))), .second, .val (.ref b8), .val (.double (own_mh av bv (((cv.toInt64) * ((p2 &&& (1048575 : Int32)).toInt64)) + (((p3 &&& (2147483647 : Int32)) % cv).toInt64)))), .second, .val (.int (1 : Int32))] [(.double (FP.l2d ((p2 &&& (1048575 : Int32)).toInt64))), (.double (own_mh av bv (((cv.toInt64) * ((p2 &&& (1048575 : Int32)).toInt64)) + (((p3 &&& (2147483647 : Int32)) % cv).toInt64))))])) _
        refine XS.dconst1 X10.here hx rfl (hb hby at_176) rfl ?_
        show Steps p.tables e below (T10.setTop (mkF m 177 #[.val (.int p0), .val (.int p1), .val (.int p2), .val (.int p3), .val (.long q4), .second, .val (.int p5), .val (.int av), .val (.int bv), .val (.int cv), .val (.long ((p2 &&& (1048575 : Int32)).toInt64)), .second, .val (.long (((p3 &&& (2147483647 : Int32)) % cv).toInt64)), .second, .val (.long (((cv.toInt64) * ((p2 &&& (1048575 : Int32)).toInt64)) + (((p3 &&& (2147483647 : Int32)) % cv).toInt64))), .second, .val (.double (FP.i2d (p5 &&& (1023 : Int32)))), .second, .val (.ref b8), .val (.double (own_mh av bv (((cv.toInt64) * ((p2 &&& (1048575 : Int32)).toInt64)) + (((p3 &&& (2147483647 : Int32)) % cv).toInt64)))), .second, .val (.int (1 : Int32))] [(.double FP.dconst1), (.double (FP.l2d ((p2 &&& (1048575 : Int32)).toInt64))), (.double (own_mh av bv (((cv.toInt64) * ((p2 &&& (1048575 : Int32)).toInt64)) + (((p3 &&& (2147483647 : Int32)) % cv).toInt64))))])) _
        refine XS.daddS X10.here hx rfl (hb hby at_177) rfl (own_nnd p2) rfl ?_
        show Steps p.tables e below (T10.setTop (mkF m 178 #[.val (.int p0), .val (.int p1), .val (.int p2), .val (.int p3), .val (.long q4), .second, .val (.int p5), .val (.int av), .val (.int bv), .val (.int cv), .val (.long ((p2 &&& (1048575 : Int32)).toInt64)), .second, .val (.long (((p3 &&& (2147483647 : Int32)) % cv).toInt64)), .second, .val (.long (((cv.toInt64) * ((p2 &&& (1048575 : Int32)).toInt64)) + (((p3 &&& (2147483647 : Int32)) % cv).toInt64))), .second, .val (.double (FP.i2d (p5 &&& (1023 : Int32)))), .second, .val (.ref b8), .val (.double (own_mh av bv (((cv.toInt64) * ((p2 &&& (1048575 : Int32)).toInt64)) + (((p3 &&& (2147483647 : Int32)) % cv).toInt64)))), .second, .val (.int (1 : Int32))] [(.double (FP.dadd (FP.l2d ((p2 &&& (1048575 : Int32)).toInt64)) FP.dconst1)), (.double (own_mh av bv (((cv.toInt64) * ((p2 &&& (1048575 : Int32)).toInt64)) + (((p3 &&& (2147483647 : Int32)) % cv).toInt64))))])) _
        refine XS.dcmpS X10.here hx rfl (hb hby at_178) rfl rfl ?_
        show Steps p.tables e below (T10.setTop (mkF m 179 #[.val (.int p0), .val (.int p1), .val (.int p2), .val (.int p3), .val (.long q4), .second, .val (.int p5), .val (.int av), .val (.int bv), .val (.int cv), .val (.long ((p2 &&& (1048575 : Int32)).toInt64)), .second, .val (.long (((p3 &&& (2147483647 : Int32)) % cv).toInt64)), .second, .val (.long (((cv.toInt64) * ((p2 &&& (1048575 : Int32)).toInt64)) + (((p3 &&& (2147483647 : Int32)) % cv).toInt64))), .second, .val (.double (FP.i2d (p5 &&& (1023 : Int32)))), .second, .val (.ref b8), .val (.double (own_mh av bv (((cv.toInt64) * ((p2 &&& (1048575 : Int32)).toInt64)) + (((p3 &&& (2147483647 : Int32)) % cv).toInt64)))), .second, .val (.int (1 : Int32))] [(.int (cmpValue (FP.dcmp (own_mh av bv (((cv.toInt64) * ((p2 &&& (1048575 : Int32)).toInt64)) + (((p3 &&& (2147483647 : Int32)) % cv).toInt64))) (FP.dadd (FP.l2d ((p2 &&& (1048575 : Int32)).toInt64)) FP.dconst1)) .g))])) _
        refine XS.ifNo X10.here hx rfl (hb hby at_179) rfl ((if0 _ _).trans (tlt (own_B3 p2 p3 hcv hc0 hcz)).2.1) ?_
        show Steps p.tables e below (T10.setTop (mkF m 182 #[.val (.int p0), .val (.int p1), .val (.int p2), .val (.int p3), .val (.long q4), .second, .val (.int p5), .val (.int av), .val (.int bv), .val (.int cv), .val (.long ((p2 &&& (1048575 : Int32)).toInt64)), .second, .val (.long (((p3 &&& (2147483647 : Int32)) % cv).toInt64)), .second, .val (.long (((cv.toInt64) * ((p2 &&& (1048575 : Int32)).toInt64)) + (((p3 &&& (2147483647 : Int32)) % cv).toInt64))), .second, .val (.double (FP.i2d (p5 &&& (1023 : Int32)))), .second, .val (.ref b8), .val (.double (own_mh av bv (((cv.toInt64) * ((p2 &&& (1048575 : Int32)).toInt64)) + (((p3 &&& (2147483647 : Int32)) % cv).toInt64)))), .second, .val (.int (1 : Int32))] [])) _
        refine XS.iconst X10.here hx rfl (hb hby at_182) ?_
        show Steps p.tables e below (T10.setTop (mkF m 183 #[.val (.int p0), .val (.int p1), .val (.int p2), .val (.int p3), .val (.long q4), .second, .val (.int p5), .val (.int av), .val (.int bv), .val (.int cv), .val (.long ((p2 &&& (1048575 : Int32)).toInt64)), .second, .val (.long (((p3 &&& (2147483647 : Int32)) % cv).toInt64)), .second, .val (.long (((cv.toInt64) * ((p2 &&& (1048575 : Int32)).toInt64)) + (((p3 &&& (2147483647 : Int32)) % cv).toInt64))), .second, .val (.double (FP.i2d (p5 &&& (1023 : Int32)))), .second, .val (.ref b8), .val (.double (own_mh av bv (((cv.toInt64) * ((p2 &&& (1048575 : Int32)).toInt64)) + (((p3 &&& (2147483647 : Int32)) % cv).toInt64)))), .second, .val (.int (1 : Int32))] [(.int (1 : Int32))])) _
        refine XS.goto X10.here hx rfl (pc0 := 183) (pc' := 187) rfl (hb hby at_183) (by decide) (by decide) ?_
        exact k
      obtain ⟨fs, hr, hrun, hended, hW, hsame⟩ := X10.leave (v := some (.int (1 : Int32))) (fun h => by rw [Bd.returns] at h; cases h)
      refine ⟨_, _, k13 _ ?_, hrun, hended, _, _, rfl, ?_, ⟨_, rfl⟩, hW, hsame.mono (by decide) (by decide)⟩
      · exact retN X10 hx (t := .boolean) Bd.returns (by simp) (hb hby at_187) hr
      · show own_R (some (.int 1)) n0 _ T10.heap _
        rw [e10]
        exact ⟨rfl, N10⟩
set_option maxRecDepth 65536 in
set_option maxHeartbeats 40000000 in
theorem comes_1 {Post : Tables → Env → Array Value → State → Outcome → State → Prop} (hpost : ∀ tb e args s v u, (limb_1_1.after args s (.returned v) u = true ∧ limb_1_2.after args s (.returned v) u = true ∧ True) → FrameEnd s (.returned v) u (Jvm.fieldLocs frame_1_writes args s ++ Jvm.arrayLocs frame_1_arrays args s ++ Jvm.staticLocs frame_1_statics s) 16 128 → Post tb e args s (.returned v) u) :
    ArmFor flags0 classFile x code maxLocals ret World_1 tables_1 room_1 Calls_1 rest_1 Pre_1 Post := by
  intro l hfl _ _ p e ha hc hk s m args below hf hA hF happ hP
  obtain ⟨hcalls, hrest, hpre⟩ := hP
  obtain ⟨-, -, -, hnamed, -, -, -, hat⟩ := (Spec.applies_iff hf).mp happ
  obtain ⟨hg, hn⟩ := and_e (Cond.before_iff.mp (show (Jvm.Cond.and given_1 narrow_1).before args s = true from hpre))
  obtain ⟨g0a, g0b⟩ := and_e hg
  obtain ⟨g1a, g1b⟩ := and_e g0b
  obtain ⟨g2a, g2b⟩ := and_e g1b
  obtain ⟨g3a, g3b⟩ := and_e g2b
  obtain ⟨g4a, g4b⟩ := and_e g3b
  obtain ⟨g5a, g5b⟩ := and_e g4b
  obtain ⟨w0, w1, w2, w3, w4, w5, rfl⟩ : ∃ w0 w1 w2 w3 w4 w5 : Value, args = #[w0, w1, w2, w3, w4, w5] := by
    have hs : args.size = 6 := by simpa [Cond.value, given_1] using g0a
    obtain ⟨L⟩ := args
    match L, hs with
    | [w0, w1, w2, w3, w4, w5], _ => exact ⟨w0, w1, w2, w3, w4, w5, rfl⟩
  have hw := fun d (hd : d ∈ tables_1) => atoms_spec (ws := Jvm.Cond.code x code maxLocals ret :: tables_1) hat d (List.mem_cons_of_mem _ hd)
  have hfit : Fit s := fun {y c} hc i hi => by
    obtain ⟨ha, rfl⟩ := Array.getElem?_eq_some_iff.mp hc
    have q := List.all_eq_true.mp ((Array.all_eq_true_iff_forall_mem.mp hF) _ (Array.getElem_mem ha)) i (List.mem_range.mpr hi)
    simpa [Array.getElem?_eq_getElem hi] using q
  obtain ⟨i0, ei0⟩ := is_v g1a
  obtain rfl : w0 = (.int i0) := Option.some.inj ei0
  obtain ⟨i1, ei1⟩ := is_v g2a
  obtain rfl : w1 = (.int i1) := Option.some.inj ei1
  obtain ⟨i2, ei2⟩ := is_v g3a
  obtain rfl : w2 = (.int i2) := Option.some.inj ei2
  obtain ⟨i3, ei3⟩ := is_v g4a
  obtain rfl : w3 = (.int i3) := Option.some.inj ei3
  obtain ⟨i4, ei4⟩ := isL_v g5a
  obtain rfl : w4 = (.long i4) := Option.some.inj ei4
  obtain ⟨i5, ei5⟩ := is_v g5b
  obtain rfl : w5 = (.int i5) := Option.some.inj ei5
  obtain ⟨n, o, h1, h2, h3, _, L, rfl, ⟨rfl, N⟩, hq⟩ := rm0 l s _ hw tables_1 i0 i1 i2 i3 i4 i5 s.heap s.heap.size (Nat.le_refl _) p e ha hc hk s m _ below hf ((Spec.applies_iff_loose hf).mp happ).1 ⟨rfl, State.Warmed39.refl s, rfl⟩ trivial
  refine ⟨n, _, h1, h2, h3, hpost _ _ _ _ _ _ ⟨Cond.after_iff.mpr rfl, Cond.after_iff.mpr (eq_i res_at (Term.int_eval (1)) rfl), trivial⟩ ⟨hq.1, hq.2.1, (hq.2.2.sift fun y hy => Or.inr (N y hy)).mono (by decide) (by decide)⟩⟩
theorem main_1_1 : Claimed_1_1 := comes_1 fun _ _ _ _ _ _ h hF => ⟨h.1, hF⟩
theorem main_1_2 : Claimed_1_2 := comes_1 fun _ _ _ _ _ _ h hF => ⟨h.2.1, hF⟩
end Jvm.Pilot.@@N@@
namespace Jvm.Pilot.@@N@@
open Jvm Jvm.ClassFile Sem Op Lib Jvm.Free Jvm.Stand Jvm.Pilot.@@N@@.Jvm.D
/-! MADE BY PROGRAM (witnessworld.py) out of the Statement's table words and the real class files: 10 classes; the members and pool entries that the words name. The judged class is class 1, her method 1. -/
namespace start1
open Jvm.ClassFile
def u (s : String) : CpInfo := .utf8 (stringToUtf16 s)
/-- a pool by its gaps: so many unusable entries, then the entry; so many at the end -/
def gap : Nat → List CpInfo → List CpInfo
  | 0, r => r
  | n + 1, r => .unusable :: gap n r
def poolList (es : List (Nat × CpInfo)) (last : Nat) : List CpInfo := es.foldr (fun e r => gap e.1 (e.2 :: r)) (gap last [])
def pool (es : List (Nat × CpInfo)) (last : Nat) : Array CpInfo := ⟨poolList es last⟩
def fileOf (pool : Array CpInfo) (this : Nat) (attrs : Array Attribute := #[]) (ms : Array MethodInfo := #[]) (fl : Nat := 33) (sup : Nat := 0) (ifs : Array Nat := #[]) (fds : Array FieldInfo := #[]) : ClassFile where
  minorVersion := 0
  majorVersion := 65
  constantPool := pool
  accessFlags := fl
  thisClass := this
  superClass := sup
  interfaces := ifs
  fields := fds
  methods := ms
  attributes := attrs
def plain (name : String) (sup : Option ClassId) : Class where
  name := name
  kind := .ordinary
  loader := none
  accessFlags := 33
  super := sup
  interfaces := #[]
  cf := none
  fields := #[]
  methods := #[]
  instanceTypes := #[]
  staticTypes := #[]
  resolved := #[]
  callSites := []
  init := .initialized
  statics := none
  mirror := none

def pool0 : Array CpInfo := pool [(5, u "<init>"), (0, u "()V"), (1, .class_ 10), (1, u "java/lang/Object")] 113

def k0c0 : Code := { maxStack := 0, maxLocals := 1, code := object_method_1_code, exceptionTable := #[], attributes := #[] }
def k0m0 : Method := { name := "<init>", desc := "()V", sig := { parameters := [], returnType := none }, accessFlags := 1, code := some k0c0 }
/-- java/lang/Object -/
def k0 : Class := { plain "java/lang/Object" none with
  accessFlags := 33
  interfaces := #[]
  cf := some (fileOf pool0 8 #[] #[{ accessFlags := 1, nameIndex := 5, descriptorIndex := 6, attributes := #[] }] 33 0 #[] #[])
  fields := #[]
  methods := #[k0m0]
  instanceTypes := #[]
  staticTypes := #[]
  resolved := Array.replicate 124 none
  statics := none }

def pool1 : Array CpInfo := pool [(2, .class_ 4), (1, u "java/lang/Object"), (0, u "<init>"), (0, u "()V"), (0, .integer 2147483647), (0, .long 2147483647), (1, .integer 1048575), (0, .class_ 12), (0, u "com/example/lightloom/lightloom/plan/Simulation$Result"), (0, .methodref 11 14), (0, .nameAndType 5 15), (0, u "(IIDJ)V"), (0, .methodref 11 17), (0, .nameAndType 18 19), (0, u "meanHops"), (0, u "()D"), (0, .class_ 21), (0, u "com/example/lightloom/lightloom/plan/ResultMeanHopsPinLaw"), (2, u "law"), (0, u "(IIIIJI)Z")] 7

def k1m0 : Method := { name := "<init>", desc := "()V", sig := { parameters := [], returnType := none }, accessFlags := 1, code := none }
def k1c1 : Code := { maxStack := 8, maxLocals := 22, code := code, exceptionTable := #[], attributes := #[] }
def k1m1 : Method := { name := "law", desc := "(IIIIJI)Z", sig := { parameters := [.int, .int, .int, .int, .long, .int], returnType := some .boolean }, accessFlags := 9, code := some k1c1 }
/-- com/example/lightloom/lightloom/plan/ResultMeanHopsPinLaw -/
def k1 : Class := { plain "com/example/lightloom/lightloom/plan/ResultMeanHopsPinLaw" (some 0) with
  accessFlags := 49
  interfaces := #[]
  cf := some (fileOf pool1 20 #[] #[{ accessFlags := 1, nameIndex := 5, descriptorIndex := 6, attributes := #[] }, { accessFlags := 9, nameIndex := 24, descriptorIndex := 25, attributes := #[] }] 49 2 #[] #[])
  fields := #[]
  methods := #[k1m0, k1m1]
  instanceTypes := #[]
  staticTypes := #[]
  resolved := Array.replicate 33 none
  statics := none }

def pool2 : Array CpInfo := pool [(1, .methodref 2 3), (0, .class_ 4), (0, .nameAndType 5 6), (0, u "java/lang/Object"), (0, u "<init>"), (0, u "()V"), (0, .class_ 8), (0, u "java/lang/Record")] 13

def k2c0 : Code := { maxStack := 1, maxLocals := 1, code := jdk_30_method_1_code, exceptionTable := #[], attributes := #[] }
def k2m0 : Method := { name := "<init>", desc := "()V", sig := { parameters := [], returnType := none }, accessFlags := 4, code := some k2c0 }
/-- java/lang/Record -/
def k2 : Class := { plain "java/lang/Record" (some 0) with
  accessFlags := 1057
  interfaces := #[]
  cf := some (fileOf pool2 7 #[] #[{ accessFlags := 4, nameIndex := 5, descriptorIndex := 6, attributes := #[] }] 1057 2 #[] #[])
  fields := #[]
  methods := #[k2m0]
  instanceTypes := #[]
  staticTypes := #[]
  resolved := Array.replicate 22 none
  statics := none }

def pool3 : Array CpInfo := pool [(1, .methodref 2 3), (0, .class_ 4), (0, .nameAndType 5 6), (0, u "java/lang/Record"), (0, u "<init>"), (0, u "()V"), (0, .fieldref 8 9), (0, .class_ 10), (0, .nameAndType 11 12), (0, u "com/example/lightloom/lightloom/plan/Simulation$Result"), (0, u "arrivals"), (0, u "I"), (0, .fieldref 8 14), (0, .nameAndType 15 12), (0, u "blocked"), (0, .fieldref 8 17), (0, .nameAndType 18 19), (0, u "standardError"), (0, u "D"), (0, .fieldref 8 21), (0, .nameAndType 22 23), (0, u "carriedHops"), (0, u "J"), (0, .methodref 8 25), (0, .nameAndType 26 27), (0, u "carried"), (0, u "()I"), (12, u "(IIDJ)V"), (4, u "()D"), (0, u "meanHops"), (7, .class_ 55), (0, u "com/example/lightloom/lightloom/plan/Simulation")] 22

def k3c0 : Code := { maxStack := 3, maxLocals := 7, code := prog_49_method_1_code, exceptionTable := #[], attributes := #[] }
def k3m0 : Method := { name := "<init>", desc := "(IIDJ)V", sig := { parameters := [.int, .int, .double, .long], returnType := none }, accessFlags := 1, code := some k3c0 }
def k3c1 : Code := { maxStack := 2, maxLocals := 1, code := prog_49_method_2_code, exceptionTable := #[], attributes := #[] }
def k3m1 : Method := { name := "carried", desc := "()I", sig := { parameters := [], returnType := some .int }, accessFlags := 1, code := some k3c1 }
def k3c2 : Code := { maxStack := 4, maxLocals := 1, code := prog_49_method_4_code, exceptionTable := #[], attributes := #[] }
def k3m2 : Method := { name := "meanHops", desc := "()D", sig := { parameters := [], returnType := some .double }, accessFlags := 1, code := some k3c2 }
/-- com/example/lightloom/lightloom/plan/Simulation$Result -/
def k3 : Class := { plain "com/example/lightloom/lightloom/plan/Simulation$Result" (some 2) with
  accessFlags := 49
  interfaces := #[]
  cf := some (fileOf pool3 8 #[.nestHost 54] #[{ accessFlags := 1, nameIndex := 5, descriptorIndex := 40, attributes := #[] }, { accessFlags := 1, nameIndex := 26, descriptorIndex := 27, attributes := #[] }, { accessFlags := 1, nameIndex := 46, descriptorIndex := 45, attributes := #[] }] 49 2 #[] #[{ accessFlags := 18, nameIndex := 11, descriptorIndex := 12, attributes := #[] }, { accessFlags := 18, nameIndex := 15, descriptorIndex := 12, attributes := #[] }, { accessFlags := 18, nameIndex := 18, descriptorIndex := 19, attributes := #[] }, { accessFlags := 18, nameIndex := 22, descriptorIndex := 23, attributes := #[] }])
  fields := #[{ name := "arrivals", type := .int, accessFlags := 18, slot := 0, constantValue := 0 }, { name := "blocked", type := .int, accessFlags := 18, slot := 1, constantValue := 0 }, { name := "standardError", type := .double, accessFlags := 18, slot := 2, constantValue := 0 }, { name := "carriedHops", type := .long, accessFlags := 18, slot := 3, constantValue := 0 }]
  methods := #[k3m0, k3m1, k3m2]
  instanceTypes := #[.int, .int, .double, .long]
  staticTypes := #[]
  resolved := Array.replicate 78 none
  statics := none }

def pool4 : Array CpInfo := pool [(1, u "java/lang/Cloneable"), (0, .class_ 1), (0, u "java/lang/Object"), (0, .class_ 3)] 3

/-- java/lang/Cloneable -/
def k4 : Class := { plain "java/lang/Cloneable" (some 0) with
  accessFlags := 1537
  interfaces := #[]
  cf := some (fileOf pool4 2 #[] #[] 1537 4 #[] #[])
  fields := #[]
  methods := #[]
  instanceTypes := #[]
  staticTypes := #[]
  resolved := Array.replicate 8 none
  statics := none }

def pool5 : Array CpInfo := pool [(1, u "java/io/Serializable"), (0, .class_ 1), (0, u "java/lang/Object"), (0, .class_ 3)] 3

/-- java/io/Serializable -/
def k5 : Class := { plain "java/io/Serializable" (some 0) with
  accessFlags := 1537
  interfaces := #[]
  cf := some (fileOf pool5 2 #[] #[] 1537 4 #[] #[])
  fields := #[]
  methods := #[]
  instanceTypes := #[]
  staticTypes := #[]
  resolved := Array.replicate 8 none
  statics := none }

/-- the primitive byte -/
def k6 : Class := { plain "byte" none with kind := .primitive 'B', accessFlags := 0x411 }
/-- [B -/
def k7 : Class := { plain "[B" (some 0) with kind := .array 6 .byte, interfaces := #[4, 5], accessFlags := 1041 }

/-- the primitive int -/
def k8 : Class := { plain "int" none with kind := .primitive 'I', accessFlags := 0x411 }
/-- [I -/
def k9 : Class := { plain "[I" (some 0) with kind := .array 8 .int, interfaces := #[4, 5], accessFlags := 1041 }

def heap : Heap := #[]
def classes : Array Class := #[k0, k1, k2, k3, k4, k5, k6, k7, k8, k9]
def interned : List (Array UInt16 × Addr) := []
def slotsUsed : Nat := 0
def theMethod : MethodId := ⟨1, 1⟩
def args0 : Array Value := #[.int 5, .int 5, .int 5, .int 5, .long 5, .int 5]
def aboutOver (below : List Frame) : State where
  vm := { classes := classes, interned := interned.toArray }
  heap := heap
  slotsUsed := slotsUsed
  threads := #[{ frames := .invoking theMethod args0 :: below }]
def below0 : List Frame := [.native { method := ⟨0, 0⟩, args := #[] }]
def about1 : State := aboutOver below0
def p0 : Program := .bare "" "" ""
def e0 : Env := launch0.env 0 0 0
theorem w_frames : about1.frames = Frame.invoking theMethod args0 :: below0 := rfl
set_option maxRecDepth 65536 in
theorem w_args : argsFit about1.vm theMethod args0 = true := by decide +kernel
set_option maxRecDepth 65536 in
theorem w_heap : heapFits about1 = true := by decide +kernel
set_option maxRecDepth 65536 in
theorem w_runnable : about1.curStatus? = some .runnable := by decide +kernel
set_option maxRecDepth 65536 in
theorem w_alone : about1.alone = true := by decide +kernel
set_option maxRecDepth 65536 in
theorem w_named : about1.methodNamed? x = some theMethod := by decide +kernel
set_option maxRecDepth 65536 in
theorem w_hears : about1.hears theMethod below0 = true := by decide +kernel
set_option maxRecDepth 65536 in
theorem w_ripe : about1.ripe theMethod args0 below0 = true := by decide +kernel
theorem w_running : about1.status = .running := rfl
set_option maxRecDepth 65536 in
theorem w_room : about1.hasRoom e0.platform room_1 = true :=
  launch0.hasRoom_least _ room_1 (by decide +kernel) (by decide +kernel) (by decide +kernel) (by decide +kernel) (by decide +kernel) (by decide +kernel)
theorem allAtoms_all (ts : List Jvm.Cond) (a : Array Jvm.Value) (st : Jvm.State) : (allAtoms ts).before a st = ts.all (fun c => c.before a st) := by
  induction ts with
  | nil => rfl
  | cons c t ih =>
    show (Jvm.Cond.and c (allAtoms t)).before a st = _
    rw [Jvm.Cond.before_and, ih, List.all_cons]
def words1 : List Jvm.Cond := Jvm.Cond.code x code maxLocals ret :: tables_1
/-- a 'code' word, met by the world's own term for the bytes: nothing is compared byte by byte -/
theorem code_word {y : MethodName} {bytes : ByteArray} {mx : Nat} {rt : Option FieldType} {a : Array Value} {s : State} {m : MethodId} {meth : Method} {c : Code} (h1 : s.methodNamed? y = some m) (h2 : s.vm.method? m = some meth) (h3 : meth.code = some c) (h4 : c.code = bytes)
    (h5 : (c.maxLocals == mx && c.exceptionTable.isEmpty && decide (c.maxStack ≤ mostOperands) && decide (meth.sig.returnType = rt) && !meth.locks && decide (parseMethodDescriptor y.desc = some meth.sig)) = true) : (Jvm.Cond.code y bytes mx rt).before a s = true := by
  simp only [Bool.and_eq_true, beq_iff_eq, Bool.not_eq_true', decide_eq_true_eq] at h5
  obtain ⟨⟨⟨⟨⟨g1, g2⟩, g3⟩, g4⟩, g5⟩, g6⟩ := h5
  simp [Cond.before, Cond.holds, Cond.value, h1, h2, h3, h4, g1, g2, g3, g4, g5, g6]
def isCode : Jvm.Cond → Bool
  | .code _ _ _ _ => true
  | _ => false
theorem all_split {L : List Jvm.Cond} {P : Jvm.Cond → Bool} (h1 : L.all (fun c => isCode c || P c) = true) (h2 : ∀ c ∈ L.filter isCode, P c = true) : L.all P = true := by
  refine List.all_eq_true.mpr fun c hc => ?_
  have h := List.all_eq_true.mp h1 c hc
  rcases Bool.eq_false_or_eq_true (isCode c) with hi | hi
  · exact h2 c (List.mem_filter.mpr ⟨hc, hi⟩)
  · simpa [hi] using h
set_option maxRecDepth 65536 in
theorem w_c0 : (Jvm.Cond.code x code maxLocals ret).before args0 about1 = true := code_word (m := ⟨1, 1⟩) (meth := k1m1) (c := k1c1) (by decide +kernel) rfl rfl rfl (by decide +kernel)
set_option maxRecDepth 65536 in
theorem w_c1 : (Jvm.Cond.code ({ cls := "com/example/lightloom/lightloom/plan/Simulation$Result", name := "<init>", desc := "(IIDJ)V" } : Jvm.MethodName) prog_49_method_1_code (7 : Nat) (Option.none : Option Jvm.ClassFile.FieldType)).before args0 about1 = true := code_word (m := ⟨3, 0⟩) (meth := k3m0) (c := k3c0) (by decide +kernel) rfl rfl rfl (by decide +kernel)
set_option maxRecDepth 65536 in
theorem w_c2 : (Jvm.Cond.code ({ cls := "java/lang/Record", name := "<init>", desc := "()V" } : Jvm.MethodName) jdk_30_method_1_code (1 : Nat) (Option.none : Option Jvm.ClassFile.FieldType)).before args0 about1 = true := code_word (m := ⟨2, 0⟩) (meth := k2m0) (c := k2c0) (by decide +kernel) rfl rfl rfl (by decide +kernel)
set_option maxRecDepth 65536 in
theorem w_c3 : (Jvm.Cond.code ({ cls := "java/lang/Object", name := "<init>", desc := "()V" } : Jvm.MethodName) object_method_1_code (1 : Nat) (Option.none : Option Jvm.ClassFile.FieldType)).before args0 about1 = true := code_word (m := ⟨0, 0⟩) (meth := k0m0) (c := k0c0) (by decide +kernel) rfl rfl rfl (by decide +kernel)
set_option maxRecDepth 65536 in
theorem w_c4 : (Jvm.Cond.code ({ cls := "com/example/lightloom/lightloom/plan/Simulation$Result", name := "meanHops", desc := "()D" } : Jvm.MethodName) prog_49_method_4_code (1 : Nat) (Option.some Jvm.ClassFile.FieldType.double)).before args0 about1 = true := code_word (m := ⟨3, 2⟩) (meth := k3m2) (c := k3c2) (by decide +kernel) rfl rfl rfl (by decide +kernel)
set_option maxRecDepth 65536 in
theorem w_c5 : (Jvm.Cond.code ({ cls := "com/example/lightloom/lightloom/plan/Simulation$Result", name := "carried", desc := "()I" } : Jvm.MethodName) prog_49_method_2_code (1 : Nat) (Option.some Jvm.ClassFile.FieldType.int)).before args0 about1 = true := code_word (m := ⟨3, 1⟩) (meth := k3m1) (c := k3c1) (by decide +kernel) rfl rfl rfl (by decide +kernel)
def codes1 : List Jvm.Cond := [Jvm.Cond.code x code maxLocals ret, Jvm.Cond.code ({ cls := "com/example/lightloom/lightloom/plan/Simulation$Result", name := "<init>", desc := "(IIDJ)V" } : Jvm.MethodName) prog_49_method_1_code (7 : Nat) (Option.none : Option Jvm.ClassFile.FieldType), Jvm.Cond.code ({ cls := "java/lang/Record", name := "<init>", desc := "()V" } : Jvm.MethodName) jdk_30_method_1_code (1 : Nat) (Option.none : Option Jvm.ClassFile.FieldType), Jvm.Cond.code ({ cls := "java/lang/Object", name := "<init>", desc := "()V" } : Jvm.MethodName) object_method_1_code (1 : Nat) (Option.none : Option Jvm.ClassFile.FieldType), Jvm.Cond.code ({ cls := "com/example/lightloom/lightloom/plan/Simulation$Result", name := "meanHops", desc := "()D" } : Jvm.MethodName) prog_49_method_4_code (1 : Nat) (Option.some Jvm.ClassFile.FieldType.double), Jvm.Cond.code ({ cls := "com/example/lightloom/lightloom/plan/Simulation$Result", name := "carried", desc := "()I" } : Jvm.MethodName) prog_49_method_2_code (1 : Nat) (Option.some Jvm.ClassFile.FieldType.int)]
set_option maxRecDepth 65536 in
theorem codes_eq : words1.filter isCode = codes1 := rfl
theorem w_codes : ∀ c ∈ words1.filter isCode, c.before args0 about1 = true := by
  rw [codes_eq]
  intro c hc
  simp only [codes1, List.mem_cons, List.not_mem_nil, or_false] at hc
  rcases hc with rfl | rfl | rfl | rfl | rfl | rfl
  · exact w_c0
  · exact w_c1
  · exact w_c2
  · exact w_c3
  · exact w_c4
  · exact w_c5
set_option maxRecDepth 65536 in
theorem w_t1 : (words1.take 24).all (fun c => isCode c || c.before args0 about1) = true := by decide +kernel
set_option maxRecDepth 65536 in
theorem w_t2 : (words1.drop 24).all (fun c => isCode c || c.before args0 about1) = true := by decide +kernel
theorem w_tables : (allAtoms (Jvm.Cond.code x code maxLocals ret :: tables_1)).before args0 about1 = true := by
  rw [allAtoms_all]
  show words1.all (fun c => c.before args0 about1) = true
  refine all_split ?_ w_codes
  rw [← List.take_append_drop 24 words1, List.all_append, w_t1, w_t2]
  rfl
set_option maxRecDepth 65536 in
theorem w_case : (Jvm.Cond.and given_1 narrow_1).before args0 about1 = true := by decide +kernel
theorem w_applies : (headSpec (Jvm.Cond.code x code maxLocals ret :: tables_1) room_1).applies x e0.platform about1 = true :=
  (Spec.applies_iff w_frames).mpr ⟨w_running, w_runnable, w_alone, w_named, w_hears, w_ripe, w_room, w_tables⟩
theorem atStart : AtStart classFile x code maxLocals ret World_1 tables_1 room_1 Calls_1 rest_1 Pre_1 launch0 p0 e0 about1 theMethod args0 below0 :=
  ⟨lists_1, trivial, launch0.admits_env _ _ _, launch0.least_env, fairChoices_fair.cas, fairChoices_fair.clock, w_frames, w_args, w_heap, w_applies, trivial, trivial, w_case⟩
end start1
theorem witness_1 : WitnessClaimed_1 := ⟨start1.p0, start1.e0, start1.about1, start1.theMethod, start1.args0, start1.below0, start1.atStart⟩
end Jvm.Pilot.@@N@@
