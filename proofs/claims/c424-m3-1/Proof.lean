import JvmDerived
import JvmDerived.Pilot.@@N@@Statement
import JvmDerived.Pilot.@@N@@Code
set_option linter.unusedVariables false
set_option linter.unusedSimpArgs false
namespace Jvm.Pilot.@@N@@
open Jvm Jvm.ClassFile Sem Op Lib Jvm.Free Jvm.Stand Jvm.LawKit Jvm.RoadKit Bundle Jvm.Pilot.@@N@@.Jvm.D
def own_Q (r : Option Value) (h0 : Heap) (n0 : Nat) (v : Option Value) (h : Heap) (L : List Loc) : Prop := v = r ∧ Fr n0 L ∧ h = h0
def own_R (r : Option Value) (n0 : Nat) (v : Option Value) (h : Heap) (L : List Loc) : Prop := v = r ∧ Fr n0 L
theorem pn_0 : plainName "java/lang/Record" = true := by first | (simp [plainName, overriddenIn]; done) | decide +kernel
theorem ef_rm2 (m : MethodId) (x0 : Addr) : entryFrame m #[(.ref x0)] 1 = mkF m 0 #[.val (.ref x0)] [] := by first | (simp [entryFrame, mkF, argsToLocals, Value.category]; done) | rfl
theorem d2_0 : decode jdk_30_method_1_code 0 = .ok (.aload_n 0, 1) := by decide +kernel
theorem d2_1 : decode jdk_30_method_1_code 1 = .ok (.invokespecial 1, 3) := by decide +kernel
theorem d2_4 : decode jdk_30_method_1_code 4 = .ok (.return_, 1) := by decide +kernel
set_option maxRecDepth 65536 in
set_option maxHeartbeats 40000000 in
theorem rm2 (l : Launch) (Z : State) (a0 : Array Value) (hw : ∀ d ∈ tables_1, d.before a0 Z = true) (ws : List Jvm.Cond) (r0 : Addr) (h0 : Heap) (n0 : Nat) :
    MetFree l (⟨"java/lang/Record", "<init>", "()V"⟩ : MethodName) (head1 (Jvm.Cond.code (⟨"java/lang/Record", "<init>", "()V"⟩ : MethodName) jdk_30_method_1_code 1 none :: ws) ({ frames := 1, cells := 0, slots := 0, locals := 12 } : Room)) (fun a U => a = #[(.ref r0)] ∧ Z.Warmed39 U.vm ∧ U.heap = h0) (fun _ _ _ _ _ => True) (fun _ U o U' => ∃ v L, o = .returned v ∧ own_Q (none) h0 n0 v U'.heap L ∧ FrameEnd U o U' L ({ frames := 1, cells := 0, slots := 0, locals := 12 } : Room).cells ({ frames := 1, cells := 0, slots := 0, locals := 12 } : Room).slots) := by
  refine MetFree.of_bodySF (plainFor_of_name pn_0) hisR ?_
  intro p e s m args below meth c s₁ Bd hml0 hP hK
  obtain ⟨rfl, hZ, hh⟩ := hP
  have hx := Bd.exec
  have hby := Bd.bytes
  have hml : c.maxLocals = 1 := hml0
  have hown : s.vm.findClass "java/lang/Record" = some m.cls := findClass_of_methodNamed Bd.named
  have hnm := (name_of_methodNamed Bd.named Bd.method).1
  have X0 : Stand p l e ({ frames := 1, cells := 0, slots := 0, locals := 12 } : Room) s m #[(.ref r0)] below meth c s₁ [] 0 0 := Stand.of_body Bd
  have e0 : s₁.heap = h0 := by rw [← hh, Bd.state]; rfl
  have N0 := Fr.nil n0
  have pre0 : ∀ t, Steps p.tables e below (s₁.setTop (mkF m 0 #[.val (.ref r0)] [])) t → Steps p.tables e below (s₁.setTop (entryFrame m #[(.ref r0)] 1)) t := fun t k => castTop (ef_rm2 m r0) k
  obtain ⟨T1, X1, e1, st1⟩ := initO X0 hx hZ hown (hw _ (List.mem_of_getElem? (i := 11) rfl)) (hw _ (List.mem_of_getElem? (i := 12) rfl)) (hw _ (List.mem_of_getElem? (i := 13) rfl)) e0 (g := (mkF m 1 #[.val (.ref r0)] [(.ref r0)])) rfl (by rw [hml]; rfl) rfl (hb hby d2_1) (by decide) (W := 0) (by show 2 * 0 + _ ≤ _; exact Nat.le_of_eq rfl) (by decide)
  have k2 : ∀ t, Steps p.tables e below (T1.setTop (mkF m 4 #[.val (.ref r0)] [])) t → Steps p.tables e below (s₁.setTop (entryFrame m #[(.ref r0)] 1)) t := by
    intro t k
    refine pre0 _ ?_
    show Steps p.tables e below (s₁.setTop (mkF m 0 #[.val (.ref r0)] [])) _
    refine XS.aloadN X0.here hx rfl (hb hby d2_0) rfl rfl ?_
    show Steps p.tables e below (s₁.setTop (mkF m 1 #[.val (.ref r0)] [(.ref r0)])) _
    refine st1 _ ?_
    exact k
  obtain ⟨fs, hr, hrun, hended, hW, hsame⟩ := X1.leave (v := none) (fun _ => rfl)
  refine ⟨_, _, k2 _ ?_, hrun, hended, _, _, rfl, ?_, ⟨_, rfl⟩, hW, hsame.mono (by decide) (by decide)⟩
  · exact X1.returnOut hx Bd.returns (hb hby d2_4) hr
  · show own_Q (none) h0 n0 _ T1.heap _
    rw [e1]
    exact ⟨rfl, N0, rfl⟩
theorem pn_1 : plainName "com/example/strict_wire/strictwire/wire/ApiKey$Versions" = true := by first | (simp [plainName, overriddenIn]; done) | decide +kernel
theorem ef_rm1 (m : MethodId) (x0 : Addr) (x1 : Int32) (x2 : Int32) (x3 : Int32) : entryFrame m #[(.ref x0), (.int x1), (.int x2), (.int x3)] 4 = mkF m 0 #[.val (.ref x0), .val (.int x1), .val (.int x2), .val (.int x3)] [] := by first | (simp [entryFrame, mkF, argsToLocals, Value.category]; done) | rfl
theorem d1_0 : decode prog_30_method_1_code 0 = .ok (.aload_n 0, 1) := by decide +kernel
theorem pd_0 : parseMethodDescriptor "()V" = some ⟨[], none⟩ := by decide +kernel
theorem d1_1 : decode prog_30_method_1_code 1 = .ok (.invokespecial 1, 3) := by decide +kernel
theorem d1_4 : decode prog_30_method_1_code 4 = .ok (.aload_n 0, 1) := by decide +kernel
theorem d1_5 : decode prog_30_method_1_code 5 = .ok (.iload_n 1, 1) := by decide +kernel
theorem d1_6 : decode prog_30_method_1_code 6 = .ok (.putfield 7, 3) := by decide +kernel
theorem d1_9 : decode prog_30_method_1_code 9 = .ok (.aload_n 0, 1) := by decide +kernel
theorem d1_10 : decode prog_30_method_1_code 10 = .ok (.iload_n 2, 1) := by decide +kernel
theorem d1_11 : decode prog_30_method_1_code 11 = .ok (.putfield 13, 3) := by decide +kernel
theorem d1_14 : decode prog_30_method_1_code 14 = .ok (.aload_n 0, 1) := by decide +kernel
theorem d1_15 : decode prog_30_method_1_code 15 = .ok (.iload_n 3, 1) := by decide +kernel
theorem d1_16 : decode prog_30_method_1_code 16 = .ok (.putfield 16, 3) := by decide +kernel
theorem d1_19 : decode prog_30_method_1_code 19 = .ok (.return_, 1) := by decide +kernel
def own_C1 (Z : State) (r0 : Addr) (p1 : Int32) (p2 : Int32) (p3 : Int32) (h0 : Heap) (n0 : Nat) (v : Option Value) (h : Heap) (L : List Loc) : Prop := v = none ∧ Fr n0 L ∧ Keep h0 h [r0] ∧ Exa Z h r0 "com/example/strict_wire/strictwire/wire/ApiKey$Versions" ∧ Fld Z h r0 "com/example/strict_wire/strictwire/wire/ApiKey$Versions" "lowest" "S" (.int (nar .short p1)) ∧ Fld Z h r0 "com/example/strict_wire/strictwire/wire/ApiKey$Versions" "highest" "S" (.int (nar .short p2))
set_option maxRecDepth 65536 in
set_option maxHeartbeats 40000000 in
theorem rm1 (l : Launch) (Z : State) (a0 : Array Value) (hw : ∀ d ∈ tables_1, d.before a0 Z = true) (ws : List Jvm.Cond) (r0 : Addr) (p1 : Int32) (p2 : Int32) (p3 : Int32) (h0 : Heap) (n0 : Nat) (Z0 : n0 ≤ h0.size) (g_r0 : n0 ≤ r0) (E_r0 : Exa Z h0 r0 "com/example/strict_wire/strictwire/wire/ApiKey$Versions") (F_lowest_r0 : Fld Z h0 r0 "com/example/strict_wire/strictwire/wire/ApiKey$Versions" "lowest" "S" (.int (0 : Int32))) (F_highest_r0 : Fld Z h0 r0 "com/example/strict_wire/strictwire/wire/ApiKey$Versions" "highest" "S" (.int (0 : Int32))) (F_firstFlexible_r0 : Fld Z h0 r0 "com/example/strict_wire/strictwire/wire/ApiKey$Versions" "firstFlexible" "S" (.int (0 : Int32))) :
    MetFree l (⟨"com/example/strict_wire/strictwire/wire/ApiKey$Versions", "<init>", "(SSS)V"⟩ : MethodName) (head1 (Jvm.Cond.code (⟨"com/example/strict_wire/strictwire/wire/ApiKey$Versions", "<init>", "(SSS)V"⟩ : MethodName) prog_30_method_1_code 4 none :: ws) ({ frames := 2, cells := 0, slots := 0, locals := 24 } : Room)) (fun a U => a = #[(.ref r0), (.int p1), (.int p2), (.int p3)] ∧ Z.Warmed39 U.vm ∧ U.heap = h0) (fun _ _ _ _ _ => True) (fun _ U o U' => ∃ v L, o = .returned v ∧ own_C1 Z r0 p1 p2 p3 h0 n0 v U'.heap L ∧ FrameEnd U o U' L ({ frames := 2, cells := 0, slots := 0, locals := 24 } : Room).cells ({ frames := 2, cells := 0, slots := 0, locals := 24 } : Room).slots) := by
  refine MetFree.of_bodySF (plainFor_of_name pn_1) hisR ?_
  intro p e s m args below meth c s₁ Bd hml0 hP hK
  obtain ⟨rfl, hZ, hh⟩ := hP
  have hx := Bd.exec
  have hby := Bd.bytes
  have hml : c.maxLocals = 4 := hml0
  have hown : s.vm.findClass "com/example/strict_wire/strictwire/wire/ApiKey$Versions" = some m.cls := findClass_of_methodNamed Bd.named
  have hnm := (name_of_methodNamed Bd.named Bd.method).1
  have X0 : Stand p l e ({ frames := 2, cells := 0, slots := 0, locals := 24 } : Room) s m #[(.ref r0), (.int p1), (.int p2), (.int p3)] below meth c s₁ [] 0 0 := Stand.of_body Bd
  have e0 : s₁.heap = h0 := by rw [← hh, Bd.state]; rfl
  have N0 := Fr.nil n0
  have pre0 : ∀ t, Steps p.tables e below (s₁.setTop (mkF m 0 #[.val (.ref r0), .val (.int p1), .val (.int p2), .val (.int p3)] [])) t → Steps p.tables e below (s₁.setTop (entryFrame m #[(.ref r0), (.int p1), (.int p2), (.int p3)] 4)) t := fun t k => castTop (ef_rm1 m r0 p1 p2 p3) k
  have K0 : Keep h0 h0 [r0] := Keep.refl _ _
  obtain ⟨_, _, ⟨T1, L1, k1_, n1⟩, -, X1, ⟨Lc1, hQ1, l1, y1, z1⟩, st1⟩ := X0.specialBack hx (y := (⟨"java/lang/Record", "<init>", "()V"⟩ : MethodName)) rfl hown (mvT hZ (hw _ (List.mem_of_getElem? (i := 6) rfl))) (mvT hZ (hw _ (List.mem_of_getElem? (i := 7) rfl))) (mvT hZ (hw _ (List.mem_of_getElem? (i := 10) rfl))) (by decide) (backOf (W := 0) (rm2 l Z a0 hw [] r0 h0 n0 ) hZ (hw _ (List.mem_of_getElem? (i := 10) rfl)) (hw _ (List.mem_of_getElem? (i := 9) rfl)) (by decide) (by decide)) (g := (mkF m 1 #[.val (.ref r0), .val (.int p1), .val (.int p2), .val (.int p3)] [(.ref r0)])) rfl (by rw [hml]; rfl) (Steps.refl _) (a := r0) (argsL := []) (rest := []) (lenOf pd_0 rfl) rfl (by show 2 * 0 + _ ≤ _; exact Nat.le_of_eq rfl) (hb hby d1_1) (fun _ _ => ⟨rfl, e0, (by decide : 0 + 0 ≤ _), (by decide : 0 + 0 ≤ _)⟩)
  dsimp only [Pt.U, Pt.locs, Pt.cells, Pt.slots] at X1 l1 y1 z1 st1 hQ1
  subst l1 y1 z1
  obtain ⟨rfl, Nq1, e1⟩ := hQ1
  have N1 := Fr.app N0 Nq1
  obtain ⟨T2, h2, X2, e2, W2, st2⟩ := putFN X1 hx hZ hown (hw _ (List.mem_of_getElem? (i := 14) rfl)) Via.refl e1 F_lowest_r0 E_r0 (Or.inr ⟨(hw _ (List.mem_of_getElem? (i := 15) rfl)), rfl, hnm⟩) (hw _ (List.mem_of_getElem? (i := 1) rfl)) (ty := .short) (v' := (.int (nar .short p1))) (by decide) rfl (fits_nar_short _) (g := (mkF m 6 #[.val (.ref r0), .val (.int p1), .val (.int p2), .val (.int p3)] [(.int p1), (.ref r0)])) rfl rfl (hb hby d1_6)
  replace E_r0 := E_r0.wr W2
  replace F_highest_r0 := F_highest_r0.other W2 (Or.inr (slot_ne (Or.inr (hw _ (List.mem_of_getElem? (i := 17) rfl))) (Or.inr (hw _ (List.mem_of_getElem? (i := 15) rfl))) (by decide) (t := .short) (t' := .short) (by decide) (by decide)))
  replace F_firstFlexible_r0 := F_firstFlexible_r0.other W2 (Or.inr (slot_ne (Or.inr (hw _ (List.mem_of_getElem? (i := 19) rfl))) (Or.inr (hw _ (List.mem_of_getElem? (i := 15) rfl))) (by decide) (t := .short) (t' := .short) (by decide) (by decide)))
  replace K0 := K0.wr W2 (Or.inl (List.mem_of_getElem? (i := 0) rfl))
  replace F_lowest_r0 := F_lowest_r0.same W2
  have N2 := Fr.snoc X2 N1 g_r0
  have Zs2 : n0 ≤ h2.size := by rw [W2.size]; exact Z0
  obtain ⟨T3, h3, X3, e3, W3, st3⟩ := putFN X2 hx hZ hown (hw _ (List.mem_of_getElem? (i := 16) rfl)) Via.refl e2 F_highest_r0 E_r0 (Or.inr ⟨(hw _ (List.mem_of_getElem? (i := 17) rfl)), rfl, hnm⟩) (hw _ (List.mem_of_getElem? (i := 1) rfl)) (ty := .short) (v' := (.int (nar .short p2))) (by decide) rfl (fits_nar_short _) (g := (mkF m 11 #[.val (.ref r0), .val (.int p1), .val (.int p2), .val (.int p3)] [(.int p2), (.ref r0)])) rfl rfl (hb hby d1_11)
  replace E_r0 := E_r0.wr W3
  replace F_lowest_r0 := F_lowest_r0.other W3 (Or.inr (slot_ne (Or.inr (hw _ (List.mem_of_getElem? (i := 15) rfl))) (Or.inr (hw _ (List.mem_of_getElem? (i := 17) rfl))) (by decide) (t := .short) (t' := .short) (by decide) (by decide)))
  replace F_firstFlexible_r0 := F_firstFlexible_r0.other W3 (Or.inr (slot_ne (Or.inr (hw _ (List.mem_of_getElem? (i := 19) rfl))) (Or.inr (hw _ (List.mem_of_getElem? (i := 17) rfl))) (by decide) (t := .short) (t' := .short) (by decide) (by decide)))
  replace K0 := K0.wr W3 (Or.inl (List.mem_of_getElem? (i := 0) rfl))
  replace F_highest_r0 := F_highest_r0.same W3
  have N3 := Fr.snoc X3 N2 g_r0
  have Zs3 : n0 ≤ h3.size := by rw [W3.size]; exact Zs2
  obtain ⟨T4, h4, X4, e4, W4, st4⟩ := putFN X3 hx hZ hown (hw _ (List.mem_of_getElem? (i := 18) rfl)) Via.refl e3 F_firstFlexible_r0 E_r0 (Or.inr ⟨(hw _ (List.mem_of_getElem? (i := 19) rfl)), rfl, hnm⟩) (hw _ (List.mem_of_getElem? (i := 1) rfl)) (ty := .short) (v' := (.int (nar .short p3))) (by decide) rfl (fits_nar_short _) (g := (mkF m 16 #[.val (.ref r0), .val (.int p1), .val (.int p2), .val (.int p3)] [(.int p3), (.ref r0)])) rfl rfl (hb hby d1_16)
  replace E_r0 := E_r0.wr W4
  replace F_lowest_r0 := F_lowest_r0.other W4 (Or.inr (slot_ne (Or.inr (hw _ (List.mem_of_getElem? (i := 15) rfl))) (Or.inr (hw _ (List.mem_of_getElem? (i := 19) rfl))) (by decide) (t := .short) (t' := .short) (by decide) (by decide)))
  replace F_highest_r0 := F_highest_r0.other W4 (Or.inr (slot_ne (Or.inr (hw _ (List.mem_of_getElem? (i := 17) rfl))) (Or.inr (hw _ (List.mem_of_getElem? (i := 19) rfl))) (by decide) (t := .short) (t' := .short) (by decide) (by decide)))
  replace K0 := K0.wr W4 (Or.inl (List.mem_of_getElem? (i := 0) rfl))
  replace F_firstFlexible_r0 := F_firstFlexible_r0.same W4
  have N4 := Fr.snoc X4 N3 g_r0
  have Zs4 : n0 ≤ h4.size := by rw [W4.size]; exact Zs3
  have k5 : ∀ t, Steps p.tables e below (T4.setTop (mkF m 19 #[.val (.ref r0), .val (.int p1), .val (.int p2), .val (.int p3)] [])) t → Steps p.tables e below (s₁.setTop (entryFrame m #[(.ref r0), (.int p1), (.int p2), (.int p3)] 4)) t := by
    intro t k
    refine pre0 _ ?_
    show Steps p.tables e below (s₁.setTop (mkF m 0 #[.val (.ref r0), .val (.int p1), .val (.int p2), .val (.int p3)] [])) _
    refine XS.aloadN X0.here hx rfl (hb hby d1_0) rfl rfl ?_
    show Steps p.tables e below (s₁.setTop (mkF m 1 #[.val (.ref r0), .val (.int p1), .val (.int p2), .val (.int p3)] [(.ref r0)])) _
    refine st1.trans ?_
    show Steps p.tables e below (T1.setTop (mkF m 4 #[.val (.ref r0), .val (.int p1), .val (.int p2), .val (.int p3)] [])) _
    refine XS.aloadN X1.here hx rfl (hb hby d1_4) rfl rfl ?_
    show Steps p.tables e below (T1.setTop (mkF m 5 #[.val (.ref r0), .val (.int p1), .val (.int p2), .val (.int p3)] [(.ref r0)])) _
    refine XS.iloadN X1.here hx rfl (hb hby d1_5) rfl ?_
    show Steps p.tables e below (T1.setTop (mkF m 6 #[.val (.ref r0), .val (.int p1), .val (.int p2), .val (.int p3)] [(.int p1), (.ref r0)])) _
    refine st2 _ ?_
    show Steps p.tables e below (T2.setTop (mkF m 9 #[.val (.ref r0), .val (.int p1), .val (.int p2), .val (.int p3)] [])) _
    refine XS.aloadN X2.here hx rfl (hb hby d1_9) rfl rfl ?_
    show Steps p.tables e below (T2.setTop (mkF m 10 #[.val (.ref r0), .val (.int p1), .val (.int p2), .val (.int p3)] [(.ref r0)])) _
    refine XS.iloadN X2.here hx rfl (hb hby d1_10) rfl ?_
    show Steps p.tables e below (T2.setTop (mkF m 11 #[.val (.ref r0), .val (.int p1), .val (.int p2), .val (.int p3)] [(.int p2), (.ref r0)])) _
    refine st3 _ ?_
    show Steps p.tables e below (T3.setTop (mkF m 14 #[.val (.ref r0), .val (.int p1), .val (.int p2), .val (.int p3)] [])) _
    refine XS.aloadN X3.here hx rfl (hb hby d1_14) rfl rfl ?_
    show Steps p.tables e below (T3.setTop (mkF m 15 #[.val (.ref r0), .val (.int p1), .val (.int p2), .val (.int p3)] [(.ref r0)])) _
    refine XS.iloadN X3.here hx rfl (hb hby d1_15) rfl ?_
    show Steps p.tables e below (T3.setTop (mkF m 16 #[.val (.ref r0), .val (.int p1), .val (.int p2), .val (.int p3)] [(.int p3), (.ref r0)])) _
    refine st4 _ ?_
    exact k
  obtain ⟨fs, hr, hrun, hended, hW, hsame⟩ := X4.leave (v := none) (fun _ => rfl)
  refine ⟨_, _, k5 _ ?_, hrun, hended, _, _, rfl, ?_, ⟨_, rfl⟩, hW, hsame.mono (by decide) (by decide)⟩
  · exact X4.returnOut hx Bd.returns (hb hby d1_19) hr
  · show own_C1 Z r0 p1 p2 p3 h0 n0 _ T4.heap _
    rw [e4]
    exact ⟨rfl, N4, K0, E_r0, F_lowest_r0, F_highest_r0⟩
theorem ef_rm5 (m : MethodId) (x0 : Addr) (x1 : Int32) : entryFrame m #[(.ref x0), (.int x1)] 2 = mkF m 0 #[.val (.ref x0), .val (.int x1)] [] := by first | (simp [entryFrame, mkF, argsToLocals, Value.category]; done) | rfl
theorem d5_0 : decode prog_30_method_2_code 0 = .ok (.iload_n 1, 1) := by decide +kernel
theorem d5_1 : decode prog_30_method_2_code 1 = .ok (.aload_n 0, 1) := by decide +kernel
theorem d5_2 : decode prog_30_method_2_code 2 = .ok (.getfield 7, 3) := by decide +kernel
theorem d5_5 : decode prog_30_method_2_code 5 = .ok (.if_icmp .lt 15, 3) := by decide +kernel
theorem d5_20 : decode prog_30_method_2_code 20 = .ok (.iconst 0, 1) := by decide +kernel
theorem d5_21 : decode prog_30_method_2_code 21 = .ok (.ireturn, 1) := by decide +kernel
theorem d5_8 : decode prog_30_method_2_code 8 = .ok (.iload_n 1, 1) := by decide +kernel
theorem d5_9 : decode prog_30_method_2_code 9 = .ok (.aload_n 0, 1) := by decide +kernel
theorem d5_10 : decode prog_30_method_2_code 10 = .ok (.getfield 13, 3) := by decide +kernel
theorem d5_13 : decode prog_30_method_2_code 13 = .ok (.if_icmp .gt 7, 3) := by decide +kernel
theorem d5_16 : decode prog_30_method_2_code 16 = .ok (.iconst 1, 1) := by decide +kernel
theorem d5_17 : decode prog_30_method_2_code 17 = .ok (.goto 4, 3) := by decide +kernel
def own_f5 (p1 : Int32) (fl fh : Int32) : Int32 := (if p1 < fl then (0 : Int32) else (if fh < p1 then (0 : Int32) else (1 : Int32)))
set_option maxRecDepth 65536 in
set_option maxHeartbeats 40000000 in
theorem rm5 (l : Launch) (Z : State) (a0 : Array Value) (hw : ∀ d ∈ tables_1, d.before a0 Z = true) (ws : List Jvm.Cond) (r0 : Addr) (p1 : Int32) (fl fh : Int32) (h0 : Heap) (n0 : Nat) (Flowest : Fld Z h0 r0 "com/example/strict_wire/strictwire/wire/ApiKey$Versions" "lowest" "S" (.int fl)) (Fhighest : Fld Z h0 r0 "com/example/strict_wire/strictwire/wire/ApiKey$Versions" "highest" "S" (.int fh)) (E_r0 : Exa Z h0 r0 "com/example/strict_wire/strictwire/wire/ApiKey$Versions") :
    MetFree l (⟨"com/example/strict_wire/strictwire/wire/ApiKey$Versions", "includes", "(S)Z"⟩ : MethodName) (head1 (Jvm.Cond.code (⟨"com/example/strict_wire/strictwire/wire/ApiKey$Versions", "includes", "(S)Z"⟩ : MethodName) prog_30_method_2_code 2 (some .boolean) :: ws) ({ frames := 0, cells := 0, slots := 0, locals := 0 } : Room)) (fun a U => a = #[(.ref r0), (.int p1)] ∧ Z.Warmed39 U.vm ∧ U.heap = h0) (fun _ _ _ _ _ => True) (fun _ U o U' => ∃ v L, o = .returned v ∧ own_Q (some (.int (own_f5 p1 fl fh))) h0 n0 v U'.heap L ∧ FrameEnd U o U' L ({ frames := 0, cells := 0, slots := 0, locals := 0 } : Room).cells ({ frames := 0, cells := 0, slots := 0, locals := 0 } : Room).slots) := by
  refine MetFree.of_bodySF (plainFor_of_name pn_1) hisR ?_
  intro p e s m args below meth c s₁ Bd hml0 hP hK
  obtain ⟨rfl, hZ, hh⟩ := hP
  have hx := Bd.exec
  have hby := Bd.bytes
  have hml : c.maxLocals = 2 := hml0
  have hown : s.vm.findClass "com/example/strict_wire/strictwire/wire/ApiKey$Versions" = some m.cls := findClass_of_methodNamed Bd.named
  have hnm := (name_of_methodNamed Bd.named Bd.method).1
  have X0 : Stand p l e ({ frames := 0, cells := 0, slots := 0, locals := 0 } : Room) s m #[(.ref r0), (.int p1)] below meth c s₁ [] 0 0 := Stand.of_body Bd
  have e0 : s₁.heap = h0 := by rw [← hh, Bd.state]; rfl
  have N0 := Fr.nil n0
  have pre0 : ∀ t, Steps p.tables e below (s₁.setTop (mkF m 0 #[.val (.ref r0), .val (.int p1)] [])) t → Steps p.tables e below (s₁.setTop (entryFrame m #[(.ref r0), (.int p1)] 2)) t := fun t k => castTop (ef_rm5 m r0 p1) k
  obtain ⟨T1, X1, e1, st1⟩ := getF X0 hx hZ hown (host := "") (Or.inl (hw _ (List.mem_of_getElem? (i := 14) rfl))) Via.refl e0 Flowest (g := (mkF m 2 #[.val (.ref r0), .val (.int p1)] [(.ref r0), (.int p1)])) rfl rfl (hb hby d5_2)
  have k2 : ∀ t, Steps p.tables e below (T1.setTop (mkF m 5 #[.val (.ref r0), .val (.int p1)] [(.int fl), (.int p1)])) t → Steps p.tables e below (s₁.setTop (entryFrame m #[(.ref r0), (.int p1)] 2)) t := by
    intro t k
    refine pre0 _ ?_
    show Steps p.tables e below (s₁.setTop (mkF m 0 #[.val (.ref r0), .val (.int p1)] [])) _
    refine XS.iloadN X0.here hx rfl (hb hby d5_0) rfl ?_
    show Steps p.tables e below (s₁.setTop (mkF m 1 #[.val (.ref r0), .val (.int p1)] [(.int p1)])) _
    refine XS.aloadN X0.here hx rfl (hb hby d5_1) rfl rfl ?_
    show Steps p.tables e below (s₁.setTop (mkF m 2 #[.val (.ref r0), .val (.int p1)] [(.ref r0), (.int p1)])) _
    refine st1 _ ?_
    exact k
  by_cases hc5_1 : p1 < fl
  · have k3 : ∀ t, Steps p.tables e below (T1.setTop (mkF m 21 #[.val (.ref r0), .val (.int p1)] [(.int (0 : Int32))])) t → Steps p.tables e below (s₁.setTop (entryFrame m #[(.ref r0), (.int p1)] 2)) t := by
      intro t k
      refine k2 _ ?_
      show Steps p.tables e below (T1.setTop (mkF m 5 #[.val (.ref r0), .val (.int p1)] [(.int fl), (.int p1)])) _
      refine XS.icmpYes X1.here hx rfl (pc0 := 5) (pc' := 20) rfl (hb hby d5_5) rfl (tlt hc5_1).1 (by decide) (by decide) ?_
      show Steps p.tables e below (T1.setTop (mkF m 20 #[.val (.ref r0), .val (.int p1)] [])) _
      refine XS.iconst X1.here hx rfl (hb hby d5_20) ?_
      exact k
    obtain ⟨fs, hr, hrun, hended, hW, hsame⟩ := X1.leave (v := some (.int (0 : Int32))) (fun h => by rw [Bd.returns] at h; cases h)
    refine ⟨_, _, k3 _ ?_, hrun, hended, _, _, rfl, ?_, ⟨_, rfl⟩, hW, hsame.mono (by decide) (by decide)⟩
    · exact retN X1 hx (t := .boolean) Bd.returns (by simp) (hb hby d5_21) hr
    · show own_Q (some (.int (own_f5 p1 fl fh))) h0 n0 _ T1.heap _
      rw [e1]
      exact ⟨by simp only [own_f5, if_pos hc5_1], N0, rfl⟩
  · obtain ⟨T4, X4, e4, st4⟩ := getF X1 hx hZ hown (host := "") (Or.inl (hw _ (List.mem_of_getElem? (i := 16) rfl))) Via.refl e1 Fhighest (g := (mkF m 10 #[.val (.ref r0), .val (.int p1)] [(.ref r0), (.int p1)])) rfl rfl (hb hby d5_10)
    have k5 : ∀ t, Steps p.tables e below (T4.setTop (mkF m 13 #[.val (.ref r0), .val (.int p1)] [(.int fh), (.int p1)])) t → Steps p.tables e below (s₁.setTop (entryFrame m #[(.ref r0), (.int p1)] 2)) t := by
      intro t k
      refine k2 _ ?_
      show Steps p.tables e below (T1.setTop (mkF m 5 #[.val (.ref r0), .val (.int p1)] [(.int fl), (.int p1)])) _
      refine XS.icmpNo X1.here hx rfl (hb hby d5_5) rfl (flt hc5_1).1 ?_
      show Steps p.tables e below (T1.setTop (mkF m 8 #[.val (.ref r0), .val (.int p1)] [])) _
      refine XS.iloadN X1.here hx rfl (hb hby d5_8) rfl ?_
      show Steps p.tables e below (T1.setTop (mkF m 9 #[.val (.ref r0), .val (.int p1)] [(.int p1)])) _
      refine XS.aloadN X1.here hx rfl (hb hby d5_9) rfl rfl ?_
      show Steps p.tables e below (T1.setTop (mkF m 10 #[.val (.ref r0), .val (.int p1)] [(.ref r0), (.int p1)])) _
      refine st4 _ ?_
      exact k
    by_cases hc13_2 : fh < p1
    · have k6 : ∀ t, Steps p.tables e below (T4.setTop (mkF m 21 #[.val (.ref r0), .val (.int p1)] [(.int (0 : Int32))])) t → Steps p.tables e below (s₁.setTop (entryFrame m #[(.ref r0), (.int p1)] 2)) t := by
        intro t k
        refine k5 _ ?_
        show Steps p.tables e below (T4.setTop (mkF m 13 #[.val (.ref r0), .val (.int p1)] [(.int fh), (.int p1)])) _
        refine XS.icmpYes X4.here hx rfl (pc0 := 13) (pc' := 20) rfl (hb hby d5_13) rfl (tlt hc13_2).2.2.1 (by decide) (by decide) ?_
        show Steps p.tables e below (T4.setTop (mkF m 20 #[.val (.ref r0), .val (.int p1)] [])) _
        refine XS.iconst X4.here hx rfl (hb hby d5_20) ?_
        exact k
      obtain ⟨fs, hr, hrun, hended, hW, hsame⟩ := X4.leave (v := some (.int (0 : Int32))) (fun h => by rw [Bd.returns] at h; cases h)
      refine ⟨_, _, k6 _ ?_, hrun, hended, _, _, rfl, ?_, ⟨_, rfl⟩, hW, hsame.mono (by decide) (by decide)⟩
      · exact retN X4 hx (t := .boolean) Bd.returns (by simp) (hb hby d5_21) hr
      · show own_Q (some (.int (own_f5 p1 fl fh))) h0 n0 _ T4.heap _
        rw [e4]
        exact ⟨by simp only [own_f5, if_neg hc5_1, if_pos hc13_2], N0, rfl⟩
    · have k7 : ∀ t, Steps p.tables e below (T4.setTop (mkF m 21 #[.val (.ref r0), .val (.int p1)] [(.int (1 : Int32))])) t → Steps p.tables e below (s₁.setTop (entryFrame m #[(.ref r0), (.int p1)] 2)) t := by
        intro t k
        refine k5 _ ?_
        show Steps p.tables e below (T4.setTop (mkF m 13 #[.val (.ref r0), .val (.int p1)] [(.int fh), (.int p1)])) _
        refine XS.icmpNo X4.here hx rfl (hb hby d5_13) rfl (flt hc13_2).2.2.1 ?_
        show Steps p.tables e below (T4.setTop (mkF m 16 #[.val (.ref r0), .val (.int p1)] [])) _
        refine XS.iconst X4.here hx rfl (hb hby d5_16) ?_
        show Steps p.tables e below (T4.setTop (mkF m 17 #[.val (.ref r0), .val (.int p1)] [(.int (1 : Int32))])) _
        refine XS.goto X4.here hx rfl (pc0 := 17) (pc' := 21) rfl (hb hby d5_17) (by decide) (by decide) ?_
        exact k
      obtain ⟨fs, hr, hrun, hended, hW, hsame⟩ := X4.leave (v := some (.int (1 : Int32))) (fun h => by rw [Bd.returns] at h; cases h)
      refine ⟨_, _, k7 _ ?_, hrun, hended, _, _, rfl, ?_, ⟨_, rfl⟩, hW, hsame.mono (by decide) (by decide)⟩
      · exact retN X4 hx (t := .boolean) Bd.returns (by simp) (hb hby d5_21) hr
      · show own_Q (some (.int (own_f5 p1 fl fh))) h0 n0 _ T4.heap _
        rw [e4]
        exact ⟨by simp only [own_f5, if_neg hc5_1, if_neg hc13_2], N0, rfl⟩
theorem pn_2 : plainName "com/example/strict_wire/strictwire/wire/VersionsIncludesPinLaw" = true := by first | (simp [plainName, overriddenIn]; done) | decide +kernel
theorem ef_rm6 (m : MethodId) (x0 : Int32) (x1 : Int32) (x2 : Int32) : entryFrame m #[(.int x0), (.int x1), (.int x2)] 3 = mkF m 0 #[.val (.int x0), .val (.int x1), .val (.int x2)] [] := by first | (simp [entryFrame, mkF, argsToLocals, Value.category]; done) | rfl
theorem d6_0 : decode method_2_code 0 = .ok (.iload_n 2, 1) := by decide +kernel
theorem d6_1 : decode method_2_code 1 = .ok (.iload_n 0, 1) := by decide +kernel
theorem d6_2 : decode method_2_code 2 = .ok (.isub, 1) := by decide +kernel
theorem d6_3 : decode method_2_code 3 = .ok (.iload_n 1, 1) := by decide +kernel
theorem d6_4 : decode method_2_code 4 = .ok (.iload_n 2, 1) := by decide +kernel
theorem d6_5 : decode method_2_code 5 = .ok (.isub, 1) := by decide +kernel
theorem d6_6 : decode method_2_code 6 = .ok (.ior, 1) := by decide +kernel
theorem d6_7 : decode method_2_code 7 = .ok (.ifCond .lt 7, 3) := by decide +kernel
theorem d6_14 : decode method_2_code 14 = .ok (.iconst 0, 1) := by decide +kernel
theorem d6_15 : decode method_2_code 15 = .ok (.ireturn, 1) := by decide +kernel
theorem d6_10 : decode method_2_code 10 = .ok (.iconst 1, 1) := by decide +kernel
theorem d6_11 : decode method_2_code 11 = .ok (.goto 4, 3) := by decide +kernel
def own_f6 (p0 : Int32) (p1 : Int32) (p2 : Int32) : Int32 := (if ((p2 - p0) ||| (p1 - p2)) < (0 : Int32) then (0 : Int32) else (1 : Int32))
set_option maxRecDepth 65536 in
set_option maxHeartbeats 40000000 in
theorem rm6 (l : Launch) (Z : State) (a0 : Array Value) (hw : ∀ d ∈ tables_1, d.before a0 Z = true) (ws : List Jvm.Cond) (p0 : Int32) (p1 : Int32) (p2 : Int32) (h0 : Heap) (n0 : Nat) :
    MetFree l (⟨"com/example/strict_wire/strictwire/wire/VersionsIncludesPinLaw", "ref", "(III)Z"⟩ : MethodName) (head1 (Jvm.Cond.code (⟨"com/example/strict_wire/strictwire/wire/VersionsIncludesPinLaw", "ref", "(III)Z"⟩ : MethodName) method_2_code 3 (some .boolean) :: ws) ({ frames := 0, cells := 0, slots := 0, locals := 0 } : Room)) (fun a U => a = #[(.int p0), (.int p1), (.int p2)] ∧ Z.Warmed39 U.vm ∧ U.heap = h0) (fun _ _ _ _ _ => True) (fun _ U o U' => ∃ v L, o = .returned v ∧ own_Q (some (.int (own_f6 p0 p1 p2))) h0 n0 v U'.heap L ∧ FrameEnd U o U' L ({ frames := 0, cells := 0, slots := 0, locals := 0 } : Room).cells ({ frames := 0, cells := 0, slots := 0, locals := 0 } : Room).slots) := by
  refine MetFree.of_bodySF (plainFor_of_name pn_2) hisR ?_
  intro p e s m args below meth c s₁ Bd hml0 hP hK
  obtain ⟨rfl, hZ, hh⟩ := hP
  have hx := Bd.exec
  have hby := Bd.bytes
  have hml : c.maxLocals = 3 := hml0
  have hown : s.vm.findClass "com/example/strict_wire/strictwire/wire/VersionsIncludesPinLaw" = some m.cls := findClass_of_methodNamed Bd.named
  have hnm := (name_of_methodNamed Bd.named Bd.method).1
  have X0 : Stand p l e ({ frames := 0, cells := 0, slots := 0, locals := 0 } : Room) s m #[(.int p0), (.int p1), (.int p2)] below meth c s₁ [] 0 0 := Stand.of_body Bd
  have e0 : s₁.heap = h0 := by rw [← hh, Bd.state]; rfl
  have N0 := Fr.nil n0
  have pre0 : ∀ t, Steps p.tables e below (s₁.setTop (mkF m 0 #[.val (.int p0), .val (.int p1), .val (.int p2)] [])) t → Steps p.tables e below (s₁.setTop (entryFrame m #[(.int p0), (.int p1), (.int p2)] 3)) t := fun t k => castTop (ef_rm6 m p0 p1 p2) k
  have k1 : ∀ t, Steps p.tables e below (s₁.setTop (mkF m 7 #[.val (.int p0), .val (.int p1), .val (.int p2)] [(.int ((p2 - p0) ||| (p1 - p2)))])) t → Steps p.tables e below (s₁.setTop (entryFrame m #[(.int p0), (.int p1), (.int p2)] 3)) t := by
    intro t k
    refine pre0 _ ?_
    show Steps p.tables e below (s₁.setTop (mkF m 0 #[.val (.int p0), .val (.int p1), .val (.int p2)] [])) _
    refine XS.iloadN X0.here hx rfl (hb hby d6_0) rfl ?_
    show Steps p.tables e below (s₁.setTop (mkF m 1 #[.val (.int p0), .val (.int p1), .val (.int p2)] [(.int p2)])) _
    refine XS.iloadN X0.here hx rfl (hb hby d6_1) rfl ?_
    show Steps p.tables e below (s₁.setTop (mkF m 2 #[.val (.int p0), .val (.int p1), .val (.int p2)] [(.int p0), (.int p2)])) _
    refine XS.isub X0.here hx rfl (hb hby d6_2) rfl ?_
    show Steps p.tables e below (s₁.setTop (mkF m 3 #[.val (.int p0), .val (.int p1), .val (.int p2)] [(.int (p2 - p0))])) _
    refine XS.iloadN X0.here hx rfl (hb hby d6_3) rfl ?_
    show Steps p.tables e below (s₁.setTop (mkF m 4 #[.val (.int p0), .val (.int p1), .val (.int p2)] [(.int p1), (.int (p2 - p0))])) _
    refine XS.iloadN X0.here hx rfl (hb hby d6_4) rfl ?_
    show Steps p.tables e below (s₁.setTop (mkF m 5 #[.val (.int p0), .val (.int p1), .val (.int p2)] [(.int p2), (.int p1), (.int (p2 - p0))])) _
    refine XS.isub X0.here hx rfl (hb hby d6_5) rfl ?_
    show Steps p.tables e below (s₁.setTop (mkF m 6 #[.val (.int p0), .val (.int p1), .val (.int p2)] [(.int (p1 - p2)), (.int (p2 - p0))])) _
    refine XS.ior X0.here hx rfl (hb hby d6_6) rfl ?_
    exact k
  by_cases hc7_1 : ((p2 - p0) ||| (p1 - p2)) < (0 : Int32)
  · have k2 : ∀ t, Steps p.tables e below (s₁.setTop (mkF m 15 #[.val (.int p0), .val (.int p1), .val (.int p2)] [(.int (0 : Int32))])) t → Steps p.tables e below (s₁.setTop (entryFrame m #[(.int p0), (.int p1), (.int p2)] 3)) t := by
      intro t k
      refine k1 _ ?_
      show Steps p.tables e below (s₁.setTop (mkF m 7 #[.val (.int p0), .val (.int p1), .val (.int p2)] [(.int ((p2 - p0) ||| (p1 - p2)))])) _
      refine XS.ifYes X0.here hx rfl (pc0 := 7) (pc' := 14) rfl (hb hby d6_7) rfl ((if0 _ _).trans (tlt hc7_1).1) (by decide) (by decide) ?_
      show Steps p.tables e below (s₁.setTop (mkF m 14 #[.val (.int p0), .val (.int p1), .val (.int p2)] [])) _
      refine XS.iconst X0.here hx rfl (hb hby d6_14) ?_
      exact k
    obtain ⟨fs, hr, hrun, hended, hW, hsame⟩ := X0.leave (v := some (.int (0 : Int32))) (fun h => by rw [Bd.returns] at h; cases h)
    refine ⟨_, _, k2 _ ?_, hrun, hended, _, _, rfl, ?_, ⟨_, rfl⟩, hW, hsame.mono (by decide) (by decide)⟩
    · exact retN X0 hx (t := .boolean) Bd.returns (by simp) (hb hby d6_15) hr
    · show own_Q (some (.int (own_f6 p0 p1 p2))) h0 n0 _ s₁.heap _
      rw [e0]
      exact ⟨by simp only [own_f6, if_pos hc7_1], N0, rfl⟩
  · have k3 : ∀ t, Steps p.tables e below (s₁.setTop (mkF m 15 #[.val (.int p0), .val (.int p1), .val (.int p2)] [(.int (1 : Int32))])) t → Steps p.tables e below (s₁.setTop (entryFrame m #[(.int p0), (.int p1), (.int p2)] 3)) t := by
      intro t k
      refine k1 _ ?_
      show Steps p.tables e below (s₁.setTop (mkF m 7 #[.val (.int p0), .val (.int p1), .val (.int p2)] [(.int ((p2 - p0) ||| (p1 - p2)))])) _
      refine XS.ifNo X0.here hx rfl (hb hby d6_7) rfl ((if0 _ _).trans (flt hc7_1).1) ?_
      show Steps p.tables e below (s₁.setTop (mkF m 10 #[.val (.int p0), .val (.int p1), .val (.int p2)] [])) _
      refine XS.iconst X0.here hx rfl (hb hby d6_10) ?_
      show Steps p.tables e below (s₁.setTop (mkF m 11 #[.val (.int p0), .val (.int p1), .val (.int p2)] [(.int (1 : Int32))])) _
      refine XS.goto X0.here hx rfl (pc0 := 11) (pc' := 15) rfl (hb hby d6_11) (by decide) (by decide) ?_
      exact k
    obtain ⟨fs, hr, hrun, hended, hW, hsame⟩ := X0.leave (v := some (.int (1 : Int32))) (fun h => by rw [Bd.returns] at h; cases h)
    refine ⟨_, _, k3 _ ?_, hrun, hended, _, _, rfl, ?_, ⟨_, rfl⟩, hW, hsame.mono (by decide) (by decide)⟩
    · exact retN X0 hx (t := .boolean) Bd.returns (by simp) (hb hby d6_15) hr
    · show own_Q (some (.int (own_f6 p0 p1 p2))) h0 n0 _ s₁.heap _
      rw [e0]
      exact ⟨by simp only [own_f6, if_neg hc7_1], N0, rfl⟩
theorem ef_rm4 (m : MethodId) (x0 : Addr) (x1 : Int32) (x2 : Int32) (x3 : Int32) : entryFrame m #[(.ref x0), (.int x1), (.int x2), (.int x3)] 4 = mkF m 0 #[.val (.ref x0), .val (.int x1), .val (.int x2), .val (.int x3)] [] := by first | (simp [entryFrame, mkF, argsToLocals, Value.category]; done) | rfl
theorem d4_0 : decode method_3_code 0 = .ok (.aload_n 0, 1) := by decide +kernel
theorem d4_1 : decode method_3_code 1 = .ok (.iload_n 3, 1) := by decide +kernel
theorem pd_1 : parseMethodDescriptor "(S)Z" = some ⟨[.short], some .boolean⟩ := by decide +kernel
theorem d4_2 : decode method_3_code 2 = .ok (.invokevirtual 7, 3) := by decide +kernel
theorem d4_5 : decode method_3_code 5 = .ok (.iload_n 1, 1) := by decide +kernel
theorem d4_6 : decode method_3_code 6 = .ok (.iload_n 2, 1) := by decide +kernel
theorem d4_7 : decode method_3_code 7 = .ok (.iload_n 3, 1) := by decide +kernel
theorem pd_2 : parseMethodDescriptor "(III)Z" = some ⟨[.int, .int, .int], some .boolean⟩ := by decide +kernel
theorem d4_8 : decode method_3_code 8 = .ok (.invokestatic 13, 3) := by decide +kernel
theorem d4_11 : decode method_3_code 11 = .ok (.if_icmp .ne 7, 3) := by decide +kernel
theorem d4_14 : decode method_3_code 14 = .ok (.iconst 1, 1) := by decide +kernel
theorem d4_15 : decode method_3_code 15 = .ok (.goto 4, 3) := by decide +kernel
theorem d4_19 : decode method_3_code 19 = .ok (.ireturn, 1) := by decide +kernel
def own_f4 (p1 p2 p3 fl fh : Int32) : Int32 := (1 : Int32)
set_option maxRecDepth 65536 in
set_option maxHeartbeats 40000000 in
theorem rm4 (l : Launch) (Z : State) (a0 : Array Value) (hw : ∀ d ∈ tables_1, d.before a0 Z = true) (ws : List Jvm.Cond) (r0 : Addr) (p1 : Int32) (p2 : Int32) (p3 : Int32) (fl fh : Int32) (h0 : Heap) (n0 : Nat) (Flowest : Fld Z h0 r0 "com/example/strict_wire/strictwire/wire/ApiKey$Versions" "lowest" "S" (.int fl)) (Fhighest : Fld Z h0 r0 "com/example/strict_wire/strictwire/wire/ApiKey$Versions" "highest" "S" (.int fh)) (E_r0 : Exa Z h0 r0 "com/example/strict_wire/strictwire/wire/ApiKey$Versions") (hone : own_f5 p3 fl fh = own_f6 p1 p2 p3) :
    MetFree l (⟨"com/example/strict_wire/strictwire/wire/VersionsIncludesPinLaw", "check", "(Lcom/example/strict_wire/strictwire/wire/ApiKey$Versions;IIS)Z"⟩ : MethodName) (head1 (Jvm.Cond.code (⟨"com/example/strict_wire/strictwire/wire/VersionsIncludesPinLaw", "check", "(Lcom/example/strict_wire/strictwire/wire/ApiKey$Versions;IIS)Z"⟩ : MethodName) method_3_code 4 (some .boolean) :: ws) ({ frames := 1, cells := 0, slots := 0, locals := 15 } : Room)) (fun a U => a = #[(.ref r0), (.int p1), (.int p2), (.int p3)] ∧ Z.Warmed39 U.vm ∧ U.heap = h0) (fun _ _ _ _ _ => True) (fun _ U o U' => ∃ v L, o = .returned v ∧ own_Q (some (.int (own_f4 p1 p2 p3 fl fh))) h0 n0 v U'.heap L ∧ FrameEnd U o U' L ({ frames := 1, cells := 0, slots := 0, locals := 15 } : Room).cells ({ frames := 1, cells := 0, slots := 0, locals := 15 } : Room).slots) := by
  refine MetFree.of_bodySF (plainFor_of_name pn_2) hisR ?_
  intro p e s m args below meth c s₁ Bd hml0 hP hK
  obtain ⟨rfl, hZ, hh⟩ := hP
  have hx := Bd.exec
  have hby := Bd.bytes
  have hml : c.maxLocals = 4 := hml0
  have hown : s.vm.findClass "com/example/strict_wire/strictwire/wire/VersionsIncludesPinLaw" = some m.cls := findClass_of_methodNamed Bd.named
  have hnm := (name_of_methodNamed Bd.named Bd.method).1
  have X0 : Stand p l e ({ frames := 1, cells := 0, slots := 0, locals := 15 } : Room) s m #[(.ref r0), (.int p1), (.int p2), (.int p3)] below meth c s₁ [] 0 0 := Stand.of_body Bd
  have e0 : s₁.heap = h0 := by rw [← hh, Bd.state]; rfl
  have N0 := Fr.nil n0
  have pre0 : ∀ t, Steps p.tables e below (s₁.setTop (mkF m 0 #[.val (.ref r0), .val (.int p1), .val (.int p2), .val (.int p3)] [])) t → Steps p.tables e below (s₁.setTop (entryFrame m #[(.ref r0), (.int p1), (.int p2), (.int p3)] 4)) t := fun t k => castTop (ef_rm4 m r0 p1 p2 p3) k
  obtain ⟨cq1, kq1, q1a, q1b, q1c⟩ := isOf hZ e0 E_r0
  obtain ⟨_, _, ⟨T1, L1, k1_, n1⟩, -, X1, ⟨Lc1, hQ1, l1, y1, z1⟩, st1⟩ := X0.virtualBack hx (y := (⟨"com/example/strict_wire/strictwire/wire/ApiKey$Versions", "includes", "(S)Z"⟩ : MethodName)) (z := (⟨"com/example/strict_wire/strictwire/wire/ApiKey$Versions", "includes", "(S)Z"⟩ : MethodName)) hown (mvT hZ (hw _ (List.mem_of_getElem? (i := 24) rfl))) (mvT hZ (hw _ (List.mem_of_getElem? (i := 25) rfl))) (notFace_of_selects (args := #[]) (mvT hZ (hw _ (List.mem_of_getElem? (i := 27) rfl)))) (mvT hZ (hw _ (List.mem_of_getElem? (i := 27) rfl))) (mvT hZ (hw _ (List.mem_of_getElem? (i := 26) rfl))) (by decide) (backOf (W := 0) (rm5 l Z a0 hw [] r0 p3 fl fh h0 n0 Flowest Fhighest E_r0) hZ (hw _ (List.mem_of_getElem? (i := 28) rfl)) (hw _ (List.mem_of_getElem? (i := 2) rfl)) (by decide) (by decide)) q1a q1c (g := (mkF m 2 #[.val (.ref r0), .val (.int p1), .val (.int p2), .val (.int p3)] [(.int p3), (.ref r0)])) rfl (by rw [hml]; rfl) (Steps.refl _) (argsL := [(.int p3)]) (rest := []) (lenOf pd_1 rfl) rfl (by show 2 * 0 + _ ≤ _; exact Nat.le_of_eq rfl) (hb hby d4_2) (fun _ _ => ⟨rfl, e0, (by decide : 0 + 0 ≤ _), (by decide : 0 + 0 ≤ _)⟩)
  dsimp only [Pt.U, Pt.locs, Pt.cells, Pt.slots] at X1 l1 y1 z1 st1 hQ1
  subst l1 y1 z1
  obtain ⟨rfl, Nq1, e1⟩ := hQ1
  have N1 := Fr.app N0 Nq1
  obtain ⟨_, _, ⟨T2, L2, k2_, n2⟩, -, X2, ⟨Lc2, hQ2, l2, y2, z2⟩, st2⟩ := Jvm.LawKit.callS X1 hx (y := (⟨"com/example/strict_wire/strictwire/wire/VersionsIncludesPinLaw", "ref", "(III)Z"⟩ : MethodName)) hown (mvT hZ (hw _ (List.mem_of_getElem? (i := 29) rfl))) (mvT hZ (hw _ (List.mem_of_getElem? (i := 30) rfl))) (mvT hZ (hw _ (List.mem_of_getElem? (i := 22) rfl))) (mvT hZ (hw _ (List.mem_of_getElem? (i := 31) rfl))) (by decide) (backOf (W := 1) (rm6 l Z a0 hw [] p1 p2 p3 h0 n0 ) hZ (hw _ (List.mem_of_getElem? (i := 31) rfl)) (hw _ (List.mem_of_getElem? (i := 22) rfl)) (by decide) (by decide)) (g := (mkF m 8 #[.val (.ref r0), .val (.int p1), .val (.int p2), .val (.int p3)] [(.int p3), (.int p2), (.int p1), (.int (own_f5 p3 fl fh))])) rfl (by rw [hml]; rfl) (argsL := [(.int p1), (.int p2), (.int p3)]) (rest := [(.int (own_f5 p3 fl fh))]) (lenOf pd_2 rfl) rfl (by show 2 * 0 + _ ≤ _; exact Nat.le_of_eq rfl) (hb hby d4_8) (fun _ _ => ⟨rfl, e1, (by decide : 0 + 0 ≤ _), (by decide : 0 + 0 ≤ _)⟩)
  dsimp only [Pt.U, Pt.locs, Pt.cells, Pt.slots] at X2 l2 y2 z2 st2 hQ2
  subst l2 y2 z2
  obtain ⟨rfl, Nq2, e2⟩ := hQ2
  have N2 := Fr.app N1 Nq2
  have k3 : ∀ t, Steps p.tables e below (T2.setTop (mkF m 19 #[.val (.ref r0), .val (.int p1), .val (.int p2), .val (.int p3)] [(.int (1 : Int32))])) t → Steps p.tables e below (s₁.setTop (entryFrame m #[(.ref r0), (.int p1), (.int p2), (.int p3)] 4)) t := by
    intro t k
    refine pre0 _ ?_
    show Steps p.tables e below (s₁.setTop (mkF m 0 #[.val (.ref r0), .val (.int p1), .val (.int p2), .val (.int p3)] [])) _
    refine XS.aloadN X0.here hx rfl (hb hby d4_0) rfl rfl ?_
    show Steps p.tables e below (s₁.setTop (mkF m 1 #[.val (.ref r0), .val (.int p1), .val (.int p2), .val (.int p3)] [(.ref r0)])) _
    refine XS.iloadN X0.here hx rfl (hb hby d4_1) rfl ?_
    show Steps p.tables e below (s₁.setTop (mkF m 2 #[.val (.ref r0), .val (.int p1), .val (.int p2), .val (.int p3)] [(.int p3), (.ref r0)])) _
    refine st1.trans ?_
    show Steps p.tables e below (T1.setTop (mkF m 5 #[.val (.ref r0), .val (.int p1), .val (.int p2), .val (.int p3)] [(.int (own_f5 p3 fl fh))])) _
    refine XS.iloadN X1.here hx rfl (hb hby d4_5) rfl ?_
    show Steps p.tables e below (T1.setTop (mkF m 6 #[.val (.ref r0), .val (.int p1), .val (.int p2), .val (.int p3)] [(.int p1), (.int (own_f5 p3 fl fh))])) _
    refine XS.iloadN X1.here hx rfl (hb hby d4_6) rfl ?_
    show Steps p.tables e below (T1.setTop (mkF m 7 #[.val (.ref r0), .val (.int p1), .val (.int p2), .val (.int p3)] [(.int p2), (.int p1), (.int (own_f5 p3 fl fh))])) _
    refine XS.iloadN X1.here hx rfl (hb hby d4_7) rfl ?_
    show Steps p.tables e below (T1.setTop (mkF m 8 #[.val (.ref r0), .val (.int p1), .val (.int p2), .val (.int p3)] [(.int p3), (.int p2), (.int p1), (.int (own_f5 p3 fl fh))])) _
    refine st2 _ ?_
    show Steps p.tables e below (T2.setTop (mkF m 11 #[.val (.ref r0), .val (.int p1), .val (.int p2), .val (.int p3)] [(.int (own_f6 p1 p2 p3 )), (.int (own_f5 p3 fl fh))])) _
    refine XS.icmpNo X2.here hx rfl (hb hby d4_11) rfl (teq hone).2 ?_
    show Steps p.tables e below (T2.setTop (mkF m 14 #[.val (.ref r0), .val (.int p1), .val (.int p2), .val (.int p3)] [])) _
    refine XS.iconst X2.here hx rfl (hb hby d4_14) ?_
    show Steps p.tables e below (T2.setTop (mkF m 15 #[.val (.ref r0), .val (.int p1), .val (.int p2), .val (.int p3)] [(.int (1 : Int32))])) _
    refine XS.goto X2.here hx rfl (pc0 := 15) (pc' := 19) rfl (hb hby d4_15) (by decide) (by decide) ?_
    exact k
  obtain ⟨fs, hr, hrun, hended, hW, hsame⟩ := X2.leave (v := some (.int (1 : Int32))) (fun h => by rw [Bd.returns] at h; cases h)
  refine ⟨_, _, k3 _ ?_, hrun, hended, _, _, rfl, ?_, ⟨_, rfl⟩, hW, hsame.mono (by decide) (by decide)⟩
  · exact retN X2 hx (t := .boolean) Bd.returns (by simp) (hb hby d4_19) hr
  · show own_Q (some (.int (own_f4 p1 p2 p3 fl fh))) h0 n0 _ T2.heap _
    rw [e2]
    exact ⟨rfl, N2, rfl⟩
theorem own_plain (a b x : Int32) : own_f5 (x.toInt16.toInt32) (nar .short (a.toInt16.toInt32)) (nar .short (b.toInt16.toInt32)) = own_f6 (a.toInt16.toInt32) (b.toInt16.toInt32) (x.toInt16.toInt32) := by
  have a1 := c_i2s a
  have a2 := c_i2s (a.toInt16.toInt32)
  have b1 := c_i2s b
  have b2 := c_i2s (b.toInt16.toInt32)
  have x1 := c_i2s x
  have s1 := c_isub (x.toInt16.toInt32) (a.toInt16.toInt32)
  have s2 := c_isub (b.toInt16.toInt32) (x.toInt16.toInt32)
  have r1 := rng32 (x.toInt16.toInt32 - a.toInt16.toInt32)
  have r2 := rng32 (b.toInt16.toInt32 - x.toInt16.toInt32)
  have o1 := c_orS (x.toInt16.toInt32 - a.toInt16.toInt32) (b.toInt16.toInt32 - x.toInt16.toInt32)
  have z0 : (0 : Int32).toInt = 0 := by decide
  simp only [own_f5, own_f6, nar, Int32.lt_iff_toInt_lt]
  repeat' split
  all_goals first | rfl | (exfalso; omega)
theorem ef_rm0 (m : MethodId) (x0 : Int32) (x1 : Int32) (x2 : Int32) (x3 : Int32) : entryFrame m #[(.int x0), (.int x1), (.int x2), (.int x3)] maxLocals = mkF m 0 #[.val (.int x0), .val (.int x1), .val (.int x2), .val (.int x3), .unset, .unset, .unset, .unset, .unset, .unset] [] := by first | (simp [entryFrame, mkF, argsToLocals, Value.category, maxLocals]; done) | rfl
theorem pd_3 : parseMethodDescriptor "(SSS)V" = some ⟨[.short, .short, .short], none⟩ := by decide +kernel
theorem pd_4 : parseMethodDescriptor "(Lcom/example/strict_wire/strictwire/wire/ApiKey$Versions;IIS)Z" = some ⟨[(.object "com/example/strict_wire/strictwire/wire/ApiKey$Versions"), .int, .int, .short], some .boolean⟩ := by decide +kernel
set_option maxRecDepth 65536 in
set_option maxHeartbeats 40000000 in
theorem rm0 (l : Launch) (Z : State) (a0 : Array Value) (hw : ∀ d ∈ tables_1, d.before a0 Z = true) (ws : List Jvm.Cond) (p0 : Int32) (p1 : Int32) (p2 : Int32) (p3 : Int32) (h0 : Heap) (n0 : Nat) (Z0 : n0 ≤ h0.size) :
    MetFree l x (head1 (Jvm.Cond.code x code maxLocals ret :: ws) room_1) (fun a U => a = #[(.int p0), (.int p1), (.int p2), (.int p3)] ∧ Z.Warmed39 U.vm ∧ U.heap = h0) (fun _ _ _ _ _ => True) (fun _ U o U' => ∃ v L, o = .returned v ∧ own_R (some (.int 1)) n0 v U'.heap L ∧ FrameEnd U o U' L room_1.cells room_1.slots) := by
  refine MetFree.of_bodySF (plainFor_of_name pn_2) hisR ?_
  intro p e s m args below meth c s₁ Bd hml0 hP hK
  obtain ⟨rfl, hZ, hh⟩ := hP
  have hx := Bd.exec
  have hby := Bd.bytes
  have hml : c.maxLocals = 10 := hml0
  have hown : s.vm.findClass "com/example/strict_wire/strictwire/wire/VersionsIncludesPinLaw" = some m.cls := findClass_of_methodNamed Bd.named
  have hnm := (name_of_methodNamed Bd.named Bd.method).1
  have X0 : Stand p l e room_1 s m #[(.int p0), (.int p1), (.int p2), (.int p3)] below meth c s₁ [] 0 0 := Stand.of_body Bd
  have e0 : s₁.heap = h0 := by rw [← hh, Bd.state]; rfl
  have N0 := Fr.nil n0
  have pre0 : ∀ t, Steps p.tables e below (s₁.setTop (mkF m 0 #[.val (.int p0), .val (.int p1), .val (.int p2), .val (.int p3), .unset, .unset, .unset, .unset, .unset, .unset] [])) t → Steps p.tables e below (s₁.setTop (entryFrame m #[(.int p0), (.int p1), (.int p2), (.int p3)] maxLocals)) t := fun t k => castTop (ef_rm0 m p0 p1 p2 p3) k
  obtain ⟨T1, h1, X1, e1, E1, A1, D1, -, st1⟩ := newO X0 hx hZ hown (hw _ (List.mem_of_getElem? (i := 0) rfl)) (hw _ (List.mem_of_getElem? (i := 1) rfl)) (hw _ (List.mem_of_getElem? (i := 2) rfl)) e0 (g := (mkF m 16 #[.val (.int p0), .val (.int p1), .val (.int p2), .val (.int p3), .val (.int (p0.toInt16.toInt32)), .val (.int (p1.toInt16.toInt32)), .val (.int (p2.toInt16.toInt32)), .val (.int (p3.toInt16.toInt32)), .unset, .unset] [])) rfl (hb hby at_16) (by decide) (by decide)
  obtain ⟨b1, g1⟩ : ∃ z, z = h0.size := ⟨_, rfl⟩
  rw [← g1] at A1 D1 st1
  have gn_b1 : n0 ≤ b1 := Nat.le_trans Z0 (Nat.le_of_eq g1.symm)
  have Zs1 : n0 ≤ h1.size := Nat.le_trans Z0 E1.1
  have E_b1 := A1
  have F_lowest_b1 : Fld Z h1 b1 "com/example/strict_wire/strictwire/wire/ApiKey$Versions" "lowest" "S" (.int (0 : Int32)) := D1 (Or.inr (hw _ (List.mem_of_getElem? (i := 15) rfl))) (ty := .short) (by decide)
  have F_highest_b1 : Fld Z h1 b1 "com/example/strict_wire/strictwire/wire/ApiKey$Versions" "highest" "S" (.int (0 : Int32)) := D1 (Or.inr (hw _ (List.mem_of_getElem? (i := 17) rfl))) (ty := .short) (by decide)
  have F_firstFlexible_b1 : Fld Z h1 b1 "com/example/strict_wire/strictwire/wire/ApiKey$Versions" "firstFlexible" "S" (.int (0 : Int32)) := D1 (Or.inr (hw _ (List.mem_of_getElem? (i := 19) rfl))) (ty := .short) (by decide)
  obtain ⟨_, _, ⟨T2, L2, k2_, n2⟩, -, X2, ⟨Lc2, hQ2, l2, y2, z2⟩, st2⟩ := X1.specialBack hx (y := (⟨"com/example/strict_wire/strictwire/wire/ApiKey$Versions", "<init>", "(SSS)V"⟩ : MethodName)) rfl hown (mvT hZ (hw _ (List.mem_of_getElem? (i := 3) rfl))) (mvT hZ (hw _ (List.mem_of_getElem? (i := 4) rfl))) (mvT hZ (hw _ (List.mem_of_getElem? (i := 5) rfl))) (by decide) (backOf (W := 1) (rm1 l Z a0 hw [] b1 (p0.toInt16.toInt32) (p1.toInt16.toInt32) (p2.toInt16.toInt32) h1 n0 Zs1 gn_b1 E_b1 F_lowest_b1 F_highest_b1 F_firstFlexible_b1) hZ (hw _ (List.mem_of_getElem? (i := 5) rfl)) (hw _ (List.mem_of_getElem? (i := 2) rfl)) (by decide) (by decide)) (g := (mkF m 26 #[.val (.int p0), .val (.int p1), .val (.int p2), .val (.int p3), .val (.int (p0.toInt16.toInt32)), .val (.int (p1.toInt16.toInt32)), .val (.int (p2.toInt16.toInt32)), .val (.int (p3.toInt16.toInt32)), .unset, .unset] [(.int (p2.toInt16.toInt32)), (.int (p1.toInt16.toInt32)), (.int (p0.toInt16.toInt32)), (.ref b1), (.ref b1)])) rfl (by rw [hml]; rfl) (Steps.refl _) (a := b1) (argsL := [(.int (p0.toInt16.toInt32)), (.int (p1.toInt16.toInt32)), (.int (p2.toInt16.toInt32))]) (rest := [(.ref b1)]) (lenOf pd_3 rfl) rfl (by show 2 * 0 + _ ≤ _; exact Nat.le_of_eq rfl) (hb hby at_26) (fun _ _ => ⟨rfl, e1, (by decide : 1 + 0 ≤ _), (by decide : 3 + 0 ≤ _)⟩)
  dsimp only [Pt.U, Pt.locs, Pt.cells, Pt.slots] at X2 l2 y2 z2 st2 hQ2
  subst l2 y2 z2
  obtain ⟨rfl, Nq2, Kq2, Eq2, Fn_lowest_2, Fn_highest_2⟩ := hQ2
  have N2 := Fr.app N0 Nq2
  have Zs2 : n0 ≤ T2.heap.size := Nat.le_trans Zs1 Kq2.1
  replace E_b1 := E_b1.keep Kq2
  obtain ⟨_, _, ⟨T3, L3, k3_, n3⟩, -, X3, ⟨Lc3, hQ3, l3, y3, z3⟩, st3⟩ := Jvm.LawKit.callS X2 hx (y := (⟨"com/example/strict_wire/strictwire/wire/VersionsIncludesPinLaw", "check", "(Lcom/example/strict_wire/strictwire/wire/ApiKey$Versions;IIS)Z"⟩ : MethodName)) hown (mvT hZ (hw _ (List.mem_of_getElem? (i := 20) rfl))) (mvT hZ (hw _ (List.mem_of_getElem? (i := 21) rfl))) (mvT hZ (hw _ (List.mem_of_getElem? (i := 22) rfl))) (mvT hZ (hw _ (List.mem_of_getElem? (i := 23) rfl))) (by decide) (backOf (W := 0) (rm4 l Z a0 hw [] b1 (p0.toInt16.toInt32) (p1.toInt16.toInt32) (p3.toInt16.toInt32) (nar .short (p0.toInt16.toInt32)) (nar .short (p1.toInt16.toInt32)) T2.heap n0 Fn_lowest_2 Fn_highest_2 E_b1 (own_plain _ _ _)) hZ (hw _ (List.mem_of_getElem? (i := 23) rfl)) (hw _ (List.mem_of_getElem? (i := 22) rfl)) (by decide) (by decide)) (g := (mkF m 39 #[.val (.int p0), .val (.int p1), .val (.int p2), .val (.int p3), .val (.int (p0.toInt16.toInt32)), .val (.int (p1.toInt16.toInt32)), .val (.int (p2.toInt16.toInt32)), .val (.int (p3.toInt16.toInt32)), .val (.ref b1), .unset] [(.int (p3.toInt16.toInt32)), (.int (p1.toInt16.toInt32)), (.int (p0.toInt16.toInt32)), (.ref b1)])) rfl (by rw [hml]; rfl) (argsL := [(.ref b1), (.int (p0.toInt16.toInt32)), (.int (p1.toInt16.toInt32)), (.int (p3.toInt16.toInt32))]) (rest := []) (lenOf pd_4 rfl) rfl (by show 2 * 0 + _ ≤ _; exact Nat.le_of_eq rfl) (hb hby at_39) (fun _ _ => ⟨rfl, rfl, (by decide : 1 + 0 ≤ _), (by decide : 3 + 0 ≤ _)⟩)
  dsimp only [Pt.U, Pt.locs, Pt.cells, Pt.slots] at X3 l3 y3 z3 st3 hQ3
  subst l3 y3 z3
  obtain ⟨rfl, Nq3, e3⟩ := hQ3
  have N3 := Fr.app N2 Nq3
  obtain ⟨_, _, ⟨T4, L4, k4_, n4⟩, -, X4, ⟨Lc4, hQ4, l4, y4, z4⟩, st4⟩ := Jvm.LawKit.callS X3 hx (y := (⟨"com/example/strict_wire/strictwire/wire/VersionsIncludesPinLaw", "check", "(Lcom/example/strict_wire/strictwire/wire/ApiKey$Versions;IIS)Z"⟩ : MethodName)) hown (mvT hZ (hw _ (List.mem_of_getElem? (i := 20) rfl))) (mvT hZ (hw _ (List.mem_of_getElem? (i := 21) rfl))) (mvT hZ (hw _ (List.mem_of_getElem? (i := 22) rfl))) (mvT hZ (hw _ (List.mem_of_getElem? (i := 23) rfl))) (by decide) (backOf (W := 1) (rm4 l Z a0 hw [] b1 (p0.toInt16.toInt32) (p1.toInt16.toInt32) (p0.toInt16.toInt32) (nar .short (p0.toInt16.toInt32)) (nar .short (p1.toInt16.toInt32)) T2.heap n0 Fn_lowest_2 Fn_highest_2 E_b1 (own_plain _ _ _)) hZ (hw _ (List.mem_of_getElem? (i := 23) rfl)) (hw _ (List.mem_of_getElem? (i := 22) rfl)) (by decide) (by decide)) (g := (mkF m 54 #[.val (.int p0), .val (.int p1), .val (.int p2), .val (.int p3), .val (.int (p0.toInt16.toInt32)), .val (.int (p1.toInt16.toInt32)), .val (.int (p2.toInt16.toInt32)), .val (.int (p3.toInt16.toInt32)), .val (.ref b1), .val (.int (1 : Int32))] [(.int (p0.toInt16.toInt32)), (.int (p1.toInt16.toInt32)), (.int (p0.toInt16.toInt32)), (.ref b1), (.int (1 : Int32))])) rfl (by rw [hml]; rfl) (argsL := [(.ref b1), (.int (p0.toInt16.toInt32)), (.int (p1.toInt16.toInt32)), (.int (p0.toInt16.toInt32))]) (rest := [(.int (1 : Int32))]) (lenOf pd_4 rfl) rfl (by show 2 * 0 + _ ≤ _; exact Nat.le_of_eq rfl) (hb hby at_54) (fun _ _ => ⟨rfl, e3, (by decide : 1 + 0 ≤ _), (by decide : 3 + 0 ≤ _)⟩)
  dsimp only [Pt.U, Pt.locs, Pt.cells, Pt.slots] at X4 l4 y4 z4 st4 hQ4
  subst l4 y4 z4
  obtain ⟨rfl, Nq4, e4⟩ := hQ4
  have N4 := Fr.app N3 Nq4
  obtain ⟨_, _, ⟨T5, L5, k5_, n5⟩, -, X5, ⟨Lc5, hQ5, l5, y5, z5⟩, st5⟩ := Jvm.LawKit.callS X4 hx (y := (⟨"com/example/strict_wire/strictwire/wire/VersionsIncludesPinLaw", "check", "(Lcom/example/strict_wire/strictwire/wire/ApiKey$Versions;IIS)Z"⟩ : MethodName)) hown (mvT hZ (hw _ (List.mem_of_getElem? (i := 20) rfl))) (mvT hZ (hw _ (List.mem_of_getElem? (i := 21) rfl))) (mvT hZ (hw _ (List.mem_of_getElem? (i := 22) rfl))) (mvT hZ (hw _ (List.mem_of_getElem? (i := 23) rfl))) (by decide) (backOf (W := 1) (rm4 l Z a0 hw [] b1 (p0.toInt16.toInt32) (p1.toInt16.toInt32) (p1.toInt16.toInt32) (nar .short (p0.toInt16.toInt32)) (nar .short (p1.toInt16.toInt32)) T2.heap n0 Fn_lowest_2 Fn_highest_2 E_b1 (own_plain _ _ _)) hZ (hw _ (List.mem_of_getElem? (i := 23) rfl)) (hw _ (List.mem_of_getElem? (i := 22) rfl)) (by decide) (by decide)) (g := (mkF m 70 #[.val (.int p0), .val (.int p1), .val (.int p2), .val (.int p3), .val (.int (p0.toInt16.toInt32)), .val (.int (p1.toInt16.toInt32)), .val (.int (p2.toInt16.toInt32)), .val (.int (p3.toInt16.toInt32)), .val (.ref b1), .val (.int (1 : Int32))] [(.int (p1.toInt16.toInt32)), (.int (p1.toInt16.toInt32)), (.int (p0.toInt16.toInt32)), (.ref b1), (.int (1 : Int32))])) rfl (by rw [hml]; rfl) (argsL := [(.ref b1), (.int (p0.toInt16.toInt32)), (.int (p1.toInt16.toInt32)), (.int (p1.toInt16.toInt32))]) (rest := [(.int (1 : Int32))]) (lenOf pd_4 rfl) rfl (by show 2 * 0 + _ ≤ _; exact Nat.le_of_eq rfl) (hb hby at_70) (fun _ _ => ⟨rfl, e4, (by decide : 1 + 0 ≤ _), (by decide : 3 + 0 ≤ _)⟩)
  dsimp only [Pt.U, Pt.locs, Pt.cells, Pt.slots] at X5 l5 y5 z5 st5 hQ5
  subst l5 y5 z5
  obtain ⟨rfl, Nq5, e5⟩ := hQ5
  have N5 := Fr.app N4 Nq5
  obtain ⟨_, _, ⟨T6, L6, k6_, n6⟩, -, X6, ⟨Lc6, hQ6, l6, y6, z6⟩, st6⟩ := Jvm.LawKit.callS X5 hx (y := (⟨"com/example/strict_wire/strictwire/wire/VersionsIncludesPinLaw", "check", "(Lcom/example/strict_wire/strictwire/wire/ApiKey$Versions;IIS)Z"⟩ : MethodName)) hown (mvT hZ (hw _ (List.mem_of_getElem? (i := 20) rfl))) (mvT hZ (hw _ (List.mem_of_getElem? (i := 21) rfl))) (mvT hZ (hw _ (List.mem_of_getElem? (i := 22) rfl))) (mvT hZ (hw _ (List.mem_of_getElem? (i := 23) rfl))) (by decide) (backOf (W := 1) (rm4 l Z a0 hw [] b1 (p0.toInt16.toInt32) (p1.toInt16.toInt32) (((p0.toInt16.toInt32) - (1 : Int32)).toInt16.toInt32) (nar .short (p0.toInt16.toInt32)) (nar .short (p1.toInt16.toInt32)) T2.heap n0 Fn_lowest_2 Fn_highest_2 E_b1 (own_plain _ _ _)) hZ (hw _ (List.mem_of_getElem? (i := 23) rfl)) (hw _ (List.mem_of_getElem? (i := 22) rfl)) (by decide) (by decide)) (g := (mkF m 89 #[.val (.int p0), .val (.int p1), .val (.int p2), .val (.int p3), .val (.int (p0.toInt16.toInt32)), .val (.int (p1.toInt16.toInt32)), .val (.int (p2.toInt16.toInt32)), .val (.int (p3.toInt16.toInt32)), .val (.ref b1), .val (.int (1 : Int32))] [(.int (((p0.toInt16.toInt32) - (1 : Int32)).toInt16.toInt32)), (.int (p1.toInt16.toInt32)), (.int (p0.toInt16.toInt32)), (.ref b1), (.int (1 : Int32))])) rfl (by rw [hml]; rfl) (argsL := [(.ref b1), (.int (p0.toInt16.toInt32)), (.int (p1.toInt16.toInt32)), (.int (((p0.toInt16.toInt32) - (1 : Int32)).toInt16.toInt32))]) (rest := [(.int (1 : Int32))]) (lenOf pd_4 rfl) rfl (by show 2 * 0 + _ ≤ _; exact Nat.le_of_eq rfl) (hb hby at_89) (fun _ _ => ⟨rfl, e5, (by decide : 1 + 0 ≤ _), (by decide : 3 + 0 ≤ _)⟩)
  dsimp only [Pt.U, Pt.locs, Pt.cells, Pt.slots] at X6 l6 y6 z6 st6 hQ6
  subst l6 y6 z6
  obtain ⟨rfl, Nq6, e6⟩ := hQ6
  have N6 := Fr.app N5 Nq6
  obtain ⟨_, _, ⟨T7, L7, k7_, n7⟩, -, X7, ⟨Lc7, hQ7, l7, y7, z7⟩, st7⟩ := Jvm.LawKit.callS X6 hx (y := (⟨"com/example/strict_wire/strictwire/wire/VersionsIncludesPinLaw", "check", "(Lcom/example/strict_wire/strictwire/wire/ApiKey$Versions;IIS)Z"⟩ : MethodName)) hown (mvT hZ (hw _ (List.mem_of_getElem? (i := 20) rfl))) (mvT hZ (hw _ (List.mem_of_getElem? (i := 21) rfl))) (mvT hZ (hw _ (List.mem_of_getElem? (i := 22) rfl))) (mvT hZ (hw _ (List.mem_of_getElem? (i := 23) rfl))) (by decide) (backOf (W := 1) (rm4 l Z a0 hw [] b1 (p0.toInt16.toInt32) (p1.toInt16.toInt32) (((p1.toInt16.toInt32) + (1 : Int32)).toInt16.toInt32) (nar .short (p0.toInt16.toInt32)) (nar .short (p1.toInt16.toInt32)) T2.heap n0 Fn_lowest_2 Fn_highest_2 E_b1 (own_plain _ _ _)) hZ (hw _ (List.mem_of_getElem? (i := 23) rfl)) (hw _ (List.mem_of_getElem? (i := 22) rfl)) (by decide) (by decide)) (g := (mkF m 108 #[.val (.int p0), .val (.int p1), .val (.int p2), .val (.int p3), .val (.int (p0.toInt16.toInt32)), .val (.int (p1.toInt16.toInt32)), .val (.int (p2.toInt16.toInt32)), .val (.int (p3.toInt16.toInt32)), .val (.ref b1), .val (.int (1 : Int32))] [(.int (((p1.toInt16.toInt32) + (1 : Int32)).toInt16.toInt32)), (.int (p1.toInt16.toInt32)), (.int (p0.toInt16.toInt32)), (.ref b1), (.int (1 : Int32))])) rfl (by rw [hml]; rfl) (argsL := [(.ref b1), (.int (p0.toInt16.toInt32)), (.int (p1.toInt16.toInt32)), (.int (((p1.toInt16.toInt32) + (1 : Int32)).toInt16.toInt32))]) (rest := [(.int (1 : Int32))]) (lenOf pd_4 rfl) rfl (by show 2 * 0 + _ ≤ _; exact Nat.le_of_eq rfl) (hb hby at_108) (fun _ _ => ⟨rfl, e6, (by decide : 1 + 0 ≤ _), (by decide : 3 + 0 ≤ _)⟩)
  dsimp only [Pt.U, Pt.locs, Pt.cells, Pt.slots] at X7 l7 y7 z7 st7 hQ7
  subst l7 y7 z7
  obtain ⟨rfl, Nq7, e7⟩ := hQ7
  have N7 := Fr.app N6 Nq7
  have k8 : ∀ t, Steps p.tables e below (T7.setTop (mkF m 116 #[.val (.int p0), .val (.int p1), .val (.int p2), .val (.int p3), .val (.int (p0.toInt16.toInt32)), .val (.int (p1.toInt16.toInt32)), .val (.int (p2.toInt16.toInt32)), .val (.int (p3.toInt16.toInt32)), .val (.ref b1), .val (.int (1 : Int32))] [(.int (1 : Int32))])) t → Steps p.tables e below (s₁.setTop (entryFrame m #[(.int p0), (.int p1), (.int p2), (.int p3)] maxLocals)) t := by
    intro t k
    refine pre0 _ ?_
    show Steps p.tables e below (s₁.setTop (mkF m 0 #[.val (.int p0), .val (.int p1), .val (.int p2), .val (.int p3), .unset, .unset, .unset, .unset, .unset, .unset] [])) _
    refine XS.iloadN X0.here hx rfl (hb hby at_0) rfl ?_
    show Steps p.tables e below (s₁.setTop (mkF m 1 #[.val (.int p0), .val (.int p1), .val (.int p2), .val (.int p3), .unset, .unset, .unset, .unset, .unset, .unset] [(.int p0)])) _
    refine XS.i2s X0.here hx rfl (hb hby at_1) rfl ?_
    show Steps p.tables e below (s₁.setTop (mkF m 2 #[.val (.int p0), .val (.int p1), .val (.int p2), .val (.int p3), .unset, .unset, .unset, .unset, .unset, .unset] [(.int (p0.toInt16.toInt32))])) _
    refine XS.istore X0.here hx rfl (hb hby at_2) rfl (l' := #[.val (.int p0), .val (.int p1), .val (.int p2), .val (.int p3), .val (.int (p0.toInt16.toInt32)), .unset, .unset, .unset, .unset, .unset]) rfl ?_
    show Steps p.tables e below (s₁.setTop (mkF m 4 #[.val (.int p0), .val (.int p1), .val (.int p2), .val (.int p3), .val (.int (p0.toInt16.toInt32)), .unset, .unset, .unset, .unset, .unset] [])) _
    refine XS.iloadN X0.here hx rfl (hb hby at_4) rfl ?_
    show Steps p.tables e below (s₁.setTop (mkF m 5 #[.val (.int p0), .val (.int p1), .val (.int p2), .val (.int p3), .val (.int (p0.toInt16.toInt32)), .unset, .unset, .unset, .unset, .unset] [(.int p1)])) _
    refine XS.i2s X0.here hx rfl (hb hby at_5) rfl ?_
    show Steps p.tables e below (s₁.setTop (mkF m 6 #[.val (.int p0), .val (.int p1), .val (.int p2), .val (.int p3), .val (.int (p0.toInt16.toInt32)), .unset, .unset, .unset, .unset, .unset] [(.int (p1.toInt16.toInt32))])) _
    refine XS.istore X0.here hx rfl (hb hby at_6) rfl (l' := #[.val (.int p0), .val (.int p1), .val (.int p2), .val (.int p3), .val (.int (p0.toInt16.toInt32)), .val (.int (p1.toInt16.toInt32)), .unset, .unset, .unset, .unset]) rfl ?_
    show Steps p.tables e below (s₁.setTop (mkF m 8 #[.val (.int p0), .val (.int p1), .val (.int p2), .val (.int p3), .val (.int (p0.toInt16.toInt32)), .val (.int (p1.toInt16.toInt32)), .unset, .unset, .unset, .unset] [])) _
    refine XS.iloadN X0.here hx rfl (hb hby at_8) rfl ?_
    show Steps p.tables e below (s₁.setTop (mkF m 9 #[.val (.int p0), .val (.int p1), .val (.int p2), .val (.int p3), .val (.int (p0.toInt16.toInt32)), .val (.int (p1.toInt16.toInt32)), .unset, .unset, .unset, .unset] [(.int p2)])) _
    refine XS.i2s X0.here hx rfl (hb hby at_9) rfl ?_
    show Steps p.tables e below (s₁.setTop (mkF m 10 #[.val (.int p0), .val (.int p1), .val (.int p2), .val (.int p3), .val (.int (p0.toInt16.toInt32)), .val (.int (p1.toInt16.toInt32)), .unset, .unset, .unset, .unset] [(.int (p2.toInt16.toInt32))])) _
    refine XS.istore X0.here hx rfl (hb hby at_10) rfl (l' := #[.val (.int p0), .val (.int p1), .val (.int p2), .val (.int p3), .val (.int (p0.toInt16.toInt32)), .val (.int (p1.toInt16.toInt32)), .val (.int (p2.toInt16.toInt32)), .unset, .unset, .unset]) rfl ?_
    show Steps p.tables e below (s₁.setTop (mkF m 12 #[.val (.int p0), .val (.int p1), .val (.int p2), .val (.int p3), .val (.int (p0.toInt16.toInt32)), .val (.int (p1.toInt16.toInt32)), .val (.int (p2.toInt16.toInt32)), .unset, .unset, .unset] [])) _
    refine XS.iloadN X0.here hx rfl (hb hby at_12) rfl ?_
    show Steps p.tables e below (s₁.setTop (mkF m 13 #[.val (.int p0), .val (.int p1), .val (.int p2), .val (.int p3), .val (.int (p0.toInt16.toInt32)), .val (.int (p1.toInt16.toInt32)), .val (.int (p2.toInt16.toInt32)), .unset, .unset, .unset] [(.int p3)])) _
    refine XS.i2s X0.here hx rfl (hb hby at_13) rfl ?_
    show Steps p.tables e below (s₁.setTop (mkF m 14 #[.val (.int p0), .val (.int p1), .val (.int p2), .val (.int p3), .val (.int (p0.toInt16.toInt32)), .val (.int (p1.toInt16.toInt32)), .val (.int (p2.toInt16.toInt32)), .unset, .unset, .unset] [(.int (p3.toInt16.toInt32))])) _
    refine XS.istore X0.here hx rfl (hb hby at_14) rfl (l' := #[.val (.int p0), .val (.int p1), .val (.int p2), .val (.int p3), .val (.int (p0.toInt16.toInt32)), .val (.int (p1.toInt16.toInt32)), .val (.int (p2.toInt16.toInt32)), .val (.int (p3.toInt16.toInt32)), .unset, .unset]) rfl ?_
    show Steps p.tables e below (s₁.setTop (mkF m 16 #[.val (.int p0), .val (.int p1), .val (.int p2), .val (.int p3), .val (.int (p0.toInt16.toInt32)), .val (.int (p1.toInt16.toInt32)), .val (.int (p2.toInt16.toInt32)), .val (.int (p3.toInt16.toInt32)), .unset, .unset] [])) _
    refine st1 _ ?_
    show Steps p.tables e below (T1.setTop (mkF m 19 #[.val (.int p0), .val (.int p1), .val (.int p2), .val (.int p3), .val (.int (p0.toInt16.toInt32)), .val (.int (p1.toInt16.toInt32)), .val (.int (p2.toInt16.toInt32)), .val (.int (p3.toInt16.toInt32)), .unset, .unset] [(.ref b1)])) _
    refine XS.dup X1.here hx rfl (hb hby at_19) rfl rfl ?_
    show Steps p.tables e below (T1.setTop (mkF m 20 #[.val (.int p0), .val (.int p1), .val (.int p2), .val (.int p3), .val (.int (p0.toInt16.toInt32)), .val (.int (p1.toInt16.toInt32)), .val (.int (p2.toInt16.toInt32)), .val (.int (p3.toInt16.toInt32)), .unset, .unset] [(.ref b1), (.ref b1)])) _
    refine XS.iload X1.here hx rfl (hb hby at_20) rfl ?_
    show Steps p.tables e below (T1.setTop (mkF m 22 #[.val (.int p0), .val (.int p1), .val (.int p2), .val (.int p3), .val (.int (p0.toInt16.toInt32)), .val (.int (p1.toInt16.toInt32)), .val (.int (p2.toInt16.toInt32)), .val (.int (p3.toInt16.toInt32)), .unset, .unset] [(.int (p0.toInt16.toInt32)), (.ref b1), (.ref b1)])) _
    refine XS.iload X1.here hx rfl (hb hby at_22) rfl ?_
    show Steps p.tables e below (T1.setTop (mkF m 24 #[.val (.int p0), .val (.int p1), .val (.int p2), .val (.int p3), .val (.int (p0.toInt16.toInt32)), .val (.int (p1.toInt16.toInt32)), .val (.int (p2.toInt16.toInt32)), .val (.int (p3.toInt16.toInt32)), .unset, .unset] [(.int (p1.toInt16.toInt32)), (.int (p0.toInt16.toInt32)), (.ref b1), (.ref b1)])) _
    refine XS.iload X1.here hx rfl (hb hby at_24) rfl ?_
    show Steps p.tables e below (T1.setTop (mkF m 26 #[.val (.int p0), .val (.int p1), .val (.int p2), .val (.int p3), .val (.int (p0.toInt16.toInt32)), .val (.int (p1.toInt16.toInt32)), .val (.int (p2.toInt16.toInt32)), .val (.int (p3.toInt16.toInt32)), .unset, .unset] [(.int (p2.toInt16.toInt32)), (.int (p1.toInt16.toInt32)), (.int (p0.toInt16.toInt32)), (.ref b1), (.ref b1)])) _
    refine st2.trans ?_
    show Steps p.tables e below (T2.setTop (mkF m 29 #[.val (.int p0), .val (.int p1), .val (.int p2), .val (.int p3), .val (.int (p0.toInt16.toInt32)), .val (.int (p1.toInt16.toInt32)), .val (.int (p2.toInt16.toInt32)), .val (.int (p3.toInt16.toInt32)), .unset, .unset] [(.ref b1)])) _
    refine XS.astore X2.here hx rfl (hb hby at_29) rfl rfl (l' := #[.val (.int p0), .val (.int p1), .val (.int p2), .val (.int p3), .val (.int (p0.toInt16.toInt32)), .val (.int (p1.toInt16.toInt32)), .val (.int (p2.toInt16.toInt32)), .val (.int (p3.toInt16.toInt32)), .val (.ref b1), .unset]) rfl ?_
    show Steps p.tables e below (T2.setTop (mkF m 31 #[.val (.int p0), .val (.int p1), .val (.int p2), .val (.int p3), .val (.int (p0.toInt16.toInt32)), .val (.int (p1.toInt16.toInt32)), .val (.int (p2.toInt16.toInt32)), .val (.int (p3.toInt16.toInt32)), .val (.ref b1), .unset] [])) _
    refine XS.aload X2.here hx rfl (hb hby at_31) rfl rfl ?_
    show Steps p.tables e below (T2.setTop (mkF m 33 #[.val (.int p0), .val (.int p1), .val (.int p2), .val (.int p3), .val (.int (p0.toInt16.toInt32)), .val (.int (p1.toInt16.toInt32)), .val (.int (p2.toInt16.toInt32)), .val (.int (p3.toInt16.toInt32)), .val (.ref b1), .unset] [(.ref b1)])) _
    refine XS.iload X2.here hx rfl (hb hby at_33) rfl ?_
    show Steps p.tables e below (T2.setTop (mkF m 35 #[.val (.int p0), .val (.int p1), .val (.int p2), .val (.int p3), .val (.int (p0.toInt16.toInt32)), .val (.int (p1.toInt16.toInt32)), .val (.int (p2.toInt16.toInt32)), .val (.int (p3.toInt16.toInt32)), .val (.ref b1), .unset] [(.int (p0.toInt16.toInt32)), (.ref b1)])) _
    refine XS.iload X2.here hx rfl (hb hby at_35) rfl ?_
    show Steps p.tables e below (T2.setTop (mkF m 37 #[.val (.int p0), .val (.int p1), .val (.int p2), .val (.int p3), .val (.int (p0.toInt16.toInt32)), .val (.int (p1.toInt16.toInt32)), .val (.int (p2.toInt16.toInt32)), .val (.int (p3.toInt16.toInt32)), .val (.ref b1), .unset] [(.int (p1.toInt16.toInt32)), (.int (p0.toInt16.toInt32)), (.ref b1)])) _
    refine XS.iload X2.here hx rfl (hb hby at_37) rfl ?_
    show Steps p.tables e below (T2.setTop (mkF m 39 #[.val (.int p0), .val (.int p1), .val (.int p2), .val (.int p3), .val (.int (p0.toInt16.toInt32)), .val (.int (p1.toInt16.toInt32)), .val (.int (p2.toInt16.toInt32)), .val (.int (p3.toInt16.toInt32)), .val (.ref b1), .unset] [(.int (p3.toInt16.toInt32)), (.int (p1.toInt16.toInt32)), (.int (p0.toInt16.toInt32)), (.ref b1)])) _
    refine st3 _ ?_
    show Steps p.tables e below (T3.setTop (mkF m 42 #[.val (.int p0), .val (.int p1), .val (.int p2), .val (.int p3), .val (.int (p0.toInt16.toInt32)), .val (.int (p1.toInt16.toInt32)), .val (.int (p2.toInt16.toInt32)), .val (.int (p3.toInt16.toInt32)), .val (.ref b1), .unset] [(.int (1 : Int32))])) _
    refine XS.istore X3.here hx rfl (hb hby at_42) rfl (l' := #[.val (.int p0), .val (.int p1), .val (.int p2), .val (.int p3), .val (.int (p0.toInt16.toInt32)), .val (.int (p1.toInt16.toInt32)), .val (.int (p2.toInt16.toInt32)), .val (.int (p3.toInt16.toInt32)), .val (.ref b1), .val (.int (1 : Int32))]) rfl ?_
    show Steps p.tables e below (T3.setTop (mkF m 44 #[.val (.int p0), .val (.int p1), .val (.int p2), .val (.int p3), .val (.int (p0.toInt16.toInt32)), .val (.int (p1.toInt16.toInt32)), .val (.int (p2.toInt16.toInt32)), .val (.int (p3.toInt16.toInt32)), .val (.ref b1), .val (.int (1 : Int32))] [])) _
    refine XS.iload X3.here hx rfl (hb hby at_44) rfl ?_
    show Steps p.tables e below (T3.setTop (mkF m 46 #[.val (.int p0), .val (.int p1), .val (.int p2), .val (.int p3), .val (.int (p0.toInt16.toInt32)), .val (.int (p1.toInt16.toInt32)), .val (.int (p2.toInt16.toInt32)), .val (.int (p3.toInt16.toInt32)), .val (.ref b1), .val (.int (1 : Int32))] [(.int (1 : Int32))])) _
    refine XS.aload X3.here hx rfl (hb hby at_46) rfl rfl ?_
    show Steps p.tables e below (T3.setTop (mkF m 48 #[.val (.int p0), .val (.int p1), .val (.int p2), .val (.int p3), .val (.int (p0.toInt16.toInt32)), .val (.int (p1.toInt16.toInt32)), .val (.int (p2.toInt16.toInt32)), .val (.int (p3.toInt16.toInt32)), .val (.ref b1), .val (.int (1 : Int32))] [(.ref b1), (.int (1 : Int32))])) _
    refine XS.iload X3.here hx rfl (hb hby at_48) rfl ?_
    show Steps p.tables e below (T3.setTop (mkF m 50 #[.val (.int p0), .val (.int p1), .val (.int p2), .val (.int p3), .val (.int (p0.toInt16.toInt32)), .val (.int (p1.toInt16.toInt32)), .val (.int (p2.toInt16.toInt32)), .val (.int (p3.toInt16.toInt32)), .val (.ref b1), .val (.int (1 : Int32))] [(.int (p0.toInt16.toInt32)), (.ref b1), (.int (1 : Int32))])) _
    refine XS.iload X3.here hx rfl (hb hby at_50) rfl ?_
    show Steps p.tables e below (T3.setTop (mkF m 52 #[.val (.int p0), .val (.int p1), .val (.int p2), .val (.int p3), .val (.int (p0.toInt16.toInt32)), .val (.int (p1.toInt16.toInt32)), .val (.int (p2.toInt16.toInt32)), .val (.int (p3.toInt16.toInt32)), .val (.ref b1), .val (.int (1 : Int32))] [(.int (p1.toInt16.toInt32)), (.int (p0.toInt16.toInt32)), (.ref b1), (.int (1 : Int32))])) _
    refine XS.iload X3.here hx rfl (hb hby at_52) rfl ?_
    show Steps p.tables e below (T3.setTop (mkF m 54 #[.val (.int p0), .val (.int p1), .val (.int p2), .val (.int p3), .val (.int (p0.toInt16.toInt32)), .val (.int (p1.toInt16.toInt32)), .val (.int (p2.toInt16.toInt32)), .val (.int (p3.toInt16.toInt32)), .val (.ref b1), .val (.int (1 : Int32))] [(.int (p0.toInt16.toInt32)), (.int (p1.toInt16.toInt32)), (.int (p0.toInt16.toInt32)), (.ref b1), (.int (1 : Int32))])) _
    refine st4 _ ?_
    show Steps p.tables e below (T4.setTop (mkF m 57 #[.val (.int p0), .val (.int p1), .val (.int p2), .val (.int p3), .val (.int (p0.toInt16.toInt32)), .val (.int (p1.toInt16.toInt32)), .val (.int (p2.toInt16.toInt32)), .val (.int (p3.toInt16.toInt32)), .val (.ref b1), .val (.int (1 : Int32))] [(.int (1 : Int32)), (.int (1 : Int32))])) _
    refine XS.iand X4.here hx rfl (hb hby at_57) rfl ?_
    show Steps p.tables e below (T4.setTop (mkF m 58 #[.val (.int p0), .val (.int p1), .val (.int p2), .val (.int p3), .val (.int (p0.toInt16.toInt32)), .val (.int (p1.toInt16.toInt32)), .val (.int (p2.toInt16.toInt32)), .val (.int (p3.toInt16.toInt32)), .val (.ref b1), .val (.int (1 : Int32))] [(.int (1 : Int32))])) _
    refine XS.istore X4.here hx rfl (hb hby at_58) rfl (l' := #[.val (.int p0), .val (.int p1), .val (.int p2), .val (.int p3), .val (.int (p0.toInt16.toInt32)), .val (.int (p1.toInt16.toInt32)), .val (.int (p2.toInt16.toInt32)), .val (.int (p3.toInt16.toInt32)), .val (.ref b1), .val (.int (1 : Int32))]) rfl ?_
    show Steps p.tables e below (T4.setTop (mkF m 60 #[.val (.int p0), .val (.int p1), .val (.int p2), .val (.int p3), .val (.int (p0.toInt16.toInt32)), .val (.int (p1.toInt16.toInt32)), .val (.int (p2.toInt16.toInt32)), .val (.int (p3.toInt16.toInt32)), .val (.ref b1), .val (.int (1 : Int32))] [])) _
    refine XS.iload X4.here hx rfl (hb hby at_60) rfl ?_
    show Steps p.tables e below (T4.setTop (mkF m 62 #[.val (.int p0), .val (.int p1), .val (.int p2), .val (.int p3), .val (.int (p0.toInt16.toInt32)), .val (.int (p1.toInt16.toInt32)), .val (.int (p2.toInt16.toInt32)), .val (.int (p3.toInt16.toInt32)), .val (.ref b1), .val (.int (1 : Int32))] [(.int (1 : Int32))])) _
    refine XS.aload X4.here hx rfl (hb hby at_62) rfl rfl ?_
    show Steps p.tables e below (T4.setTop (mkF m 64 #[.val (.int p0), .val (.int p1), .val (.int p2), .val (.int p3), .val (.int (p0.toInt16.toInt32)), .val (.int (p1.toInt16.toInt32)), .val (.int (p2.toInt16.toInt32)), .val (.int (p3.toInt16.toInt32)), .val (.ref b1), .val (.int (1 : Int32))] [(.ref b1), (.int (1 : Int32))])) _
    refine XS.iload X4.here hx rfl (hb hby at_64) rfl ?_
    show Steps p.tables e below (T4.setTop (mkF m 66 #[.val (.int p0), .val (.int p1), .val (.int p2), .val (.int p3), .val (.int (p0.toInt16.toInt32)), .val (.int (p1.toInt16.toInt32)), .val (.int (p2.toInt16.toInt32)), .val (.int (p3.toInt16.toInt32)), .val (.ref b1), .val (.int (1 : Int32))] [(.int (p0.toInt16.toInt32)), (.ref b1), (.int (1 : Int32))])) _
    refine XS.iload X4.here hx rfl (hb hby at_66) rfl ?_
    show Steps p.tables e below (T4.setTop (mkF m 68 #[.val (.int p0), .val (.int p1), .val (.int p2), .val (.int p3), .val (.int (p0.toInt16.toInt32)), .val (.int (p1.toInt16.toInt32)), .val (.int (p2.toInt16.toInt32)), .val (.int (p3.toInt16.toInt32)), .val (.ref b1), .val (.int (1 : Int32))] [(.int (p1.toInt16.toInt32)), (.int (p0.toInt16.toInt32)), (.ref b1), (.int (1 : Int32))])) _
    refine XS.iload X4.here hx rfl (hb hby at_68) rfl ?_
    show Steps p.tables e below (T4.setTop (mkF m 70 #[.val (.int p0), .val (.int p1), .val (.int p2), .val (.int p3), .val (.int (p0.toInt16.toInt32)), .val (.int (p1.toInt16.toInt32)), .val (.int (p2.toInt16.toInt32)), .val (.int (p3.toInt16.toInt32)), .val (.ref b1), .val (.int (1 : Int32))] [(.int (p1.toInt16.toInt32)), (.int (p1.toInt16.toInt32)), (.int (p0.toInt16.toInt32)), (.ref b1), (.int (1 : Int32))])) _
    refine st5 _ ?_
    show Steps p.tables e below (T5.setTop (mkF m 73 #[.val (.int p0), .val (.int p1), .val (.int p2), .val (.int p3), .val (.int (p0.toInt16.toInt32)), .val (.int (p1.toInt16.toInt32)), .val (.int (p2.toInt16.toInt32)), .val (.int (p3.toInt16.toInt32)), .val (.ref b1), .val (.int (1 : Int32))] [(.int (1 : Int32)), (.int (1 : Int32))])) _
    refine XS.iand X5.here hx rfl (hb hby at_73) rfl ?_
    show Steps p.tables e below (T5.setTop (mkF m 74 #[.val (.int p0), .val (.int p1), .val (.int p2), .val (.int p3), .val (.int (p0.toInt16.toInt32)), .val (.int (p1.toInt16.toInt32)), .val (.int (p2.toInt16.toInt32)), .val (.int (p3.toInt16.toInt32)), .val (.ref b1), .val (.int (1 : Int32))] [(.int (1 : Int32))])) _
    refine XS.istore X5.here hx rfl (hb hby at_74) rfl (l' := #[.val (.int p0), .val (.int p1), .val (.int p2), .val (.int p3), .val (.int (p0.toInt16.toInt32)), .val (.int (p1.toInt16.toInt32)), .val (.int (p2.toInt16.toInt32)), .val (.int (p3.toInt16.toInt32)), .val (.ref b1), .val (.int (1 : Int32))]) rfl ?_
    show Steps p.tables e below (T5.setTop (mkF m 76 #[.val (.int p0), .val (.int p1), .val (.int p2), .val (.int p3), .val (.int (p0.toInt16.toInt32)), .val (.int (p1.toInt16.toInt32)), .val (.int (p2.toInt16.toInt32)), .val (.int (p3.toInt16.toInt32)), .val (.ref b1), .val (.int (1 : Int32))] [])) _
    refine XS.iload X5.here hx rfl (hb hby at_76) rfl ?_
    show Steps p.tables e below (T5.setTop (mkF m 78 #[.val (.int p0), .val (.int p1), .val (.int p2), .val (.int p3), .val (.int (p0.toInt16.toInt32)), .val (.int (p1.toInt16.toInt32)), .val (.int (p2.toInt16.toInt32)), .val (.int (p3.toInt16.toInt32)), .val (.ref b1), .val (.int (1 : Int32))] [(.int (1 : Int32))])) _
    refine XS.aload X5.here hx rfl (hb hby at_78) rfl rfl ?_
    show Steps p.tables e below (T5.setTop (mkF m 80 #[.val (.int p0), .val (.int p1), .val (.int p2), .val (.int p3), .val (.int (p0.toInt16.toInt32)), .val (.int (p1.toInt16.toInt32)), .val (.int (p2.toInt16.toInt32)), .val (.int (p3.toInt16.toInt32)), .val (.ref b1), .val (.int (1 : Int32))] [(.ref b1), (.int (1 : Int32))])) _
    refine XS.iload X5.here hx rfl (hb hby at_80) rfl ?_
    show Steps p.tables e below (T5.setTop (mkF m 82 #[.val (.int p0), .val (.int p1), .val (.int p2), .val (.int p3), .val (.int (p0.toInt16.toInt32)), .val (.int (p1.toInt16.toInt32)), .val (.int (p2.toInt16.toInt32)), .val (.int (p3.toInt16.toInt32)), .val (.ref b1), .val (.int (1 : Int32))] [(.int (p0.toInt16.toInt32)), (.ref b1), (.int (1 : Int32))])) _
    refine XS.iload X5.here hx rfl (hb hby at_82) rfl ?_
    show Steps p.tables e below (T5.setTop (mkF m 84 #[.val (.int p0), .val (.int p1), .val (.int p2), .val (.int p3), .val (.int (p0.toInt16.toInt32)), .val (.int (p1.toInt16.toInt32)), .val (.int (p2.toInt16.toInt32)), .val (.int (p3.toInt16.toInt32)), .val (.ref b1), .val (.int (1 : Int32))] [(.int (p1.toInt16.toInt32)), (.int (p0.toInt16.toInt32)), (.ref b1), (.int (1 : Int32))])) _
    refine XS.iload X5.here hx rfl (hb hby at_84) rfl ?_
    show Steps p.tables e below (T5.setTop (mkF m 86 #[.val (.int p0), .val (.int p1), .val (.int p2), .val (.int p3), .val (.int (p0.toInt16.toInt32)), .val (.int (p1.toInt16.toInt32)), .val (.int (p2.toInt16.toInt32)), .val (.int (p3.toInt16.toInt32)), .val (.ref b1), .val (.int (1 : Int32))] [(.int (p0.toInt16.toInt32)), (.int (p1.toInt16.toInt32)), (.int (p0.toInt16.toInt32)), (.ref b1), (.int (1 : Int32))])) _
    refine XS.iconst X5.here hx rfl (hb hby at_86) ?_
    show Steps p.tables e below (T5.setTop (mkF m 87 #[.val (.int p0), .val (.int p1), .val (.int p2), .val (.int p3), .val (.int (p0.toInt16.toInt32)), .val (.int (p1.toInt16.toInt32)), .val (.int (p2.toInt16.toInt32)), .val (.int (p3.toInt16.toInt32)), .val (.ref b1), .val (.int (1 : Int32))] [(.int (1 : Int32)), (.int (p0.toInt16.toInt32)), (.int (p1.toInt16.toInt32)), (.int (p0.toInt16.toInt32)), (.ref b1), (.int (1 : Int32))])) _
    refine XS.isub X5.here hx rfl (hb hby at_87) rfl ?_
    show Steps p.tables e below (T5.setTop (mkF m 88 #[.val (.int p0), .val (.int p1), .val (.int p2), .val (.int p3), .val (.int (p0.toInt16.toInt32)), .val (.int (p1.toInt16.toInt32)), .val (.int (p2.toInt16.toInt32)), .val (.int (p3.toInt16.toInt32)), .val (.ref b1), .val (.int (1 : Int32))] [(.int ((p0.toInt16.toInt32) - (1 : Int32))), (.int (p1.toInt16.toInt32)), (.int (p0.toInt16.toInt32)), (.ref b1), (.int (1 : Int32))])) _
    refine XS.i2s X5.here hx rfl (hb hby at_88) rfl ?_
    show Steps p.tables e below (T5.setTop (mkF m 89 #[.val (.int p0), .val (.int p1), .val (.int p2), .val (.int p3), .val (.int (p0.toInt16.toInt32)), .val (.int (p1.toInt16.toInt32)), .val (.int (p2.toInt16.toInt32)), .val (.int (p3.toInt16.toInt32)), .val (.ref b1), .val (.int (1 : Int32))] [(.int (((p0.toInt16.toInt32) - (1 : Int32)).toInt16.toInt32)), (.int (p1.toInt16.toInt32)), (.int (p0.toInt16.toInt32)), (.ref b1), (.int (1 : Int32))])) _
    refine st6 _ ?_
    show Steps p.tables e below (T6.setTop (mkF m 92 #[.val (.int p0), .val (.int p1), .val (.int p2), .val (.int p3), .val (.int (p0.toInt16.toInt32)), .val (.int (p1.toInt16.toInt32)), .val (.int (p2.toInt16.toInt32)), .val (.int (p3.toInt16.toInt32)), .val (.ref b1), .val (.int (1 : Int32))] [(.int (1 : Int32)), (.int (1 : Int32))])) _
    refine XS.iand X6.here hx rfl (hb hby at_92) rfl ?_
    show Steps p.tables e below (T6.setTop (mkF m 93 #[.val (.int p0), .val (.int p1), .val (.int p2), .val (.int p3), .val (.int (p0.toInt16.toInt32)), .val (.int (p1.toInt16.toInt32)), .val (.int (p2.toInt16.toInt32)), .val (.int (p3.toInt16.toInt32)), .val (.ref b1), .val (.int (1 : Int32))] [(.int (1 : Int32))])) _
    refine XS.istore X6.here hx rfl (hb hby at_93) rfl (l' := #[.val (.int p0), .val (.int p1), .val (.int p2), .val (.int p3), .val (.int (p0.toInt16.toInt32)), .val (.int (p1.toInt16.toInt32)), .val (.int (p2.toInt16.toInt32)), .val (.int (p3.toInt16.toInt32)), .val (.ref b1), .val (.int (1 : Int32))]) rfl ?_
    show Steps p.tables e below (T6.setTop (mkF m 95 #[.val (.int p0), .val (.int p1), .val (.int p2), .val (.int p3), .val (.int (p0.toInt16.toInt32)), .val (.int (p1.toInt16.toInt32)), .val (.int (p2.toInt16.toInt32)), .val (.int (p3.toInt16.toInt32)), .val (.ref b1), .val (.int (1 : Int32))] [])) _
    refine XS.iload X6.here hx rfl (hb hby at_95) rfl ?_
    show Steps p.tables e below (T6.setTop (mkF m 97 #[.val (.int p0), .val (.int p1), .val (.int p2), .val (.int p3), .val (.int (p0.toInt16.toInt32)), .val (.int (p1.toInt16.toInt32)), .val (.int (p2.toInt16.toInt32)), .val (.int (p3.toInt16.toInt32)), .val (.ref b1), .val (.int (1 : Int32))] [(.int (1 : Int32))])) _
    refine XS.aload X6.here hx rfl (hb hby at_97) rfl rfl ?_
    show Steps p.tables e below (T6.setTop (mkF m 99 #[.val (.int p0), .val (.int p1), .val (.int p2), .val (.int p3), .val (.int (p0.toInt16.toInt32)), .val (.int (p1.toInt16.toInt32)), .val (.int (p2.toInt16.toInt32)), .val (.int (p3.toInt16.toInt32)), .val (.ref b1), .val (.int (1 : Int32))] [(.ref b1), (.int (1 : Int32))])) _
    refine XS.iload X6.here hx rfl (hb hby at_99) rfl ?_
    show Steps p.tables e below (T6.setTop (mkF m 101 #[.val (.int p0), .val (.int p1), .val (.int p2), .val (.int p3), .val (.int (p0.toInt16.toInt32)), .val (.int (p1.toInt16.toInt32)), .val (.int (p2.toInt16.toInt32)), .val (.int (p3.toInt16.toInt32)), .val (.ref b1), .val (.int (1 : Int32))] [(.int (p0.toInt16.toInt32)), (.ref b1), (.int (1 : Int32))])) _
    refine XS.iload X6.here hx rfl (hb hby at_101) rfl ?_
    show Steps p.tables e below (T6.setTop (mkF m 103 #[.val (.int p0), .val (.int p1), .val (.int p2), .val (.int p3), .val (.int (p0.toInt16.toInt32)), .val (.int (p1.toInt16.toInt32)), .val (.int (p2.toInt16.toInt32)), .val (.int (p3.toInt16.toInt32)), .val (.ref b1), .val (.int (1 : Int32))] [(.int (p1.toInt16.toInt32)), (.int (p0.toInt16.toInt32)), (.ref b1), (.int (1 : Int32))])) _
    refine XS.iload X6.here hx rfl (hb hby at_103) rfl ?_
    show Steps p.tables e below (T6.setTop (mkF m 105 #[.val (.int p0), .val (.int p1), .val (.int p2), .val (.int p3), .val (.int (p0.toInt16.toInt32)), .val (.int (p1.toInt16.toInt32)), .val (.int (p2.toInt16.toInt32)), .val (.int (p3.toInt16.toInt32)), .val (.ref b1), .val (.int (1 : Int32))] [(.int (p1.toInt16.toInt32)), (.int (p1.toInt16.toInt32)), (.int (p0.toInt16.toInt32)), (.ref b1), (.int (1 : Int32))])) _
    refine XS.iconst X6.here hx rfl (hb hby at_105) ?_
    show Steps p.tables e below (T6.setTop (mkF m 106 #[.val (.int p0), .val (.int p1), .val (.int p2), .val (.int p3), .val (.int (p0.toInt16.toInt32)), .val (.int (p1.toInt16.toInt32)), .val (.int (p2.toInt16.toInt32)), .val (.int (p3.toInt16.toInt32)), .val (.ref b1), .val (.int (1 : Int32))] [(.int (1 : Int32)), (.int (p1.toInt16.toInt32)), (.int (p1.toInt16.toInt32)), (.int (p0.toInt16.toInt32)), (.ref b1), (.int (1 : Int32))])) _
    refine XS.iadd X6.here hx rfl (hb hby at_106) rfl ?_
    show Steps p.tables e below (T6.setTop (mkF m 107 #[.val (.int p0), .val (.int p1), .val (.int p2), .val (.int p3), .val (.int (p0.toInt16.toInt32)), .val (.int (p1.toInt16.toInt32)), .val (.int (p2.toInt16.toInt32)), .val (.int (p3.toInt16.toInt32)), .val (.ref b1), .val (.int (1 : Int32))] [(.int ((p1.toInt16.toInt32) + (1 : Int32))), (.int (p1.toInt16.toInt32)), (.int (p0.toInt16.toInt32)), (.ref b1), (.int (1 : Int32))])) _
    refine XS.i2s X6.here hx rfl (hb hby at_107) rfl ?_
    show Steps p.tables e below (T6.setTop (mkF m 108 #[.val (.int p0), .val (.int p1), .val (.int p2), .val (.int p3), .val (.int (p0.toInt16.toInt32)), .val (.int (p1.toInt16.toInt32)), .val (.int (p2.toInt16.toInt32)), .val (.int (p3.toInt16.toInt32)), .val (.ref b1), .val (.int (1 : Int32))] [(.int (((p1.toInt16.toInt32) + (1 : Int32)).toInt16.toInt32)), (.int (p1.toInt16.toInt32)), (.int (p0.toInt16.toInt32)), (.ref b1), (.int (1 : Int32))])) _
    refine st7 _ ?_
    show Steps p.tables e below (T7.setTop (mkF m 111 #[.val (.int p0), .val (.int p1), .val (.int p2), .val (.int p3), .val (.int (p0.toInt16.toInt32)), .val (.int (p1.toInt16.toInt32)), .val (.int (p2.toInt16.toInt32)), .val (.int (p3.toInt16.toInt32)), .val (.ref b1), .val (.int (1 : Int32))] [(.int (1 : Int32)), (.int (1 : Int32))])) _
    refine XS.iand X7.here hx rfl (hb hby at_111) rfl ?_
    show Steps p.tables e below (T7.setTop (mkF m 112 #[.val (.int p0), .val (.int p1), .val (.int p2), .val (.int p3), .val (.int (p0.toInt16.toInt32)), .val (.int (p1.toInt16.toInt32)), .val (.int (p2.toInt16.toInt32)), .val (.int (p3.toInt16.toInt32)), .val (.ref b1), .val (.int (1 : Int32))] [(.int (1 : Int32))])) _
    refine XS.istore X7.here hx rfl (hb hby at_112) rfl (l' := #[.val (.int p0), .val (.int p1), .val (.int p2), .val (.int p3), .val (.int (p0.toInt16.toInt32)), .val (.int (p1.toInt16.toInt32)), .val (.int (p2.toInt16.toInt32)), .val (.int (p3.toInt16.toInt32)), .val (.ref b1), .val (.int (1 : Int32))]) rfl ?_
    show Steps p.tables e below (T7.setTop (mkF m 114 #[.val (.int p0), .val (.int p1), .val (.int p2), .val (.int p3), .val (.int (p0.toInt16.toInt32)), .val (.int (p1.toInt16.toInt32)), .val (.int (p2.toInt16.toInt32)), .val (.int (p3.toInt16.toInt32)), .val (.ref b1), .val (.int (1 : Int32))] [])) _
    refine XS.iload X7.here hx rfl (hb hby at_114) rfl ?_
    exact k
  obtain ⟨fs, hr, hrun, hended, hW, hsame⟩ := X7.leave (v := some (.int (1 : Int32))) (fun h => by rw [Bd.returns] at h; cases h)
  refine ⟨_, _, k8 _ ?_, hrun, hended, _, _, rfl, ?_, ⟨_, rfl⟩, hW, hsame.mono (by decide) (by decide)⟩
  · exact retN X7 hx (t := .boolean) Bd.returns (by simp) (hb hby at_116) hr
  · show own_R (some (.int 1)) n0 _ T7.heap _
    rw [e7]
    exact ⟨rfl, N7⟩
set_option maxRecDepth 65536 in
set_option maxHeartbeats 40000000 in
theorem comes_1 {Post : Tables → Env → Array Value → State → Outcome → State → Prop} (hpost : ∀ tb e args s v u, (limb_1_1.after args s (.returned v) u = true ∧ limb_1_2.after args s (.returned v) u = true ∧ True) → FrameEnd s (.returned v) u (Jvm.fieldLocs frame_1_writes args s ++ Jvm.arrayLocs frame_1_arrays args s ++ Jvm.staticLocs frame_1_statics s) 16 128 → Post tb e args s (.returned v) u) :
    ArmFor flags0 classFile x code maxLocals ret World_1 tables_1 room_1 Calls_1 rest_1 Pre_1 Post := by
  intro l hfl _ _ p e ha hc hk s m args below hf hA hF happ hP
  obtain ⟨hcalls, hrest, hpre⟩ := hP
  obtain ⟨-, -, -, hnamed, -, -, -, hat⟩ := (Spec.applies_iff hf).mp happ
  obtain ⟨hg, hn⟩ := and_e (Cond.before_iff.mp (show (Jvm.Cond.and given_1 narrow_1).before args s = true from hpre))
  obtain ⟨g0a, g0b⟩ := and_e hg
  obtain ⟨g1a, g1b⟩ := and_e g0b
  obtain ⟨g2a, g2b⟩ := and_e g1b
  obtain ⟨g3a, g3b⟩ := and_e g2b
  obtain ⟨w0, w1, w2, w3, rfl⟩ : ∃ w0 w1 w2 w3 : Value, args = #[w0, w1, w2, w3] := by
    have hs : args.size = 4 := by simpa [Cond.value, given_1] using g0a
    obtain ⟨L⟩ := args
    match L, hs with
    | [w0, w1, w2, w3], _ => exact ⟨w0, w1, w2, w3, rfl⟩
  have hw := fun d (hd : d ∈ tables_1) => atoms_spec (ws := Jvm.Cond.code x code maxLocals ret :: tables_1) hat d (List.mem_cons_of_mem _ hd)
  have hfit : Fit s := fun {y c} hc i hi => by
    obtain ⟨ha, rfl⟩ := Array.getElem?_eq_some_iff.mp hc
    have q := List.all_eq_true.mp ((Array.all_eq_true_iff_forall_mem.mp hF) _ (Array.getElem_mem ha)) i (List.mem_range.mpr hi)
    simpa [Array.getElem?_eq_getElem hi] using q
  obtain ⟨i0, ei0⟩ := is_v g1a
  obtain rfl : w0 = (.int i0) := Option.some.inj ei0
  obtain ⟨i1, ei1⟩ := is_v g2a
  obtain rfl : w1 = (.int i1) := Option.some.inj ei1
  obtain ⟨i2, ei2⟩ := is_v g3a
  obtain rfl : w2 = (.int i2) := Option.some.inj ei2
  obtain ⟨i3, ei3⟩ := is_v g3b
  obtain rfl : w3 = (.int i3) := Option.some.inj ei3
  obtain ⟨n, o, h1, h2, h3, _, L, rfl, ⟨rfl, N⟩, hq⟩ := rm0 l s _ hw tables_1 i0 i1 i2 i3 s.heap s.heap.size (Nat.le_refl _) p e ha hc hk s m _ below hf ((Spec.applies_iff_loose hf).mp happ).1 ⟨rfl, State.Warmed39.refl s, rfl⟩ trivial
  refine ⟨n, _, h1, h2, h3, hpost _ _ _ _ _ _ ⟨Cond.after_iff.mpr rfl, Cond.after_iff.mpr (eq_i res_at (Term.int_eval (1)) rfl), trivial⟩ ⟨hq.1, hq.2.1, (hq.2.2.sift fun y hy => Or.inr (N y hy)).mono (by decide) (by decide)⟩⟩
theorem main_1_1 : Claimed_1_1 := comes_1 fun _ _ _ _ _ _ h hF => ⟨h.1, hF⟩
theorem main_1_2 : Claimed_1_2 := comes_1 fun _ _ _ _ _ _ h hF => ⟨h.2.1, hF⟩
end Jvm.Pilot.@@N@@
namespace Jvm.Pilot.@@N@@
open Jvm Jvm.ClassFile Sem Op Lib Jvm.Free Jvm.Stand Jvm.Pilot.@@N@@.Jvm.D
/-! MADE BY PROGRAM (witnessworld.py) out of the Statement's table words and the real class files: 8 classes; the members and pool entries that the words name. The judged class is class 1, her method 3. -/
namespace start1
open Jvm.ClassFile
def u (s : String) : CpInfo := .utf8 (stringToUtf16 s)
/-- a pool by its gaps: so many unusable entries, then the entry; so many at the end -/
def gap : Nat → List CpInfo → List CpInfo
  | 0, r => r
  | n + 1, r => .unusable :: gap n r
def poolList (es : List (Nat × CpInfo)) (last : Nat) : List CpInfo := es.foldr (fun e r => gap e.1 (e.2 :: r)) (gap last [])
def pool (es : List (Nat × CpInfo)) (last : Nat) : Array CpInfo := ⟨poolList es last⟩
def fileOf (pool : Array CpInfo) (this : Nat) (attrs : Array Attribute := #[]) (ms : Array MethodInfo := #[]) (fl : Nat := 33) (sup : Nat := 0) (ifs : Array Nat := #[]) (fds : Array FieldInfo := #[]) : ClassFile where
  minorVersion := 0
  majorVersion := 65
  constantPool := pool
  accessFlags := fl
  thisClass := this
  superClass := sup
  interfaces := ifs
  fields := fds
  methods := ms
  attributes := attrs
def plain (name : String) (sup : Option ClassId) : Class where
  name := name
  kind := .ordinary
  loader := none
  accessFlags := 33
  super := sup
  interfaces := #[]
  cf := none
  fields := #[]
  methods := #[]
  instanceTypes := #[]
  staticTypes := #[]
  resolved := #[]
  callSites := []
  init := .initialized
  statics := none
  mirror := none

def pool0 : Array CpInfo := pool [(5, u "<init>"), (0, u "()V"), (1, .class_ 10), (1, u "java/lang/Object")] 113

def k0c0 : Code := { maxStack := 0, maxLocals := 1, code := object_method_1_code, exceptionTable := #[], attributes := #[] }
def k0m0 : Method := { name := "<init>", desc := "()V", sig := { parameters := [], returnType := none }, accessFlags := 1, code := some k0c0 }
/-- java/lang/Object -/
def k0 : Class := { plain "java/lang/Object" none with
  accessFlags := 33
  interfaces := #[]
  cf := some (fileOf pool0 8 #[] #[{ accessFlags := 1, nameIndex := 5, descriptorIndex := 6, attributes := #[] }] 33 0 #[] #[])
  fields := #[]
  methods := #[k0m0]
  instanceTypes := #[]
  staticTypes := #[]
  resolved := Array.replicate 124 none
  statics := none }

def pool1 : Array CpInfo := pool [(2, .class_ 4), (1, u "java/lang/Object"), (0, u "<init>"), (0, u "()V"), (0, .methodref 8 9), (0, .class_ 10), (0, .nameAndType 11 12), (0, u "com/example/strict_wire/strictwire/wire/ApiKey$Versions"), (0, u "includes"), (0, u "(S)Z"), (0, .methodref 14 15), (0, .class_ 16), (0, .nameAndType 17 18), (0, u "com/example/strict_wire/strictwire/wire/VersionsIncludesPinLaw"), (0, u "ref"), (0, u "(III)Z"), (0, .methodref 8 20), (0, .nameAndType 5 21), (0, u "(SSS)V"), (0, .methodref 14 23), (0, .nameAndType 24 25), (0, u "check"), (0, u "(Lcom/example/strict_wire/strictwire/wire/ApiKey$Versions;IIS)Z"), (3, u "law"), (0, u "(IIII)Z")] 6

def k1m0 : Method := { name := "<init>", desc := "()V", sig := { parameters := [], returnType := none }, accessFlags := 1, code := none }
def k1c1 : Code := { maxStack := 3, maxLocals := 3, code := method_2_code, exceptionTable := #[], attributes := #[] }
def k1m1 : Method := { name := "ref", desc := "(III)Z", sig := { parameters := [.int, .int, .int], returnType := some .boolean }, accessFlags := 10, code := some k1c1 }
def k1c2 : Code := { maxStack := 4, maxLocals := 4, code := method_3_code, exceptionTable := #[], attributes := #[] }
def k1m2 : Method := { name := "check", desc := "(Lcom/example/strict_wire/strictwire/wire/ApiKey$Versions;IIS)Z", sig := { parameters := [(.object "com/example/strict_wire/strictwire/wire/ApiKey$Versions"), .int, .int, .short], returnType := some .boolean }, accessFlags := 10, code := some k1c2 }
def k1c3 : Code := { maxStack := 6, maxLocals := 10, code := code, exceptionTable := #[], attributes := #[] }
def k1m3 : Method := { name := "law", desc := "(IIII)Z", sig := { parameters := [.int, .int, .int, .int], returnType := some .boolean }, accessFlags := 9, code := some k1c3 }
/-- com/example/strict_wire/strictwire/wire/VersionsIncludesPinLaw -/
def k1 : Class := { plain "com/example/strict_wire/strictwire/wire/VersionsIncludesPinLaw" (some 0) with
  accessFlags := 49
  interfaces := #[]
  cf := some (fileOf pool1 14 #[] #[{ accessFlags := 1, nameIndex := 5, descriptorIndex := 6, attributes := #[] }, { accessFlags := 10, nameIndex := 17, descriptorIndex := 18, attributes := #[] }, { accessFlags := 10, nameIndex := 24, descriptorIndex := 25, attributes := #[] }, { accessFlags := 9, nameIndex := 29, descriptorIndex := 30, attributes := #[] }] 49 2 #[] #[])
  fields := #[]
  methods := #[k1m0, k1m1, k1m2, k1m3]
  instanceTypes := #[]
  staticTypes := #[]
  resolved := Array.replicate 37 none
  statics := none }

def pool2 : Array CpInfo := pool [(1, .methodref 2 3), (0, .class_ 4), (0, .nameAndType 5 6), (0, u "java/lang/Object"), (0, u "<init>"), (0, u "()V"), (0, .class_ 8), (0, u "java/lang/Record")] 13

def k2c0 : Code := { maxStack := 1, maxLocals := 1, code := jdk_30_method_1_code, exceptionTable := #[], attributes := #[] }
def k2m0 : Method := { name := "<init>", desc := "()V", sig := { parameters := [], returnType := none }, accessFlags := 4, code := some k2c0 }
/-- java/lang/Record -/
def k2 : Class := { plain "java/lang/Record" (some 0) with
  accessFlags := 1057
  interfaces := #[]
  cf := some (fileOf pool2 7 #[] #[{ accessFlags := 4, nameIndex := 5, descriptorIndex := 6, attributes := #[] }] 1057 2 #[] #[])
  fields := #[]
  methods := #[k2m0]
  instanceTypes := #[]
  staticTypes := #[]
  resolved := Array.replicate 22 none
  statics := none }

def pool3 : Array CpInfo := pool [(1, .methodref 2 3), (0, .class_ 4), (0, .nameAndType 5 6), (0, u "java/lang/Record"), (0, u "<init>"), (0, u "()V"), (0, .fieldref 8 9), (0, .class_ 10), (0, .nameAndType 11 12), (0, u "com/example/strict_wire/strictwire/wire/ApiKey$Versions"), (0, u "lowest"), (0, u "S"), (0, .fieldref 8 14), (0, .nameAndType 15 12), (0, u "highest"), (0, .fieldref 8 17), (0, .nameAndType 18 12), (0, u "firstFlexible"), (2, u "(SSS)V"), (15, u "includes"), (0, u "(S)Z"), (10, .class_ 50), (0, u "com/example/strict_wire/strictwire/wire/ApiKey")] 21

def k3c0 : Code := { maxStack := 2, maxLocals := 4, code := prog_30_method_1_code, exceptionTable := #[], attributes := #[] }
def k3m0 : Method := { name := "<init>", desc := "(SSS)V", sig := { parameters := [.short, .short, .short], returnType := none }, accessFlags := 1, code := some k3c0 }
def k3c1 : Code := { maxStack := 2, maxLocals := 2, code := prog_30_method_2_code, exceptionTable := #[], attributes := #[] }
def k3m1 : Method := { name := "includes", desc := "(S)Z", sig := { parameters := [.short], returnType := some .boolean }, accessFlags := 1, code := some k3c1 }
/-- com/example/strict_wire/strictwire/wire/ApiKey$Versions -/
def k3 : Class := { plain "com/example/strict_wire/strictwire/wire/ApiKey$Versions" (some 2) with
  accessFlags := 49
  interfaces := #[]
  cf := some (fileOf pool3 8 #[.nestHost 49] #[{ accessFlags := 1, nameIndex := 5, descriptorIndex := 21, attributes := #[] }, { accessFlags := 1, nameIndex := 37, descriptorIndex := 38, attributes := #[] }] 49 2 #[] #[{ accessFlags := 18, nameIndex := 11, descriptorIndex := 12, attributes := #[] }, { accessFlags := 18, nameIndex := 15, descriptorIndex := 12, attributes := #[] }, { accessFlags := 18, nameIndex := 18, descriptorIndex := 12, attributes := #[] }])
  fields := #[{ name := "lowest", type := .short, accessFlags := 18, slot := 0, constantValue := 0 }, { name := "highest", type := .short, accessFlags := 18, slot := 1, constantValue := 0 }, { name := "firstFlexible", type := .short, accessFlags := 18, slot := 2, constantValue := 0 }]
  methods := #[k3m0, k3m1]
  instanceTypes := #[.short, .short, .short]
  staticTypes := #[]
  resolved := Array.replicate 72 none
  statics := none }

def pool4 : Array CpInfo := pool [(1, u "java/lang/Cloneable"), (0, .class_ 1), (0, u "java/lang/Object"), (0, .class_ 3)] 3

/-- java/lang/Cloneable -/
def k4 : Class := { plain "java/lang/Cloneable" (some 0) with
  accessFlags := 1537
  interfaces := #[]
  cf := some (fileOf pool4 2 #[] #[] 1537 4 #[] #[])
  fields := #[]
  methods := #[]
  instanceTypes := #[]
  staticTypes := #[]
  resolved := Array.replicate 8 none
  statics := none }

def pool5 : Array CpInfo := pool [(1, u "java/io/Serializable"), (0, .class_ 1), (0, u "java/lang/Object"), (0, .class_ 3)] 3

/-- java/io/Serializable -/
def k5 : Class := { plain "java/io/Serializable" (some 0) with
  accessFlags := 1537
  interfaces := #[]
  cf := some (fileOf pool5 2 #[] #[] 1537 4 #[] #[])
  fields := #[]
  methods := #[]
  instanceTypes := #[]
  staticTypes := #[]
  resolved := Array.replicate 8 none
  statics := none }

/-- the primitive byte -/
def k6 : Class := { plain "byte" none with kind := .primitive 'B', accessFlags := 0x411 }
/-- [B -/
def k7 : Class := { plain "[B" (some 0) with kind := .array 6 .byte, interfaces := #[4, 5], accessFlags := 1041 }

def heap : Heap := #[]
def classes : Array Class := #[k0, k1, k2, k3, k4, k5, k6, k7]
def interned : List (Array UInt16 × Addr) := []
def slotsUsed : Nat := 0
def theMethod : MethodId := ⟨1, 3⟩
def args0 : Array Value := #[.int 5, .int 5, .int 5, .int 5]
def aboutOver (below : List Frame) : State where
  vm := { classes := classes, interned := interned.toArray }
  heap := heap
  slotsUsed := slotsUsed
  threads := #[{ frames := .invoking theMethod args0 :: below }]
def below0 : List Frame := [.native { method := ⟨0, 0⟩, args := #[] }]
def about1 : State := aboutOver below0
def p0 : Program := .bare "" "" ""
def e0 : Env := launch0.env 0 0 0
theorem w_frames : about1.frames = Frame.invoking theMethod args0 :: below0 := rfl
set_option maxRecDepth 65536 in
theorem w_args : argsFit about1.vm theMethod args0 = true := by decide +kernel
set_option maxRecDepth 65536 in
theorem w_heap : heapFits about1 = true := by decide +kernel
set_option maxRecDepth 65536 in
theorem w_runnable : about1.curStatus? = some .runnable := by decide +kernel
set_option maxRecDepth 65536 in
theorem w_alone : about1.alone = true := by decide +kernel
set_option maxRecDepth 65536 in
theorem w_named : about1.methodNamed? x = some theMethod := by decide +kernel
set_option maxRecDepth 65536 in
theorem w_hears : about1.hears theMethod below0 = true := by decide +kernel
set_option maxRecDepth 65536 in
theorem w_ripe : about1.ripe theMethod args0 below0 = true := by decide +kernel
theorem w_running : about1.status = .running := rfl
set_option maxRecDepth 65536 in
theorem w_room : about1.hasRoom e0.platform room_1 = true :=
  launch0.hasRoom_least _ room_1 (by decide +kernel) (by decide +kernel) (by decide +kernel) (by decide +kernel) (by decide +kernel) (by decide +kernel)
theorem allAtoms_all (ts : List Jvm.Cond) (a : Array Jvm.Value) (st : Jvm.State) : (allAtoms ts).before a st = ts.all (fun c => c.before a st) := by
  induction ts with
  | nil => rfl
  | cons c t ih =>
    show (Jvm.Cond.and c (allAtoms t)).before a st = _
    rw [Jvm.Cond.before_and, ih, List.all_cons]
def words1 : List Jvm.Cond := Jvm.Cond.code x code maxLocals ret :: tables_1
/-- a 'code' word, met by the world's own term for the bytes: nothing is compared byte by byte -/
theorem code_word {y : MethodName} {bytes : ByteArray} {mx : Nat} {rt : Option FieldType} {a : Array Value} {s : State} {m : MethodId} {meth : Method} {c : Code} (h1 : s.methodNamed? y = some m) (h2 : s.vm.method? m = some meth) (h3 : meth.code = some c) (h4 : c.code = bytes)
    (h5 : (c.maxLocals == mx && c.exceptionTable.isEmpty && decide (c.maxStack ≤ mostOperands) && decide (meth.sig.returnType = rt) && !meth.locks && decide (parseMethodDescriptor y.desc = some meth.sig)) = true) : (Jvm.Cond.code y bytes mx rt).before a s = true := by
  simp only [Bool.and_eq_true, beq_iff_eq, Bool.not_eq_true', decide_eq_true_eq] at h5
  obtain ⟨⟨⟨⟨⟨g1, g2⟩, g3⟩, g4⟩, g5⟩, g6⟩ := h5
  simp [Cond.before, Cond.holds, Cond.value, h1, h2, h3, h4, g1, g2, g3, g4, g5, g6]
def isCode : Jvm.Cond → Bool
  | .code _ _ _ _ => true
  | _ => false
theorem all_split {L : List Jvm.Cond} {P : Jvm.Cond → Bool} (h1 : L.all (fun c => isCode c || P c) = true) (h2 : ∀ c ∈ L.filter isCode, P c = true) : L.all P = true := by
  refine List.all_eq_true.mpr fun c hc => ?_
  have h := List.all_eq_true.mp h1 c hc
  rcases Bool.eq_false_or_eq_true (isCode c) with hi | hi
  · exact h2 c (List.mem_filter.mpr ⟨hc, hi⟩)
  · simpa [hi] using h
set_option maxRecDepth 65536 in
theorem w_c0 : (Jvm.Cond.code x code maxLocals ret).before args0 about1 = true := code_word (m := ⟨1, 3⟩) (meth := k1m3) (c := k1c3) (by decide +kernel) rfl rfl rfl (by decide +kernel)
set_option maxRecDepth 65536 in
theorem w_c1 : (Jvm.Cond.code ({ cls := "com/example/strict_wire/strictwire/wire/ApiKey$Versions", name := "<init>", desc := "(SSS)V" } : Jvm.MethodName) prog_30_method_1_code (4 : Nat) (Option.none : Option Jvm.ClassFile.FieldType)).before args0 about1 = true := code_word (m := ⟨3, 0⟩) (meth := k3m0) (c := k3c0) (by decide +kernel) rfl rfl rfl (by decide +kernel)
set_option maxRecDepth 65536 in
theorem w_c2 : (Jvm.Cond.code ({ cls := "java/lang/Record", name := "<init>", desc := "()V" } : Jvm.MethodName) jdk_30_method_1_code (1 : Nat) (Option.none : Option Jvm.ClassFile.FieldType)).before args0 about1 = true := code_word (m := ⟨2, 0⟩) (meth := k2m0) (c := k2c0) (by decide +kernel) rfl rfl rfl (by decide +kernel)
set_option maxRecDepth 65536 in
theorem w_c3 : (Jvm.Cond.code ({ cls := "java/lang/Object", name := "<init>", desc := "()V" } : Jvm.MethodName) object_method_1_code (1 : Nat) (Option.none : Option Jvm.ClassFile.FieldType)).before args0 about1 = true := code_word (m := ⟨0, 0⟩) (meth := k0m0) (c := k0c0) (by decide +kernel) rfl rfl rfl (by decide +kernel)
set_option maxRecDepth 65536 in
theorem w_c4 : (Jvm.Cond.code ({ cls := "com/example/strict_wire/strictwire/wire/VersionsIncludesPinLaw", name := "check", desc := "(Lcom/example/strict_wire/strictwire/wire/ApiKey$Versions;IIS)Z" } : Jvm.MethodName) method_3_code (4 : Nat) (Option.some Jvm.ClassFile.FieldType.boolean)).before args0 about1 = true := code_word (m := ⟨1, 2⟩) (meth := k1m2) (c := k1c2) (by decide +kernel) rfl rfl rfl (by decide +kernel)
set_option maxRecDepth 65536 in
theorem w_c5 : (Jvm.Cond.code ({ cls := "com/example/strict_wire/strictwire/wire/ApiKey$Versions", name := "includes", desc := "(S)Z" } : Jvm.MethodName) prog_30_method_2_code (2 : Nat) (Option.some Jvm.ClassFile.FieldType.boolean)).before args0 about1 = true := code_word (m := ⟨3, 1⟩) (meth := k3m1) (c := k3c1) (by decide +kernel) rfl rfl rfl (by decide +kernel)
set_option maxRecDepth 65536 in
theorem w_c6 : (Jvm.Cond.code ({ cls := "com/example/strict_wire/strictwire/wire/VersionsIncludesPinLaw", name := "ref", desc := "(III)Z" } : Jvm.MethodName) method_2_code (3 : Nat) (Option.some Jvm.ClassFile.FieldType.boolean)).before args0 about1 = true := code_word (m := ⟨1, 1⟩) (meth := k1m1) (c := k1c1) (by decide +kernel) rfl rfl rfl (by decide +kernel)
def codes1 : List Jvm.Cond := [Jvm.Cond.code x code maxLocals ret, Jvm.Cond.code ({ cls := "com/example/strict_wire/strictwire/wire/ApiKey$Versions", name := "<init>", desc := "(SSS)V" } : Jvm.MethodName) prog_30_method_1_code (4 : Nat) (Option.none : Option Jvm.ClassFile.FieldType), Jvm.Cond.code ({ cls := "java/lang/Record", name := "<init>", desc := "()V" } : Jvm.MethodName) jdk_30_method_1_code (1 : Nat) (Option.none : Option Jvm.ClassFile.FieldType), Jvm.Cond.code ({ cls := "java/lang/Object", name := "<init>", desc := "()V" } : Jvm.MethodName) object_method_1_code (1 : Nat) (Option.none : Option Jvm.ClassFile.FieldType), Jvm.Cond.code ({ cls := "com/example/strict_wire/strictwire/wire/VersionsIncludesPinLaw", name := "check", desc := "(Lcom/example/strict_wire/strictwire/wire/ApiKey$Versions;IIS)Z" } : Jvm.MethodName) method_3_code (4 : Nat) (Option.some Jvm.ClassFile.FieldType.boolean), Jvm.Cond.code ({ cls := "com/example/strict_wire/strictwire/wire/ApiKey$Versions", name := "includes", desc := "(S)Z" } : Jvm.MethodName) prog_30_method_2_code (2 : Nat) (Option.some Jvm.ClassFile.FieldType.boolean), Jvm.Cond.code ({ cls := "com/example/strict_wire/strictwire/wire/VersionsIncludesPinLaw", name := "ref", desc := "(III)Z" } : Jvm.MethodName) method_2_code (3 : Nat) (Option.some Jvm.ClassFile.FieldType.boolean)]
set_option maxRecDepth 65536 in
theorem codes_eq : words1.filter isCode = codes1 := rfl
theorem w_codes : ∀ c ∈ words1.filter isCode, c.before args0 about1 = true := by
  rw [codes_eq]
  intro c hc
  simp only [codes1, List.mem_cons, List.not_mem_nil, or_false] at hc
  rcases hc with rfl | rfl | rfl | rfl | rfl | rfl | rfl
  · exact w_c0
  · exact w_c1
  · exact w_c2
  · exact w_c3
  · exact w_c4
  · exact w_c5
  · exact w_c6
set_option maxRecDepth 65536 in
theorem w_t1 : (words1.take 24).all (fun c => isCode c || c.before args0 about1) = true := by decide +kernel
set_option maxRecDepth 65536 in
theorem w_t2 : (words1.drop 24).all (fun c => isCode c || c.before args0 about1) = true := by decide +kernel
theorem w_tables : (allAtoms (Jvm.Cond.code x code maxLocals ret :: tables_1)).before args0 about1 = true := by
  rw [allAtoms_all]
  show words1.all (fun c => c.before args0 about1) = true
  refine all_split ?_ w_codes
  rw [← List.take_append_drop 24 words1, List.all_append, w_t1, w_t2]
  rfl
set_option maxRecDepth 65536 in
theorem w_case : (Jvm.Cond.and given_1 narrow_1).before args0 about1 = true := by decide +kernel
theorem w_applies : (headSpec (Jvm.Cond.code x code maxLocals ret :: tables_1) room_1).applies x e0.platform about1 = true :=
  (Spec.applies_iff w_frames).mpr ⟨w_running, w_runnable, w_alone, w_named, w_hears, w_ripe, w_room, w_tables⟩
theorem atStart : AtStart classFile x code maxLocals ret World_1 tables_1 room_1 Calls_1 rest_1 Pre_1 launch0 p0 e0 about1 theMethod args0 below0 :=
  ⟨lists_1, trivial, launch0.admits_env _ _ _, launch0.least_env, fairChoices_fair.cas, fairChoices_fair.clock, w_frames, w_args, w_heap, w_applies, trivial, trivial, w_case⟩
end start1
theorem witness_1 : WitnessClaimed_1 := ⟨start1.p0, start1.e0, start1.about1, start1.theMethod, start1.args0, start1.below0, start1.atStart⟩
end Jvm.Pilot.@@N@@
