import JvmDerived
import JvmDerived.Pilot.@@N@@Statement
import JvmDerived.Pilot.@@N@@Code
set_option linter.unusedVariables false
set_option linter.unusedSimpArgs false
namespace Jvm.Pilot.@@N@@
open Jvm Jvm.ClassFile Sem Op Lib Jvm.Free Jvm.Stand Jvm.LawKit Jvm.RoadKit Bundle Jvm.Pilot.@@N@@.Jvm.D
def own_Q (r : Option Value) (h0 : Heap) (n0 : Nat) (v : Option Value) (h : Heap) (L : List Loc) : Prop := v = r ∧ Fr n0 L ∧ h = h0
def own_R (r : Option Value) (n0 : Nat) (v : Option Value) (h : Heap) (L : List Loc) : Prop := v = r ∧ Fr n0 L
theorem pn_0 : plainName "com/example/lightloom/lightloom/plan/LightpathChangesPinLaw" = true := by first | (simp [plainName, overriddenIn]; done) | decide +kernel
theorem ef_rm2 (m : MethodId) (x0 : Int32) (x1 : Int32) : entryFrame m #[(.int x0), (.int x1)] 2 = mkF m 0 #[.val (.int x0), .val (.int x1)] [] := by first | (simp [entryFrame, mkF, argsToLocals, Value.category]; done) | rfl
theorem d2_0 : decode method_2_code 0 = .ok (.iload_n 0, 1) := by decide +kernel
theorem d2_1 : decode method_2_code 1 = .ok (.iload_n 1, 1) := by decide +kernel
theorem d2_2 : decode method_2_code 2 = .ok (.if_icmp .eq 5, 3) := by decide +kernel
theorem d2_7 : decode method_2_code 7 = .ok (.iconst 0, 1) := by decide +kernel
theorem d2_8 : decode method_2_code 8 = .ok (.ireturn, 1) := by decide +kernel
theorem d2_5 : decode method_2_code 5 = .ok (.iconst 1, 1) := by decide +kernel
theorem d2_6 : decode method_2_code 6 = .ok (.ireturn, 1) := by decide +kernel
def own_dif (p0 : Int32) (p1 : Int32) : Int32 := (if p0 = p1 then (0 : Int32) else (1 : Int32))
set_option maxRecDepth 65536 in
set_option maxHeartbeats 40000000 in
theorem rm2 (l : Launch) (Z : State) (a0 : Array Value) (hw : ∀ d ∈ tables_1, d.before a0 Z = true) (ws : List Jvm.Cond) (p0 : Int32) (p1 : Int32) (h0 : Heap) (n0 : Nat) :
    MetFree l (⟨"com/example/lightloom/lightloom/plan/LightpathChangesPinLaw", "differs", "(II)I"⟩ : MethodName) (head1 (Jvm.Cond.code (⟨"com/example/lightloom/lightloom/plan/LightpathChangesPinLaw", "differs", "(II)I"⟩ : MethodName) method_2_code 2 (some .int) :: ws) ({ frames := 0, cells := 0, slots := 0, locals := 0 } : Room)) (fun a U => a = #[(.int p0), (.int p1)] ∧ Z.Warmed39 U.vm ∧ U.heap = h0) (fun _ _ _ _ _ => True) (fun _ U o U' => ∃ v L, o = .returned v ∧ own_Q (some (.int (own_dif p0 p1))) h0 n0 v U'.heap L ∧ FrameEnd U o U' L ({ frames := 0, cells := 0, slots := 0, locals := 0 } : Room).cells ({ frames := 0, cells := 0, slots := 0, locals := 0 } : Room).slots) := by
  refine MetFree.of_bodySF (plainFor_of_name pn_0) hisR ?_
  intro p e s m args below meth c s₁ Bd hml0 hP hK
  obtain ⟨rfl, hZ, hh⟩ := hP
  have hx := Bd.exec
  have hby := Bd.bytes
  have hml : c.maxLocals = 2 := hml0
  have hown : s.vm.findClass "com/example/lightloom/lightloom/plan/LightpathChangesPinLaw" = some m.cls := findClass_of_methodNamed Bd.named
  have hnm := (name_of_methodNamed Bd.named Bd.method).1
  have X0 : Stand p l e ({ frames := 0, cells := 0, slots := 0, locals := 0 } : Room) s m #[(.int p0), (.int p1)] below meth c s₁ [] 0 0 := Stand.of_body Bd
  have e0 : s₁.heap = h0 := by rw [← hh, Bd.state]; rfl
  have N0 := Fr.nil n0
  have pre0 : ∀ t, Steps p.tables e below (s₁.setTop (mkF m 0 #[.val (.int p0), .val (.int p1)] [])) t → Steps p.tables e below (s₁.setTop (entryFrame m #[(.int p0), (.int p1)] 2)) t := fun t k => castTop (ef_rm2 m p0 p1) k
  have k1 : ∀ t, Steps p.tables e below (s₁.setTop (mkF m 2 #[.val (.int p0), .val (.int p1)] [(.int p1), (.int p0)])) t → Steps p.tables e below (s₁.setTop (entryFrame m #[(.int p0), (.int p1)] 2)) t := by
    intro t k
    refine pre0 _ ?_
    show Steps p.tables e below (s₁.setTop (mkF m 0 #[.val (.int p0), .val (.int p1)] [])) _
    refine XS.iloadN X0.here hx rfl (hb hby d2_0) rfl ?_
    show Steps p.tables e below (s₁.setTop (mkF m 1 #[.val (.int p0), .val (.int p1)] [(.int p0)])) _
    refine XS.iloadN X0.here hx rfl (hb hby d2_1) rfl ?_
    exact k
  by_cases hc2_1 : p0 = p1
  · have k2 : ∀ t, Steps p.tables e below (s₁.setTop (mkF m 8 #[.val (.int p0), .val (.int p1)] [(.int (0 : Int32))])) t → Steps p.tables e below (s₁.setTop (entryFrame m #[(.int p0), (.int p1)] 2)) t := by
      intro t k
      refine k1 _ ?_
      show Steps p.tables e below (s₁.setTop (mkF m 2 #[.val (.int p0), .val (.int p1)] [(.int p1), (.int p0)])) _
      refine XS.icmpYes X0.here hx rfl (pc0 := 2) (pc' := 7) rfl (hb hby d2_2) rfl (teq hc2_1).1 (by decide) (by decide) ?_
      show Steps p.tables e below (s₁.setTop (mkF m 7 #[.val (.int p0), .val (.int p1)] [])) _
      refine XS.iconst X0.here hx rfl (hb hby d2_7) ?_
      exact k
    obtain ⟨fs, hr, hrun, hended, hW, hsame⟩ := X0.leave (v := some (.int (0 : Int32))) (fun h => by rw [Bd.returns] at h; cases h)
    refine ⟨_, _, k2 _ ?_, hrun, hended, _, _, rfl, ?_, ⟨_, rfl⟩, hW, hsame.mono (by decide) (by decide)⟩
    · exact retOut X0 hx Bd.returns rfl (Or.inl ⟨rfl, Or.inl rfl, _, rfl⟩) (hb hby d2_8) hr
    · show own_Q (some (.int (own_dif p0 p1))) h0 n0 _ s₁.heap _
      rw [e0]
      exact ⟨by simp only [own_dif, if_pos hc2_1], N0, rfl⟩
  · have k3 : ∀ t, Steps p.tables e below (s₁.setTop (mkF m 6 #[.val (.int p0), .val (.int p1)] [(.int (1 : Int32))])) t → Steps p.tables e below (s₁.setTop (entryFrame m #[(.int p0), (.int p1)] 2)) t := by
      intro t k
      refine k1 _ ?_
      show Steps p.tables e below (s₁.setTop (mkF m 2 #[.val (.int p0), .val (.int p1)] [(.int p1), (.int p0)])) _
      refine XS.icmpNo X0.here hx rfl (hb hby d2_2) rfl (feq hc2_1).1 ?_
      show Steps p.tables e below (s₁.setTop (mkF m 5 #[.val (.int p0), .val (.int p1)] [])) _
      refine XS.iconst X0.here hx rfl (hb hby d2_5) ?_
      exact k
    obtain ⟨fs, hr, hrun, hended, hW, hsame⟩ := X0.leave (v := some (.int (1 : Int32))) (fun h => by rw [Bd.returns] at h; cases h)
    refine ⟨_, _, k3 _ ?_, hrun, hended, _, _, rfl, ?_, ⟨_, rfl⟩, hW, hsame.mono (by decide) (by decide)⟩
    · exact retOut X0 hx Bd.returns rfl (Or.inl ⟨rfl, Or.inl rfl, _, rfl⟩) (hb hby d2_6) hr
    · show own_Q (some (.int (own_dif p0 p1))) h0 n0 _ s₁.heap _
      rw [e0]
      exact ⟨by simp only [own_dif, if_neg hc2_1], N0, rfl⟩
theorem pn_1 : plainName "com/example/lightloom/lightloom/plan/Lightpath" = true := by first | (simp [plainName, overriddenIn]; done) | decide +kernel
theorem ef_rmC0 (m : MethodId) (x0 : Addr) : entryFrame m #[(.ref x0)] 3 = mkF m 0 #[.val (.ref x0), .unset, .unset] [] := by first | (simp [entryFrame, mkF, argsToLocals, Value.category]; done) | rfl
theorem d1_0 : decode prog_31_method_13_code 0 = .ok (.iconst 0, 1) := by decide +kernel
theorem d1_1 : decode prog_31_method_13_code 1 = .ok (.istore_n 1, 1) := by decide +kernel
theorem d1_2 : decode prog_31_method_13_code 2 = .ok (.iconst 1, 1) := by decide +kernel
theorem d1_3 : decode prog_31_method_13_code 3 = .ok (.istore_n 2, 1) := by decide +kernel
theorem d1_4 : decode prog_31_method_13_code 4 = .ok (.iload_n 2, 1) := by decide +kernel
theorem d1_5 : decode prog_31_method_13_code 5 = .ok (.aload_n 0, 1) := by decide +kernel
theorem d1_6 : decode prog_31_method_13_code 6 = .ok (.arraylength, 1) := by decide +kernel
theorem d1_7 : decode prog_31_method_13_code 7 = .ok (.if_icmp .ge 23, 3) := by decide +kernel
theorem d1_30 : decode prog_31_method_13_code 30 = .ok (.iload_n 1, 1) := by decide +kernel
theorem d1_31 : decode prog_31_method_13_code 31 = .ok (.ireturn, 1) := by decide +kernel
def own_chg0  : Int32 := (0 : Int32)
set_option maxRecDepth 65536 in
set_option maxHeartbeats 40000000 in
theorem rmC0 (l : Launch) (Z : State) (a0 : Array Value) (hw : ∀ d ∈ tables_1, d.before a0 Z = true) (ws : List Jvm.Cond) (r0 : Addr) (ck : ClassId) (h0 : Heap) (n0 : Nat) (Va : Arv Z h0 r0 ck .int (0 : Int32) [] (.int (0 : Int32))) :
    MetFree l (⟨"com/example/lightloom/lightloom/plan/Lightpath", "changes", "([I)I"⟩ : MethodName) (head1 (Jvm.Cond.code (⟨"com/example/lightloom/lightloom/plan/Lightpath", "changes", "([I)I"⟩ : MethodName) prog_31_method_13_code 3 (some .int) :: ws) ({ frames := 0, cells := 0, slots := 0, locals := 0 } : Room)) (fun a U => a = #[(.ref r0)] ∧ Z.Warmed39 U.vm ∧ U.heap = h0) (fun _ _ _ _ _ => True) (fun _ U o U' => ∃ v L, o = .returned v ∧ own_Q (some (.int (own_chg0 ))) h0 n0 v U'.heap L ∧ FrameEnd U o U' L ({ frames := 0, cells := 0, slots := 0, locals := 0 } : Room).cells ({ frames := 0, cells := 0, slots := 0, locals := 0 } : Room).slots) := by
  refine MetFree.of_bodySF (plainFor_of_name pn_1) hisR ?_
  intro p e s m args below meth c s₁ Bd hml0 hP hK
  obtain ⟨rfl, hZ, hh⟩ := hP
  have hx := Bd.exec
  have hby := Bd.bytes
  have hml : c.maxLocals = 3 := hml0
  have hown : s.vm.findClass "com/example/lightloom/lightloom/plan/Lightpath" = some m.cls := findClass_of_methodNamed Bd.named
  have hnm := (name_of_methodNamed Bd.named Bd.method).1
  have X0 : Stand p l e ({ frames := 0, cells := 0, slots := 0, locals := 0 } : Room) s m #[(.ref r0)] below meth c s₁ [] 0 0 := Stand.of_body Bd
  have e0 : s₁.heap = h0 := by rw [← hh, Bd.state]; rfl
  have N0 := Fr.nil n0
  have pre0 : ∀ t, Steps p.tables e below (s₁.setTop (mkF m 0 #[.val (.ref r0), .unset, .unset] [])) t → Steps p.tables e below (s₁.setTop (entryFrame m #[(.ref r0)] 3)) t := fun t k => castTop (ef_rmC0 m r0) k
  have k2 : ∀ t, Steps p.tables e below (s₁.setTop (mkF m 31 #[.val (.ref r0), .val (.int (0 : Int32)), .val (.int (1 : Int32))] [(.int (0 : Int32))])) t → Steps p.tables e below (s₁.setTop (entryFrame m #[(.ref r0)] 3)) t := by
    intro t k
    refine pre0 _ ?_
    show Steps p.tables e below (s₁.setTop (mkF m 0 #[.val (.ref r0), .unset, .unset] [])) _
    refine XS.iconst X0.here hx rfl (hb hby d1_0) ?_
    show Steps p.tables e below (s₁.setTop (mkF m 1 #[.val (.ref r0), .unset, .unset] [(.int (0 : Int32))])) _
    refine XS.istoreN X0.here hx rfl (hb hby d1_1) rfl (l' := #[.val (.ref r0), .val (.int (0 : Int32)), .unset]) rfl ?_
    show Steps p.tables e below (s₁.setTop (mkF m 2 #[.val (.ref r0), .val (.int (0 : Int32)), .unset] [])) _
    refine XS.iconst X0.here hx rfl (hb hby d1_2) ?_
    show Steps p.tables e below (s₁.setTop (mkF m 3 #[.val (.ref r0), .val (.int (0 : Int32)), .unset] [(.int (1 : Int32))])) _
    refine XS.istoreN X0.here hx rfl (hb hby d1_3) rfl (l' := #[.val (.ref r0), .val (.int (0 : Int32)), .val (.int (1 : Int32))]) rfl ?_
    show Steps p.tables e below (s₁.setTop (mkF m 4 #[.val (.ref r0), .val (.int (0 : Int32)), .val (.int (1 : Int32))] [])) _
    refine XS.iloadN X0.here hx rfl (hb hby d1_4) rfl ?_
    show Steps p.tables e below (s₁.setTop (mkF m 5 #[.val (.ref r0), .val (.int (0 : Int32)), .val (.int (1 : Int32))] [(.int (1 : Int32))])) _
    refine XS.aloadN X0.here hx rfl (hb hby d1_5) rfl rfl ?_
    show Steps p.tables e below (s₁.setTop (mkF m 6 #[.val (.ref r0), .val (.int (0 : Int32)), .val (.int (1 : Int32))] [(.ref r0), (.int (1 : Int32))])) _
    obtain ⟨cl_1, Ar_1, -, S_1, N_1, -, -⟩ := id Va
    refine X0.arraylength hx (by rw [e0]; exact Ar_1.1) (State.isArrayOf_alike hZ.alike Ar_1.2.1) (g := (mkF m 6 #[.val (.ref r0), .val (.int (0 : Int32)), .val (.int (1 : Int32))] [(.ref r0), (.int (1 : Int32))])) rfl rfl (hb hby d1_6) _ ?_
    rw [len_of S_1 N_1]
    show Steps p.tables e below (s₁.setTop (mkF m 7 #[.val (.ref r0), .val (.int (0 : Int32)), .val (.int (1 : Int32))] [(.int (0 : Int32)), (.int (1 : Int32))])) _
    refine XS.icmpYes X0.here hx rfl (pc0 := 7) (pc' := 30) rfl (hb hby d1_7) rfl (flt (by decide)).2.1 (by decide) (by decide) ?_
    show Steps p.tables e below (s₁.setTop (mkF m 30 #[.val (.ref r0), .val (.int (0 : Int32)), .val (.int (1 : Int32))] [])) _
    refine XS.iloadN X0.here hx rfl (hb hby d1_30) rfl ?_
    exact k
  obtain ⟨fs, hr, hrun, hended, hW, hsame⟩ := X0.leave (v := some (.int (0 : Int32))) (fun h => by rw [Bd.returns] at h; cases h)
  refine ⟨_, _, k2 _ ?_, hrun, hended, _, _, rfl, ?_, ⟨_, rfl⟩, hW, hsame.mono (by decide) (by decide)⟩
  · exact retOut X0 hx Bd.returns rfl (Or.inl ⟨rfl, Or.inl rfl, _, rfl⟩) (hb hby d1_31) hr
  · show own_Q (some (.int (own_chg0 ))) h0 n0 _ s₁.heap _
    rw [e0]
    exact ⟨rfl, N0, rfl⟩
theorem ef_rmC1 (m : MethodId) (x0 : Addr) : entryFrame m #[(.ref x0)] 3 = mkF m 0 #[.val (.ref x0), .unset, .unset] [] := by first | (simp [entryFrame, mkF, argsToLocals, Value.category]; done) | rfl
def own_chg1 (v0 : Int32) : Int32 := (0 : Int32)
set_option maxRecDepth 65536 in
set_option maxHeartbeats 40000000 in
theorem rmC1 (l : Launch) (Z : State) (a0 : Array Value) (hw : ∀ d ∈ tables_1, d.before a0 Z = true) (ws : List Jvm.Cond) (r0 : Addr) (ck : ClassId) (v0 : Int32) (h0 : Heap) (n0 : Nat) (Va : Arv Z h0 r0 ck .int (1 : Int32) [(.int v0)] (.int (0 : Int32))) :
    MetFree l (⟨"com/example/lightloom/lightloom/plan/Lightpath", "changes", "([I)I"⟩ : MethodName) (head1 (Jvm.Cond.code (⟨"com/example/lightloom/lightloom/plan/Lightpath", "changes", "([I)I"⟩ : MethodName) prog_31_method_13_code 3 (some .int) :: ws) ({ frames := 0, cells := 0, slots := 0, locals := 0 } : Room)) (fun a U => a = #[(.ref r0)] ∧ Z.Warmed39 U.vm ∧ U.heap = h0) (fun _ _ _ _ _ => True) (fun _ U o U' => ∃ v L, o = .returned v ∧ own_Q (some (.int (own_chg1 v0))) h0 n0 v U'.heap L ∧ FrameEnd U o U' L ({ frames := 0, cells := 0, slots := 0, locals := 0 } : Room).cells ({ frames := 0, cells := 0, slots := 0, locals := 0 } : Room).slots) := by
  refine MetFree.of_bodySF (plainFor_of_name pn_1) hisR ?_
  intro p e s m args below meth c s₁ Bd hml0 hP hK
  obtain ⟨rfl, hZ, hh⟩ := hP
  have hx := Bd.exec
  have hby := Bd.bytes
  have hml : c.maxLocals = 3 := hml0
  have hown : s.vm.findClass "com/example/lightloom/lightloom/plan/Lightpath" = some m.cls := findClass_of_methodNamed Bd.named
  have hnm := (name_of_methodNamed Bd.named Bd.method).1
  have X0 : Stand p l e ({ frames := 0, cells := 0, slots := 0, locals := 0 } : Room) s m #[(.ref r0)] below meth c s₁ [] 0 0 := Stand.of_body Bd
  have e0 : s₁.heap = h0 := by rw [← hh, Bd.state]; rfl
  have N0 := Fr.nil n0
  have pre0 : ∀ t, Steps p.tables e below (s₁.setTop (mkF m 0 #[.val (.ref r0), .unset, .unset] [])) t → Steps p.tables e below (s₁.setTop (entryFrame m #[(.ref r0)] 3)) t := fun t k => castTop (ef_rmC1 m r0) k
  have k2 : ∀ t, Steps p.tables e below (s₁.setTop (mkF m 31 #[.val (.ref r0), .val (.int (0 : Int32)), .val (.int (1 : Int32))] [(.int (0 : Int32))])) t → Steps p.tables e below (s₁.setTop (entryFrame m #[(.ref r0)] 3)) t := by
    intro t k
    refine pre0 _ ?_
    show Steps p.tables e below (s₁.setTop (mkF m 0 #[.val (.ref r0), .unset, .unset] [])) _
    refine XS.iconst X0.here hx rfl (hb hby d1_0) ?_
    show Steps p.tables e below (s₁.setTop (mkF m 1 #[.val (.ref r0), .unset, .unset] [(.int (0 : Int32))])) _
    refine XS.istoreN X0.here hx rfl (hb hby d1_1) rfl (l' := #[.val (.ref r0), .val (.int (0 : Int32)), .unset]) rfl ?_
    show Steps p.tables e below (s₁.setTop (mkF m 2 #[.val (.ref r0), .val (.int (0 : Int32)), .unset] [])) _
    refine XS.iconst X0.here hx rfl (hb hby d1_2) ?_
    show Steps p.tables e below (s₁.setTop (mkF m 3 #[.val (.ref r0), .val (.int (0 : Int32)), .unset] [(.int (1 : Int32))])) _
    refine XS.istoreN X0.here hx rfl (hb hby d1_3) rfl (l' := #[.val (.ref r0), .val (.int (0 : Int32)), .val (.int (1 : Int32))]) rfl ?_
    show Steps p.tables e below (s₁.setTop (mkF m 4 #[.val (.ref r0), .val (.int (0 : Int32)), .val (.int (1 : Int32))] [])) _
    refine XS.iloadN X0.here hx rfl (hb hby d1_4) rfl ?_
    show Steps p.tables e below (s₁.setTop (mkF m 5 #[.val (.ref r0), .val (.int (0 : Int32)), .val (.int (1 : Int32))] [(.int (1 : Int32))])) _
    refine XS.aloadN X0.here hx rfl (hb hby d1_5) rfl rfl ?_
    show Steps p.tables e below (s₁.setTop (mkF m 6 #[.val (.ref r0), .val (.int (0 : Int32)), .val (.int (1 : Int32))] [(.ref r0), (.int (1 : Int32))])) _
    obtain ⟨cl_1, Ar_1, -, S_1, N_1, -, -⟩ := id Va
    refine X0.arraylength hx (by rw [e0]; exact Ar_1.1) (State.isArrayOf_alike hZ.alike Ar_1.2.1) (g := (mkF m 6 #[.val (.ref r0), .val (.int (0 : Int32)), .val (.int (1 : Int32))] [(.ref r0), (.int (1 : Int32))])) rfl rfl (hb hby d1_6) _ ?_
    rw [len_of S_1 N_1]
    show Steps p.tables e below (s₁.setTop (mkF m 7 #[.val (.ref r0), .val (.int (0 : Int32)), .val (.int (1 : Int32))] [(.int (1 : Int32)), (.int (1 : Int32))])) _
    refine XS.icmpYes X0.here hx rfl (pc0 := 7) (pc' := 30) rfl (hb hby d1_7) rfl (flt (by decide)).2.1 (by decide) (by decide) ?_
    show Steps p.tables e below (s₁.setTop (mkF m 30 #[.val (.ref r0), .val (.int (0 : Int32)), .val (.int (1 : Int32))] [])) _
    refine XS.iloadN X0.here hx rfl (hb hby d1_30) rfl ?_
    exact k
  obtain ⟨fs, hr, hrun, hended, hW, hsame⟩ := X0.leave (v := some (.int (0 : Int32))) (fun h => by rw [Bd.returns] at h; cases h)
  refine ⟨_, _, k2 _ ?_, hrun, hended, _, _, rfl, ?_, ⟨_, rfl⟩, hW, hsame.mono (by decide) (by decide)⟩
  · exact retOut X0 hx Bd.returns rfl (Or.inl ⟨rfl, Or.inl rfl, _, rfl⟩) (hb hby d1_31) hr
  · show own_Q (some (.int (own_chg1 v0))) h0 n0 _ s₁.heap _
    rw [e0]
    exact ⟨rfl, N0, rfl⟩
theorem ef_rmC2 (m : MethodId) (x0 : Addr) : entryFrame m #[(.ref x0)] 3 = mkF m 0 #[.val (.ref x0), .unset, .unset] [] := by first | (simp [entryFrame, mkF, argsToLocals, Value.category]; done) | rfl
theorem d1_10 : decode prog_31_method_13_code 10 = .ok (.aload_n 0, 1) := by decide +kernel
theorem d1_11 : decode prog_31_method_13_code 11 = .ok (.iload_n 2, 1) := by decide +kernel
theorem d1_12 : decode prog_31_method_13_code 12 = .ok (.iaload, 1) := by decide +kernel
theorem d1_13 : decode prog_31_method_13_code 13 = .ok (.aload_n 0, 1) := by decide +kernel
theorem d1_14 : decode prog_31_method_13_code 14 = .ok (.iload_n 2, 1) := by decide +kernel
theorem d1_15 : decode prog_31_method_13_code 15 = .ok (.iconst 1, 1) := by decide +kernel
theorem d1_16 : decode prog_31_method_13_code 16 = .ok (.isub, 1) := by decide +kernel
theorem d1_17 : decode prog_31_method_13_code 17 = .ok (.iaload, 1) := by decide +kernel
theorem d1_18 : decode prog_31_method_13_code 18 = .ok (.if_icmp .eq 6, 3) := by decide +kernel
theorem d1_21 : decode prog_31_method_13_code 21 = .ok (.iinc 1 1, 3) := by decide +kernel
theorem d1_24 : decode prog_31_method_13_code 24 = .ok (.iinc 2 1, 3) := by decide +kernel
theorem d1_27 : decode prog_31_method_13_code 27 = .ok (.goto (-23), 3) := by decide +kernel
def own_chg2 (v0 v1 : Int32) : Int32 := (if v1 = v0 then (0 : Int32) else (1 : Int32))
set_option maxRecDepth 65536 in
set_option maxHeartbeats 40000000 in
theorem rmC2 (l : Launch) (Z : State) (a0 : Array Value) (hw : ∀ d ∈ tables_1, d.before a0 Z = true) (ws : List Jvm.Cond) (r0 : Addr) (ck : ClassId) (v0 v1 : Int32) (h0 : Heap) (n0 : Nat) (Va : Arv Z h0 r0 ck .int (2 : Int32) [(.int v0), (.int v1)] (.int (0 : Int32))) :
    MetFree l (⟨"com/example/lightloom/lightloom/plan/Lightpath", "changes", "([I)I"⟩ : MethodName) (head1 (Jvm.Cond.code (⟨"com/example/lightloom/lightloom/plan/Lightpath", "changes", "([I)I"⟩ : MethodName) prog_31_method_13_code 3 (some .int) :: ws) ({ frames := 0, cells := 0, slots := 0, locals := 0 } : Room)) (fun a U => a = #[(.ref r0)] ∧ Z.Warmed39 U.vm ∧ U.heap = h0) (fun _ _ _ _ _ => True) (fun _ U o U' => ∃ v L, o = .returned v ∧ own_Q (some (.int (own_chg2 v0 v1))) h0 n0 v U'.heap L ∧ FrameEnd U o U' L ({ frames := 0, cells := 0, slots := 0, locals := 0 } : Room).cells ({ frames := 0, cells := 0, slots := 0, locals := 0 } : Room).slots) := by
  refine MetFree.of_bodySF (plainFor_of_name pn_1) hisR ?_
  intro p e s m args below meth c s₁ Bd hml0 hP hK
  obtain ⟨rfl, hZ, hh⟩ := hP
  have hx := Bd.exec
  have hby := Bd.bytes
  have hml : c.maxLocals = 3 := hml0
  have hown : s.vm.findClass "com/example/lightloom/lightloom/plan/Lightpath" = some m.cls := findClass_of_methodNamed Bd.named
  have hnm := (name_of_methodNamed Bd.named Bd.method).1
  have X0 : Stand p l e ({ frames := 0, cells := 0, slots := 0, locals := 0 } : Room) s m #[(.ref r0)] below meth c s₁ [] 0 0 := Stand.of_body Bd
  have e0 : s₁.heap = h0 := by rw [← hh, Bd.state]; rfl
  have N0 := Fr.nil n0
  have pre0 : ∀ t, Steps p.tables e below (s₁.setTop (mkF m 0 #[.val (.ref r0), .unset, .unset] [])) t → Steps p.tables e below (s₁.setTop (entryFrame m #[(.ref r0)] 3)) t := fun t k => castTop (ef_rmC2 m r0) k
  have k4 : ∀ t, Steps p.tables e below (s₁.setTop (mkF m 24 #[.val (.ref r0), .val (.int (if v1 = v0 then (0 : Int32) else (1 : Int32))), .val (.int (1 : Int32))] [])) t → Steps p.tables e below (s₁.setTop (entryFrame m #[(.ref r0)] 3)) t := by
    intro t k
    refine pre0 _ ?_
    show Steps p.tables e below (s₁.setTop (mkF m 0 #[.val (.ref r0), .unset, .unset] [])) _
    refine XS.iconst X0.here hx rfl (hb hby d1_0) ?_
    show Steps p.tables e below (s₁.setTop (mkF m 1 #[.val (.ref r0), .unset, .unset] [(.int (0 : Int32))])) _
    refine XS.istoreN X0.here hx rfl (hb hby d1_1) rfl (l' := #[.val (.ref r0), .val (.int (0 : Int32)), .unset]) rfl ?_
    show Steps p.tables e below (s₁.setTop (mkF m 2 #[.val (.ref r0), .val (.int (0 : Int32)), .unset] [])) _
    refine XS.iconst X0.here hx rfl (hb hby d1_2) ?_
    show Steps p.tables e below (s₁.setTop (mkF m 3 #[.val (.ref r0), .val (.int (0 : Int32)), .unset] [(.int (1 : Int32))])) _
    refine XS.istoreN X0.here hx rfl (hb hby d1_3) rfl (l' := #[.val (.ref r0), .val (.int (0 : Int32)), .val (.int (1 : Int32))]) rfl ?_
    show Steps p.tables e below (s₁.setTop (mkF m 4 #[.val (.ref r0), .val (.int (0 : Int32)), .val (.int (1 : Int32))] [])) _
    refine XS.iloadN X0.here hx rfl (hb hby d1_4) rfl ?_
    show Steps p.tables e below (s₁.setTop (mkF m 5 #[.val (.ref r0), .val (.int (0 : Int32)), .val (.int (1 : Int32))] [(.int (1 : Int32))])) _
    refine XS.aloadN X0.here hx rfl (hb hby d1_5) rfl rfl ?_
    show Steps p.tables e below (s₁.setTop (mkF m 6 #[.val (.ref r0), .val (.int (0 : Int32)), .val (.int (1 : Int32))] [(.ref r0), (.int (1 : Int32))])) _
    obtain ⟨cl_1, Ar_1, -, S_1, N_1, -, -⟩ := id Va
    refine X0.arraylength hx (by rw [e0]; exact Ar_1.1) (State.isArrayOf_alike hZ.alike Ar_1.2.1) (g := (mkF m 6 #[.val (.ref r0), .val (.int (0 : Int32)), .val (.int (1 : Int32))] [(.ref r0), (.int (1 : Int32))])) rfl rfl (hb hby d1_6) _ ?_
    rw [len_of S_1 N_1]
    show Steps p.tables e below (s₁.setTop (mkF m 7 #[.val (.ref r0), .val (.int (0 : Int32)), .val (.int (1 : Int32))] [(.int (2 : Int32)), (.int (1 : Int32))])) _
    refine XS.icmpNo X0.here hx rfl (hb hby d1_7) rfl (tlt (by decide)).2.1 ?_
    show Steps p.tables e below (s₁.setTop (mkF m 10 #[.val (.ref r0), .val (.int (0 : Int32)), .val (.int (1 : Int32))] [])) _
    refine XS.aloadN X0.here hx rfl (hb hby d1_10) rfl rfl ?_
    show Steps p.tables e below (s₁.setTop (mkF m 11 #[.val (.ref r0), .val (.int (0 : Int32)), .val (.int (1 : Int32))] [(.ref r0)])) _
    refine XS.iloadN X0.here hx rfl (hb hby d1_11) rfl ?_
    show Steps p.tables e below (s₁.setTop (mkF m 12 #[.val (.ref r0), .val (.int (0 : Int32)), .val (.int (1 : Int32))] [(.int (1 : Int32)), (.ref r0)])) _
    obtain ⟨cl_2, Ar_2, q_2, S_2, N_2, H_2, G_2⟩ := id Va
    have hin_2 : ¬ ((1 : Int32) < 0 ∨ cl_2.slots.size ≤ ((1 : Int32)).toNatClampNeg) := inb_of S_2 ⟨by decide, by decide⟩
    refine X0.iaload hx (j := (1 : Int32)) (v := (.int v1)) (by rw [e0]; exact Ar_2.1) (State.isArrayOf_alike hZ.alike Ar_2.2.1) Ar_2.2.2 hin_2 (Has.at H_2 hin_2 rfl) (g := (mkF m 12 #[.val (.ref r0), .val (.int (0 : Int32)), .val (.int (1 : Int32))] [(.int (1 : Int32)), (.ref r0)])) rfl rfl (hb hby d1_12) _ ?_
    show Steps p.tables e below (s₁.setTop (mkF m 13 #[.val (.ref r0), .val (.int (0 : Int32)), .val (.int (1 : Int32))] [(.int v1)])) _
    refine XS.aloadN X0.here hx rfl (hb hby d1_13) rfl rfl ?_
    show Steps p.tables e below (s₁.setTop (mkF m 14 #[.val (.ref r0), .val (.int (0 : Int32)), .val (.int (1 : Int32))] [(.ref r0), (.int v1)])) _
    refine XS.iloadN X0.here hx rfl (hb hby d1_14) rfl ?_
    show Steps p.tables e below (s₁.setTop (mkF m 15 #[.val (.ref r0), .val (.int (0 : Int32)), .val (.int (1 : Int32))] [(.int (1 : Int32)), (.ref r0), (.int v1)])) _
    refine XS.iconst X0.here hx rfl (hb hby d1_15) ?_
    show Steps p.tables e below (s₁.setTop (mkF m 16 #[.val (.ref r0), .val (.int (0 : Int32)), .val (.int (1 : Int32))] [(.int (1 : Int32)), (.int (1 : Int32)), (.ref r0), (.int v1)])) _
    refine XS.isub X0.here hx rfl (hb hby d1_16) rfl ?_
    show Steps p.tables e below (s₁.setTop (mkF m 17 #[.val (.ref r0), .val (.int (0 : Int32)), .val (.int (1 : Int32))] [(.int (0 : Int32)), (.ref r0), (.int v1)])) _
    obtain ⟨cl_3, Ar_3, q_3, S_3, N_3, H_3, G_3⟩ := id Va
    have hin_3 : ¬ ((0 : Int32) < 0 ∨ cl_3.slots.size ≤ ((0 : Int32)).toNatClampNeg) := inb_of S_3 ⟨by decide, by decide⟩
    refine X0.iaload hx (j := (0 : Int32)) (v := (.int v0)) (by rw [e0]; exact Ar_3.1) (State.isArrayOf_alike hZ.alike Ar_3.2.1) Ar_3.2.2 hin_3 (Has.at H_3 hin_3 rfl) (g := (mkF m 17 #[.val (.ref r0), .val (.int (0 : Int32)), .val (.int (1 : Int32))] [(.int (0 : Int32)), (.ref r0), (.int v1)])) rfl rfl (hb hby d1_17) _ ?_
    show Steps p.tables e below (s₁.setTop (mkF m 18 #[.val (.ref r0), .val (.int (0 : Int32)), .val (.int (1 : Int32))] [(.int v0), (.int v1)])) _
    by_cases hc18_1 : v1 = v0
    · refine XS.icmpYes X0.here hx rfl (pc0 := 18) (pc' := 24) rfl (hb hby d1_18) rfl (teq hc18_1).1 (by decide) (by decide) ?_
      try simp only [if_pos hc18_1] at k
      exact k
    · refine XS.icmpNo X0.here hx rfl (hb hby d1_18) rfl (feq hc18_1).1 ?_
      show Steps p.tables e below (s₁.setTop (mkF m 21 #[.val (.ref r0), .val (.int (0 : Int32)), .val (.int (1 : Int32))] [])) _
      refine XS.iinc X0.here hx rfl (hb hby d1_21) rfl (l' := #[.val (.ref r0), .val (.int (1 : Int32)), .val (.int (1 : Int32))]) rfl ?_
      try simp only [if_neg hc18_1] at k
      exact k
  have k6 : ∀ t, Steps p.tables e below (s₁.setTop (mkF m 31 #[.val (.ref r0), .val (.int (if v1 = v0 then (0 : Int32) else (1 : Int32))), .val (.int (2 : Int32))] [(.int (if v1 = v0 then (0 : Int32) else (1 : Int32)))])) t → Steps p.tables e below (s₁.setTop (entryFrame m #[(.ref r0)] 3)) t := by
    intro t k
    refine k4 _ ?_
    show Steps p.tables e below (s₁.setTop (mkF m 24 #[.val (.ref r0), .val (.int (if v1 = v0 then (0 : Int32) else (1 : Int32))), .val (.int (1 : Int32))] [])) _
    refine XS.iinc X0.here hx rfl (hb hby d1_24) rfl (l' := #[.val (.ref r0), .val (.int (if v1 = v0 then (0 : Int32) else (1 : Int32))), .val (.int (2 : Int32))]) rfl ?_
    show Steps p.tables e below (s₁.setTop (mkF m 27 #[.val (.ref r0), .val (.int (if v1 = v0 then (0 : Int32) else (1 : Int32))), .val (.int (2 : Int32))] [])) _
    refine XS.goto X0.here hx rfl (pc0 := 27) (pc' := 4) rfl (hb hby d1_27) (by decide) (by decide) ?_
    show Steps p.tables e below (s₁.setTop (mkF m 4 #[.val (.ref r0), .val (.int (if v1 = v0 then (0 : Int32) else (1 : Int32))), .val (.int (2 : Int32))] [])) _
    refine XS.iloadN X0.here hx rfl (hb hby d1_4) rfl ?_
    show Steps p.tables e below (s₁.setTop (mkF m 5 #[.val (.ref r0), .val (.int (if v1 = v0 then (0 : Int32) else (1 : Int32))), .val (.int (2 : Int32))] [(.int (2 : Int32))])) _
    refine XS.aloadN X0.here hx rfl (hb hby d1_5) rfl rfl ?_
    show Steps p.tables e below (s₁.setTop (mkF m 6 #[.val (.ref r0), .val (.int (if v1 = v0 then (0 : Int32) else (1 : Int32))), .val (.int (2 : Int32))] [(.ref r0), (.int (2 : Int32))])) _
    obtain ⟨cl_5, Ar_5, -, S_5, N_5, -, -⟩ := id Va
    refine X0.arraylength hx (by rw [e0]; exact Ar_5.1) (State.isArrayOf_alike hZ.alike Ar_5.2.1) (g := (mkF m 6 #[.val (.ref r0), .val (.int (if v1 = v0 then (0 : Int32) else (1 : Int32))), .val (.int (2 : Int32))] [(.ref r0), (.int (2 : Int32))])) rfl rfl (hb hby d1_6) _ ?_
    rw [len_of S_5 N_5]
    show Steps p.tables e below (s₁.setTop (mkF m 7 #[.val (.ref r0), .val (.int (if v1 = v0 then (0 : Int32) else (1 : Int32))), .val (.int (2 : Int32))] [(.int (2 : Int32)), (.int (2 : Int32))])) _
    refine XS.icmpYes X0.here hx rfl (pc0 := 7) (pc' := 30) rfl (hb hby d1_7) rfl (flt (by decide)).2.1 (by decide) (by decide) ?_
    show Steps p.tables e below (s₁.setTop (mkF m 30 #[.val (.ref r0), .val (.int (if v1 = v0 then (0 : Int32) else (1 : Int32))), .val (.int (2 : Int32))] [])) _
    refine XS.iloadN X0.here hx rfl (hb hby d1_30) rfl ?_
    exact k
  obtain ⟨fs, hr, hrun, hended, hW, hsame⟩ := X0.leave (v := some (.int (if v1 = v0 then (0 : Int32) else (1 : Int32)))) (fun h => by rw [Bd.returns] at h; cases h)
  refine ⟨_, _, k6 _ ?_, hrun, hended, _, _, rfl, ?_, ⟨_, rfl⟩, hW, hsame.mono (by decide) (by decide)⟩
  · exact retOut X0 hx Bd.returns rfl (Or.inl ⟨rfl, Or.inl rfl, _, rfl⟩) (hb hby d1_31) hr
  · show own_Q (some (.int (own_chg2 v0 v1))) h0 n0 _ s₁.heap _
    rw [e0]
    exact ⟨rfl, N0, rfl⟩
theorem ef_rmC3 (m : MethodId) (x0 : Addr) : entryFrame m #[(.ref x0)] 3 = mkF m 0 #[.val (.ref x0), .unset, .unset] [] := by first | (simp [entryFrame, mkF, argsToLocals, Value.category]; done) | rfl
def own_chg3 (v0 v1 v2 : Int32) : Int32 := (if v2 = v1 then (if v1 = v0 then (0 : Int32) else (1 : Int32)) else ((if v1 = v0 then (0 : Int32) else (1 : Int32)) + (1 : Int32)))
set_option maxRecDepth 65536 in
set_option maxHeartbeats 40000000 in
theorem rmC3 (l : Launch) (Z : State) (a0 : Array Value) (hw : ∀ d ∈ tables_1, d.before a0 Z = true) (ws : List Jvm.Cond) (r0 : Addr) (ck : ClassId) (v0 v1 v2 : Int32) (h0 : Heap) (n0 : Nat) (Va : Arv Z h0 r0 ck .int (3 : Int32) [(.int v0), (.int v1), (.int v2)] (.int (0 : Int32))) :
    MetFree l (⟨"com/example/lightloom/lightloom/plan/Lightpath", "changes", "([I)I"⟩ : MethodName) (head1 (Jvm.Cond.code (⟨"com/example/lightloom/lightloom/plan/Lightpath", "changes", "([I)I"⟩ : MethodName) prog_31_method_13_code 3 (some .int) :: ws) ({ frames := 0, cells := 0, slots := 0, locals := 0 } : Room)) (fun a U => a = #[(.ref r0)] ∧ Z.Warmed39 U.vm ∧ U.heap = h0) (fun _ _ _ _ _ => True) (fun _ U o U' => ∃ v L, o = .returned v ∧ own_Q (some (.int (own_chg3 v0 v1 v2))) h0 n0 v U'.heap L ∧ FrameEnd U o U' L ({ frames := 0, cells := 0, slots := 0, locals := 0 } : Room).cells ({ frames := 0, cells := 0, slots := 0, locals := 0 } : Room).slots) := by
  refine MetFree.of_bodySF (plainFor_of_name pn_1) hisR ?_
  intro p e s m args below meth c s₁ Bd hml0 hP hK
  obtain ⟨rfl, hZ, hh⟩ := hP
  have hx := Bd.exec
  have hby := Bd.bytes
  have hml : c.maxLocals = 3 := hml0
  have hown : s.vm.findClass "com/example/lightloom/lightloom/plan/Lightpath" = some m.cls := findClass_of_methodNamed Bd.named
  have hnm := (name_of_methodNamed Bd.named Bd.method).1
  have X0 : Stand p l e ({ frames := 0, cells := 0, slots := 0, locals := 0 } : Room) s m #[(.ref r0)] below meth c s₁ [] 0 0 := Stand.of_body Bd
  have e0 : s₁.heap = h0 := by rw [← hh, Bd.state]; rfl
  have N0 := Fr.nil n0
  have pre0 : ∀ t, Steps p.tables e below (s₁.setTop (mkF m 0 #[.val (.ref r0), .unset, .unset] [])) t → Steps p.tables e below (s₁.setTop (entryFrame m #[(.ref r0)] 3)) t := fun t k => castTop (ef_rmC3 m r0) k
  have k4 : ∀ t, Steps p.tables e below (s₁.setTop (mkF m 24 #[.val (.ref r0), .val (.int (if v1 = v0 then (0 : Int32) else (1 : Int32))), .val (.int (1 : Int32))] [])) t → Steps p.tables e below (s₁.setTop (entryFrame m #[(.ref r0)] 3)) t := by
    intro t k
    refine pre0 _ ?_
    show Steps p.tables e below (s₁.setTop (mkF m 0 #[.val (.ref r0), .unset, .unset] [])) _
    refine XS.iconst X0.here hx rfl (hb hby d1_0) ?_
    show Steps p.tables e below (s₁.setTop (mkF m 1 #[.val (.ref r0), .unset, .unset] [(.int (0 : Int32))])) _
    refine XS.istoreN X0.here hx rfl (hb hby d1_1) rfl (l' := #[.val (.ref r0), .val (.int (0 : Int32)), .unset]) rfl ?_
    show Steps p.tables e below (s₁.setTop (mkF m 2 #[.val (.ref r0), .val (.int (0 : Int32)), .unset] [])) _
    refine XS.iconst X0.here hx rfl (hb hby d1_2) ?_
    show Steps p.tables e below (s₁.setTop (mkF m 3 #[.val (.ref r0), .val (.int (0 : Int32)), .unset] [(.int (1 : Int32))])) _
    refine XS.istoreN X0.here hx rfl (hb hby d1_3) rfl (l' := #[.val (.ref r0), .val (.int (0 : Int32)), .val (.int (1 : Int32))]) rfl ?_
    show Steps p.tables e below (s₁.setTop (mkF m 4 #[.val (.ref r0), .val (.int (0 : Int32)), .val (.int (1 : Int32))] [])) _
    refine XS.iloadN X0.here hx rfl (hb hby d1_4) rfl ?_
    show Steps p.tables e below (s₁.setTop (mkF m 5 #[.val (.ref r0), .val (.int (0 : Int32)), .val (.int (1 : Int32))] [(.int (1 : Int32))])) _
    refine XS.aloadN X0.here hx rfl (hb hby d1_5) rfl rfl ?_
    show Steps p.tables e below (s₁.setTop (mkF m 6 #[.val (.ref r0), .val (.int (0 : Int32)), .val (.int (1 : Int32))] [(.ref r0), (.int (1 : Int32))])) _
    obtain ⟨cl_1, Ar_1, -, S_1, N_1, -, -⟩ := id Va
    refine X0.arraylength hx (by rw [e0]; exact Ar_1.1) (State.isArrayOf_alike hZ.alike Ar_1.2.1) (g := (mkF m 6 #[.val (.ref r0), .val (.int (0 : Int32)), .val (.int (1 : Int32))] [(.ref r0), (.int (1 : Int32))])) rfl rfl (hb hby d1_6) _ ?_
    rw [len_of S_1 N_1]
    show Steps p.tables e below (s₁.setTop (mkF m 7 #[.val (.ref r0), .val (.int (0 : Int32)), .val (.int (1 : Int32))] [(.int (3 : Int32)), (.int (1 : Int32))])) _
    refine XS.icmpNo X0.here hx rfl (hb hby d1_7) rfl (tlt (by decide)).2.1 ?_
    show Steps p.tables e below (s₁.setTop (mkF m 10 #[.val (.ref r0), .val (.int (0 : Int32)), .val (.int (1 : Int32))] [])) _
    refine XS.aloadN X0.here hx rfl (hb hby d1_10) rfl rfl ?_
    show Steps p.tables e below (s₁.setTop (mkF m 11 #[.val (.ref r0), .val (.int (0 : Int32)), .val (.int (1 : Int32))] [(.ref r0)])) _
    refine XS.iloadN X0.here hx rfl (hb hby d1_11) rfl ?_
    show Steps p.tables e below (s₁.setTop (mkF m 12 #[.val (.ref r0), .val (.int (0 : Int32)), .val (.int (1 : Int32))] [(.int (1 : Int32)), (.ref r0)])) _
    obtain ⟨cl_2, Ar_2, q_2, S_2, N_2, H_2, G_2⟩ := id Va
    have hin_2 : ¬ ((1 : Int32) < 0 ∨ cl_2.slots.size ≤ ((1 : Int32)).toNatClampNeg) := inb_of S_2 ⟨by decide, by decide⟩
    refine X0.iaload hx (j := (1 : Int32)) (v := (.int v1)) (by rw [e0]; exact Ar_2.1) (State.isArrayOf_alike hZ.alike Ar_2.2.1) Ar_2.2.2 hin_2 (Has.at H_2 hin_2 rfl) (g := (mkF m 12 #[.val (.ref r0), .val (.int (0 : Int32)), .val (.int (1 : Int32))] [(.int (1 : Int32)), (.ref r0)])) rfl rfl (hb hby d1_12) _ ?_
    show Steps p.tables e below (s₁.setTop (mkF m 13 #[.val (.ref r0), .val (.int (0 : Int32)), .val (.int (1 : Int32))] [(.int v1)])) _
    refine XS.aloadN X0.here hx rfl (hb hby d1_13) rfl rfl ?_
    show Steps p.tables e below (s₁.setTop (mkF m 14 #[.val (.ref r0), .val (.int (0 : Int32)), .val (.int (1 : Int32))] [(.ref r0), (.int v1)])) _
    refine XS.iloadN X0.here hx rfl (hb hby d1_14) rfl ?_
    show Steps p.tables e below (s₁.setTop (mkF m 15 #[.val (.ref r0), .val (.int (0 : Int32)), .val (.int (1 : Int32))] [(.int (1 : Int32)), (.ref r0), (.int v1)])) _
    refine XS.iconst X0.here hx rfl (hb hby d1_15) ?_
    show Steps p.tables e below (s₁.setTop (mkF m 16 #[.val (.ref r0), .val (.int (0 : Int32)), .val (.int (1 : Int32))] [(.int (1 : Int32)), (.int (1 : Int32)), (.ref r0), (.int v1)])) _
    refine XS.isub X0.here hx rfl (hb hby d1_16) rfl ?_
    show Steps p.tables e below (s₁.setTop (mkF m 17 #[.val (.ref r0), .val (.int (0 : Int32)), .val (.int (1 : Int32))] [(.int (0 : Int32)), (.ref r0), (.int v1)])) _
    obtain ⟨cl_3, Ar_3, q_3, S_3, N_3, H_3, G_3⟩ := id Va
    have hin_3 : ¬ ((0 : Int32) < 0 ∨ cl_3.slots.size ≤ ((0 : Int32)).toNatClampNeg) := inb_of S_3 ⟨by decide, by decide⟩
    refine X0.iaload hx (j := (0 : Int32)) (v := (.int v0)) (by rw [e0]; exact Ar_3.1) (State.isArrayOf_alike hZ.alike Ar_3.2.1) Ar_3.2.2 hin_3 (Has.at H_3 hin_3 rfl) (g := (mkF m 17 #[.val (.ref r0), .val (.int (0 : Int32)), .val (.int (1 : Int32))] [(.int (0 : Int32)), (.ref r0), (.int v1)])) rfl rfl (hb hby d1_17) _ ?_
    show Steps p.tables e below (s₁.setTop (mkF m 18 #[.val (.ref r0), .val (.int (0 : Int32)), .val (.int (1 : Int32))] [(.int v0), (.int v1)])) _
    by_cases hc18_1 : v1 = v0
    · refine XS.icmpYes X0.here hx rfl (pc0 := 18) (pc' := 24) rfl (hb hby d1_18) rfl (teq hc18_1).1 (by decide) (by decide) ?_
      try simp only [if_pos hc18_1] at k
      exact k
    · refine XS.icmpNo X0.here hx rfl (hb hby d1_18) rfl (feq hc18_1).1 ?_
      show Steps p.tables e below (s₁.setTop (mkF m 21 #[.val (.ref r0), .val (.int (0 : Int32)), .val (.int (1 : Int32))] [])) _
      refine XS.iinc X0.here hx rfl (hb hby d1_21) rfl (l' := #[.val (.ref r0), .val (.int (1 : Int32)), .val (.int (1 : Int32))]) rfl ?_
      try simp only [if_neg hc18_1] at k
      exact k
  have k8 : ∀ t, Steps p.tables e below (s₁.setTop (mkF m 24 #[.val (.ref r0), .val (.int (if v2 = v1 then (if v1 = v0 then (0 : Int32) else (1 : Int32)) else ((if v1 = v0 then (0 : Int32) else (1 : Int32)) + (1 : Int32)))), .val (.int (2 : Int32))] [])) t → Steps p.tables e below (s₁.setTop (entryFrame m #[(.ref r0)] 3)) t := by
    intro t k
    refine k4 _ ?_
    show Steps p.tables e below (s₁.setTop (mkF m 24 #[.val (.ref r0), .val (.int (if v1 = v0 then (0 : Int32) else (1 : Int32))), .val (.int (1 : Int32))] [])) _
    refine XS.iinc X0.here hx rfl (hb hby d1_24) rfl (l' := #[.val (.ref r0), .val (.int (if v1 = v0 then (0 : Int32) else (1 : Int32))), .val (.int (2 : Int32))]) rfl ?_
    show Steps p.tables e below (s₁.setTop (mkF m 27 #[.val (.ref r0), .val (.int (if v1 = v0 then (0 : Int32) else (1 : Int32))), .val (.int (2 : Int32))] [])) _
    refine XS.goto X0.here hx rfl (pc0 := 27) (pc' := 4) rfl (hb hby d1_27) (by decide) (by decide) ?_
    show Steps p.tables e below (s₁.setTop (mkF m 4 #[.val (.ref r0), .val (.int (if v1 = v0 then (0 : Int32) else (1 : Int32))), .val (.int (2 : Int32))] [])) _
    refine XS.iloadN X0.here hx rfl (hb hby d1_4) rfl ?_
    show Steps p.tables e below (s₁.setTop (mkF m 5 #[.val (.ref r0), .val (.int (if v1 = v0 then (0 : Int32) else (1 : Int32))), .val (.int (2 : Int32))] [(.int (2 : Int32))])) _
    refine XS.aloadN X0.here hx rfl (hb hby d1_5) rfl rfl ?_
    show Steps p.tables e below (s₁.setTop (mkF m 6 #[.val (.ref r0), .val (.int (if v1 = v0 then (0 : Int32) else (1 : Int32))), .val (.int (2 : Int32))] [(.ref r0), (.int (2 : Int32))])) _
    obtain ⟨cl_5, Ar_5, -, S_5, N_5, -, -⟩ := id Va
    refine X0.arraylength hx (by rw [e0]; exact Ar_5.1) (State.isArrayOf_alike hZ.alike Ar_5.2.1) (g := (mkF m 6 #[.val (.ref r0), .val (.int (if v1 = v0 then (0 : Int32) else (1 : Int32))), .val (.int (2 : Int32))] [(.ref r0), (.int (2 : Int32))])) rfl rfl (hb hby d1_6) _ ?_
    rw [len_of S_5 N_5]
    show Steps p.tables e below (s₁.setTop (mkF m 7 #[.val (.ref r0), .val (.int (if v1 = v0 then (0 : Int32) else (1 : Int32))), .val (.int (2 : Int32))] [(.int (3 : Int32)), (.int (2 : Int32))])) _
    refine XS.icmpNo X0.here hx rfl (hb hby d1_7) rfl (tlt (by decide)).2.1 ?_
    show Steps p.tables e below (s₁.setTop (mkF m 10 #[.val (.ref r0), .val (.int (if v1 = v0 then (0 : Int32) else (1 : Int32))), .val (.int (2 : Int32))] [])) _
    refine XS.aloadN X0.here hx rfl (hb hby d1_10) rfl rfl ?_
    show Steps p.tables e below (s₁.setTop (mkF m 11 #[.val (.ref r0), .val (.int (if v1 = v0 then (0 : Int32) else (1 : Int32))), .val (.int (2 : Int32))] [(.ref r0)])) _
    refine XS.iloadN X0.here hx rfl (hb hby d1_11) rfl ?_
    show Steps p.tables e below (s₁.setTop (mkF m 12 #[.val (.ref r0), .val (.int (if v1 = v0 then (0 : Int32) else (1 : Int32))), .val (.int (2 : Int32))] [(.int (2 : Int32)), (.ref r0)])) _
    obtain ⟨cl_6, Ar_6, q_6, S_6, N_6, H_6, G_6⟩ := id Va
    have hin_6 : ¬ ((2 : Int32) < 0 ∨ cl_6.slots.size ≤ ((2 : Int32)).toNatClampNeg) := inb_of S_6 ⟨by decide, by decide⟩
    refine X0.iaload hx (j := (2 : Int32)) (v := (.int v2)) (by rw [e0]; exact Ar_6.1) (State.isArrayOf_alike hZ.alike Ar_6.2.1) Ar_6.2.2 hin_6 (Has.at H_6 hin_6 rfl) (g := (mkF m 12 #[.val (.ref r0), .val (.int (if v1 = v0 then (0 : Int32) else (1 : Int32))), .val (.int (2 : Int32))] [(.int (2 : Int32)), (.ref r0)])) rfl rfl (hb hby d1_12) _ ?_
    show Steps p.tables e below (s₁.setTop (mkF m 13 #[.val (.ref r0), .val (.int (if v1 = v0 then (0 : Int32) else (1 : Int32))), .val (.int (2 : Int32))] [(.int v2)])) _
    refine XS.aloadN X0.here hx rfl (hb hby d1_13) rfl rfl ?_
    show Steps p.tables e below (s₁.setTop (mkF m 14 #[.val (.ref r0), .val (.int (if v1 = v0 then (0 : Int32) else (1 : Int32))), .val (.int (2 : Int32))] [(.ref r0), (.int v2)])) _
    refine XS.iloadN X0.here hx rfl (hb hby d1_14) rfl ?_
    show Steps p.tables e below (s₁.setTop (mkF m 15 #[.val (.ref r0), .val (.int (if v1 = v0 then (0 : Int32) else (1 : Int32))), .val (.int (2 : Int32))] [(.int (2 : Int32)), (.ref r0), (.int v2)])) _
    refine XS.iconst X0.here hx rfl (hb hby d1_15) ?_
    show Steps p.tables e below (s₁.setTop (mkF m 16 #[.val (.ref r0), .val (.int (if v1 = v0 then (0 : Int32) else (1 : Int32))), .val (.int (2 : Int32))] [(.int (1 : Int32)), (.int (2 : Int32)), (.ref r0), (.int v2)])) _
    refine XS.isub X0.here hx rfl (hb hby d1_16) rfl ?_
    show Steps p.tables e below (s₁.setTop (mkF m 17 #[.val (.ref r0), .val (.int (if v1 = v0 then (0 : Int32) else (1 : Int32))), .val (.int (2 : Int32))] [(.int (1 : Int32)), (.ref r0), (.int v2)])) _
    obtain ⟨cl_7, Ar_7, q_7, S_7, N_7, H_7, G_7⟩ := id Va
    have hin_7 : ¬ ((1 : Int32) < 0 ∨ cl_7.slots.size ≤ ((1 : Int32)).toNatClampNeg) := inb_of S_7 ⟨by decide, by decide⟩
    refine X0.iaload hx (j := (1 : Int32)) (v := (.int v1)) (by rw [e0]; exact Ar_7.1) (State.isArrayOf_alike hZ.alike Ar_7.2.1) Ar_7.2.2 hin_7 (Has.at H_7 hin_7 rfl) (g := (mkF m 17 #[.val (.ref r0), .val (.int (if v1 = v0 then (0 : Int32) else (1 : Int32))), .val (.int (2 : Int32))] [(.int (1 : Int32)), (.ref r0), (.int v2)])) rfl rfl (hb hby d1_17) _ ?_
    show Steps p.tables e below (s₁.setTop (mkF m 18 #[.val (.ref r0), .val (.int (if v1 = v0 then (0 : Int32) else (1 : Int32))), .val (.int (2 : Int32))] [(.int v1), (.int v2)])) _
    by_cases hc18_2 : v2 = v1
    · refine XS.icmpYes X0.here hx rfl (pc0 := 18) (pc' := 24) rfl (hb hby d1_18) rfl (teq hc18_2).1 (by decide) (by decide) ?_
      try simp only [if_pos hc18_2] at k
      exact k
    · refine XS.icmpNo X0.here hx rfl (hb hby d1_18) rfl (feq hc18_2).1 ?_
      show Steps p.tables e below (s₁.setTop (mkF m 21 #[.val (.ref r0), .val (.int (if v1 = v0 then (0 : Int32) else (1 : Int32))), .val (.int (2 : Int32))] [])) _
      refine XS.iinc X0.here hx rfl (hb hby d1_21) rfl (l' := #[.val (.ref r0), .val (.int ((if v1 = v0 then (0 : Int32) else (1 : Int32)) + (1 : Int32))), .val (.int (2 : Int32))]) rfl ?_
      try simp only [if_neg hc18_2] at k
      exact k
  have k10 : ∀ t, Steps p.tables e below (s₁.setTop (mkF m 31 #[.val (.ref r0), .val (.int (if v2 = v1 then (if v1 = v0 then (0 : Int32) else (1 : Int32)) else ((if v1 = v0 then (0 : Int32) else (1 : Int32)) + (1 : Int32)))), .val (.int (3 : Int32))] [(.int (if v2 = v1 then (if v1 = v0 then (0 : Int32) else (1 : Int32)) else ((if v1 = v0 then (0 : Int32) else (1 : Int32)) + (1 : Int32))))])) t → Steps p.tables e below (s₁.setTop (entryFrame m #[(.ref r0)] 3)) t := by
    intro t k
    refine k8 _ ?_
    show Steps p.tables e below (s₁.setTop (mkF m 24 #[.val (.ref r0), .val (.int (if v2 = v1 then (if v1 = v0 then (0 : Int32) else (1 : Int32)) else ((if v1 = v0 then (0 : Int32) else (1 : Int32)) + (1 : Int32)))), .val (.int (2 : Int32))] [])) _
    refine XS.iinc X0.here hx rfl (hb hby d1_24) rfl (l' := #[.val (.ref r0), .val (.int (if v2 = v1 then (if v1 = v0 then (0 : Int32) else (1 : Int32)) else ((if v1 = v0 then (0 : Int32) else (1 : Int32)) + (1 : Int32)))), .val (.int (3 : Int32))]) rfl ?_
    show Steps p.tables e below (s₁.setTop (mkF m 27 #[.val (.ref r0), .val (.int (if v2 = v1 then (if v1 = v0 then (0 : Int32) else (1 : Int32)) else ((if v1 = v0 then (0 : Int32) else (1 : Int32)) + (1 : Int32)))), .val (.int (3 : Int32))] [])) _
    refine XS.goto X0.here hx rfl (pc0 := 27) (pc' := 4) rfl (hb hby d1_27) (by decide) (by decide) ?_
    show Steps p.tables e below (s₁.setTop (mkF m 4 #[.val (.ref r0), .val (.int (if v2 = v1 then (if v1 = v0 then (0 : Int32) else (1 : Int32)) else ((if v1 = v0 then (0 : Int32) else (1 : Int32)) + (1 : Int32)))), .val (.int (3 : Int32))] [])) _
    refine XS.iloadN X0.here hx rfl (hb hby d1_4) rfl ?_
    show Steps p.tables e below (s₁.setTop (mkF m 5 #[.val (.ref r0), .val (.int (if v2 = v1 then (if v1 = v0 then (0 : Int32) else (1 : Int32)) else ((if v1 = v0 then (0 : Int32) else (1 : Int32)) + (1 : Int32)))), .val (.int (3 : Int32))] [(.int (3 : Int32))])) _
    refine XS.aloadN X0.here hx rfl (hb hby d1_5) rfl rfl ?_
    show Steps p.tables e below (s₁.setTop (mkF m 6 #[.val (.ref r0), .val (.int (if v2 = v1 then (if v1 = v0 then (0 : Int32) else (1 : Int32)) else ((if v1 = v0 then (0 : Int32) else (1 : Int32)) + (1 : Int32)))), .val (.int (3 : Int32))] [(.ref r0), (.int (3 : Int32))])) _
    obtain ⟨cl_9, Ar_9, -, S_9, N_9, -, -⟩ := id Va
    refine X0.arraylength hx (by rw [e0]; exact Ar_9.1) (State.isArrayOf_alike hZ.alike Ar_9.2.1) (g := (mkF m 6 #[.val (.ref r0), .val (.int (if v2 = v1 then (if v1 = v0 then (0 : Int32) else (1 : Int32)) else ((if v1 = v0 then (0 : Int32) else (1 : Int32)) + (1 : Int32)))), .val (.int (3 : Int32))] [(.ref r0), (.int (3 : Int32))])) rfl rfl (hb hby d1_6) _ ?_
    rw [len_of S_9 N_9]
    show Steps p.tables e below (s₁.setTop (mkF m 7 #[.val (.ref r0), .val (.int (if v2 = v1 then (if v1 = v0 then (0 : Int32) else (1 : Int32)) else ((if v1 = v0 then (0 : Int32) else (1 : Int32)) + (1 : Int32)))), .val (.int (3 : Int32))] [(.int (3 : Int32)), (.int (3 : Int32))])) _
    refine XS.icmpYes X0.here hx rfl (pc0 := 7) (pc' := 30) rfl (hb hby d1_7) rfl (flt (by decide)).2.1 (by decide) (by decide) ?_
    show Steps p.tables e below (s₁.setTop (mkF m 30 #[.val (.ref r0), .val (.int (if v2 = v1 then (if v1 = v0 then (0 : Int32) else (1 : Int32)) else ((if v1 = v0 then (0 : Int32) else (1 : Int32)) + (1 : Int32)))), .val (.int (3 : Int32))] [])) _
    refine XS.iloadN X0.here hx rfl (hb hby d1_30) rfl ?_
    exact k
  obtain ⟨fs, hr, hrun, hended, hW, hsame⟩ := X0.leave (v := some (.int (if v2 = v1 then (if v1 = v0 then (0 : Int32) else (1 : Int32)) else ((if v1 = v0 then (0 : Int32) else (1 : Int32)) + (1 : Int32))))) (fun h => by rw [Bd.returns] at h; cases h)
  refine ⟨_, _, k10 _ ?_, hrun, hended, _, _, rfl, ?_, ⟨_, rfl⟩, hW, hsame.mono (by decide) (by decide)⟩
  · exact retOut X0 hx Bd.returns rfl (Or.inl ⟨rfl, Or.inl rfl, _, rfl⟩) (hb hby d1_31) hr
  · show own_Q (some (.int (own_chg3 v0 v1 v2))) h0 n0 _ s₁.heap _
    rw [e0]
    exact ⟨rfl, N0, rfl⟩
theorem ef_rmC4 (m : MethodId) (x0 : Addr) : entryFrame m #[(.ref x0)] 3 = mkF m 0 #[.val (.ref x0), .unset, .unset] [] := by first | (simp [entryFrame, mkF, argsToLocals, Value.category]; done) | rfl
def own_chg4 (v0 v1 v2 v3 : Int32) : Int32 := (if v3 = v2 then (if v2 = v1 then (if v1 = v0 then (0 : Int32) else (1 : Int32)) else ((if v1 = v0 then (0 : Int32) else (1 : Int32)) + (1 : Int32))) else ((if v2 = v1 then (if v1 = v0 then (0 : Int32) else (1 : Int32)) else ((if v1 = v0 then (0 : Int32) else (1 : Int32)) + (1 : Int32))) + (1 : Int32)))
set_option maxRecDepth 65536 in
set_option maxHeartbeats 40000000 in
theorem rmC4 (l : Launch) (Z : State) (a0 : Array Value) (hw : ∀ d ∈ tables_1, d.before a0 Z = true) (ws : List Jvm.Cond) (r0 : Addr) (ck : ClassId) (v0 v1 v2 v3 : Int32) (h0 : Heap) (n0 : Nat) (Va : Arv Z h0 r0 ck .int (4 : Int32) [(.int v0), (.int v1), (.int v2), (.int v3)] (.int (0 : Int32))) :
    MetFree l (⟨"com/example/lightloom/lightloom/plan/Lightpath", "changes", "([I)I"⟩ : MethodName) (head1 (Jvm.Cond.code (⟨"com/example/lightloom/lightloom/plan/Lightpath", "changes", "([I)I"⟩ : MethodName) prog_31_method_13_code 3 (some .int) :: ws) ({ frames := 0, cells := 0, slots := 0, locals := 0 } : Room)) (fun a U => a = #[(.ref r0)] ∧ Z.Warmed39 U.vm ∧ U.heap = h0) (fun _ _ _ _ _ => True) (fun _ U o U' => ∃ v L, o = .returned v ∧ own_Q (some (.int (own_chg4 v0 v1 v2 v3))) h0 n0 v U'.heap L ∧ FrameEnd U o U' L ({ frames := 0, cells := 0, slots := 0, locals := 0 } : Room).cells ({ frames := 0, cells := 0, slots := 0, locals := 0 } : Room).slots) := by
  refine MetFree.of_bodySF (plainFor_of_name pn_1) hisR ?_
  intro p e s m args below meth c s₁ Bd hml0 hP hK
  obtain ⟨rfl, hZ, hh⟩ := hP
  have hx := Bd.exec
  have hby := Bd.bytes
  have hml : c.maxLocals = 3 := hml0
  have hown : s.vm.findClass "com/example/lightloom/lightloom/plan/Lightpath" = some m.cls := findClass_of_methodNamed Bd.named
  have hnm := (name_of_methodNamed Bd.named Bd.method).1
  have X0 : Stand p l e ({ frames := 0, cells := 0, slots := 0, locals := 0 } : Room) s m #[(.ref r0)] below meth c s₁ [] 0 0 := Stand.of_body Bd
  have e0 : s₁.heap = h0 := by rw [← hh, Bd.state]; rfl
  have N0 := Fr.nil n0
  have pre0 : ∀ t, Steps p.tables e below (s₁.setTop (mkF m 0 #[.val (.ref r0), .unset, .unset] [])) t → Steps p.tables e below (s₁.setTop (entryFrame m #[(.ref r0)] 3)) t := fun t k => castTop (ef_rmC4 m r0) k
  have k4 : ∀ t, Steps p.tables e below (s₁.setTop (mkF m 24 #[.val (.ref r0), .val (.int (if v1 = v0 then (0 : Int32) else (1 : Int32))), .val (.int (1 : Int32))] [])) t → Steps p.tables e below (s₁.setTop (entryFrame m #[(.ref r0)] 3)) t := by
    intro t k
    refine pre0 _ ?_
    show Steps p.tables e below (s₁.setTop (mkF m 0 #[.val (.ref r0), .unset, .unset] [])) _
    refine XS.iconst X0.here hx rfl (hb hby d1_0) ?_
    show Steps p.tables e below (s₁.setTop (mkF m 1 #[.val (.ref r0), .unset, .unset] [(.int (0 : Int32))])) _
    refine XS.istoreN X0.here hx rfl (hb hby d1_1) rfl (l' := #[.val (.ref r0), .val (.int (0 : Int32)), .unset]) rfl ?_
    show Steps p.tables e below (s₁.setTop (mkF m 2 #[.val (.ref r0), .val (.int (0 : Int32)), .unset] [])) _
    refine XS.iconst X0.here hx rfl (hb hby d1_2) ?_
    show Steps p.tables e below (s₁.setTop (mkF m 3 #[.val (.ref r0), .val (.int (0 : Int32)), .unset] [(.int (1 : Int32))])) _
    refine XS.istoreN X0.here hx rfl (hb hby d1_3) rfl (l' := #[.val (.ref r0), .val (.int (0 : Int32)), .val (.int (1 : Int32))]) rfl ?_
    show Steps p.tables e below (s₁.setTop (mkF m 4 #[.val (.ref r0), .val (.int (0 : Int32)), .val (.int (1 : Int32))] [])) _
    refine XS.iloadN X0.here hx rfl (hb hby d1_4) rfl ?_
    show Steps p.tables e below (s₁.setTop (mkF m 5 #[.val (.ref r0), .val (.int (0 : Int32)), .val (.int (1 : Int32))] [(.int (1 : Int32))])) _
    refine XS.aloadN X0.here hx rfl (hb hby d1_5) rfl rfl ?_
    show Steps p.tables e below (s₁.setTop (mkF m 6 #[.val (.ref r0), .val (.int (0 : Int32)), .val (.int (1 : Int32))] [(.ref r0), (.int (1 : Int32))])) _
    obtain ⟨cl_1, Ar_1, -, S_1, N_1, -, -⟩ := id Va
    refine X0.arraylength hx (by rw [e0]; exact Ar_1.1) (State.isArrayOf_alike hZ.alike Ar_1.2.1) (g := (mkF m 6 #[.val (.ref r0), .val (.int (0 : Int32)), .val (.int (1 : Int32))] [(.ref r0), (.int (1 : Int32))])) rfl rfl (hb hby d1_6) _ ?_
    rw [len_of S_1 N_1]
    show Steps p.tables e below (s₁.setTop (mkF m 7 #[.val (.ref r0), .val (.int (0 : Int32)), .val (.int (1 : Int32))] [(.int (4 : Int32)), (.int (1 : Int32))])) _
    refine XS.icmpNo X0.here hx rfl (hb hby d1_7) rfl (tlt (by decide)).2.1 ?_
    show Steps p.tables e below (s₁.setTop (mkF m 10 #[.val (.ref r0), .val (.int (0 : Int32)), .val (.int (1 : Int32))] [])) _
    refine XS.aloadN X0.here hx rfl (hb hby d1_10) rfl rfl ?_
    show Steps p.tables e below (s₁.setTop (mkF m 11 #[.val (.ref r0), .val (.int (0 : Int32)), .val (.int (1 : Int32))] [(.ref r0)])) _
    refine XS.iloadN X0.here hx rfl (hb hby d1_11) rfl ?_
    show Steps p.tables e below (s₁.setTop (mkF m 12 #[.val (.ref r0), .val (.int (0 : Int32)), .val (.int (1 : Int32))] [(.int (1 : Int32)), (.ref r0)])) _
    obtain ⟨cl_2, Ar_2, q_2, S_2, N_2, H_2, G_2⟩ := id Va
    have hin_2 : ¬ ((1 : Int32) < 0 ∨ cl_2.slots.size ≤ ((1 : Int32)).toNatClampNeg) := inb_of S_2 ⟨by decide, by decide⟩
    refine X0.iaload hx (j := (1 : Int32)) (v := (.int v1)) (by rw [e0]; exact Ar_2.1) (State.isArrayOf_alike hZ.alike Ar_2.2.1) Ar_2.2.2 hin_2 (Has.at H_2 hin_2 rfl) (g := (mkF m 12 #[.val (.ref r0), .val (.int (0 : Int32)), .val (.int (1 : Int32))] [(.int (1 : Int32)), (.ref r0)])) rfl rfl (hb hby d1_12) _ ?_
    show Steps p.tables e below (s₁.setTop (mkF m 13 #[.val (.ref r0), .val (.int (0 : Int32)), .val (.int (1 : Int32))] [(.int v1)])) _
    refine XS.aloadN X0.here hx rfl (hb hby d1_13) rfl rfl ?_
    show Steps p.tables e below (s₁.setTop (mkF m 14 #[.val (.ref r0), .val (.int (0 : Int32)), .val (.int (1 : Int32))] [(.ref r0), (.int v1)])) _
    refine XS.iloadN X0.here hx rfl (hb hby d1_14) rfl ?_
    show Steps p.tables e below (s₁.setTop (mkF m 15 #[.val (.ref r0), .val (.int (0 : Int32)), .val (.int (1 : Int32))] [(.int (1 : Int32)), (.ref r0), (.int v1)])) _
    refine XS.iconst X0.here hx rfl (hb hby d1_15) ?_
    show Steps p.tables e below (s₁.setTop (mkF m 16 #[.val (.ref r0), .val (.int (0 : Int32)), .val (.int (1 : Int32))] [(.int (1 : Int32)), (.int (1 : Int32)), (.ref r0), (.int v1)])) _
    refine XS.isub X0.here hx rfl (hb hby d1_16) rfl ?_
    show Steps p.tables e below (s₁.setTop (mkF m 17 #[.val (.ref r0), .val (.int (0 : Int32)), .val (.int (1 : Int32))] [(.int (0 : Int32)), (.ref r0), (.int v1)])) _
    obtain ⟨cl_3, Ar_3, q_3, S_3, N_3, H_3, G_3⟩ := id Va
    have hin_3 : ¬ ((0 : Int32) < 0 ∨ cl_3.slots.size ≤ ((0 : Int32)).toNatClampNeg) := inb_of S_3 ⟨by decide, by decide⟩
    refine X0.iaload hx (j := (0 : Int32)) (v := (.int v0)) (by rw [e0]; exact Ar_3.1) (State.isArrayOf_alike hZ.alike Ar_3.2.1) Ar_3.2.2 hin_3 (Has.at H_3 hin_3 rfl) (g := (mkF m 17 #[.val (.ref r0), .val (.int (0 : Int32)), .val (.int (1 : Int32))] [(.int (0 : Int32)), (.ref r0), (.int v1)])) rfl rfl (hb hby d1_17) _ ?_
    show Steps p.tables e below (s₁.setTop (mkF m 18 #[.val (.ref r0), .val (.int (0 : Int32)), .val (.int (1 : Int32))] [(.int v0), (.int v1)])) _
    by_cases hc18_1 : v1 = v0
    · refine XS.icmpYes X0.here hx rfl (pc0 := 18) (pc' := 24) rfl (hb hby d1_18) rfl (teq hc18_1).1 (by decide) (by decide) ?_
      try simp only [if_pos hc18_1] at k
      exact k
    · refine XS.icmpNo X0.here hx rfl (hb hby d1_18) rfl (feq hc18_1).1 ?_
      show Steps p.tables e below (s₁.setTop (mkF m 21 #[.val (.ref r0), .val (.int (0 : Int32)), .val (.int (1 : Int32))] [])) _
      refine XS.iinc X0.here hx rfl (hb hby d1_21) rfl (l' := #[.val (.ref r0), .val (.int (1 : Int32)), .val (.int (1 : Int32))]) rfl ?_
      try simp only [if_neg hc18_1] at k
      exact k
  have k8 : ∀ t, Steps p.tables e below (s₁.setTop (mkF m 24 #[.val (.ref r0), .val (.int (if v2 = v1 then (if v1 = v0 then (0 : Int32) else (1 : Int32)) else ((if v1 = v0 then (0 : Int32) else (1 : Int32)) + (1 : Int32)))), .val (.int (2 : Int32))] [])) t → Steps p.tables e below (s₁.setTop (entryFrame m #[(.ref r0)] 3)) t := by
    intro t k
    refine k4 _ ?_
    show Steps p.tables e below (s₁.setTop (mkF m 24 #[.val (.ref r0), .val (.int (if v1 = v0 then (0 : Int32) else (1 : Int32))), .val (.int (1 : Int32))] [])) _
    refine XS.iinc X0.here hx rfl (hb hby d1_24) rfl (l' := #[.val (.ref r0), .val (.int (if v1 = v0 then (0 : Int32) else (1 : Int32))), .val (.int (2 : Int32))]) rfl ?_
    show Steps p.tables e below (s₁.setTop (mkF m 27 #[.val (.ref r0), .val (.int (if v1 = v0 then (0 : Int32) else (1 : Int32))), .val (.int (2 : Int32))] [])) _
    refine XS.goto X0.here hx rfl (pc0 := 27) (pc' := 4) rfl (hb hby d1_27) (by decide) (by decide) ?_
    show Steps p.tables e below (s₁.setTop (mkF m 4 #[.val (.ref r0), .val (.int (if v1 = v0 then (0 : Int32) else (1 : Int32))), .val (.int (2 : Int32))] [])) _
    refine XS.iloadN X0.here hx rfl (hb hby d1_4) rfl ?_
    show Steps p.tables e below (s₁.setTop (mkF m 5 #[.val (.ref r0), .val (.int (if v1 = v0 then (0 : Int32) else (1 : Int32))), .val (.int (2 : Int32))] [(.int (2 : Int32))])) _
    refine XS.aloadN X0.here hx rfl (hb hby d1_5) rfl rfl ?_
    show Steps p.tables e below (s₁.setTop (mkF m 6 #[.val (.ref r0), .val (.int (if v1 = v0 then (0 : Int32) else (1 : Int32))), .val (.int (2 : Int32))] [(.ref r0), (.int (2 : Int32))])) _
    obtain ⟨cl_5, Ar_5, -, S_5, N_5, -, -⟩ := id Va
    refine X0.arraylength hx (by rw [e0]; exact Ar_5.1) (State.isArrayOf_alike hZ.alike Ar_5.2.1) (g := (mkF m 6 #[.val (.ref r0), .val (.int (if v1 = v0 then (0 : Int32) else (1 : Int32))), .val (.int (2 : Int32))] [(.ref r0), (.int (2 : Int32))])) rfl rfl (hb hby d1_6) _ ?_
    rw [len_of S_5 N_5]
    show Steps p.tables e below (s₁.setTop (mkF m 7 #[.val (.ref r0), .val (.int (if v1 = v0 then (0 : Int32) else (1 : Int32))), .val (.int (2 : Int32))] [(.int (4 : Int32)), (.int (2 : Int32))])) _
    refine XS.icmpNo X0.here hx rfl (hb hby d1_7) rfl (tlt (by decide)).2.1 ?_
    show Steps p.tables e below (s₁.setTop (mkF m 10 #[.val (.ref r0), .val (.int (if v1 = v0 then (0 : Int32) else (1 : Int32))), .val (.int (2 : Int32))] [])) _
    refine XS.aloadN X0.here hx rfl (hb hby d1_10) rfl rfl ?_
    show Steps p.tables e below (s₁.setTop (mkF m 11 #[.val (.ref r0), .val (.int (if v1 = v0 then (0 : Int32) else (1 : Int32))), .val (.int (2 : Int32))] [(.ref r0)])) _
    refine XS.iloadN X0.here hx rfl (hb hby d1_11) rfl ?_
    show Steps p.tables e below (s₁.setTop (mkF m 12 #[.val (.ref r0), .val (.int (if v1 = v0 then (0 : Int32) else (1 : Int32))), .val (.int (2 : Int32))] [(.int (2 : Int32)), (.ref r0)])) _
    obtain ⟨cl_6, Ar_6, q_6, S_6, N_6, H_6, G_6⟩ := id Va
    have hin_6 : ¬ ((2 : Int32) < 0 ∨ cl_6.slots.size ≤ ((2 : Int32)).toNatClampNeg) := inb_of S_6 ⟨by decide, by decide⟩
    refine X0.iaload hx (j := (2 : Int32)) (v := (.int v2)) (by rw [e0]; exact Ar_6.1) (State.isArrayOf_alike hZ.alike Ar_6.2.1) Ar_6.2.2 hin_6 (Has.at H_6 hin_6 rfl) (g := (mkF m 12 #[.val (.ref r0), .val (.int (if v1 = v0 then (0 : Int32) else (1 : Int32))), .val (.int (2 : Int32))] [(.int (2 : Int32)), (.ref r0)])) rfl rfl (hb hby d1_12) _ ?_
    show Steps p.tables e below (s₁.setTop (mkF m 13 #[.val (.ref r0), .val (.int (if v1 = v0 then (0 : Int32) else (1 : Int32))), .val (.int (2 : Int32))] [(.int v2)])) _
    refine XS.aloadN X0.here hx rfl (hb hby d1_13) rfl rfl ?_
    show Steps p.tables e below (s₁.setTop (mkF m 14 #[.val (.ref r0), .val (.int (if v1 = v0 then (0 : Int32) else (1 : Int32))), .val (.int (2 : Int32))] [(.ref r0), (.int v2)])) _
    refine XS.iloadN X0.here hx rfl (hb hby d1_14) rfl ?_
    show Steps p.tables e below (s₁.setTop (mkF m 15 #[.val (.ref r0), .val (.int (if v1 = v0 then (0 : Int32) else (1 : Int32))), .val (.int (2 : Int32))] [(.int (2 : Int32)), (.ref r0), (.int v2)])) _
    refine XS.iconst X0.here hx rfl (hb hby d1_15) ?_
    show Steps p.tables e below (s₁.setTop (mkF m 16 #[.val (.ref r0), .val (.int (if v1 = v0 then (0 : Int32) else (1 : Int32))), .val (.int (2 : Int32))] [(.int (1 : Int32)), (.int (2 : Int32)), (.ref r0), (.int v2)])) _
    refine XS.isub X0.here hx rfl (hb hby d1_16) rfl ?_
    show Steps p.tables e below (s₁.setTop (mkF m 17 #[.val (.ref r0), .val (.int (if v1 = v0 then (0 : Int32) else (1 : Int32))), .val (.int (2 : Int32))] [(.int (1 : Int32)), (.ref r0), (.int v2)])) _
    obtain ⟨cl_7, Ar_7, q_7, S_7, N_7, H_7, G_7⟩ := id Va
    have hin_7 : ¬ ((1 : Int32) < 0 ∨ cl_7.slots.size ≤ ((1 : Int32)).toNatClampNeg) := inb_of S_7 ⟨by decide, by decide⟩
    refine X0.iaload hx (j := (1 : Int32)) (v := (.int v1)) (by rw [e0]; exact Ar_7.1) (State.isArrayOf_alike hZ.alike Ar_7.2.1) Ar_7.2.2 hin_7 (Has.at H_7 hin_7 rfl) (g := (mkF m 17 #[.val (.ref r0), .val (.int (if v1 = v0 then (0 : Int32) else (1 : Int32))), .val (.int (2 : Int32))] [(.int (1 : Int32)), (.ref r0), (.int v2)])) rfl rfl (hb hby d1_17) _ ?_
    show Steps p.tables e below (s₁.setTop (mkF m 18 #[.val (.ref r0), .val (.int (if v1 = v0 then (0 : Int32) else (1 : Int32))), .val (.int (2 : Int32))] [(.int v1), (.int v2)])) _
    by_cases hc18_2 : v2 = v1
    · refine XS.icmpYes X0.here hx rfl (pc0 := 18) (pc' := 24) rfl (hb hby d1_18) rfl (teq hc18_2).1 (by decide) (by decide) ?_
      try simp only [if_pos hc18_2] at k
      exact k
    · refine XS.icmpNo X0.here hx rfl (hb hby d1_18) rfl (feq hc18_2).1 ?_
      show Steps p.tables e below (s₁.setTop (mkF m 21 #[.val (.ref r0), .val (.int (if v1 = v0 then (0 : Int32) else (1 : Int32))), .val (.int (2 : Int32))] [])) _
      refine XS.iinc X0.here hx rfl (hb hby d1_21) rfl (l' := #[.val (.ref r0), .val (.int ((if v1 = v0 then (0 : Int32) else (1 : Int32)) + (1 : Int32))), .val (.int (2 : Int32))]) rfl ?_
      try simp only [if_neg hc18_2] at k
      exact k
  have k12 : ∀ t, Steps p.tables e below (s₁.setTop (mkF m 24 #[.val (.ref r0), .val (.int (if v3 = v2 then (if v2 = v1 then (if v1 = v0 then (0 : Int32) else (1 : Int32)) else ((if v1 = v0 then (0 : Int32) else (1 : Int32)) + (1 : Int32))) else ((if v2 = v1 then (if v1 = v0 then (0 : Int32) else (1 : Int32)) else ((if v1 = v0 then (0 : Int32) else (1 : Int32)) + (1 : Int32))) + (1 : Int32)))), .val (.int (3 : Int32))] [])) t → Steps p.tables e below (s₁.setTop (entryFrame m #[(.ref r0)] 3)) t := by
    intro t k
    refine k8 _ ?_
    show Steps p.tables e below (s₁.setTop (mkF m 24 #[.val (.ref r0), .val (.int (if v2 = v1 then (if v1 = v0 then (0 : Int32) else (1 : Int32)) else ((if v1 = v0 then (0 : Int32) else (1 : Int32)) + (1 : Int32)))), .val (.int (2 : Int32))] [])) _
    refine XS.iinc X0.here hx rfl (hb hby d1_24) rfl (l' := #[.val (.ref r0), .val (.int (if v2 = v1 then (if v1 = v0 then (0 : Int32) else (1 : Int32)) else ((if v1 = v0 then (0 : Int32) else (1 : Int32)) + (1 : Int32)))), .val (.int (3 : Int32))]) rfl ?_
    show Steps p.tables e below (s₁.setTop (mkF m 27 #[.val (.ref r0), .val (.int (if v2 = v1 then (if v1 = v0 then (0 : Int32) else (1 : Int32)) else ((if v1 = v0 then (0 : Int32) else (1 : Int32)) + (1 : Int32)))), .val (.int (3 : Int32))] [])) _
    refine XS.goto X0.here hx rfl (pc0 := 27) (pc' := 4) rfl (hb hby d1_27) (by decide) (by decide) ?_
    show Steps p.tables e below (s₁.setTop (mkF m 4 #[.val (.ref r0), .val (.int (if v2 = v1 then (if v1 = v0 then (0 : Int32) else (1 : Int32)) else ((if v1 = v0 then (0 : Int32) else (1 : Int32)) + (1 : Int32)))), .val (.int (3 : Int32))] [])) _
    refine XS.iloadN X0.here hx rfl (hb hby d1_4) rfl ?_
    show Steps p.tables e below (s₁.setTop (mkF m 5 #[.val (.ref r0), .val (.int (if v2 = v1 then (if v1 = v0 then (0 : Int32) else (1 : Int32)) else ((if v1 = v0 then (0 : Int32) else (1 : Int32)) + (1 : Int32)))), .val (.int (3 : Int32))] [(.int (3 : Int32))])) _
    refine XS.aloadN X0.here hx rfl (hb hby d1_5) rfl rfl ?_
    show Steps p.tables e below (s₁.setTop (mkF m 6 #[.val (.ref r0), .val (.int (if v2 = v1 then (if v1 = v0 then (0 : Int32) else (1 : Int32)) else ((if v1 = v0 then (0 : Int32) else (1 : Int32)) + (1 : Int32)))), .val (.int (3 : Int32))] [(.ref r0), (.int (3 : Int32))])) _
    obtain ⟨cl_9, Ar_9, -, S_9, N_9, -, -⟩ := id Va
    refine X0.arraylength hx (by rw [e0]; exact Ar_9.1) (State.isArrayOf_alike hZ.alike Ar_9.2.1) (g := (mkF m 6 #[.val (.ref r0), .val (.int (if v2 = v1 then (if v1 = v0 then (0 : Int32) else (1 : Int32)) else ((if v1 = v0 then (0 : Int32) else (1 : Int32)) + (1 : Int32)))), .val (.int (3 : Int32))] [(.ref r0), (.int (3 : Int32))])) rfl rfl (hb hby d1_6) _ ?_
    rw [len_of S_9 N_9]
    show Steps p.tables e below (s₁.setTop (mkF m 7 #[.val (.ref r0), .val (.int (if v2 = v1 then (if v1 = v0 then (0 : Int32) else (1 : Int32)) else ((if v1 = v0 then (0 : Int32) else (1 : Int32)) + (1 : Int32)))), .val (.int (3 : Int32))] [(.int (4 : Int32)), (.int (3 : Int32))])) _
    refine XS.icmpNo X0.here hx rfl (hb hby d1_7) rfl (tlt (by decide)).2.1 ?_
    show Steps p.tables e below (s₁.setTop (mkF m 10 #[.val (.ref r0), .val (.int (if v2 = v1 then (if v1 = v0 then (0 : Int32) else (1 : Int32)) else ((if v1 = v0 then (0 : Int32) else (1 : Int32)) + (1 : Int32)))), .val (.int (3 : Int32))] [])) _
    refine XS.aloadN X0.here hx rfl (hb hby d1_10) rfl rfl ?_
    show Steps p.tables e below (s₁.setTop (mkF m 11 #[.val (.ref r0), .val (.int (if v2 = v1 then (if v1 = v0 then (0 : Int32) else (1 : Int32)) else ((if v1 = v0 then (0 : Int32) else (1 : Int32)) + (1 : Int32)))), .val (.int (3 : Int32))] [(.ref r0)])) _
    refine XS.iloadN X0.here hx rfl (hb hby d1_11) rfl ?_
    show Steps p.tables e below (s₁.setTop (mkF m 12 #[.val (.ref r0), .val (.int (if v2 = v1 then (if v1 = v0 then (0 : Int32) else (1 : Int32)) else ((if v1 = v0 then (0 : Int32) else (1 : Int32)) + (1 : Int32)))), .val (.int (3 : Int32))] [(.int (3 : Int32)), (.ref r0)])) _
    obtain ⟨cl_10, Ar_10, q_10, S_10, N_10, H_10, G_10⟩ := id Va
    have hin_10 : ¬ ((3 : Int32) < 0 ∨ cl_10.slots.size ≤ ((3 : Int32)).toNatClampNeg) := inb_of S_10 ⟨by decide, by decide⟩
    refine X0.iaload hx (j := (3 : Int32)) (v := (.int v3)) (by rw [e0]; exact Ar_10.1) (State.isArrayOf_alike hZ.alike Ar_10.2.1) Ar_10.2.2 hin_10 (Has.at H_10 hin_10 rfl) (g := (mkF m 12 #[.val (.ref r0), .val (.int (if v2 = v1 then (if v1 = v0 then (0 : Int32) else (1 : Int32)) else ((if v1 = v0 then (0 : Int32) else (1 : Int32)) + (1 : Int32)))), .val (.int (3 : Int32))] [(.int (3 : Int32)), (.ref r0)])) rfl rfl (hb hby d1_12) _ ?_
    show Steps p.tables e below (s₁.setTop (mkF m 13 #[.val (.ref r0), .val (.int (if v2 = v1 then (if v1 = v0 then (0 : Int32) else (1 : Int32)) else ((if v1 = v0 then (0 : Int32) else (1 : Int32)) + (1 : Int32)))), .val (.int (3 : Int32))] [(.int v3)])) _
    refine XS.aloadN X0.here hx rfl (hb hby d1_13) rfl rfl ?_
    show Steps p.tables e below (s₁.setTop (mkF m 14 #[.val (.ref r0), .val (.int (if v2 = v1 then (if v1 = v0 then (0 : Int32) else (1 : Int32)) else ((if v1 = v0 then (0 : Int32) else (1 : Int32)) + (1 : Int32)))), .val (.int (3 : Int32))] [(.ref r0), (.int v3)])) _
    refine XS.iloadN X0.here hx rfl (hb hby d1_14) rfl ?_
    show Steps p.tables e below (s₁.setTop (mkF m 15 #[.val (.ref r0), .val (.int (if v2 = v1 then (if v1 = v0 then (0 : Int32) else (1 : Int32)) else ((if v1 = v0 then (0 : Int32) else (1 : Int32)) + (1 : Int32)))), .val (.int (3 : Int32))] [(.int (3 : Int32)), (.ref r0), (.int v3)])) _
    refine XS.iconst X0.here hx rfl (hb hby d1_15) ?_
    show Steps p.tables e below (s₁.setTop (mkF m 16 #[.val (.ref r0), .val (.int (if v2 = v1 then (if v1 = v0 then (0 : Int32) else (1 : Int32)) else ((if v1 = v0 then (0 : Int32) else (1 : Int32)) + (1 : Int32)))), .val (.int (3 : Int32))] [(.int (1 : Int32)), (.int (3 : Int32)), (.ref r0), (.int v3)])) _
    refine XS.isub X0.here hx rfl (hb hby d1_16) rfl ?_
    show Steps p.tables e below (s₁.setTop (mkF m 17 #[.val (.ref r0), .val (.int (if v2 = v1 then (if v1 = v0 then (0 : Int32) else (1 : Int32)) else ((if v1 = v0 then (0 : Int32) else (1 : Int32)) + (1 : Int32)))), .val (.int (3 : Int32))] [(.int (2 : Int32)), (.ref r0), (.int v3)])) _
    obtain ⟨cl_11, Ar_11, q_11, S_11, N_11, H_11, G_11⟩ := id Va
    have hin_11 : ¬ ((2 : Int32) < 0 ∨ cl_11.slots.size ≤ ((2 : Int32)).toNatClampNeg) := inb_of S_11 ⟨by decide, by decide⟩
    refine X0.iaload hx (j := (2 : Int32)) (v := (.int v2)) (by rw [e0]; exact Ar_11.1) (State.isArrayOf_alike hZ.alike Ar_11.2.1) Ar_11.2.2 hin_11 (Has.at H_11 hin_11 rfl) (g := (mkF m 17 #[.val (.ref r0), .val (.int (if v2 = v1 then (if v1 = v0 then (0 : Int32) else (1 : Int32)) else ((if v1 = v0 then (0 : Int32) else (1 : Int32)) + (1 : Int32)))), .val (.int (3 : Int32))] [(.int (2 : Int32)), (.ref r0), (.int v3)])) rfl rfl (hb hby d1_17) _ ?_
    show Steps p.tables e below (s₁.setTop (mkF m 18 #[.val (.ref r0), .val (.int (if v2 = v1 then (if v1 = v0 then (0 : Int32) else (1 : Int32)) else ((if v1 = v0 then (0 : Int32) else (1 : Int32)) + (1 : Int32)))), .val (.int (3 : Int32))] [(.int v2), (.int v3)])) _
    by_cases hc18_3 : v3 = v2
    · refine XS.icmpYes X0.here hx rfl (pc0 := 18) (pc' := 24) rfl (hb hby d1_18) rfl (teq hc18_3).1 (by decide) (by decide) ?_
      try simp only [if_pos hc18_3] at k
      exact k
    · refine XS.icmpNo X0.here hx rfl (hb hby d1_18) rfl (feq hc18_3).1 ?_
      show Steps p.tables e below (s₁.setTop (mkF m 21 #[.val (.ref r0), .val (.int (if v2 = v1 then (if v1 = v0 then (0 : Int32) else (1 : Int32)) else ((if v1 = v0 then (0 : Int32) else (1 : Int32)) + (1 : Int32)))), .val (.int (3 : Int32))] [])) _
      refine XS.iinc X0.here hx rfl (hb hby d1_21) rfl (l' := #[.val (.ref r0), .val (.int ((if v2 = v1 then (if v1 = v0 then (0 : Int32) else (1 : Int32)) else ((if v1 = v0 then (0 : Int32) else (1 : Int32)) + (1 : Int32))) + (1 : Int32))), .val (.int (3 : Int32))]) rfl ?_
      try simp only [if_neg hc18_3] at k
      exact k
  have k14 : ∀ t, Steps p.tables e below (s₁.setTop (mkF m 31 #[.val (.ref r0), .val (.int (if v3 = v2 then (if v2 = v1 then (if v1 = v0 then (0 : Int32) else (1 : Int32)) else ((if v1 = v0 then (0 : Int32) else (1 : Int32)) + (1 : Int32))) else ((if v2 = v1 then (if v1 = v0 then (0 : Int32) else (1 : Int32)) else ((if v1 = v0 then (0 : Int32) else (1 : Int32)) + (1 : Int32))) + (1 : Int32)))), .val (.int (4 : Int32))] [(.int (if v3 = v2 then (if v2 = v1 then (if v1 = v0 then (0 : Int32) else (1 : Int32)) else ((if v1 = v0 then (0 : Int32) else (1 : Int32)) + (1 : Int32))) else ((if v2 = v1 then (if v1 = v0 then (0 : Int32) else (1 : Int32)) else ((if v1 = v0 then (0 : Int32) else (1 : Int32)) + (1 : Int32))) + (1 : Int32))))])) t → Steps p.tables e below (s₁.setTop (entryFrame m #[(.ref r0)] 3)) t := by
    intro t k
    refine k12 _ ?_
    show Steps p.tables e below (s₁.setTop (mkF m 24 #[.val (.ref r0), .val (.int (if v3 = v2 then (if v2 = v1 then (if v1 = v0 then (0 : Int32) else (1 : Int32)) else ((if v1 = v0 then (0 : Int32) else (1 : Int32)) + (1 : Int32))) else ((if v2 = v1 then (if v1 = v0 then (0 : Int32) else (1 : Int32)) else ((if v1 = v0 then (0 : Int32) else (1 : Int32)) + (1 : Int32))) + (1 : Int32)))), .val (.int (3 : Int32))] [])) _
    refine XS.iinc X0.here hx rfl (hb hby d1_24) rfl (l' := #[.val (.ref r0), .val (.int (if v3 = v2 then (if v2 = v1 then (if v1 = v0 then (0 : Int32) else (1 : Int32)) else ((if v1 = v0 then (0 : Int32) else (1 : Int32)) + (1 : Int32))) else ((if v2 = v1 then (if v1 = v0 then (0 : Int32) else (1 : Int32)) else ((if v1 = v0 then (0 : Int32) else (1 : Int32)) + (1 : Int32))) + (1 : Int32)))), .val (.int (4 : Int32))]) rfl ?_
    show Steps p.tables e below (s₁.setTop (mkF m 27 #[.val (.ref r0), .val (.int (if v3 = v2 then (if v2 = v1 then (if v1 = v0 then (0 : Int32) else (1 : Int32)) else ((if v1 = v0 then (0 : Int32) else (1 : Int32)) + (1 : Int32))) else ((if v2 = v1 then (if v1 = v0 then (0 : Int32) else (1 : Int32)) else ((if v1 = v0 then (0 : Int32) else (1 : Int32)) + (1 : Int32))) + (1 : Int32)))), .val (.int (4 : Int32))] [])) _
    refine XS.goto X0.here hx rfl (pc0 := 27) (pc' := 4) rfl (hb hby d1_27) (by decide) (by decide) ?_
    show Steps p.tables e below (s₁.setTop (mkF m 4 #[.val (.ref r0), .val (.int (if v3 = v2 then (if v2 = v1 then (if v1 = v0 then (0 : Int32) else (1 : Int32)) else ((if v1 = v0 then (0 : Int32) else (1 : Int32)) + (1 : Int32))) else ((if v2 = v1 then (if v1 = v0 then (0 : Int32) else (1 : Int32)) else ((if v1 = v0 then (0 : Int32) else (1 : Int32)) + (1 : Int32))) + (1 : Int32)))), .val (.int (4 : Int32))] [])) _
    refine XS.iloadN X0.here hx rfl (hb hby d1_4) rfl ?_
    show Steps p.tables e below (s₁.setTop (mkF m 5 #[.val (.ref r0), .val (.int (if v3 = v2 then (if v2 = v1 then (if v1 = v0 then (0 : Int32) else (1 : Int32)) else ((if v1 = v0 then (0 : Int32) else (1 : Int32)) + (1 : Int32))) else ((if v2 = v1 then (if v1 = v0 then (0 : Int32) else (1 : Int32)) else ((if v1 = v0 then (0 : Int32) else (1 : Int32)) + (1 : Int32))) + (1 : Int32)))), .val (.int (4 : Int32))] [(.int (4 : Int32))])) _
    refine XS.aloadN X0.here hx rfl (hb hby d1_5) rfl rfl ?_
    show Steps p.tables e below (s₁.setTop (mkF m 6 #[.val (.ref r0), .val (.int (if v3 = v2 then (if v2 = v1 then (if v1 = v0 then (0 : Int32) else (1 : Int32)) else ((if v1 = v0 then (0 : Int32) else (1 : Int32)) + (1 : Int32))) else ((if v2 = v1 then (if v1 = v0 then (0 : Int32) else (1 : Int32)) else ((if v1 = v0 then (0 : Int32) else (1 : Int32)) + (1 : Int32))) + (1 : Int32)))), .val (.int (4 : Int32))] [(.ref r0), (.int (4 : Int32))])) _
    obtain ⟨cl_13, Ar_13, -, S_13, N_13, -, -⟩ := id Va
    refine X0.arraylength hx (by rw [e0]; exact Ar_13.1) (State.isArrayOf_alike hZ.alike Ar_13.2.1) (g := (mkF m 6 #[.val (.ref r0), .val (.int (if v3 = v2 then (if v2 = v1 then (if v1 = v0 then (0 : Int32) else (1 : Int32)) else ((if v1 = v0 then (0 : Int32) else (1 : Int32)) + (1 : Int32))) else ((if v2 = v1 then (if v1 = v0 then (0 : Int32) else (1 : Int32)) else ((if v1 = v0 then (0 : Int32) else (1 : Int32)) + (1 : Int32))) + (1 : Int32)))), .val (.int (4 : Int32))] [(.ref r0), (.int (4 : Int32))])) rfl rfl (hb hby d1_6) _ ?_
    rw [len_of S_13 N_13]
    show Steps p.tables e below (s₁.setTop (mkF m 7 #[.val (.ref r0), .val (.int (if v3 = v2 then (if v2 = v1 then (if v1 = v0 then (0 : Int32) else (1 : Int32)) else ((if v1 = v0 then (0 : Int32) else (1 : Int32)) + (1 : Int32))) else ((if v2 = v1 then (if v1 = v0 then (0 : Int32) else (1 : Int32)) else ((if v1 = v0 then (0 : Int32) else (1 : Int32)) + (1 : Int32))) + (1 : Int32)))), .val (.int (4 : Int32))] [(.int (4 : Int32)), (.int (4 : Int32))])) _
    refine XS.icmpYes X0.here hx rfl (pc0 := 7) (pc' := 30) rfl (hb hby d1_7) rfl (flt (by decide)).2.1 (by decide) (by decide) ?_
    show Steps p.tables e below (s₁.setTop (mkF m 30 #[.val (.ref r0), .val (.int (if v3 = v2 then (if v2 = v1 then (if v1 = v0 then (0 : Int32) else (1 : Int32)) else ((if v1 = v0 then (0 : Int32) else (1 : Int32)) + (1 : Int32))) else ((if v2 = v1 then (if v1 = v0 then (0 : Int32) else (1 : Int32)) else ((if v1 = v0 then (0 : Int32) else (1 : Int32)) + (1 : Int32))) + (1 : Int32)))), .val (.int (4 : Int32))] [])) _
    refine XS.iloadN X0.here hx rfl (hb hby d1_30) rfl ?_
    exact k
  obtain ⟨fs, hr, hrun, hended, hW, hsame⟩ := X0.leave (v := some (.int (if v3 = v2 then (if v2 = v1 then (if v1 = v0 then (0 : Int32) else (1 : Int32)) else ((if v1 = v0 then (0 : Int32) else (1 : Int32)) + (1 : Int32))) else ((if v2 = v1 then (if v1 = v0 then (0 : Int32) else (1 : Int32)) else ((if v1 = v0 then (0 : Int32) else (1 : Int32)) + (1 : Int32))) + (1 : Int32))))) (fun h => by rw [Bd.returns] at h; cases h)
  refine ⟨_, _, k14 _ ?_, hrun, hended, _, _, rfl, ?_, ⟨_, rfl⟩, hW, hsame.mono (by decide) (by decide)⟩
  · exact retOut X0 hx Bd.returns rfl (Or.inl ⟨rfl, Or.inl rfl, _, rfl⟩) (hb hby d1_31) hr
  · show own_Q (some (.int (own_chg4 v0 v1 v2 v3))) h0 n0 _ s₁.heap _
    rw [e0]
    exact ⟨rfl, N0, rfl⟩
theorem ef_rmC5 (m : MethodId) (x0 : Addr) : entryFrame m #[(.ref x0)] 3 = mkF m 0 #[.val (.ref x0), .unset, .unset] [] := by first | (simp [entryFrame, mkF, argsToLocals, Value.category]; done) | rfl
def own_chg5 (v0 v1 v2 v3 v4 : Int32) : Int32 := (if v4 = v3 then (if v3 = v2 then (if v2 = v1 then (if v1 = v0 then (0 : Int32) else (1 : Int32)) else ((if v1 = v0 then (0 : Int32) else (1 : Int32)) + (1 : Int32))) else ((if v2 = v1 then (if v1 = v0 then (0 : Int32) else (1 : Int32)) else ((if v1 = v0 then (0 : Int32) else (1 : Int32)) + (1 : Int32))) + (1 : Int32))) else ((if v3 = v2 then (if v2 = v1 then (if v1 = v0 then (0 : Int32) else (1 : Int32)) else ((if v1 = v0 then (0 : Int32) else (1 : Int32)) + (1 : Int32))) else ((if v2 = v1 then (if v1 = v0 then (0 : Int32) else (1 : Int32)) else ((if v1 = v0 then (0 : Int32) else (1 : Int32)) + (1 : Int32))) + (1 : Int32))) + (1 : Int32)))
set_option maxRecDepth 65536 in
set_option maxHeartbeats 40000000 in
theorem rmC5 (l : Launch) (Z : State) (a0 : Array Value) (hw : ∀ d ∈ tables_1, d.before a0 Z = true) (ws : List Jvm.Cond) (r0 : Addr) (ck : ClassId) (v0 v1 v2 v3 v4 : Int32) (h0 : Heap) (n0 : Nat) (Va : Arv Z h0 r0 ck .int (5 : Int32) [(.int v0), (.int v1), (.int v2), (.int v3), (.int v4)] (.int (0 : Int32))) :
    MetFree l (⟨"com/example/lightloom/lightloom/plan/Lightpath", "changes", "([I)I"⟩ : MethodName) (head1 (Jvm.Cond.code (⟨"com/example/lightloom/lightloom/plan/Lightpath", "changes", "([I)I"⟩ : MethodName) prog_31_method_13_code 3 (some .int) :: ws) ({ frames := 0, cells := 0, slots := 0, locals := 0 } : Room)) (fun a U => a = #[(.ref r0)] ∧ Z.Warmed39 U.vm ∧ U.heap = h0) (fun _ _ _ _ _ => True) (fun _ U o U' => ∃ v L, o = .returned v ∧ own_Q (some (.int (own_chg5 v0 v1 v2 v3 v4))) h0 n0 v U'.heap L ∧ FrameEnd U o U' L ({ frames := 0, cells := 0, slots := 0, locals := 0 } : Room).cells ({ frames := 0, cells := 0, slots := 0, locals := 0 } : Room).slots) := by
  refine MetFree.of_bodySF (plainFor_of_name pn_1) hisR ?_
  intro p e s m args below meth c s₁ Bd hml0 hP hK
  obtain ⟨rfl, hZ, hh⟩ := hP
  have hx := Bd.exec
  have hby := Bd.bytes
  have hml : c.maxLocals = 3 := hml0
  have hown : s.vm.findClass "com/example/lightloom/lightloom/plan/Lightpath" = some m.cls := findClass_of_methodNamed Bd.named
  have hnm := (name_of_methodNamed Bd.named Bd.method).1
  have X0 : Stand p l e ({ frames := 0, cells := 0, slots := 0, locals := 0 } : Room) s m #[(.ref r0)] below meth c s₁ [] 0 0 := Stand.of_body Bd
  have e0 : s₁.heap = h0 := by rw [← hh, Bd.state]; rfl
  have N0 := Fr.nil n0
  have pre0 : ∀ t, Steps p.tables e below (s₁.setTop (mkF m 0 #[.val (.ref r0), .unset, .unset] [])) t → Steps p.tables e below (s₁.setTop (entryFrame m #[(.ref r0)] 3)) t := fun t k => castTop (ef_rmC5 m r0) k
  have k4 : ∀ t, Steps p.tables e below (s₁.setTop (mkF m 24 #[.val (.ref r0), .val (.int (if v1 = v0 then (0 : Int32) else (1 : Int32))), .val (.int (1 : Int32))] [])) t → Steps p.tables e below (s₁.setTop (entryFrame m #[(.ref r0)] 3)) t := by
    intro t k
    refine pre0 _ ?_
    show Steps p.tables e below (s₁.setTop (mkF m 0 #[.val (.ref r0), .unset, .unset] [])) _
    refine XS.iconst X0.here hx rfl (hb hby d1_0) ?_
    show Steps p.tables e below (s₁.setTop (mkF m 1 #[.val (.ref r0), .unset, .unset] [(.int (0 : Int32))])) _
    refine XS.istoreN X0.here hx rfl (hb hby d1_1) rfl (l' := #[.val (.ref r0), .val (.int (0 : Int32)), .unset]) rfl ?_
    show Steps p.tables e below (s₁.setTop (mkF m 2 #[.val (.ref r0), .val (.int (0 : Int32)), .unset] [])) _
    refine XS.iconst X0.here hx rfl (hb hby d1_2) ?_
    show Steps p.tables e below (s₁.setTop (mkF m 3 #[.val (.ref r0), .val (.int (0 : Int32)), .unset] [(.int (1 : Int32))])) _
    refine XS.istoreN X0.here hx rfl (hb hby d1_3) rfl (l' := #[.val (.ref r0), .val (.int (0 : Int32)), .val (.int (1 : Int32))]) rfl ?_
    show Steps p.tables e below (s₁.setTop (mkF m 4 #[.val (.ref r0), .val (.int (0 : Int32)), .val (.int (1 : Int32))] [])) _
    refine XS.iloadN X0.here hx rfl (hb hby d1_4) rfl ?_
    show Steps p.tables e below (s₁.setTop (mkF m 5 #[.val (.ref r0), .val (.int (0 : Int32)), .val (.int (1 : Int32))] [(.int (1 : Int32))])) _
    refine XS.aloadN X0.here hx rfl (hb hby d1_5) rfl rfl ?_
    show Steps p.tables e below (s₁.setTop (mkF m 6 #[.val (.ref r0), .val (.int (0 : Int32)), .val (.int (1 : Int32))] [(.ref r0), (.int (1 : Int32))])) _
    obtain ⟨cl_1, Ar_1, -, S_1, N_1, -, -⟩ := id Va
    refine X0.arraylength hx (by rw [e0]; exact Ar_1.1) (State.isArrayOf_alike hZ.alike Ar_1.2.1) (g := (mkF m 6 #[.val (.ref r0), .val (.int (0 : Int32)), .val (.int (1 : Int32))] [(.ref r0), (.int (1 : Int32))])) rfl rfl (hb hby d1_6) _ ?_
    rw [len_of S_1 N_1]
    show Steps p.tables e below (s₁.setTop (mkF m 7 #[.val (.ref r0), .val (.int (0 : Int32)), .val (.int (1 : Int32))] [(.int (5 : Int32)), (.int (1 : Int32))])) _
    refine XS.icmpNo X0.here hx rfl (hb hby d1_7) rfl (tlt (by decide)).2.1 ?_
    show Steps p.tables e below (s₁.setTop (mkF m 10 #[.val (.ref r0), .val (.int (0 : Int32)), .val (.int (1 : Int32))] [])) _
    refine XS.aloadN X0.here hx rfl (hb hby d1_10) rfl rfl ?_
    show Steps p.tables e below (s₁.setTop (mkF m 11 #[.val (.ref r0), .val (.int (0 : Int32)), .val (.int (1 : Int32))] [(.ref r0)])) _
    refine XS.iloadN X0.here hx rfl (hb hby d1_11) rfl ?_
    show Steps p.tables e below (s₁.setTop (mkF m 12 #[.val (.ref r0), .val (.int (0 : Int32)), .val (.int (1 : Int32))] [(.int (1 : Int32)), (.ref r0)])) _
    obtain ⟨cl_2, Ar_2, q_2, S_2, N_2, H_2, G_2⟩ := id Va
    have hin_2 : ¬ ((1 : Int32) < 0 ∨ cl_2.slots.size ≤ ((1 : Int32)).toNatClampNeg) := inb_of S_2 ⟨by decide, by decide⟩
    refine X0.iaload hx (j := (1 : Int32)) (v := (.int v1)) (by rw [e0]; exact Ar_2.1) (State.isArrayOf_alike hZ.alike Ar_2.2.1) Ar_2.2.2 hin_2 (Has.at H_2 hin_2 rfl) (g := (mkF m 12 #[.val (.ref r0), .val (.int (0 : Int32)), .val (.int (1 : Int32))] [(.int (1 : Int32)), (.ref r0)])) rfl rfl (hb hby d1_12) _ ?_
    show Steps p.tables e below (s₁.setTop (mkF m 13 #[.val (.ref r0), .val (.int (0 : Int32)), .val (.int (1 : Int32))] [(.int v1)])) _
    refine XS.aloadN X0.here hx rfl (hb hby d1_13) rfl rfl ?_
    show Steps p.tables e below (s₁.setTop (mkF m 14 #[.val (.ref r0), .val (.int (0 : Int32)), .val (.int (1 : Int32))] [(.ref r0), (.int v1)])) _
    refine XS.iloadN X0.here hx rfl (hb hby d1_14) rfl ?_
    show Steps p.tables e below (s₁.setTop (mkF m 15 #[.val (.ref r0), .val (.int (0 : Int32)), .val (.int (1 : Int32))] [(.int (1 : Int32)), (.ref r0), (.int v1)])) _
    refine XS.iconst X0.here hx rfl (hb hby d1_15) ?_
    show Steps p.tables e below (s₁.setTop (mkF m 16 #[.val (.ref r0), .val (.int (0 : Int32)), .val (.int (1 : Int32))] [(.int (1 : Int32)), (.int (1 : Int32)), (.ref r0), (.int v1)])) _
    refine XS.isub X0.here hx rfl (hb hby d1_16) rfl ?_
    show Steps p.tables e below (s₁.setTop (mkF m 17 #[.val (.ref r0), .val (.int (0 : Int32)), .val (.int (1 : Int32))] [(.int (0 : Int32)), (.ref r0), (.int v1)])) _
    obtain ⟨cl_3, Ar_3, q_3, S_3, N_3, H_3, G_3⟩ := id Va
    have hin_3 : ¬ ((0 : Int32) < 0 ∨ cl_3.slots.size ≤ ((0 : Int32)).toNatClampNeg) := inb_of S_3 ⟨by decide, by decide⟩
    refine X0.iaload hx (j := (0 : Int32)) (v := (.int v0)) (by rw [e0]; exact Ar_3.1) (State.isArrayOf_alike hZ.alike Ar_3.2.1) Ar_3.2.2 hin_3 (Has.at H_3 hin_3 rfl) (g := (mkF m 17 #[.val (.ref r0), .val (.int (0 : Int32)), .val (.int (1 : Int32))] [(.int (0 : Int32)), (.ref r0), (.int v1)])) rfl rfl (hb hby d1_17) _ ?_
    show Steps p.tables e below (s₁.setTop (mkF m 18 #[.val (.ref r0), .val (.int (0 : Int32)), .val (.int (1 : Int32))] [(.int v0), (.int v1)])) _
    by_cases hc18_1 : v1 = v0
    · refine XS.icmpYes X0.here hx rfl (pc0 := 18) (pc' := 24) rfl (hb hby d1_18) rfl (teq hc18_1).1 (by decide) (by decide) ?_
      try simp only [if_pos hc18_1] at k
      exact k
    · refine XS.icmpNo X0.here hx rfl (hb hby d1_18) rfl (feq hc18_1).1 ?_
      show Steps p.tables e below (s₁.setTop (mkF m 21 #[.val (.ref r0), .val (.int (0 : Int32)), .val (.int (1 : Int32))] [])) _
      refine XS.iinc X0.here hx rfl (hb hby d1_21) rfl (l' := #[.val (.ref r0), .val (.int (1 : Int32)), .val (.int (1 : Int32))]) rfl ?_
      try simp only [if_neg hc18_1] at k
      exact k
  have k8 : ∀ t, Steps p.tables e below (s₁.setTop (mkF m 24 #[.val (.ref r0), .val (.int (if v2 = v1 then (if v1 = v0 then (0 : Int32) else (1 : Int32)) else ((if v1 = v0 then (0 : Int32) else (1 : Int32)) + (1 : Int32)))), .val (.int (2 : Int32))] [])) t → Steps p.tables e below (s₁.setTop (entryFrame m #[(.ref r0)] 3)) t := by
    intro t k
    refine k4 _ ?_
    show Steps p.tables e below (s₁.setTop (mkF m 24 #[.val (.ref r0), .val (.int (if v1 = v0 then (0 : Int32) else (1 : Int32))), .val (.int (1 : Int32))] [])) _
    refine XS.iinc X0.here hx rfl (hb hby d1_24) rfl (l' := #[.val (.ref r0), .val (.int (if v1 = v0 then (0 : Int32) else (1 : Int32))), .val (.int (2 : Int32))]) rfl ?_
    show Steps p.tables e below (s₁.setTop (mkF m 27 #[.val (.ref r0), .val (.int (if v1 = v0 then (0 : Int32) else (1 : Int32))), .val (.int (2 : Int32))] [])) _
    refine XS.goto X0.here hx rfl (pc0 := 27) (pc' := 4) rfl (hb hby d1_27) (by decide) (by decide) ?_
    show Steps p.tables e below (s₁.setTop (mkF m 4 #[.val (.ref r0), .val (.int (if v1 = v0 then (0 : Int32) else (1 : Int32))), .val (.int (2 : Int32))] [])) _
    refine XS.iloadN X0.here hx rfl (hb hby d1_4) rfl ?_
    show Steps p.tables e below (s₁.setTop (mkF m 5 #[.val (.ref r0), .val (.int (if v1 = v0 then (0 : Int32) else (1 : Int32))), .val (.int (2 : Int32))] [(.int (2 : Int32))])) _
    refine XS.aloadN X0.here hx rfl (hb hby d1_5) rfl rfl ?_
    show Steps p.tables e below (s₁.setTop (mkF m 6 #[.val (.ref r0), .val (.int (if v1 = v0 then (0 : Int32) else (1 : Int32))), .val (.int (2 : Int32))] [(.ref r0), (.int (2 : Int32))])) _
    obtain ⟨cl_5, Ar_5, -, S_5, N_5, -, -⟩ := id Va
    refine X0.arraylength hx (by rw [e0]; exact Ar_5.1) (State.isArrayOf_alike hZ.alike Ar_5.2.1) (g := (mkF m 6 #[.val (.ref r0), .val (.int (if v1 = v0 then (0 : Int32) else (1 : Int32))), .val (.int (2 : Int32))] [(.ref r0), (.int (2 : Int32))])) rfl rfl (hb hby d1_6) _ ?_
    rw [len_of S_5 N_5]
    show Steps p.tables e below (s₁.setTop (mkF m 7 #[.val (.ref r0), .val (.int (if v1 = v0 then (0 : Int32) else (1 : Int32))), .val (.int (2 : Int32))] [(.int (5 : Int32)), (.int (2 : Int32))])) _
    refine XS.icmpNo X0.here hx rfl (hb hby d1_7) rfl (tlt (by decide)).2.1 ?_
    show Steps p.tables e below (s₁.setTop (mkF m 10 #[.val (.ref r0), .val (.int (if v1 = v0 then (0 : Int32) else (1 : Int32))), .val (.int (2 : Int32))] [])) _
    refine XS.aloadN X0.here hx rfl (hb hby d1_10) rfl rfl ?_
    show Steps p.tables e below (s₁.setTop (mkF m 11 #[.val (.ref r0), .val (.int (if v1 = v0 then (0 : Int32) else (1 : Int32))), .val (.int (2 : Int32))] [(.ref r0)])) _
    refine XS.iloadN X0.here hx rfl (hb hby d1_11) rfl ?_
    show Steps p.tables e below (s₁.setTop (mkF m 12 #[.val (.ref r0), .val (.int (if v1 = v0 then (0 : Int32) else (1 : Int32))), .val (.int (2 : Int32))] [(.int (2 : Int32)), (.ref r0)])) _
    obtain ⟨cl_6, Ar_6, q_6, S_6, N_6, H_6, G_6⟩ := id Va
    have hin_6 : ¬ ((2 : Int32) < 0 ∨ cl_6.slots.size ≤ ((2 : Int32)).toNatClampNeg) := inb_of S_6 ⟨by decide, by decide⟩
    refine X0.iaload hx (j := (2 : Int32)) (v := (.int v2)) (by rw [e0]; exact Ar_6.1) (State.isArrayOf_alike hZ.alike Ar_6.2.1) Ar_6.2.2 hin_6 (Has.at H_6 hin_6 rfl) (g := (mkF m 12 #[.val (.ref r0), .val (.int (if v1 = v0 then (0 : Int32) else (1 : Int32))), .val (.int (2 : Int32))] [(.int (2 : Int32)), (.ref r0)])) rfl rfl (hb hby d1_12) _ ?_
    show Steps p.tables e below (s₁.setTop (mkF m 13 #[.val (.ref r0), .val (.int (if v1 = v0 then (0 : Int32) else (1 : Int32))), .val (.int (2 : Int32))] [(.int v2)])) _
    refine XS.aloadN X0.here hx rfl (hb hby d1_13) rfl rfl ?_
    show Steps p.tables e below (s₁.setTop (mkF m 14 #[.val (.ref r0), .val (.int (if v1 = v0 then (0 : Int32) else (1 : Int32))), .val (.int (2 : Int32))] [(.ref r0), (.int v2)])) _
    refine XS.iloadN X0.here hx rfl (hb hby d1_14) rfl ?_
    show Steps p.tables e below (s₁.setTop (mkF m 15 #[.val (.ref r0), .val (.int (if v1 = v0 then (0 : Int32) else (1 : Int32))), .val (.int (2 : Int32))] [(.int (2 : Int32)), (.ref r0), (.int v2)])) _
    refine XS.iconst X0.here hx rfl (hb hby d1_15) ?_
    show Steps p.tables e below (s₁.setTop (mkF m 16 #[.val (.ref r0), .val (.int (if v1 = v0 then (0 : Int32) else (1 : Int32))), .val (.int (2 : Int32))] [(.int (1 : Int32)), (.int (2 : Int32)), (.ref r0), (.int v2)])) _
    refine XS.isub X0.here hx rfl (hb hby d1_16) rfl ?_
    show Steps p.tables e below (s₁.setTop (mkF m 17 #[.val (.ref r0), .val (.int (if v1 = v0 then (0 : Int32) else (1 : Int32))), .val (.int (2 : Int32))] [(.int (1 : Int32)), (.ref r0), (.int v2)])) _
    obtain ⟨cl_7, Ar_7, q_7, S_7, N_7, H_7, G_7⟩ := id Va
    have hin_7 : ¬ ((1 : Int32) < 0 ∨ cl_7.slots.size ≤ ((1 : Int32)).toNatClampNeg) := inb_of S_7 ⟨by decide, by decide⟩
    refine X0.iaload hx (j := (1 : Int32)) (v := (.int v1)) (by rw [e0]; exact Ar_7.1) (State.isArrayOf_alike hZ.alike Ar_7.2.1) Ar_7.2.2 hin_7 (Has.at H_7 hin_7 rfl) (g := (mkF m 17 #[.val (.ref r0), .val (.int (if v1 = v0 then (0 : Int32) else (1 : Int32))), .val (.int (2 : Int32))] [(.int (1 : Int32)), (.ref r0), (.int v2)])) rfl rfl (hb hby d1_17) _ ?_
    show Steps p.tables e below (s₁.setTop (mkF m 18 #[.val (.ref r0), .val (.int (if v1 = v0 then (0 : Int32) else (1 : Int32))), .val (.int (2 : Int32))] [(.int v1), (.int v2)])) _
    by_cases hc18_2 : v2 = v1
    · refine XS.icmpYes X0.here hx rfl (pc0 := 18) (pc' := 24) rfl (hb hby d1_18) rfl (teq hc18_2).1 (by decide) (by decide) ?_
      try simp only [if_pos hc18_2] at k
      exact k
    · refine XS.icmpNo X0.here hx rfl (hb hby d1_18) rfl (feq hc18_2).1 ?_
      show Steps p.tables e below (s₁.setTop (mkF m 21 #[.val (.ref r0), .val (.int (if v1 = v0 then (0 : Int32) else (1 : Int32))), .val (.int (2 : Int32))] [])) _
      refine XS.iinc X0.here hx rfl (hb hby d1_21) rfl (l' := #[.val (.ref r0), .val (.int ((if v1 = v0 then (0 : Int32) else (1 : Int32)) + (1 : Int32))), .val (.int (2 : Int32))]) rfl ?_
      try simp only [if_neg hc18_2] at k
      exact k
  have k12 : ∀ t, Steps p.tables e below (s₁.setTop (mkF m 24 #[.val (.ref r0), .val (.int (if v3 = v2 then (if v2 = v1 then (if v1 = v0 then (0 : Int32) else (1 : Int32)) else ((if v1 = v0 then (0 : Int32) else (1 : Int32)) + (1 : Int32))) else ((if v2 = v1 then (if v1 = v0 then (0 : Int32) else (1 : Int32)) else ((if v1 = v0 then (0 : Int32) else (1 : Int32)) + (1 : Int32))) + (1 : Int32)))), .val (.int (3 : Int32))] [])) t → Steps p.tables e below (s₁.setTop (entryFrame m #[(.ref r0)] 3)) t := by
    intro t k
    refine k8 _ ?_
    show Steps p.tables e below (s₁.setTop (mkF m 24 #[.val (.ref r0), .val (.int (if v2 = v1 then (if v1 = v0 then (0 : Int32) else (1 : Int32)) else ((if v1 = v0 then (0 : Int32) else (1 : Int32)) + (1 : Int32)))), .val (.int (2 : Int32))] [])) _
    refine XS.iinc X0.here hx rfl (hb hby d1_24) rfl (l' := #[.val (.ref r0), .val (.int (if v2 = v1 then (if v1 = v0 then (0 : Int32) else (1 : Int32)) else ((if v1 = v0 then (0 : Int32) else (1 : Int32)) + (1 : Int32)))), .val (.int (3 : Int32))]) rfl ?_
    show Steps p.tables e below (s₁.setTop (mkF m 27 #[.val (.ref r0), .val (.int (if v2 = v1 then (if v1 = v0 then (0 : Int32) else (1 : Int32)) else ((if v1 = v0 then (0 : Int32) else (1 : Int32)) + (1 : Int32)))), .val (.int (3 : Int32))] [])) _
    refine XS.goto X0.here hx rfl (pc0 := 27) (pc' := 4) rfl (hb hby d1_27) (by decide) (by decide) ?_
    show Steps p.tables e below (s₁.setTop (mkF m 4 #[.val (.ref r0), .val (.int (if v2 = v1 then (if v1 = v0 then (0 : Int32) else (1 : Int32)) else ((if v1 = v0 then (0 : Int32) else (1 : Int32)) + (1 : Int32)))), .val (.int (3 : Int32))] [])) _
    refine XS.iloadN X0.here hx rfl (hb hby d1_4) rfl ?_
    show Steps p.tables e below (s₁.setTop (mkF m 5 #[.val (.ref r0), .val (.int (if v2 = v1 then (if v1 = v0 then (0 : Int32) else (1 : Int32)) else ((if v1 = v0 then (0 : Int32) else (1 : Int32)) + (1 : Int32)))), .val (.int (3 : Int32))] [(.int (3 : Int32))])) _
    refine XS.aloadN X0.here hx rfl (hb hby d1_5) rfl rfl ?_
    show Steps p.tables e below (s₁.setTop (mkF m 6 #[.val (.ref r0), .val (.int (if v2 = v1 then (if v1 = v0 then (0 : Int32) else (1 : Int32)) else ((if v1 = v0 then (0 : Int32) else (1 : Int32)) + (1 : Int32)))), .val (.int (3 : Int32))] [(.ref r0), (.int (3 : Int32))])) _
    obtain ⟨cl_9, Ar_9, -, S_9, N_9, -, -⟩ := id Va
    refine X0.arraylength hx (by rw [e0]; exact Ar_9.1) (State.isArrayOf_alike hZ.alike Ar_9.2.1) (g := (mkF m 6 #[.val (.ref r0), .val (.int (if v2 = v1 then (if v1 = v0 then (0 : Int32) else (1 : Int32)) else ((if v1 = v0 then (0 : Int32) else (1 : Int32)) + (1 : Int32)))), .val (.int (3 : Int32))] [(.ref r0), (.int (3 : Int32))])) rfl rfl (hb hby d1_6) _ ?_
    rw [len_of S_9 N_9]
    show Steps p.tables e below (s₁.setTop (mkF m 7 #[.val (.ref r0), .val (.int (if v2 = v1 then (if v1 = v0 then (0 : Int32) else (1 : Int32)) else ((if v1 = v0 then (0 : Int32) else (1 : Int32)) + (1 : Int32)))), .val (.int (3 : Int32))] [(.int (5 : Int32)), (.int (3 : Int32))])) _
    refine XS.icmpNo X0.here hx rfl (hb hby d1_7) rfl (tlt (by decide)).2.1 ?_
    show Steps p.tables e below (s₁.setTop (mkF m 10 #[.val (.ref r0), .val (.int (if v2 = v1 then (if v1 = v0 then (0 : Int32) else (1 : Int32)) else ((if v1 = v0 then (0 : Int32) else (1 : Int32)) + (1 : Int32)))), .val (.int (3 : Int32))] [])) _
    refine XS.aloadN X0.here hx rfl (hb hby d1_10) rfl rfl ?_
    show Steps p.tables e below (s₁.setTop (mkF m 11 #[.val (.ref r0), .val (.int (if v2 = v1 then (if v1 = v0 then (0 : Int32) else (1 : Int32)) else ((if v1 = v0 then (0 : Int32) else (1 : Int32)) + (1 : Int32)))), .val (.int (3 : Int32))] [(.ref r0)])) _
    refine XS.iloadN X0.here hx rfl (hb hby d1_11) rfl ?_
    show Steps p.tables e below (s₁.setTop (mkF m 12 #[.val (.ref r0), .val (.int (if v2 = v1 then (if v1 = v0 then (0 : Int32) else (1 : Int32)) else ((if v1 = v0 then (0 : Int32) else (1 : Int32)) + (1 : Int32)))), .val (.int (3 : Int32))] [(.int (3 : Int32)), (.ref r0)])) _
    obtain ⟨cl_10, Ar_10, q_10, S_10, N_10, H_10, G_10⟩ := id Va
    have hin_10 : ¬ ((3 : Int32) < 0 ∨ cl_10.slots.size ≤ ((3 : Int32)).toNatClampNeg) := inb_of S_10 ⟨by decide, by decide⟩
    refine X0.iaload hx (j := (3 : Int32)) (v := (.int v3)) (by rw [e0]; exact Ar_10.1) (State.isArrayOf_alike hZ.alike Ar_10.2.1) Ar_10.2.2 hin_10 (Has.at H_10 hin_10 rfl) (g := (mkF m 12 #[.val (.ref r0), .val (.int (if v2 = v1 then (if v1 = v0 then (0 : Int32) else (1 : Int32)) else ((if v1 = v0 then (0 : Int32) else (1 : Int32)) + (1 : Int32)))), .val (.int (3 : Int32))] [(.int (3 : Int32)), (.ref r0)])) rfl rfl (hb hby d1_12) _ ?_
    show Steps p.tables e below (s₁.setTop (mkF m 13 #[.val (.ref r0), .val (.int (if v2 = v1 then (if v1 = v0 then (0 : Int32) else (1 : Int32)) else ((if v1 = v0 then (0 : Int32) else (1 : Int32)) + (1 : Int32)))), .val (.int (3 : Int32))] [(.int v3)])) _
    refine XS.aloadN X0.here hx rfl (hb hby d1_13) rfl rfl ?_
    show Steps p.tables e below (s₁.setTop (mkF m 14 #[.val (.ref r0), .val (.int (if v2 = v1 then (if v1 = v0 then (0 : Int32) else (1 : Int32)) else ((if v1 = v0 then (0 : Int32) else (1 : Int32)) + (1 : Int32)))), .val (.int (3 : Int32))] [(.ref r0), (.int v3)])) _
    refine XS.iloadN X0.here hx rfl (hb hby d1_14) rfl ?_
    show Steps p.tables e below (s₁.setTop (mkF m 15 #[.val (.ref r0), .val (.int (if v2 = v1 then (if v1 = v0 then (0 : Int32) else (1 : Int32)) else ((if v1 = v0 then (0 : Int32) else (1 : Int32)) + (1 : Int32)))), .val (.int (3 : Int32))] [(.int (3 : Int32)), (.ref r0), (.int v3)])) _
    refine XS.iconst X0.here hx rfl (hb hby d1_15) ?_
    show Steps p.tables e below (s₁.setTop (mkF m 16 #[.val (.ref r0), .val (.int (if v2 = v1 then (if v1 = v0 then (0 : Int32) else (1 : Int32)) else ((if v1 = v0 then (0 : Int32) else (1 : Int32)) + (1 : Int32)))), .val (.int (3 : Int32))] [(.int (1 : Int32)), (.int (3 : Int32)), (.ref r0), (.int v3)])) _
    refine XS.isub X0.here hx rfl (hb hby d1_16) rfl ?_
    show Steps p.tables e below (s₁.setTop (mkF m 17 #[.val (.ref r0), .val (.int (if v2 = v1 then (if v1 = v0 then (0 : Int32) else (1 : Int32)) else ((if v1 = v0 then (0 : Int32) else (1 : Int32)) + (1 : Int32)))), .val (.int (3 : Int32))] [(.int (2 : Int32)), (.ref r0), (.int v3)])) _
    obtain ⟨cl_11, Ar_11, q_11, S_11, N_11, H_11, G_11⟩ := id Va
    have hin_11 : ¬ ((2 : Int32) < 0 ∨ cl_11.slots.size ≤ ((2 : Int32)).toNatClampNeg) := inb_of S_11 ⟨by decide, by decide⟩
    refine X0.iaload hx (j := (2 : Int32)) (v := (.int v2)) (by rw [e0]; exact Ar_11.1) (State.isArrayOf_alike hZ.alike Ar_11.2.1) Ar_11.2.2 hin_11 (Has.at H_11 hin_11 rfl) (g := (mkF m 17 #[.val (.ref r0), .val (.int (if v2 = v1 then (if v1 = v0 then (0 : Int32) else (1 : Int32)) else ((if v1 = v0 then (0 : Int32) else (1 : Int32)) + (1 : Int32)))), .val (.int (3 : Int32))] [(.int (2 : Int32)), (.ref r0), (.int v3)])) rfl rfl (hb hby d1_17) _ ?_
    show Steps p.tables e below (s₁.setTop (mkF m 18 #[.val (.ref r0), .val (.int (if v2 = v1 then (if v1 = v0 then (0 : Int32) else (1 : Int32)) else ((if v1 = v0 then (0 : Int32) else (1 : Int32)) + (1 : Int32)))), .val (.int (3 : Int32))] [(.int v2), (.int v3)])) _
    by_cases hc18_3 : v3 = v2
    · refine XS.icmpYes X0.here hx rfl (pc0 := 18) (pc' := 24) rfl (hb hby d1_18) rfl (teq hc18_3).1 (by decide) (by decide) ?_
      try simp only [if_pos hc18_3] at k
      exact k
    · refine XS.icmpNo X0.here hx rfl (hb hby d1_18) rfl (feq hc18_3).1 ?_
      show Steps p.tables e below (s₁.setTop (mkF m 21 #[.val (.ref r0), .val (.int (if v2 = v1 then (if v1 = v0 then (0 : Int32) else (1 : Int32)) else ((if v1 = v0 then (0 : Int32) else (1 : Int32)) + (1 : Int32)))), .val (.int (3 : Int32))] [])) _
      refine XS.iinc X0.here hx rfl (hb hby d1_21) rfl (l' := #[.val (.ref r0), .val (.int ((if v2 = v1 then (if v1 = v0 then (0 : Int32) else (1 : Int32)) else ((if v1 = v0 then (0 : Int32) else (1 : Int32)) + (1 : Int32))) + (1 : Int32))), .val (.int (3 : Int32))]) rfl ?_
      try simp only [if_neg hc18_3] at k
      exact k
  have k16 : ∀ t, Steps p.tables e below (s₁.setTop (mkF m 24 #[.val (.ref r0), .val (.int (if v4 = v3 then (if v3 = v2 then (if v2 = v1 then (if v1 = v0 then (0 : Int32) else (1 : Int32)) else ((if v1 = v0 then (0 : Int32) else (1 : Int32)) + (1 : Int32))) else ((if v2 = v1 then (if v1 = v0 then (0 : Int32) else (1 : Int32)) else ((if v1 = v0 then (0 : Int32) else (1 : Int32)) + (1 : Int32))) + (1 : Int32))) else ((if v3 = v2 then (if v2 = v1 then (if v1 = v0 then (0 : Int32) else (1 : Int32)) else ((if v1 = v0 then (0 : Int32) else (1 : Int32)) + (1 : Int32))) else ((if v2 = v1 then (if v1 = v0 then (0 : Int32) else (1 : Int32)) else ((if v1 = v0 then (0 : Int32) else (1 : Int32)) + (1 : Int32))) + (1 : Int32))) + (1 : Int32)))), .val (.int (4 : Int32))] [])) t → Steps p.tables e below (s₁.setTop (entryFrame m #[(.ref r0)] 3)) t := by
    intro t k
    refine k12 _ ?_
    show Steps p.tables e below (s₁.setTop (mkF m 24 #[.val (.ref r0), .val (.int (if v3 = v2 then (if v2 = v1 then (if v1 = v0 then (0 : Int32) else (1 : Int32)) else ((if v1 = v0 then (0 : Int32) else (1 : Int32)) + (1 : Int32))) else ((if v2 = v1 then (if v1 = v0 then (0 : Int32) else (1 : Int32)) else ((if v1 = v0 then (0 : Int32) else (1 : Int32)) + (1 : Int32))) + (1 : Int32)))), .val (.int (3 : Int32))] [])) _
    refine XS.iinc X0.here hx rfl (hb hby d1_24) rfl (l' := #[.val (.ref r0), .val (.int (if v3 = v2 then (if v2 = v1 then (if v1 = v0 then (0 : Int32) else (1 : Int32)) else ((if v1 = v0 then (0 : Int32) else (1 : Int32)) + (1 : Int32))) else ((if v2 = v1 then (if v1 = v0 then (0 : Int32) else (1 : Int32)) else ((if v1 = v0 then (0 : Int32) else (1 : Int32)) + (1 : Int32))) + (1 : Int32)))), .val (.int (4 : Int32))]) rfl ?_
    show Steps p.tables e below (s₁.setTop (mkF m 27 #[.val (.ref r0), .val (.int (if v3 = v2 then (if v2 = v1 then (if v1 = v0 then (0 : Int32) else (1 : Int32)) else ((if v1 = v0 then (0 : Int32) else (1 : Int32)) + (1 : Int32))) else ((if v2 = v1 then (if v1 = v0 then (0 : Int32) else (1 : Int32)) else ((if v1 = v0 then (0 : Int32) else (1 : Int32)) + (1 : Int32))) + (1 : Int32)))), .val (.int (4 : Int32))] [])) _
    refine XS.goto X0.here hx rfl (pc0 := 27) (pc' := 4) rfl (hb hby d1_27) (by decide) (by decide) ?_
    show Steps p.tables e below (s₁.setTop (mkF m 4 #[.val (.ref r0), .val (.int (if v3 = v2 then (if v2 = v1 then (if v1 = v0 then (0 : Int32) else (1 : Int32)) else ((if v1 = v0 then (0 : Int32) else (1 : Int32)) + (1 : Int32))) else ((if v2 = v1 then (if v1 = v0 then (0 : Int32) else (1 : Int32)) else ((if v1 = v0 then (0 : Int32) else (1 : Int32)) + (1 : Int32))) + (1 : Int32)))), .val (.int (4 : Int32))] [])) _
    refine XS.iloadN X0.here hx rfl (hb hby d1_4) rfl ?_
    show Steps p.tables e below (s₁.setTop (mkF m 5 #[.val (.ref r0), .val (.int (if v3 = v2 then (if v2 = v1 then (if v1 = v0 then (0 : Int32) else (1 : Int32)) else ((if v1 = v0 then (0 : Int32) else (1 : Int32)) + (1 : Int32))) else ((if v2 = v1 then (if v1 = v0 then (0 : Int32) else (1 : Int32)) else ((if v1 = v0 then (0 : Int32) else (1 : Int32)) + (1 : Int32))) + (1 : Int32)))), .val (.int (4 : Int32))] [(.int (4 : Int32))])) _
    refine XS.aloadN X0.here hx rfl (hb hby d1_5) rfl rfl ?_
    show Steps p.tables e below (s₁.setTop (mkF m 6 #[.val (.ref r0), .val (.int (if v3 = v2 then (if v2 = v1 then (if v1 = v0 then (0 : Int32) else (1 : Int32)) else ((if v1 = v0 then (0 : Int32) else (1 : Int32)) + (1 : Int32))) else ((if v2 = v1 then (if v1 = v0 then (0 : Int32) else (1 : Int32)) else ((if v1 = v0 then (0 : Int32) else (1 : Int32)) + (1 : Int32))) + (1 : Int32)))), .val (.int (4 : Int32))] [(.ref r0), (.int (4 : Int32))])) _
    obtain ⟨cl_13, Ar_13, -, S_13, N_13, -, -⟩ := id Va
    refine X0.arraylength hx (by rw [e0]; exact Ar_13.1) (State.isArrayOf_alike hZ.alike Ar_13.2.1) (g := (mkF m 6 #[.val (.ref r0), .val (.int (if v3 = v2 then (if v2 = v1 then (if v1 = v0 then (0 : Int32) else (1 : Int32)) else ((if v1 = v0 then (0 : Int32) else (1 : Int32)) + (1 : Int32))) else ((if v2 = v1 then (if v1 = v0 then (0 : Int32) else (1 : Int32)) else ((if v1 = v0 then (0 : Int32) else (1 : Int32)) + (1 : Int32))) + (1 : Int32)))), .val (.int (4 : Int32))] [(.ref r0), (.int (4 : Int32))])) rfl rfl (hb hby d1_6) _ ?_
    rw [len_of S_13 N_13]
    show Steps p.tables e below (s₁.setTop (mkF m 7 #[.val (.ref r0), .val (.int (if v3 = v2 then (if v2 = v1 then (if v1 = v0 then (0 : Int32) else (1 : Int32)) else ((if v1 = v0 then (0 : Int32) else (1 : Int32)) + (1 : Int32))) else ((if v2 = v1 then (if v1 = v0 then (0 : Int32) else (1 : Int32)) else ((if v1 = v0 then (0 : Int32) else (1 : Int32)) + (1 : Int32))) + (1 : Int32)))), .val (.int (4 : Int32))] [(.int (5 : Int32)), (.int (4 : Int32))])) _
    refine XS.icmpNo X0.here hx rfl (hb hby d1_7) rfl (tlt (by decide)).2.1 ?_
    show Steps p.tables e below (s₁.setTop (mkF m 10 #[.val (.ref r0), .val (.int (if v3 = v2 then (if v2 = v1 then (if v1 = v0 then (0 : Int32) else (1 : Int32)) else ((if v1 = v0 then (0 : Int32) else (1 : Int32)) + (1 : Int32))) else ((if v2 = v1 then (if v1 = v0 then (0 : Int32) else (1 : Int32)) else ((if v1 = v0 then (0 : Int32) else (1 : Int32)) + (1 : Int32))) + (1 : Int32)))), .val (.int (4 : Int32))] [])) _
    refine XS.aloadN X0.here hx rfl (hb hby d1_10) rfl rfl ?_
    show Steps p.tables e below (s₁.setTop (mkF m 11 #[.val (.ref r0), .val (.int (if v3 = v2 then (if v2 = v1 then (if v1 = v0 then (0 : Int32) else (1 : Int32)) else ((if v1 = v0 then (0 : Int32) else (1 : Int32)) + (1 : Int32))) else ((if v2 = v1 then (if v1 = v0 then (0 : Int32) else (1 : Int32)) else ((if v1 = v0 then (0 : Int32) else (1 : Int32)) + (1 : Int32))) + (1 : Int32)))), .val (.int (4 : Int32))] [(.ref r0)])) _
    refine XS.iloadN X0.here hx rfl (hb hby d1_11) rfl ?_
    show Steps p.tables e below (s₁.setTop (mkF m 12 #[.val (.ref r0), .val (.int (if v3 = v2 then (if v2 = v1 then (if v1 = v0 then (0 : Int32) else (1 : Int32)) else ((if v1 = v0 then (0 : Int32) else (1 : Int32)) + (1 : Int32))) else ((if v2 = v1 then (if v1 = v0 then (0 : Int32) else (1 : Int32)) else ((if v1 = v0 then (0 : Int32) else (1 : Int32)) + (1 : Int32))) + (1 : Int32)))), .val (.int (4 : Int32))] [(.int (4 : Int32)), (.ref r0)])) _
    obtain ⟨cl_14, Ar_14, q_14, S_14, N_14, H_14, G_14⟩ := id Va
    have hin_14 : ¬ ((4 : Int32) < 0 ∨ cl_14.slots.size ≤ ((4 : Int32)).toNatClampNeg) := inb_of S_14 ⟨by decide, by decide⟩
    refine X0.iaload hx (j := (4 : Int32)) (v := (.int v4)) (by rw [e0]; exact Ar_14.1) (State.isArrayOf_alike hZ.alike Ar_14.2.1) Ar_14.2.2 hin_14 (Has.at H_14 hin_14 rfl) (g := (mkF m 12 #[.val (.ref r0), .val (.int (if v3 = v2 then (if v2 = v1 then (if v1 = v0 then (0 : Int32) else (1 : Int32)) else ((if v1 = v0 then (0 : Int32) else (1 : Int32)) + (1 : Int32))) else ((if v2 = v1 then (if v1 = v0 then (0 : Int32) else (1 : Int32)) else ((if v1 = v0 then (0 : Int32) else (1 : Int32)) + (1 : Int32))) + (1 : Int32)))), .val (.int (4 : Int32))] [(.int (4 : Int32)), (.ref r0)])) rfl rfl (hb hby d1_12) _ ?_
    show Steps p.tables e below (s₁.setTop (mkF m 13 #[.val (.ref r0), .val (.int (if v3 = v2 then (if v2 = v1 then (if v1 = v0 then (0 : Int32) else (1 : Int32)) else ((if v1 = v0 then (0 : Int32) else (1 : Int32)) + (1 : Int32))) else ((if v2 = v1 then (if v1 = v0 then (0 : Int32) else (1 : Int32)) else ((if v1 = v0 then (0 : Int32) else (1 : Int32)) + (1 : Int32))) + (1 : Int32)))), .val (.int (4 : Int32))] [(.int v4)])) _
    refine XS.aloadN X0.here hx rfl (hb hby d1_13) rfl rfl ?_
    show Steps p.tables e below (s₁.setTop (mkF m 14 #[.val (.ref r0), .val (.int (if v3 = v2 then (if v2 = v1 then (if v1 = v0 then (0 : Int32) else (1 : Int32)) else ((if v1 = v0 then (0 : Int32) else (1 : Int32)) + (1 : Int32))) else ((if v2 = v1 then (if v1 = v0 then (0 : Int32) else (1 : Int32)) else ((if v1 = v0 then (0 : Int32) else (1 : Int32)) + (1 : Int32))) + (1 : Int32)))), .val (.int (4 : Int32))] [(.ref r0), (.int v4)])) _
    refine XS.iloadN X0.here hx rfl (hb hby d1_14) rfl ?_
    show Steps p.tables e below (s₁.setTop (mkF m 15 #[.val (.ref r0), .val (.int (if v3 = v2 then (if v2 = v1 then (if v1 = v0 then (0 : Int32) else (1 : Int32)) else ((if v1 = v0 then (0 : Int32) else (1 : Int32)) + (1 : Int32))) else ((if v2 = v1 then (if v1 = v0 then (0 : Int32) else (1 : Int32)) else ((if v1 = v0 then (0 : Int32) else (1 : Int32)) + (1 : Int32))) + (1 : Int32)))), .val (.int (4 : Int32))] [(.int (4 : Int32)), (.ref r0), (.int v4)])) _
    refine XS.iconst X0.here hx rfl (hb hby d1_15) ?_
    show Steps p.tables e below (s₁.setTop (mkF m 16 #[.val (.ref r0), .val (.int (if v3 = v2 then (if v2 = v1 then (if v1 = v0 then (0 : Int32) else (1 : Int32)) else ((if v1 = v0 then (0 : Int32) else (1 : Int32)) + (1 : Int32))) else ((if v2 = v1 then (if v1 = v0 then (0 : Int32) else (1 : Int32)) else ((if v1 = v0 then (0 : Int32) else (1 : Int32)) + (1 : Int32))) + (1 : Int32)))), .val (.int (4 : Int32))] [(.int (1 : Int32)), (.int (4 : Int32)), (.ref r0), (.int v4)])) _
    refine XS.isub X0.here hx rfl (hb hby d1_16) rfl ?_
    show Steps p.tables e below (s₁.setTop (mkF m 17 #[.val (.ref r0), .val (.int (if v3 = v2 then (if v2 = v1 then (if v1 = v0 then (0 : Int32) else (1 : Int32)) else ((if v1 = v0 then (0 : Int32) else (1 : Int32)) + (1 : Int32))) else ((if v2 = v1 then (if v1 = v0 then (0 : Int32) else (1 : Int32)) else ((if v1 = v0 then (0 : Int32) else (1 : Int32)) + (1 : Int32))) + (1 : Int32)))), .val (.int (4 : Int32))] [(.int (3 : Int32)), (.ref r0), (.int v4)])) _
    obtain ⟨cl_15, Ar_15, q_15, S_15, N_15, H_15, G_15⟩ := id Va
    have hin_15 : ¬ ((3 : Int32) < 0 ∨ cl_15.slots.size ≤ ((3 : Int32)).toNatClampNeg) := inb_of S_15 ⟨by decide, by decide⟩
    refine X0.iaload hx (j := (3 : Int32)) (v := (.int v3)) (by rw [e0]; exact Ar_15.1) (State.isArrayOf_alike hZ.alike Ar_15.2.1) Ar_15.2.2 hin_15 (Has.at H_15 hin_15 rfl) (g := (mkF m 17 #[.val (.ref r0), .val (.int (if v3 = v2 then (if v2 = v1 then (if v1 = v0 then (0 : Int32) else (1 : Int32)) else ((if v1 = v0 then (0 : Int32) else (1 : Int32)) + (1 : Int32))) else ((if v2 = v1 then (if v1 = v0 then (0 : Int32) else (1 : Int32)) else ((if v1 = v0 then (0 : Int32) else (1 : Int32)) + (1 : Int32))) + (1 : Int32)))), .val (.int (4 : Int32))] [(.int (3 : Int32)), (.ref r0), (.int v4)])) rfl rfl (hb hby d1_17) _ ?_
    show Steps p.tables e below (s₁.setTop (mkF m 18 #[.val (.ref r0), .val (.int (if v3 = v2 then (if v2 = v1 then (if v1 = v0 then (0 : Int32) else (1 : Int32)) else ((if v1 = v0 then (0 : Int32) else (1 : Int32)) + (1 : Int32))) else ((if v2 = v1 then (if v1 = v0 then (0 : Int32) else (1 : Int32)) else ((if v1 = v0 then (0 : Int32) else (1 : Int32)) + (1 : Int32))) + (1 : Int32)))), .val (.int (4 : Int32))] [(.int v3), (.int v4)])) _
    by_cases hc18_4 : v4 = v3
    · refine XS.icmpYes X0.here hx rfl (pc0 := 18) (pc' := 24) rfl (hb hby d1_18) rfl (teq hc18_4).1 (by decide) (by decide) ?_
      try simp only [if_pos hc18_4] at k
      exact k
    · refine XS.icmpNo X0.here hx rfl (hb hby d1_18) rfl (feq hc18_4).1 ?_
      show Steps p.tables e below (s₁.setTop (mkF m 21 #[.val (.ref r0), .val (.int (if v3 = v2 then (if v2 = v1 then (if v1 = v0 then (0 : Int32) else (1 : Int32)) else ((if v1 = v0 then (0 : Int32) else (1 : Int32)) + (1 : Int32))) else ((if v2 = v1 then (if v1 = v0 then (0 : Int32) else (1 : Int32)) else ((if v1 = v0 then (0 : Int32) else (1 : Int32)) + (1 : Int32))) + (1 : Int32)))), .val (.int (4 : Int32))] [])) _
      refine XS.iinc X0.here hx rfl (hb hby d1_21) rfl (l' := #[.val (.ref r0), .val (.int ((if v3 = v2 then (if v2 = v1 then (if v1 = v0 then (0 : Int32) else (1 : Int32)) else ((if v1 = v0 then (0 : Int32) else (1 : Int32)) + (1 : Int32))) else ((if v2 = v1 then (if v1 = v0 then (0 : Int32) else (1 : Int32)) else ((if v1 = v0 then (0 : Int32) else (1 : Int32)) + (1 : Int32))) + (1 : Int32))) + (1 : Int32))), .val (.int (4 : Int32))]) rfl ?_
      try simp only [if_neg hc18_4] at k
      exact k
  have k18 : ∀ t, Steps p.tables e below (s₁.setTop (mkF m 31 #[.val (.ref r0), .val (.int (if v4 = v3 then (if v3 = v2 then (if v2 = v1 then (if v1 = v0 then (0 : Int32) else (1 : Int32)) else ((if v1 = v0 then (0 : Int32) else (1 : Int32)) + (1 : Int32))) else ((if v2 = v1 then (if v1 = v0 then (0 : Int32) else (1 : Int32)) else ((if v1 = v0 then (0 : Int32) else (1 : Int32)) + (1 : Int32))) + (1 : Int32))) else ((if v3 = v2 then (if v2 = v1 then (if v1 = v0 then (0 : Int32) else (1 : Int32)) else ((if v1 = v0 then (0 : Int32) else (1 : Int32)) + (1 : Int32))) else ((if v2 = v1 then (if v1 = v0 then (0 : Int32) else (1 : Int32)) else ((if v1 = v0 then (0 : Int32) else (1 : Int32)) + (1 : Int32))) + (1 : Int32))) + (1 : Int32)))), .val (.int (5 : Int32))] [(.int (if v4 = v3 then (if v3 = v2 then (if v2 = v1 then (if v1 = v0 then (0 : Int32) else (1 : Int32)) else ((if v1 = v0 then (0 : Int32) else (1 : Int32)) + (1 : Int32))) else ((if v2 = v1 then (if v1 = v0 then (0 : Int32) else (1 : Int32)) else ((if v1 = v0 then (0 : Int32) else (1 : Int32)) + (1 : Int32))) + (1 : Int32))) else ((if v3 = v2 then (if v2 = v1 then (if v1 = v0 then (0 : Int32) else (1 : Int32)) else ((if v1 = v0 then (0 : Int32) else (1 : Int32)) + (1 : Int32))) else ((if v2 = v1 then (if v1 = v0 then (0 : Int32) else (1 : Int32)) else ((if v1 = v0 then (0 : Int32) else (1 : Int32)) + (1 : Int32))) + (1 : Int32))) + (1 : Int32))))])) t → Steps p.tables e below (s₁.setTop (entryFrame m #[(.ref r0)] 3)) t := by
    intro t k
    refine k16 _ ?_
    show Steps p.tables e below (s₁.setTop (mkF m 24 #[.val (.ref r0), .val (.int (if v4 = v3 then (if v3 = v2 then (if v2 = v1 then (if v1 = v0 then (0 : Int32) else (1 : Int32)) else ((if v1 = v0 then (0 : Int32) else (1 : Int32)) + (1 : Int32))) else ((if v2 = v1 then (if v1 = v0 then (0 : Int32) else (1 : Int32)) else ((if v1 = v0 then (0 : Int32) else (1 : Int32)) + (1 : Int32))) + (1 : Int32))) else ((if v3 = v2 then (if v2 = v1 then (if v1 = v0 then (0 : Int32) else (1 : Int32)) else ((if v1 = v0 then (0 : Int32) else (1 : Int32)) + (1 : Int32))) else ((if v2 = v1 then (if v1 = v0 then (0 : Int32) else (1 : Int32)) else ((if v1 = v0 then (0 : Int32) else (1 : Int32)) + (1 : Int32))) + (1 : Int32))) + (1 : Int32)))), .val (.int (4 : Int32))] [])) _
    refine XS.iinc X0.here hx rfl (hb hby d1_24) rfl (l' := #[.val (.ref r0), .val (.int (if v4 = v3 then (if v3 = v2 then (if v2 = v1 then (if v1 = v0 then (0 : Int32) else (1 : Int32)) else ((if v1 = v0 then (0 : Int32) else (1 : Int32)) + (1 : Int32))) else ((if v2 = v1 then (if v1 = v0 then (0 : Int32) else (1 : Int32)) else ((if v1 = v0 then (0 : Int32) else (1 : Int32)) + (1 : Int32))) + (1 : Int32))) else ((if v3 = v2 then (if v2 = v1 then (if v1 = v0 then (0 : Int32) else (1 : Int32)) else ((if v1 = v0 then (0 : Int32) else (1 : Int32)) + (1 : Int32))) else ((if v2 = v1 then (if v1 = v0 then (0 : Int32) else (1 : Int32)) else ((if v1 = v0 then (0 : Int32) else (1 : Int32)) + (1 : Int32))) + (1 : Int32))) + (1 : Int32)))), .val (.int (5 : Int32))]) rfl ?_
    show Steps p.tables e below (s₁.setTop (mkF m 27 #[.val (.ref r0), .val (.int (if v4 = v3 then (if v3 = v2 then (if v2 = v1 then (if v1 = v0 then (0 : Int32) else (1 : Int32)) else ((if v1 = v0 then (0 : Int32) else (1 : Int32)) + (1 : Int32))) else ((if v2 = v1 then (if v1 = v0 then (0 : Int32) else (1 : Int32)) else ((if v1 = v0 then (0 : Int32) else (1 : Int32)) + (1 : Int32))) + (1 : Int32))) else ((if v3 = v2 then (if v2 = v1 then (if v1 = v0 then (0 : Int32) else (1 : Int32)) else ((if v1 = v0 then (0 : Int32) else (1 : Int32)) + (1 : Int32))) else ((if v2 = v1 then (if v1 = v0 then (0 : Int32) else (1 : Int32)) else ((if v1 = v0 then (0 : Int32) else (1 : Int32)) + (1 : Int32))) + (1 : Int32))) + (1 : Int32)))), .val (.int (5 : Int32))] [])) _
    refine XS.goto X0.here hx rfl (pc0 := 27) (pc' := 4) rfl (hb hby d1_27) (by decide) (by decide) ?_
    show Steps p.tables e below (s₁.setTop (mkF m 4 #[.val (.ref r0), .val (.int (if v4 = v3 then (if v3 = v2 then (if v2 = v1 then (if v1 = v0 then (0 : Int32) else (1 : Int32)) else ((if v1 = v0 then (0 : Int32) else (1 : Int32)) + (1 : Int32))) else ((if v2 = v1 then (if v1 = v0 then (0 : Int32) else (1 : Int32)) else ((if v1 = v0 then (0 : Int32) else (1 : Int32)) + (1 : Int32))) + (1 : Int32))) else ((if v3 = v2 then (if v2 = v1 then (if v1 = v0 then (0 : Int32) else (1 : Int32)) else ((if v1 = v0 then (0 : Int32) else (1 : Int32)) + (1 : Int32))) else ((if v2 = v1 then (if v1 = v0 then (0 : Int32) else (1 : Int32)) else ((if v1 = v0 then (0 : Int32) else (1 : Int32)) + (1 : Int32))) + (1 : Int32))) + (1 : Int32)))), .val (.int (5 : Int32))] [])) _
    refine XS.iloadN X0.here hx rfl (hb hby d1_4) rfl ?_
    show Steps p.tables e below (s₁.setTop (mkF m 5 #[.val (.ref r0), .val (.int (if v4 = v3 then (if v3 = v2 then (if v2 = v1 then (if v1 = v0 then (0 : Int32) else (1 : Int32)) else ((if v1 = v0 then (0 : Int32) else (1 : Int32)) + (1 : Int32))) else ((if v2 = v1 then (if v1 = v0 then (0 : Int32) else (1 : Int32)) else ((if v1 = v0 then (0 : Int32) else (1 : Int32)) + (1 : Int32))) + (1 : Int32))) else ((if v3 = v2 then (if v2 = v1 then (if v1 = v0 then (0 : Int32) else (1 : Int32)) else ((if v1 = v0 then (0 : Int32) else (1 : Int32)) + (1 : Int32))) else ((if v2 = v1 then (if v1 = v0 then (0 : Int32) else (1 : Int32)) else ((if v1 = v0 then (0 : Int32) else (1 : Int32)) + (1 : Int32))) + (1 : Int32))) + (1 : Int32)))), .val (.int (5 : Int32))] [(.int (5 : Int32))])) _
    refine XS.aloadN X0.here hx rfl (hb hby d1_5) rfl rfl ?_
    show Steps p.tables e below (s₁.setTop (mkF m 6 #[.val (.ref r0), .val (.int (if v4 = v3 then (if v3 = v2 then (if v2 = v1 then (if v1 = v0 then (0 : Int32) else (1 : Int32)) else ((if v1 = v0 then (0 : Int32) else (1 : Int32)) + (1 : Int32))) else ((if v2 = v1 then (if v1 = v0 then (0 : Int32) else (1 : Int32)) else ((if v1 = v0 then (0 : Int32) else (1 : Int32)) + (1 : Int32))) + (1 : Int32))) else ((if v3 = v2 then (if v2 = v1 then (if v1 = v0 then (0 : Int32) else (1 : Int32)) else ((if v1 = v0 then (0 : Int32) else (1 : Int32)) + (1 : Int32))) else ((if v2 = v1 then (if v1 = v0 then (0 : Int32) else (1 : Int32)) else ((if v1 = v0 then (0 : Int32) else (1 : Int32)) + (1 : Int32))) + (1 : Int32))) + (1 : Int32)))), .val (.int (5 : Int32))] [(.ref r0), (.int (5 : Int32))])) _
    obtain ⟨cl_17, Ar_17, -, S_17, N_17, -, -⟩ := id Va
    refine X0.arraylength hx (by rw [e0]; exact Ar_17.1) (State.isArrayOf_alike hZ.alike Ar_17.2.1) (g := (mkF m 6 #[.val (.ref r0), .val (.int (if v4 = v3 then (if v3 = v2 then (if v2 = v1 then (if v1 = v0 then (0 : Int32) else (1 : Int32)) else ((if v1 = v0 then (0 : Int32) else (1 : Int32)) + (1 : Int32))) else ((if v2 = v1 then (if v1 = v0 then (0 : Int32) else (1 : Int32)) else ((if v1 = v0 then (0 : Int32) else (1 : Int32)) + (1 : Int32))) + (1 : Int32))) else ((if v3 = v2 then (if v2 = v1 then (if v1 = v0 then (0 : Int32) else (1 : Int32)) else ((if v1 = v0 then (0 : Int32) else (1 : Int32)) + (1 : Int32))) else ((if v2 = v1 then (if v1 = v0 then (0 : Int32) else (1 : Int32)) else ((if v1 = v0 then (0 : Int32) else (1 : Int32)) + (1 : Int32))) + (1 : Int32))) + (1 : Int32)))), .val (.int (5 : Int32))] [(.ref r0), (.int (5 : Int32))])) rfl rfl (hb hby d1_6) _ ?_
    rw [len_of S_17 N_17]
    show Steps p.tables e below (s₁.setTop (mkF m 7 #[.val (.ref r0), .val (.int (if v4 = v3 then (if v3 = v2 then (if v2 = v1 then (if v1 = v0 then (0 : Int32) else (1 : Int32)) else ((if v1 = v0 then (0 : Int32) else (1 : Int32)) + (1 : Int32))) else ((if v2 = v1 then (if v1 = v0 then (0 : Int32) else (1 : Int32)) else ((if v1 = v0 then (0 : Int32) else (1 : Int32)) + (1 : Int32))) + (1 : Int32))) else ((if v3 = v2 then (if v2 = v1 then (if v1 = v0 then (0 : Int32) else (1 : Int32)) else ((if v1 = v0 then (0 : Int32) else (1 : Int32)) + (1 : Int32))) else ((if v2 = v1 then (if v1 = v0 then (0 : Int32) else (1 : Int32)) else ((if v1 = v0 then (0 : Int32) else (1 : Int32)) + (1 : Int32))) + (1 : Int32))) + (1 : Int32)))), .val (.int (5 : Int32))] [(.int (5 : Int32)), (.int (5 : Int32))])) _
    refine XS.icmpYes X0.here hx rfl (pc0 := 7) (pc' := 30) rfl (hb hby d1_7) rfl (flt (by decide)).2.1 (by decide) (by decide) ?_
    show Steps p.tables e below (s₁.setTop (mkF m 30 #[.val (.ref r0), .val (.int (if v4 = v3 then (if v3 = v2 then (if v2 = v1 then (if v1 = v0 then (0 : Int32) else (1 : Int32)) else ((if v1 = v0 then (0 : Int32) else (1 : Int32)) + (1 : Int32))) else ((if v2 = v1 then (if v1 = v0 then (0 : Int32) else (1 : Int32)) else ((if v1 = v0 then (0 : Int32) else (1 : Int32)) + (1 : Int32))) + (1 : Int32))) else ((if v3 = v2 then (if v2 = v1 then (if v1 = v0 then (0 : Int32) else (1 : Int32)) else ((if v1 = v0 then (0 : Int32) else (1 : Int32)) + (1 : Int32))) else ((if v2 = v1 then (if v1 = v0 then (0 : Int32) else (1 : Int32)) else ((if v1 = v0 then (0 : Int32) else (1 : Int32)) + (1 : Int32))) + (1 : Int32))) + (1 : Int32)))), .val (.int (5 : Int32))] [])) _
    refine XS.iloadN X0.here hx rfl (hb hby d1_30) rfl ?_
    exact k
  obtain ⟨fs, hr, hrun, hended, hW, hsame⟩ := X0.leave (v := some (.int (if v4 = v3 then (if v3 = v2 then (if v2 = v1 then (if v1 = v0 then (0 : Int32) else (1 : Int32)) else ((if v1 = v0 then (0 : Int32) else (1 : Int32)) + (1 : Int32))) else ((if v2 = v1 then (if v1 = v0 then (0 : Int32) else (1 : Int32)) else ((if v1 = v0 then (0 : Int32) else (1 : Int32)) + (1 : Int32))) + (1 : Int32))) else ((if v3 = v2 then (if v2 = v1 then (if v1 = v0 then (0 : Int32) else (1 : Int32)) else ((if v1 = v0 then (0 : Int32) else (1 : Int32)) + (1 : Int32))) else ((if v2 = v1 then (if v1 = v0 then (0 : Int32) else (1 : Int32)) else ((if v1 = v0 then (0 : Int32) else (1 : Int32)) + (1 : Int32))) + (1 : Int32))) + (1 : Int32))))) (fun h => by rw [Bd.returns] at h; cases h)
  refine ⟨_, _, k18 _ ?_, hrun, hended, _, _, rfl, ?_, ⟨_, rfl⟩, hW, hsame.mono (by decide) (by decide)⟩
  · exact retOut X0 hx Bd.returns rfl (Or.inl ⟨rfl, Or.inl rfl, _, rfl⟩) (hb hby d1_31) hr
  · show own_Q (some (.int (own_chg5 v0 v1 v2 v3 v4))) h0 n0 _ s₁.heap _
    rw [e0]
    exact ⟨rfl, N0, rfl⟩
theorem own_k (x : Int32) : ((x &&& (2147483647 : Int32)) % (6 : Int32)) = (0 : Int32) ∨ ((x &&& (2147483647 : Int32)) % (6 : Int32)) = (1 : Int32) ∨ ((x &&& (2147483647 : Int32)) % (6 : Int32)) = (2 : Int32) ∨ ((x &&& (2147483647 : Int32)) % (6 : Int32)) = (3 : Int32) ∨ ((x &&& (2147483647 : Int32)) % (6 : Int32)) = (4 : Int32) ∨ ((x &&& (2147483647 : Int32)) % (6 : Int32)) = (5 : Int32) := by
  have a := c_mask x 2147483647 31 (by decide) (by decide)
  have r := c_irem (x &&& 2147483647) 6 6 (by decide)
  have z0 : (0 : Int32).toInt = 0 := by decide
  have z1 : (1 : Int32).toInt = 1 := by decide
  have z2 : (2 : Int32).toInt = 2 := by decide
  have z3 : (3 : Int32).toInt = 3 := by decide
  have z4 : (4 : Int32).toInt = 4 := by decide
  have z5 : (5 : Int32).toInt = 5 := by decide
  simp only [← Int32.toInt_inj]
  omega
theorem ef_rm0 (m : MethodId) (x0 : Int32) (x1 : Int32) (x2 : Int32) (x3 : Int32) (x4 : Int32) (x5 : Int32) : entryFrame m #[(.int x0), (.int x1), (.int x2), (.int x3), (.int x4), (.int x5)] maxLocals = mkF m 0 #[.val (.int x0), .val (.int x1), .val (.int x2), .val (.int x3), .val (.int x4), .val (.int x5), .unset, .unset, .unset, .unset] [] := by first | (simp [entryFrame, mkF, argsToLocals, Value.category, maxLocals]; done) | rfl
theorem pd_0 : parseMethodDescriptor "([I)I" = some ⟨[(.array .int)], some .int⟩ := by decide +kernel
theorem own_e0  : (own_chg0 ) = (0 : Int32) := by
  unfold own_chg0
  rfl
theorem own_e1 (p1 : Int32) : (own_chg1 p1) = (0 : Int32) := by
  unfold own_chg1
  rfl
theorem pd_1 : parseMethodDescriptor "(II)I" = some ⟨[.int, .int], some .int⟩ := by decide +kernel
theorem own_e2 (p1 p2 : Int32) : (own_chg2 p1 p2) = ((0 : Int32) + (own_dif p1 p2 )) := by
  unfold own_chg2 own_dif
  by_cases h1 : p1 = p2
  · simp only [if_pos h1, if_pos h1.symm]
    try decide
  · simp only [if_neg h1, if_neg (Ne.symm h1)]
    try decide
theorem own_e3 (p1 p2 p3 : Int32) : (own_chg3 p1 p2 p3) = (((0 : Int32) + (own_dif p1 p2 )) + (own_dif p2 p3 )) := by
  unfold own_chg3 own_dif
  by_cases h1 : p1 = p2
  · by_cases h2 : p2 = p3
    · simp only [if_pos h1, if_pos h1.symm, if_pos h2, if_pos h2.symm]
      try decide
    · simp only [if_pos h1, if_pos h1.symm, if_neg h2, if_neg (Ne.symm h2)]
      try decide
  · by_cases h2 : p2 = p3
    · simp only [if_neg h1, if_neg (Ne.symm h1), if_pos h2, if_pos h2.symm]
      try decide
    · simp only [if_neg h1, if_neg (Ne.symm h1), if_neg h2, if_neg (Ne.symm h2)]
      try decide
theorem own_e4 (p1 p2 p3 p4 : Int32) : (own_chg4 p1 p2 p3 p4) = ((((0 : Int32) + (own_dif p1 p2 )) + (own_dif p2 p3 )) + (own_dif p3 p4 )) := by
  unfold own_chg4 own_dif
  by_cases h1 : p1 = p2
  · by_cases h2 : p2 = p3
    · by_cases h3 : p3 = p4
      · simp only [if_pos h1, if_pos h1.symm, if_pos h2, if_pos h2.symm, if_pos h3, if_pos h3.symm]
        try decide
      · simp only [if_pos h1, if_pos h1.symm, if_pos h2, if_pos h2.symm, if_neg h3, if_neg (Ne.symm h3)]
        try decide
    · by_cases h3 : p3 = p4
      · simp only [if_pos h1, if_pos h1.symm, if_neg h2, if_neg (Ne.symm h2), if_pos h3, if_pos h3.symm]
        try decide
      · simp only [if_pos h1, if_pos h1.symm, if_neg h2, if_neg (Ne.symm h2), if_neg h3, if_neg (Ne.symm h3)]
        try decide
  · by_cases h2 : p2 = p3
    · by_cases h3 : p3 = p4
      · simp only [if_neg h1, if_neg (Ne.symm h1), if_pos h2, if_pos h2.symm, if_pos h3, if_pos h3.symm]
        try decide
      · simp only [if_neg h1, if_neg (Ne.symm h1), if_pos h2, if_pos h2.symm, if_neg h3, if_neg (Ne.symm h3)]
        try decide
    · by_cases h3 : p3 = p4
      · simp only [if_neg h1, if_neg (Ne.symm h1), if_neg h2, if_neg (Ne.symm h2), if_pos h3, if_pos h3.symm]
        try decide
      · simp only [if_neg h1, if_neg (Ne.symm h1), if_neg h2, if_neg (Ne.symm h2), if_neg h3, if_neg (Ne.symm h3)]
        try decide
theorem own_e5 (p1 p2 p3 p4 p5 : Int32) : (own_chg5 p1 p2 p3 p4 p5) = (((((0 : Int32) + (own_dif p1 p2 )) + (own_dif p2 p3 )) + (own_dif p3 p4 )) + (own_dif p4 p5 )) := by
  unfold own_chg5 own_dif
  by_cases h1 : p1 = p2
  · by_cases h2 : p2 = p3
    · by_cases h3 : p3 = p4
      · by_cases h4 : p4 = p5
        · simp only [if_pos h1, if_pos h1.symm, if_pos h2, if_pos h2.symm, if_pos h3, if_pos h3.symm, if_pos h4, if_pos h4.symm]
          try decide
        · simp only [if_pos h1, if_pos h1.symm, if_pos h2, if_pos h2.symm, if_pos h3, if_pos h3.symm, if_neg h4, if_neg (Ne.symm h4)]
          try decide
      · by_cases h4 : p4 = p5
        · simp only [if_pos h1, if_pos h1.symm, if_pos h2, if_pos h2.symm, if_neg h3, if_neg (Ne.symm h3), if_pos h4, if_pos h4.symm]
          try decide
        · simp only [if_pos h1, if_pos h1.symm, if_pos h2, if_pos h2.symm, if_neg h3, if_neg (Ne.symm h3), if_neg h4, if_neg (Ne.symm h4)]
          try decide
    · by_cases h3 : p3 = p4
      · by_cases h4 : p4 = p5
        · simp only [if_pos h1, if_pos h1.symm, if_neg h2, if_neg (Ne.symm h2), if_pos h3, if_pos h3.symm, if_pos h4, if_pos h4.symm]
          try decide
        · simp only [if_pos h1, if_pos h1.symm, if_neg h2, if_neg (Ne.symm h2), if_pos h3, if_pos h3.symm, if_neg h4, if_neg (Ne.symm h4)]
          try decide
      · by_cases h4 : p4 = p5
        · simp only [if_pos h1, if_pos h1.symm, if_neg h2, if_neg (Ne.symm h2), if_neg h3, if_neg (Ne.symm h3), if_pos h4, if_pos h4.symm]
          try decide
        · simp only [if_pos h1, if_pos h1.symm, if_neg h2, if_neg (Ne.symm h2), if_neg h3, if_neg (Ne.symm h3), if_neg h4, if_neg (Ne.symm h4)]
          try decide
  · by_cases h2 : p2 = p3
    · by_cases h3 : p3 = p4
      · by_cases h4 : p4 = p5
        · simp only [if_neg h1, if_neg (Ne.symm h1), if_pos h2, if_pos h2.symm, if_pos h3, if_pos h3.symm, if_pos h4, if_pos h4.symm]
          try decide
        · simp only [if_neg h1, if_neg (Ne.symm h1), if_pos h2, if_pos h2.symm, if_pos h3, if_pos h3.symm, if_neg h4, if_neg (Ne.symm h4)]
          try decide
      · by_cases h4 : p4 = p5
        · simp only [if_neg h1, if_neg (Ne.symm h1), if_pos h2, if_pos h2.symm, if_neg h3, if_neg (Ne.symm h3), if_pos h4, if_pos h4.symm]
          try decide
        · simp only [if_neg h1, if_neg (Ne.symm h1), if_pos h2, if_pos h2.symm, if_neg h3, if_neg (Ne.symm h3), if_neg h4, if_neg (Ne.symm h4)]
          try decide
    · by_cases h3 : p3 = p4
      · by_cases h4 : p4 = p5
        · simp only [if_neg h1, if_neg (Ne.symm h1), if_neg h2, if_neg (Ne.symm h2), if_pos h3, if_pos h3.symm, if_pos h4, if_pos h4.symm]
          try decide
        · simp only [if_neg h1, if_neg (Ne.symm h1), if_neg h2, if_neg (Ne.symm h2), if_pos h3, if_pos h3.symm, if_neg h4, if_neg (Ne.symm h4)]
          try decide
      · by_cases h4 : p4 = p5
        · simp only [if_neg h1, if_neg (Ne.symm h1), if_neg h2, if_neg (Ne.symm h2), if_neg h3, if_neg (Ne.symm h3), if_pos h4, if_pos h4.symm]
          try decide
        · simp only [if_neg h1, if_neg (Ne.symm h1), if_neg h2, if_neg (Ne.symm h2), if_neg h3, if_neg (Ne.symm h3), if_neg h4, if_neg (Ne.symm h4)]
          try decide
set_option maxRecDepth 65536 in
set_option maxHeartbeats 40000000 in
theorem rm0 (l : Launch) (Z : State) (a0 : Array Value) (hw : ∀ d ∈ tables_1, d.before a0 Z = true) (ws : List Jvm.Cond) (p0 : Int32) (p1 : Int32) (p2 : Int32) (p3 : Int32) (p4 : Int32) (p5 : Int32) (h0 : Heap) (n0 : Nat) (Z0 : n0 ≤ h0.size) :
    MetFree l x (head1 (Jvm.Cond.code x code maxLocals ret :: ws) room_1) (fun a U => a = #[(.int p0), (.int p1), (.int p2), (.int p3), (.int p4), (.int p5)] ∧ Z.Warmed39 U.vm ∧ U.heap = h0) (fun _ _ _ _ _ => True) (fun _ U o U' => ∃ v L, o = .returned v ∧ own_R (some (.int 1)) n0 v U'.heap L ∧ FrameEnd U o U' L room_1.cells room_1.slots) := by
  refine MetFree.of_bodySF (plainFor_of_name pn_0) hisR ?_
  intro p e s m args below meth c s₁ Bd hml0 hP hK
  obtain ⟨rfl, hZ, hh⟩ := hP
  have hx := Bd.exec
  have hby := Bd.bytes
  have hml : c.maxLocals = 10 := hml0
  have hown : s.vm.findClass "com/example/lightloom/lightloom/plan/LightpathChangesPinLaw" = some m.cls := findClass_of_methodNamed Bd.named
  have hnm := (name_of_methodNamed Bd.named Bd.method).1
  have X0 : Stand p l e room_1 s m #[(.int p0), (.int p1), (.int p2), (.int p3), (.int p4), (.int p5)] below meth c s₁ [] 0 0 := Stand.of_body Bd
  have e0 : s₁.heap = h0 := by rw [← hh, Bd.state]; rfl
  have N0 := Fr.nil n0
  have pre0 : ∀ t, Steps p.tables e below (s₁.setTop (mkF m 0 #[.val (.int p0), .val (.int p1), .val (.int p2), .val (.int p3), .val (.int p4), .val (.int p5), .unset, .unset, .unset, .unset] [])) t → Steps p.tables e below (s₁.setTop (entryFrame m #[(.int p0), (.int p1), (.int p2), (.int p3), (.int p4), (.int p5)] maxLocals)) t := fun t k => castTop (ef_rm0 m p0 p1 p2 p3 p4 p5) k
  have k1 : ∀ t, Steps p.tables e below (s₁.setTop (mkF m 9 #[.val (.int p0), .val (.int p1), .val (.int p2), .val (.int p3), .val (.int p4), .val (.int p5), .val (.int ((p0 &&& (2147483647 : Int32)) % (6 : Int32))), .unset, .unset, .unset] [])) t → Steps p.tables e below (s₁.setTop (entryFrame m #[(.int p0), (.int p1), (.int p2), (.int p3), (.int p4), (.int p5)] maxLocals)) t := by
    intro t k
    refine pre0 _ ?_
    show Steps p.tables e below (s₁.setTop (mkF m 0 #[.val (.int p0), .val (.int p1), .val (.int p2), .val (.int p3), .val (.int p4), .val (.int p5), .unset, .unset, .unset, .unset] [])) _
    refine XS.iloadN X0.here hx rfl (hb hby at_0) rfl ?_
    show Steps p.tables e below (s₁.setTop (mkF m 1 #[.val (.int p0), .val (.int p1), .val (.int p2), .val (.int p3), .val (.int p4), .val (.int p5), .unset, .unset, .unset, .unset] [(.int p0)])) _
    refine X0.ldcInt hx hown (mvT hZ (hw _ (List.mem_of_getElem? (i := 0) rfl))) (g := (mkF m 1 #[.val (.int p0), .val (.int p1), .val (.int p2), .val (.int p3), .val (.int p4), .val (.int p5), .unset, .unset, .unset, .unset] [(.int p0)])) rfl (hb hby at_1) _ ?_
    show Steps p.tables e below (s₁.setTop (mkF m 3 #[.val (.int p0), .val (.int p1), .val (.int p2), .val (.int p3), .val (.int p4), .val (.int p5), .unset, .unset, .unset, .unset] [(.int (2147483647 : Int32)), (.int p0)])) _
    refine XS.iand X0.here hx rfl (hb hby at_3) rfl ?_
    show Steps p.tables e below (s₁.setTop (mkF m 4 #[.val (.int p0), .val (.int p1), .val (.int p2), .val (.int p3), .val (.int p4), .val (.int p5), .unset, .unset, .unset, .unset] [(.int (p0 &&& (2147483647 : Int32)))])) _
    refine XS.bipush X0.here hx rfl (hb hby at_4) ?_
    show Steps p.tables e below (s₁.setTop (mkF m 6 #[.val (.int p0), .val (.int p1), .val (.int p2), .val (.int p3), .val (.int p4), .val (.int p5), .unset, .unset, .unset, .unset] [(.int (6 : Int32)), (.int (p0 &&& (2147483647 : Int32)))])) _
    refine iremM X0 hx rfl (hb hby at_6) rfl (by decide) ?_
    show Steps p.tables e below (s₁.setTop (mkF m 7 #[.val (.int p0), .val (.int p1), .val (.int p2), .val (.int p3), .val (.int p4), .val (.int p5), .unset, .unset, .unset, .unset] [(.int ((p0 &&& (2147483647 : Int32)) % (6 : Int32)))])) _
    refine XS.istore X0.here hx rfl (hb hby at_7) rfl (l' := #[.val (.int p0), .val (.int p1), .val (.int p2), .val (.int p3), .val (.int p4), .val (.int p5), .val (.int ((p0 &&& (2147483647 : Int32)) % (6 : Int32))), .unset, .unset, .unset]) rfl ?_
    exact k
  rcases own_k p0 with hk | hk | hk | hk | hk | hk
  · have k2 : ∀ t, Steps p.tables e below (s₁.setTop (mkF m 9 #[.val (.int p0), .val (.int p1), .val (.int p2), .val (.int p3), .val (.int p4), .val (.int p5), .val (.int (0 : Int32)), .unset, .unset, .unset] [])) t → Steps p.tables e below (s₁.setTop (entryFrame m #[(.int p0), (.int p1), (.int p2), (.int p3), (.int p4), (.int p5)] maxLocals)) t := by
      intro t k
      refine k1 _ ?_
      rw [hk]
      exact k
    obtain ⟨T3, h3, c3, X3, e3, E3, A3, st3⟩ := newP X0 hx hZ (hw _ (List.mem_of_getElem? (i := 1) rfl)) e0 (g := (mkF m 11 #[.val (.int p0), .val (.int p1), .val (.int p2), .val (.int p3), .val (.int p4), .val (.int p5), .val (.int (0 : Int32)), .unset, .unset, .unset] [(.int (0 : Int32))])) rfl (hb hby at_11) rfl (by decide) (cap := 0) (by decide) (by decide) (by decide) (by decide)
    obtain ⟨b3, g3⟩ : ∃ z, z = h0.size := ⟨_, rfl⟩
    rw [← g3] at A3 st3
    have gn_b3 : n0 ≤ b3 := Nat.le_trans Z0 (Nat.le_of_eq g3.symm)
    have Zs3 : n0 ≤ h3.size := Nat.le_trans Z0 E3.1
    have V_b3 : Arv Z h3 b3 c3 .int (0 : Int32) [] (.int (0 : Int32)) := Arv.new A3 (by decide)
    obtain ⟨_, _, ⟨T4, L4, k4_, n4⟩, -, X4, ⟨Lc4, hQ4, l4, y4, z4⟩, st4⟩ := Jvm.LawKit.callS X3 hx (y := (⟨"com/example/lightloom/lightloom/plan/Lightpath", "changes", "([I)I"⟩ : MethodName)) hown (mvT hZ (hw _ (List.mem_of_getElem? (i := 2) rfl))) (mvT hZ (hw _ (List.mem_of_getElem? (i := 3) rfl))) (mvT hZ (hw _ (List.mem_of_getElem? (i := 4) rfl))) (mvT hZ (hw _ (List.mem_of_getElem? (i := 5) rfl))) (by decide) (backOf (W := 0) (rmC0 l Z a0 hw [] b3 c3  h3 n0 V_b3) hZ (hw _ (List.mem_of_getElem? (i := 5) rfl)) (hw _ (List.mem_of_getElem? (i := 4) rfl)) (by decide) (by decide)) (g := (mkF m 143 #[.val (.int p0), .val (.int p1), .val (.int p2), .val (.int p3), .val (.int p4), .val (.int p5), .val (.int (0 : Int32)), .val (.ref b3), .val (.int (0 : Int32)), .unset] [(.ref b3)])) rfl (by rw [hml]; rfl) (argsL := [(.ref b3)]) (rest := []) (lenOf pd_0 rfl) rfl (by show 2 * 0 + _ ≤ _; exact Nat.le_of_eq rfl) (hb hby at_143) (fun _ _ => ⟨rfl, e3, (by decide : 1 + 0 ≤ _), (by decide : 0 + 0 ≤ _)⟩)
    dsimp only [Pt.U, Pt.locs, Pt.cells, Pt.slots] at X4 l4 y4 z4 st4 hQ4
    subst l4 y4 z4
    obtain ⟨rfl, Nq4, e4⟩ := hQ4
    have N4 := Fr.app N0 Nq4
    have k5 : ∀ t, Steps p.tables e below (T4.setTop (mkF m 160 #[.val (.int p0), .val (.int p1), .val (.int p2), .val (.int p3), .val (.int p4), .val (.int p5), .val (.int (0 : Int32)), .val (.ref b3), .val (.int (0 : Int32)), .val (.int (own_chg0 ))] [(.int (1 : Int32))])) t → Steps p.tables e below (s₁.setTop (entryFrame m #[(.int p0), (.int p1), (.int p2), (.int p3), (.int p4), (.int p5)] maxLocals)) t := by
      intro t k
      refine k2 _ ?_
      show Steps p.tables e below (s₁.setTop (mkF m 9 #[.val (.int p0), .val (.int p1), .val (.int p2), .val (.int p3), .val (.int p4), .val (.int p5), .val (.int (0 : Int32)), .unset, .unset, .unset] [])) _
      refine XS.iload X0.here hx rfl (hb hby at_9) rfl ?_
      show Steps p.tables e below (s₁.setTop (mkF m 11 #[.val (.int p0), .val (.int p1), .val (.int p2), .val (.int p3), .val (.int p4), .val (.int p5), .val (.int (0 : Int32)), .unset, .unset, .unset] [(.int (0 : Int32))])) _
      refine st3 _ ?_
      show Steps p.tables e below (T3.setTop (mkF m 13 #[.val (.int p0), .val (.int p1), .val (.int p2), .val (.int p3), .val (.int p4), .val (.int p5), .val (.int (0 : Int32)), .unset, .unset, .unset] [(.ref b3)])) _
      refine XS.astore X3.here hx rfl (hb hby at_13) rfl rfl (l' := #[.val (.int p0), .val (.int p1), .val (.int p2), .val (.int p3), .val (.int p4), .val (.int p5), .val (.int (0 : Int32)), .val (.ref b3), .unset, .unset]) rfl ?_
      show Steps p.tables e below (T3.setTop (mkF m 15 #[.val (.int p0), .val (.int p1), .val (.int p2), .val (.int p3), .val (.int p4), .val (.int p5), .val (.int (0 : Int32)), .val (.ref b3), .unset, .unset] [])) _
      refine XS.iload X3.here hx rfl (hb hby at_15) rfl ?_
      show Steps p.tables e below (T3.setTop (mkF m 17 #[.val (.int p0), .val (.int p1), .val (.int p2), .val (.int p3), .val (.int p4), .val (.int p5), .val (.int (0 : Int32)), .val (.ref b3), .unset, .unset] [(.int (0 : Int32))])) _
      refine XS.ifYes X3.here hx rfl (pc0 := 17) (pc' := 25) rfl (hb hby at_17) rfl ((if0 _ _).trans (flt (by decide)).2.2.2) (by decide) (by decide) ?_
      show Steps p.tables e below (T3.setTop (mkF m 25 #[.val (.int p0), .val (.int p1), .val (.int p2), .val (.int p3), .val (.int p4), .val (.int p5), .val (.int (0 : Int32)), .val (.ref b3), .unset, .unset] [])) _
      refine XS.iload X3.here hx rfl (hb hby at_25) rfl ?_
      show Steps p.tables e below (T3.setTop (mkF m 27 #[.val (.int p0), .val (.int p1), .val (.int p2), .val (.int p3), .val (.int p4), .val (.int p5), .val (.int (0 : Int32)), .val (.ref b3), .unset, .unset] [(.int (0 : Int32))])) _
      refine XS.iconst X3.here hx rfl (hb hby at_27) ?_
      show Steps p.tables e below (T3.setTop (mkF m 28 #[.val (.int p0), .val (.int p1), .val (.int p2), .val (.int p3), .val (.int p4), .val (.int p5), .val (.int (0 : Int32)), .val (.ref b3), .unset, .unset] [(.int (1 : Int32)), (.int (0 : Int32))])) _
      refine XS.icmpYes X3.here hx rfl (pc0 := 28) (pc' := 36) rfl (hb hby at_28) rfl (flt (by decide)).2.2.2 (by decide) (by decide) ?_
      show Steps p.tables e below (T3.setTop (mkF m 36 #[.val (.int p0), .val (.int p1), .val (.int p2), .val (.int p3), .val (.int p4), .val (.int p5), .val (.int (0 : Int32)), .val (.ref b3), .unset, .unset] [])) _
      refine XS.iload X3.here hx rfl (hb hby at_36) rfl ?_
      show Steps p.tables e below (T3.setTop (mkF m 38 #[.val (.int p0), .val (.int p1), .val (.int p2), .val (.int p3), .val (.int p4), .val (.int p5), .val (.int (0 : Int32)), .val (.ref b3), .unset, .unset] [(.int (0 : Int32))])) _
      refine XS.iconst X3.here hx rfl (hb hby at_38) ?_
      show Steps p.tables e below (T3.setTop (mkF m 39 #[.val (.int p0), .val (.int p1), .val (.int p2), .val (.int p3), .val (.int p4), .val (.int p5), .val (.int (0 : Int32)), .val (.ref b3), .unset, .unset] [(.int (2 : Int32)), (.int (0 : Int32))])) _
      refine XS.icmpYes X3.here hx rfl (pc0 := 39) (pc' := 47) rfl (hb hby at_39) rfl (flt (by decide)).2.2.2 (by decide) (by decide) ?_
      show Steps p.tables e below (T3.setTop (mkF m 47 #[.val (.int p0), .val (.int p1), .val (.int p2), .val (.int p3), .val (.int p4), .val (.int p5), .val (.int (0 : Int32)), .val (.ref b3), .unset, .unset] [])) _
      refine XS.iload X3.here hx rfl (hb hby at_47) rfl ?_
      show Steps p.tables e below (T3.setTop (mkF m 49 #[.val (.int p0), .val (.int p1), .val (.int p2), .val (.int p3), .val (.int p4), .val (.int p5), .val (.int (0 : Int32)), .val (.ref b3), .unset, .unset] [(.int (0 : Int32))])) _
      refine XS.iconst X3.here hx rfl (hb hby at_49) ?_
      show Steps p.tables e below (T3.setTop (mkF m 50 #[.val (.int p0), .val (.int p1), .val (.int p2), .val (.int p3), .val (.int p4), .val (.int p5), .val (.int (0 : Int32)), .val (.ref b3), .unset, .unset] [(.int (3 : Int32)), (.int (0 : Int32))])) _
      refine XS.icmpYes X3.here hx rfl (pc0 := 50) (pc' := 59) rfl (hb hby at_50) rfl (flt (by decide)).2.2.2 (by decide) (by decide) ?_
      show Steps p.tables e below (T3.setTop (mkF m 59 #[.val (.int p0), .val (.int p1), .val (.int p2), .val (.int p3), .val (.int p4), .val (.int p5), .val (.int (0 : Int32)), .val (.ref b3), .unset, .unset] [])) _
      refine XS.iload X3.here hx rfl (hb hby at_59) rfl ?_
      show Steps p.tables e below (T3.setTop (mkF m 61 #[.val (.int p0), .val (.int p1), .val (.int p2), .val (.int p3), .val (.int p4), .val (.int p5), .val (.int (0 : Int32)), .val (.ref b3), .unset, .unset] [(.int (0 : Int32))])) _
      refine XS.iconst X3.here hx rfl (hb hby at_61) ?_
      show Steps p.tables e below (T3.setTop (mkF m 62 #[.val (.int p0), .val (.int p1), .val (.int p2), .val (.int p3), .val (.int p4), .val (.int p5), .val (.int (0 : Int32)), .val (.ref b3), .unset, .unset] [(.int (4 : Int32)), (.int (0 : Int32))])) _
      refine XS.icmpYes X3.here hx rfl (pc0 := 62) (pc' := 71) rfl (hb hby at_62) rfl (flt (by decide)).2.2.2 (by decide) (by decide) ?_
      show Steps p.tables e below (T3.setTop (mkF m 71 #[.val (.int p0), .val (.int p1), .val (.int p2), .val (.int p3), .val (.int p4), .val (.int p5), .val (.int (0 : Int32)), .val (.ref b3), .unset, .unset] [])) _
      refine XS.iconst X3.here hx rfl (hb hby at_71) ?_
      show Steps p.tables e below (T3.setTop (mkF m 72 #[.val (.int p0), .val (.int p1), .val (.int p2), .val (.int p3), .val (.int p4), .val (.int p5), .val (.int (0 : Int32)), .val (.ref b3), .unset, .unset] [(.int (0 : Int32))])) _
      refine XS.istore X3.here hx rfl (hb hby at_72) rfl (l' := #[.val (.int p0), .val (.int p1), .val (.int p2), .val (.int p3), .val (.int p4), .val (.int p5), .val (.int (0 : Int32)), .val (.ref b3), .val (.int (0 : Int32)), .unset]) rfl ?_
      show Steps p.tables e below (T3.setTop (mkF m 74 #[.val (.int p0), .val (.int p1), .val (.int p2), .val (.int p3), .val (.int p4), .val (.int p5), .val (.int (0 : Int32)), .val (.ref b3), .val (.int (0 : Int32)), .unset] [])) _
      refine XS.iload X3.here hx rfl (hb hby at_74) rfl ?_
      show Steps p.tables e below (T3.setTop (mkF m 76 #[.val (.int p0), .val (.int p1), .val (.int p2), .val (.int p3), .val (.int p4), .val (.int p5), .val (.int (0 : Int32)), .val (.ref b3), .val (.int (0 : Int32)), .unset] [(.int (0 : Int32))])) _
      refine XS.iconst X3.here hx rfl (hb hby at_76) ?_
      show Steps p.tables e below (T3.setTop (mkF m 77 #[.val (.int p0), .val (.int p1), .val (.int p2), .val (.int p3), .val (.int p4), .val (.int p5), .val (.int (0 : Int32)), .val (.ref b3), .val (.int (0 : Int32)), .unset] [(.int (2 : Int32)), (.int (0 : Int32))])) _
      refine XS.icmpYes X3.here hx rfl (pc0 := 77) (pc' := 90) rfl (hb hby at_77) rfl (tlt (by decide)).1 (by decide) (by decide) ?_
      show Steps p.tables e below (T3.setTop (mkF m 90 #[.val (.int p0), .val (.int p1), .val (.int p2), .val (.int p3), .val (.int p4), .val (.int p5), .val (.int (0 : Int32)), .val (.ref b3), .val (.int (0 : Int32)), .unset] [])) _
      refine XS.iload X3.here hx rfl (hb hby at_90) rfl ?_
      show Steps p.tables e below (T3.setTop (mkF m 92 #[.val (.int p0), .val (.int p1), .val (.int p2), .val (.int p3), .val (.int p4), .val (.int p5), .val (.int (0 : Int32)), .val (.ref b3), .val (.int (0 : Int32)), .unset] [(.int (0 : Int32))])) _
      refine XS.iconst X3.here hx rfl (hb hby at_92) ?_
      show Steps p.tables e below (T3.setTop (mkF m 93 #[.val (.int p0), .val (.int p1), .val (.int p2), .val (.int p3), .val (.int p4), .val (.int p5), .val (.int (0 : Int32)), .val (.ref b3), .val (.int (0 : Int32)), .unset] [(.int (3 : Int32)), (.int (0 : Int32))])) _
      refine XS.icmpYes X3.here hx rfl (pc0 := 93) (pc' := 106) rfl (hb hby at_93) rfl (tlt (by decide)).1 (by decide) (by decide) ?_
      show Steps p.tables e below (T3.setTop (mkF m 106 #[.val (.int p0), .val (.int p1), .val (.int p2), .val (.int p3), .val (.int p4), .val (.int p5), .val (.int (0 : Int32)), .val (.ref b3), .val (.int (0 : Int32)), .unset] [])) _
      refine XS.iload X3.here hx rfl (hb hby at_106) rfl ?_
      show Steps p.tables e below (T3.setTop (mkF m 108 #[.val (.int p0), .val (.int p1), .val (.int p2), .val (.int p3), .val (.int p4), .val (.int p5), .val (.int (0 : Int32)), .val (.ref b3), .val (.int (0 : Int32)), .unset] [(.int (0 : Int32))])) _
      refine XS.iconst X3.here hx rfl (hb hby at_108) ?_
      show Steps p.tables e below (T3.setTop (mkF m 109 #[.val (.int p0), .val (.int p1), .val (.int p2), .val (.int p3), .val (.int p4), .val (.int p5), .val (.int (0 : Int32)), .val (.ref b3), .val (.int (0 : Int32)), .unset] [(.int (4 : Int32)), (.int (0 : Int32))])) _
      refine XS.icmpYes X3.here hx rfl (pc0 := 109) (pc' := 123) rfl (hb hby at_109) rfl (tlt (by decide)).1 (by decide) (by decide) ?_
      show Steps p.tables e below (T3.setTop (mkF m 123 #[.val (.int p0), .val (.int p1), .val (.int p2), .val (.int p3), .val (.int p4), .val (.int p5), .val (.int (0 : Int32)), .val (.ref b3), .val (.int (0 : Int32)), .unset] [])) _
      refine XS.iload X3.here hx rfl (hb hby at_123) rfl ?_
      show Steps p.tables e below (T3.setTop (mkF m 125 #[.val (.int p0), .val (.int p1), .val (.int p2), .val (.int p3), .val (.int p4), .val (.int p5), .val (.int (0 : Int32)), .val (.ref b3), .val (.int (0 : Int32)), .unset] [(.int (0 : Int32))])) _
      refine XS.iconst X3.here hx rfl (hb hby at_125) ?_
      show Steps p.tables e below (T3.setTop (mkF m 126 #[.val (.int p0), .val (.int p1), .val (.int p2), .val (.int p3), .val (.int p4), .val (.int p5), .val (.int (0 : Int32)), .val (.ref b3), .val (.int (0 : Int32)), .unset] [(.int (5 : Int32)), (.int (0 : Int32))])) _
      refine XS.icmpYes X3.here hx rfl (pc0 := 126) (pc' := 141) rfl (hb hby at_126) rfl (tlt (by decide)).1 (by decide) (by decide) ?_
      show Steps p.tables e below (T3.setTop (mkF m 141 #[.val (.int p0), .val (.int p1), .val (.int p2), .val (.int p3), .val (.int p4), .val (.int p5), .val (.int (0 : Int32)), .val (.ref b3), .val (.int (0 : Int32)), .unset] [])) _
      refine XS.aload X3.here hx rfl (hb hby at_141) rfl rfl ?_
      show Steps p.tables e below (T3.setTop (mkF m 143 #[.val (.int p0), .val (.int p1), .val (.int p2), .val (.int p3), .val (.int p4), .val (.int p5), .val (.int (0 : Int32)), .val (.ref b3), .val (.int (0 : Int32)), .unset] [(.ref b3)])) _
      refine st4 _ ?_
      show Steps p.tables e below (T4.setTop (mkF m 146 #[.val (.int p0), .val (.int p1), .val (.int p2), .val (.int p3), .val (.int p4), .val (.int p5), .val (.int (0 : Int32)), .val (.ref b3), .val (.int (0 : Int32)), .unset] [(.int (own_chg0 ))])) _
      refine XS.istore X4.here hx rfl (hb hby at_146) rfl (l' := #[.val (.int p0), .val (.int p1), .val (.int p2), .val (.int p3), .val (.int p4), .val (.int p5), .val (.int (0 : Int32)), .val (.ref b3), .val (.int (0 : Int32)), .val (.int (own_chg0 ))]) rfl ?_
      show Steps p.tables e below (T4.setTop (mkF m 148 #[.val (.int p0), .val (.int p1), .val (.int p2), .val (.int p3), .val (.int p4), .val (.int p5), .val (.int (0 : Int32)), .val (.ref b3), .val (.int (0 : Int32)), .val (.int (own_chg0 ))] [])) _
      refine XS.iload X4.here hx rfl (hb hby at_148) rfl ?_
      show Steps p.tables e below (T4.setTop (mkF m 150 #[.val (.int p0), .val (.int p1), .val (.int p2), .val (.int p3), .val (.int p4), .val (.int p5), .val (.int (0 : Int32)), .val (.ref b3), .val (.int (0 : Int32)), .val (.int (own_chg0 ))] [(.int (own_chg0 ))])) _
      refine XS.iload X4.here hx rfl (hb hby at_150) rfl ?_
      show Steps p.tables e below (T4.setTop (mkF m 152 #[.val (.int p0), .val (.int p1), .val (.int p2), .val (.int p3), .val (.int p4), .val (.int p5), .val (.int (0 : Int32)), .val (.ref b3), .val (.int (0 : Int32)), .val (.int (own_chg0 ))] [(.int (0 : Int32)), (.int (own_chg0 ))])) _
      refine XS.icmpNo X4.here hx rfl (hb hby at_152) rfl (teq own_e0).2 ?_
      show Steps p.tables e below (T4.setTop (mkF m 155 #[.val (.int p0), .val (.int p1), .val (.int p2), .val (.int p3), .val (.int p4), .val (.int p5), .val (.int (0 : Int32)), .val (.ref b3), .val (.int (0 : Int32)), .val (.int (own_chg0 ))] [])) _
      refine XS.iconst X4.here hx rfl (hb hby at_155) ?_
      show Steps p.tables e below (T4.setTop (mkF m 156 #[.val (.int p0), .val (.int p1), .val (.int p2), .val (.int p3), .val (.int p4), .val (.int p5), .val (.int (0 : Int32)), .val (.ref b3), .val (.int (0 : Int32)), .val (.int (own_chg0 ))] [(.int (1 : Int32))])) _
      refine XS.goto X4.here hx rfl (pc0 := 156) (pc' := 160) rfl (hb hby at_156) (by decide) (by decide) ?_
      exact k
    obtain ⟨fs, hr, hrun, hended, hW, hsame⟩ := X4.leave (v := some (.int (1 : Int32))) (fun h => by rw [Bd.returns] at h; cases h)
    refine ⟨_, _, k5 _ ?_, hrun, hended, _, _, rfl, ?_, ⟨_, rfl⟩, hW, hsame.mono (by decide) (by decide)⟩
    · exact retN X4 hx (t := .boolean) Bd.returns (by simp) (hb hby at_160) hr
    · show own_R (some (.int 1)) n0 _ T4.heap _
      rw [e4]
      exact ⟨rfl, N4⟩
  · have k6 : ∀ t, Steps p.tables e below (s₁.setTop (mkF m 9 #[.val (.int p0), .val (.int p1), .val (.int p2), .val (.int p3), .val (.int p4), .val (.int p5), .val (.int (1 : Int32)), .unset, .unset, .unset] [])) t → Steps p.tables e below (s₁.setTop (entryFrame m #[(.int p0), (.int p1), (.int p2), (.int p3), (.int p4), (.int p5)] maxLocals)) t := by
      intro t k
      refine k1 _ ?_
      rw [hk]
      exact k
    obtain ⟨T7, h7, c7, X7, e7, E7, A7, st7⟩ := newP X0 hx hZ (hw _ (List.mem_of_getElem? (i := 1) rfl)) e0 (g := (mkF m 11 #[.val (.int p0), .val (.int p1), .val (.int p2), .val (.int p3), .val (.int p4), .val (.int p5), .val (.int (1 : Int32)), .unset, .unset, .unset] [(.int (1 : Int32))])) rfl (hb hby at_11) rfl (by decide) (cap := 1) (by decide) (by decide) (by decide) (by decide)
    obtain ⟨b7, g7⟩ : ∃ z, z = h0.size := ⟨_, rfl⟩
    rw [← g7] at A7 st7
    have gn_b7 : n0 ≤ b7 := Nat.le_trans Z0 (Nat.le_of_eq g7.symm)
    have Zs7 : n0 ≤ h7.size := Nat.le_trans Z0 E7.1
    have V_b7 : Arv Z h7 b7 c7 .int (1 : Int32) [(.int (0 : Int32))] (.int (0 : Int32)) := (Arv.new A7 (by decide)).pad (pad_rep [] (.int (0 : Int32)) 1)
    obtain ⟨cl_8, Ar_8, q_8, S_8, N_8, H_8, G_8⟩ := id V_b7
    have hin_8 : ¬ ((0 : Int32) < 0 ∨ cl_8.slots.size ≤ ((0 : Int32)).toNatClampNeg) := inb_of S_8 ⟨by decide, by decide⟩
    obtain ⟨T8, h8, X8, e8, W8, st8⟩ := stI X7 hx hZ e7 Ar_8 (j := (0 : Int32)) hin_8 (g := (mkF m 24 #[.val (.int p0), .val (.int p1), .val (.int p2), .val (.int p3), .val (.int p4), .val (.int p5), .val (.int (1 : Int32)), .val (.ref b7), .unset, .unset] [(.int p1), (.int (0 : Int32)), (.ref b7)])) rfl rfl (hb hby at_24)
    have Vn8 : Arv Z h8 b7 c7 .int (1 : Int32) [(.int p1)] (.int (0 : Int32)) := Arv.set Ar_8 q_8 S_8 N_8 H_8 G_8 rfl W8 0 rfl (Nat.le_of_ble_eq_true rfl)
    replace V_b7 := Vn8
    have N8 := Fr.snoc X8 N0 gn_b7
    have Zs8 : n0 ≤ h8.size := by rw [W8.size]; exact Zs7
    obtain ⟨_, _, ⟨T9, L9, k9_, n9⟩, -, X9, ⟨Lc9, hQ9, l9, y9, z9⟩, st9⟩ := Jvm.LawKit.callS X8 hx (y := (⟨"com/example/lightloom/lightloom/plan/Lightpath", "changes", "([I)I"⟩ : MethodName)) hown (mvT hZ (hw _ (List.mem_of_getElem? (i := 2) rfl))) (mvT hZ (hw _ (List.mem_of_getElem? (i := 3) rfl))) (mvT hZ (hw _ (List.mem_of_getElem? (i := 4) rfl))) (mvT hZ (hw _ (List.mem_of_getElem? (i := 5) rfl))) (by decide) (backOf (W := 0) (rmC1 l Z a0 hw [] b7 c7 p1 h8 n0 V_b7) hZ (hw _ (List.mem_of_getElem? (i := 5) rfl)) (hw _ (List.mem_of_getElem? (i := 4) rfl)) (by decide) (by decide)) (g := (mkF m 143 #[.val (.int p0), .val (.int p1), .val (.int p2), .val (.int p3), .val (.int p4), .val (.int p5), .val (.int (1 : Int32)), .val (.ref b7), .val (.int (0 : Int32)), .unset] [(.ref b7)])) rfl (by rw [hml]; rfl) (argsL := [(.ref b7)]) (rest := []) (lenOf pd_0 rfl) rfl (by show 2 * 0 + _ ≤ _; exact Nat.le_of_eq rfl) (hb hby at_143) (fun _ _ => ⟨rfl, e8, (by decide : 1 + 0 ≤ _), (by decide : 1 + 0 ≤ _)⟩)
    dsimp only [Pt.U, Pt.locs, Pt.cells, Pt.slots] at X9 l9 y9 z9 st9 hQ9
    subst l9 y9 z9
    obtain ⟨rfl, Nq9, e9⟩ := hQ9
    have N9 := Fr.app N8 Nq9
    have k10 : ∀ t, Steps p.tables e below (T9.setTop (mkF m 160 #[.val (.int p0), .val (.int p1), .val (.int p2), .val (.int p3), .val (.int p4), .val (.int p5), .val (.int (1 : Int32)), .val (.ref b7), .val (.int (0 : Int32)), .val (.int (own_chg1 p1))] [(.int (1 : Int32))])) t → Steps p.tables e below (s₁.setTop (entryFrame m #[(.int p0), (.int p1), (.int p2), (.int p3), (.int p4), (.int p5)] maxLocals)) t := by
      intro t k
      refine k6 _ ?_
      show Steps p.tables e below (s₁.setTop (mkF m 9 #[.val (.int p0), .val (.int p1), .val (.int p2), .val (.int p3), .val (.int p4), .val (.int p5), .val (.int (1 : Int32)), .unset, .unset, .unset] [])) _
      refine XS.iload X0.here hx rfl (hb hby at_9) rfl ?_
      show Steps p.tables e below (s₁.setTop (mkF m 11 #[.val (.int p0), .val (.int p1), .val (.int p2), .val (.int p3), .val (.int p4), .val (.int p5), .val (.int (1 : Int32)), .unset, .unset, .unset] [(.int (1 : Int32))])) _
      refine st7 _ ?_
      show Steps p.tables e below (T7.setTop (mkF m 13 #[.val (.int p0), .val (.int p1), .val (.int p2), .val (.int p3), .val (.int p4), .val (.int p5), .val (.int (1 : Int32)), .unset, .unset, .unset] [(.ref b7)])) _
      refine XS.astore X7.here hx rfl (hb hby at_13) rfl rfl (l' := #[.val (.int p0), .val (.int p1), .val (.int p2), .val (.int p3), .val (.int p4), .val (.int p5), .val (.int (1 : Int32)), .val (.ref b7), .unset, .unset]) rfl ?_
      show Steps p.tables e below (T7.setTop (mkF m 15 #[.val (.int p0), .val (.int p1), .val (.int p2), .val (.int p3), .val (.int p4), .val (.int p5), .val (.int (1 : Int32)), .val (.ref b7), .unset, .unset] [])) _
      refine XS.iload X7.here hx rfl (hb hby at_15) rfl ?_
      show Steps p.tables e below (T7.setTop (mkF m 17 #[.val (.int p0), .val (.int p1), .val (.int p2), .val (.int p3), .val (.int p4), .val (.int p5), .val (.int (1 : Int32)), .val (.ref b7), .unset, .unset] [(.int (1 : Int32))])) _
      refine XS.ifNo X7.here hx rfl (hb hby at_17) rfl ((if0 _ _).trans (tlt (by decide)).2.2.2) ?_
      show Steps p.tables e below (T7.setTop (mkF m 20 #[.val (.int p0), .val (.int p1), .val (.int p2), .val (.int p3), .val (.int p4), .val (.int p5), .val (.int (1 : Int32)), .val (.ref b7), .unset, .unset] [])) _
      refine XS.aload X7.here hx rfl (hb hby at_20) rfl rfl ?_
      show Steps p.tables e below (T7.setTop (mkF m 22 #[.val (.int p0), .val (.int p1), .val (.int p2), .val (.int p3), .val (.int p4), .val (.int p5), .val (.int (1 : Int32)), .val (.ref b7), .unset, .unset] [(.ref b7)])) _
      refine XS.iconst X7.here hx rfl (hb hby at_22) ?_
      show Steps p.tables e below (T7.setTop (mkF m 23 #[.val (.int p0), .val (.int p1), .val (.int p2), .val (.int p3), .val (.int p4), .val (.int p5), .val (.int (1 : Int32)), .val (.ref b7), .unset, .unset] [(.int (0 : Int32)), (.ref b7)])) _
      refine XS.iloadN X7.here hx rfl (hb hby at_23) rfl ?_
      show Steps p.tables e below (T7.setTop (mkF m 24 #[.val (.int p0), .val (.int p1), .val (.int p2), .val (.int p3), .val (.int p4), .val (.int p5), .val (.int (1 : Int32)), .val (.ref b7), .unset, .unset] [(.int p1), (.int (0 : Int32)), (.ref b7)])) _
      refine st8 _ ?_
      show Steps p.tables e below (T8.setTop (mkF m 25 #[.val (.int p0), .val (.int p1), .val (.int p2), .val (.int p3), .val (.int p4), .val (.int p5), .val (.int (1 : Int32)), .val (.ref b7), .unset, .unset] [])) _
      refine XS.iload X8.here hx rfl (hb hby at_25) rfl ?_
      show Steps p.tables e below (T8.setTop (mkF m 27 #[.val (.int p0), .val (.int p1), .val (.int p2), .val (.int p3), .val (.int p4), .val (.int p5), .val (.int (1 : Int32)), .val (.ref b7), .unset, .unset] [(.int (1 : Int32))])) _
      refine XS.iconst X8.here hx rfl (hb hby at_27) ?_
      show Steps p.tables e below (T8.setTop (mkF m 28 #[.val (.int p0), .val (.int p1), .val (.int p2), .val (.int p3), .val (.int p4), .val (.int p5), .val (.int (1 : Int32)), .val (.ref b7), .unset, .unset] [(.int (1 : Int32)), (.int (1 : Int32))])) _
      refine XS.icmpYes X8.here hx rfl (pc0 := 28) (pc' := 36) rfl (hb hby at_28) rfl (flt (by decide)).2.2.2 (by decide) (by decide) ?_
      show Steps p.tables e below (T8.setTop (mkF m 36 #[.val (.int p0), .val (.int p1), .val (.int p2), .val (.int p3), .val (.int p4), .val (.int p5), .val (.int (1 : Int32)), .val (.ref b7), .unset, .unset] [])) _
      refine XS.iload X8.here hx rfl (hb hby at_36) rfl ?_
      show Steps p.tables e below (T8.setTop (mkF m 38 #[.val (.int p0), .val (.int p1), .val (.int p2), .val (.int p3), .val (.int p4), .val (.int p5), .val (.int (1 : Int32)), .val (.ref b7), .unset, .unset] [(.int (1 : Int32))])) _
      refine XS.iconst X8.here hx rfl (hb hby at_38) ?_
      show Steps p.tables e below (T8.setTop (mkF m 39 #[.val (.int p0), .val (.int p1), .val (.int p2), .val (.int p3), .val (.int p4), .val (.int p5), .val (.int (1 : Int32)), .val (.ref b7), .unset, .unset] [(.int (2 : Int32)), (.int (1 : Int32))])) _
      refine XS.icmpYes X8.here hx rfl (pc0 := 39) (pc' := 47) rfl (hb hby at_39) rfl (flt (by decide)).2.2.2 (by decide) (by decide) ?_
      show Steps p.tables e below (T8.setTop (mkF m 47 #[.val (.int p0), .val (.int p1), .val (.int p2), .val (.int p3), .val (.int p4), .val (.int p5), .val (.int (1 : Int32)), .val (.ref b7), .unset, .unset] [])) _
      refine XS.iload X8.here hx rfl (hb hby at_47) rfl ?_
      show Steps p.tables e below (T8.setTop (mkF m 49 #[.val (.int p0), .val (.int p1), .val (.int p2), .val (.int p3), .val (.int p4), .val (.int p5), .val (.int (1 : Int32)), .val (.ref b7), .unset, .unset] [(.int (1 : Int32))])) _
      refine XS.iconst X8.here hx rfl (hb hby at_49) ?_
      show Steps p.tables e below (T8.setTop (mkF m 50 #[.val (.int p0), .val (.int p1), .val (.int p2), .val (.int p3), .val (.int p4), .val (.int p5), .val (.int (1 : Int32)), .val (.ref b7), .unset, .unset] [(.int (3 : Int32)), (.int (1 : Int32))])) _
      refine XS.icmpYes X8.here hx rfl (pc0 := 50) (pc' := 59) rfl (hb hby at_50) rfl (flt (by decide)).2.2.2 (by decide) (by decide) ?_
      show Steps p.tables e below (T8.setTop (mkF m 59 #[.val (.int p0), .val (.int p1), .val (.int p2), .val (.int p3), .val (.int p4), .val (.int p5), .val (.int (1 : Int32)), .val (.ref b7), .unset, .unset] [])) _
      refine XS.iload X8.here hx rfl (hb hby at_59) rfl ?_
      show Steps p.tables e below (T8.setTop (mkF m 61 #[.val (.int p0), .val (.int p1), .val (.int p2), .val (.int p3), .val (.int p4), .val (.int p5), .val (.int (1 : Int32)), .val (.ref b7), .unset, .unset] [(.int (1 : Int32))])) _
      refine XS.iconst X8.here hx rfl (hb hby at_61) ?_
      show Steps p.tables e below (T8.setTop (mkF m 62 #[.val (.int p0), .val (.int p1), .val (.int p2), .val (.int p3), .val (.int p4), .val (.int p5), .val (.int (1 : Int32)), .val (.ref b7), .unset, .unset] [(.int (4 : Int32)), (.int (1 : Int32))])) _
      refine XS.icmpYes X8.here hx rfl (pc0 := 62) (pc' := 71) rfl (hb hby at_62) rfl (flt (by decide)).2.2.2 (by decide) (by decide) ?_
      show Steps p.tables e below (T8.setTop (mkF m 71 #[.val (.int p0), .val (.int p1), .val (.int p2), .val (.int p3), .val (.int p4), .val (.int p5), .val (.int (1 : Int32)), .val (.ref b7), .unset, .unset] [])) _
      refine XS.iconst X8.here hx rfl (hb hby at_71) ?_
      show Steps p.tables e below (T8.setTop (mkF m 72 #[.val (.int p0), .val (.int p1), .val (.int p2), .val (.int p3), .val (.int p4), .val (.int p5), .val (.int (1 : Int32)), .val (.ref b7), .unset, .unset] [(.int (0 : Int32))])) _
      refine XS.istore X8.here hx rfl (hb hby at_72) rfl (l' := #[.val (.int p0), .val (.int p1), .val (.int p2), .val (.int p3), .val (.int p4), .val (.int p5), .val (.int (1 : Int32)), .val (.ref b7), .val (.int (0 : Int32)), .unset]) rfl ?_
      show Steps p.tables e below (T8.setTop (mkF m 74 #[.val (.int p0), .val (.int p1), .val (.int p2), .val (.int p3), .val (.int p4), .val (.int p5), .val (.int (1 : Int32)), .val (.ref b7), .val (.int (0 : Int32)), .unset] [])) _
      refine XS.iload X8.here hx rfl (hb hby at_74) rfl ?_
      show Steps p.tables e below (T8.setTop (mkF m 76 #[.val (.int p0), .val (.int p1), .val (.int p2), .val (.int p3), .val (.int p4), .val (.int p5), .val (.int (1 : Int32)), .val (.ref b7), .val (.int (0 : Int32)), .unset] [(.int (1 : Int32))])) _
      refine XS.iconst X8.here hx rfl (hb hby at_76) ?_
      show Steps p.tables e below (T8.setTop (mkF m 77 #[.val (.int p0), .val (.int p1), .val (.int p2), .val (.int p3), .val (.int p4), .val (.int p5), .val (.int (1 : Int32)), .val (.ref b7), .val (.int (0 : Int32)), .unset] [(.int (2 : Int32)), (.int (1 : Int32))])) _
      refine XS.icmpYes X8.here hx rfl (pc0 := 77) (pc' := 90) rfl (hb hby at_77) rfl (tlt (by decide)).1 (by decide) (by decide) ?_
      show Steps p.tables e below (T8.setTop (mkF m 90 #[.val (.int p0), .val (.int p1), .val (.int p2), .val (.int p3), .val (.int p4), .val (.int p5), .val (.int (1 : Int32)), .val (.ref b7), .val (.int (0 : Int32)), .unset] [])) _
      refine XS.iload X8.here hx rfl (hb hby at_90) rfl ?_
      show Steps p.tables e below (T8.setTop (mkF m 92 #[.val (.int p0), .val (.int p1), .val (.int p2), .val (.int p3), .val (.int p4), .val (.int p5), .val (.int (1 : Int32)), .val (.ref b7), .val (.int (0 : Int32)), .unset] [(.int (1 : Int32))])) _
      refine XS.iconst X8.here hx rfl (hb hby at_92) ?_
      show Steps p.tables e below (T8.setTop (mkF m 93 #[.val (.int p0), .val (.int p1), .val (.int p2), .val (.int p3), .val (.int p4), .val (.int p5), .val (.int (1 : Int32)), .val (.ref b7), .val (.int (0 : Int32)), .unset] [(.int (3 : Int32)), (.int (1 : Int32))])) _
      refine XS.icmpYes X8.here hx rfl (pc0 := 93) (pc' := 106) rfl (hb hby at_93) rfl (tlt (by decide)).1 (by decide) (by decide) ?_
      show Steps p.tables e below (T8.setTop (mkF m 106 #[.val (.int p0), .val (.int p1), .val (.int p2), .val (.int p3), .val (.int p4), .val (.int p5), .val (.int (1 : Int32)), .val (.ref b7), .val (.int (0 : Int32)), .unset] [])) _
      refine XS.iload X8.here hx rfl (hb hby at_106) rfl ?_
      show Steps p.tables e below (T8.setTop (mkF m 108 #[.val (.int p0), .val (.int p1), .val (.int p2), .val (.int p3), .val (.int p4), .val (.int p5), .val (.int (1 : Int32)), .val (.ref b7), .val (.int (0 : Int32)), .unset] [(.int (1 : Int32))])) _
      refine XS.iconst X8.here hx rfl (hb hby at_108) ?_
      show Steps p.tables e below (T8.setTop (mkF m 109 #[.val (.int p0), .val (.int p1), .val (.int p2), .val (.int p3), .val (.int p4), .val (.int p5), .val (.int (1 : Int32)), .val (.ref b7), .val (.int (0 : Int32)), .unset] [(.int (4 : Int32)), (.int (1 : Int32))])) _
      refine XS.icmpYes X8.here hx rfl (pc0 := 109) (pc' := 123) rfl (hb hby at_109) rfl (tlt (by decide)).1 (by decide) (by decide) ?_
      show Steps p.tables e below (T8.setTop (mkF m 123 #[.val (.int p0), .val (.int p1), .val (.int p2), .val (.int p3), .val (.int p4), .val (.int p5), .val (.int (1 : Int32)), .val (.ref b7), .val (.int (0 : Int32)), .unset] [])) _
      refine XS.iload X8.here hx rfl (hb hby at_123) rfl ?_
      show Steps p.tables e below (T8.setTop (mkF m 125 #[.val (.int p0), .val (.int p1), .val (.int p2), .val (.int p3), .val (.int p4), .val (.int p5), .val (.int (1 : Int32)), .val (.ref b7), .val (.int (0 : Int32)), .unset] [(.int (1 : Int32))])) _
      refine XS.iconst X8.here hx rfl (hb hby at_125) ?_
      show Steps p.tables e below (T8.setTop (mkF m 126 #[.val (.int p0), .val (.int p1), .val (.int p2), .val (.int p3), .val (.int p4), .val (.int p5), .val (.int (1 : Int32)), .val (.ref b7), .val (.int (0 : Int32)), .unset] [(.int (5 : Int32)), (.int (1 : Int32))])) _
      refine XS.icmpYes X8.here hx rfl (pc0 := 126) (pc' := 141) rfl (hb hby at_126) rfl (tlt (by decide)).1 (by decide) (by decide) ?_
      show Steps p.tables e below (T8.setTop (mkF m 141 #[.val (.int p0), .val (.int p1), .val (.int p2), .val (.int p3), .val (.int p4), .val (.int p5), .val (.int (1 : Int32)), .val (.ref b7), .val (.int (0 : Int32)), .unset] [])) _
      refine XS.aload X8.here hx rfl (hb hby at_141) rfl rfl ?_
      show Steps p.tables e below (T8.setTop (mkF m 143 #[.val (.int p0), .val (.int p1), .val (.int p2), .val (.int p3), .val (.int p4), .val (.int p5), .val (.int (1 : Int32)), .val (.ref b7), .val (.int (0 : Int32)), .unset] [(.ref b7)])) _
      refine st9 _ ?_
      show Steps p.tables e below (T9.setTop (mkF m 146 #[.val (.int p0), .val (.int p1), .val (.int p2), .val (.int p3), .val (.int p4), .val (.int p5), .val (.int (1 : Int32)), .val (.ref b7), .val (.int (0 : Int32)), .unset] [(.int (own_chg1 p1))])) _
      refine XS.istore X9.here hx rfl (hb hby at_146) rfl (l' := #[.val (.int p0), .val (.int p1), .val (.int p2), .val (.int p3), .val (.int p4), .val (.int p5), .val (.int (1 : Int32)), .val (.ref b7), .val (.int (0 : Int32)), .val (.int (own_chg1 p1))]) rfl ?_
      show Steps p.tables e below (T9.setTop (mkF m 148 #[.val (.int p0), .val (.int p1), .val (.int p2), .val (.int p3), .val (.int p4), .val (.int p5), .val (.int (1 : Int32)), .val (.ref b7), .val (.int (0 : Int32)), .val (.int (own_chg1 p1))] [])) _
      refine XS.iload X9.here hx rfl (hb hby at_148) rfl ?_
      show Steps p.tables e below (T9.setTop (mkF m 150 #[.val (.int p0), .val (.int p1), .val (.int p2), .val (.int p3), .val (.int p4), .val (.int p5), .val (.int (1 : Int32)), .val (.ref b7), .val (.int (0 : Int32)), .val (.int (own_chg1 p1))] [(.int (own_chg1 p1))])) _
      refine XS.iload X9.here hx rfl (hb hby at_150) rfl ?_
      show Steps p.tables e below (T9.setTop (mkF m 152 #[.val (.int p0), .val (.int p1), .val (.int p2), .val (.int p3), .val (.int p4), .val (.int p5), .val (.int (1 : Int32)), .val (.ref b7), .val (.int (0 : Int32)), .val (.int (own_chg1 p1))] [(.int (0 : Int32)), (.int (own_chg1 p1))])) _
      refine XS.icmpNo X9.here hx rfl (hb hby at_152) rfl (teq (own_e1 p1)).2 ?_
      show Steps p.tables e below (T9.setTop (mkF m 155 #[.val (.int p0), .val (.int p1), .val (.int p2), .val (.int p3), .val (.int p4), .val (.int p5), .val (.int (1 : Int32)), .val (.ref b7), .val (.int (0 : Int32)), .val (.int (own_chg1 p1))] [])) _
      refine XS.iconst X9.here hx rfl (hb hby at_155) ?_
      show Steps p.tables e below (T9.setTop (mkF m 156 #[.val (.int p0), .val (.int p1), .val (.int p2), .val (.int p3), .val (.int p4), .val (.int p5), .val (.int (1 : Int32)), .val (.ref b7), .val (.int (0 : Int32)), .val (.int (own_chg1 p1))] [(.int (1 : Int32))])) _
      refine XS.goto X9.here hx rfl (pc0 := 156) (pc' := 160) rfl (hb hby at_156) (by decide) (by decide) ?_
      exact k
    obtain ⟨fs, hr, hrun, hended, hW, hsame⟩ := X9.leave (v := some (.int (1 : Int32))) (fun h => by rw [Bd.returns] at h; cases h)
    refine ⟨_, _, k10 _ ?_, hrun, hended, _, _, rfl, ?_, ⟨_, rfl⟩, hW, hsame.mono (by decide) (by decide)⟩
    · exact retN X9 hx (t := .boolean) Bd.returns (by simp) (hb hby at_160) hr
    · show own_R (some (.int 1)) n0 _ T9.heap _
      rw [e9]
      exact ⟨rfl, N9⟩
  · have k11 : ∀ t, Steps p.tables e below (s₁.setTop (mkF m 9 #[.val (.int p0), .val (.int p1), .val (.int p2), .val (.int p3), .val (.int p4), .val (.int p5), .val (.int (2 : Int32)), .unset, .unset, .unset] [])) t → Steps p.tables e below (s₁.setTop (entryFrame m #[(.int p0), (.int p1), (.int p2), (.int p3), (.int p4), (.int p5)] maxLocals)) t := by
      intro t k
      refine k1 _ ?_
      rw [hk]
      exact k
    obtain ⟨T12, h12, c12, X12, e12, E12, A12, st12⟩ := newP X0 hx hZ (hw _ (List.mem_of_getElem? (i := 1) rfl)) e0 (g := (mkF m 11 #[.val (.int p0), .val (.int p1), .val (.int p2), .val (.int p3), .val (.int p4), .val (.int p5), .val (.int (2 : Int32)), .unset, .unset, .unset] [(.int (2 : Int32))])) rfl (hb hby at_11) rfl (by decide) (cap := 2) (by decide) (by decide) (by decide) (by decide)
    obtain ⟨b12, g12⟩ : ∃ z, z = h0.size := ⟨_, rfl⟩
    rw [← g12] at A12 st12
    have gn_b12 : n0 ≤ b12 := Nat.le_trans Z0 (Nat.le_of_eq g12.symm)
    have Zs12 : n0 ≤ h12.size := Nat.le_trans Z0 E12.1
    have V_b12 : Arv Z h12 b12 c12 .int (2 : Int32) [(.int (0 : Int32)), (.int (0 : Int32))] (.int (0 : Int32)) := (Arv.new A12 (by decide)).pad (pad_rep [] (.int (0 : Int32)) 2)
    obtain ⟨cl_13, Ar_13, q_13, S_13, N_13, H_13, G_13⟩ := id V_b12
    have hin_13 : ¬ ((0 : Int32) < 0 ∨ cl_13.slots.size ≤ ((0 : Int32)).toNatClampNeg) := inb_of S_13 ⟨by decide, by decide⟩
    obtain ⟨T13, h13, X13, e13, W13, st13⟩ := stI X12 hx hZ e12 Ar_13 (j := (0 : Int32)) hin_13 (g := (mkF m 24 #[.val (.int p0), .val (.int p1), .val (.int p2), .val (.int p3), .val (.int p4), .val (.int p5), .val (.int (2 : Int32)), .val (.ref b12), .unset, .unset] [(.int p1), (.int (0 : Int32)), (.ref b12)])) rfl rfl (hb hby at_24)
    have Vn13 : Arv Z h13 b12 c12 .int (2 : Int32) [(.int p1), (.int (0 : Int32))] (.int (0 : Int32)) := Arv.set Ar_13 q_13 S_13 N_13 H_13 G_13 rfl W13 0 rfl (Nat.le_of_ble_eq_true rfl)
    replace V_b12 := Vn13
    have N13 := Fr.snoc X13 N0 gn_b12
    have Zs13 : n0 ≤ h13.size := by rw [W13.size]; exact Zs12
    obtain ⟨cl_14, Ar_14, q_14, S_14, N_14, H_14, G_14⟩ := id V_b12
    have hin_14 : ¬ ((1 : Int32) < 0 ∨ cl_14.slots.size ≤ ((1 : Int32)).toNatClampNeg) := inb_of S_14 ⟨by decide, by decide⟩
    obtain ⟨T14, h14, X14, e14, W14, st14⟩ := stI X13 hx hZ e13 Ar_14 (j := (1 : Int32)) hin_14 (g := (mkF m 35 #[.val (.int p0), .val (.int p1), .val (.int p2), .val (.int p3), .val (.int p4), .val (.int p5), .val (.int (2 : Int32)), .val (.ref b12), .unset, .unset] [(.int p2), (.int (1 : Int32)), (.ref b12)])) rfl rfl (hb hby at_35)
    have Vn14 : Arv Z h14 b12 c12 .int (2 : Int32) [(.int p1), (.int p2)] (.int (0 : Int32)) := Arv.set Ar_14 q_14 S_14 N_14 H_14 G_14 rfl W14 1 rfl (Nat.le_of_ble_eq_true rfl)
    replace V_b12 := Vn14
    have N14 := Fr.snoc X14 N13 gn_b12
    have Zs14 : n0 ≤ h14.size := by rw [W14.size]; exact Zs13
    obtain ⟨_, _, ⟨T15, L15, k15_, n15⟩, -, X15, ⟨Lc15, hQ15, l15, y15, z15⟩, st15⟩ := Jvm.LawKit.callS X14 hx (y := (⟨"com/example/lightloom/lightloom/plan/LightpathChangesPinLaw", "differs", "(II)I"⟩ : MethodName)) hown (mvT hZ (hw _ (List.mem_of_getElem? (i := 6) rfl))) (mvT hZ (hw _ (List.mem_of_getElem? (i := 7) rfl))) (mvT hZ (hw _ (List.mem_of_getElem? (i := 8) rfl))) (mvT hZ (hw _ (List.mem_of_getElem? (i := 9) rfl))) (by decide) (backOf (W := 1) (rm2 l Z a0 hw [] p1 p2 h14 n0 ) hZ (hw _ (List.mem_of_getElem? (i := 9) rfl)) (hw _ (List.mem_of_getElem? (i := 8) rfl)) (by decide) (by decide)) (g := (mkF m 84 #[.val (.int p0), .val (.int p1), .val (.int p2), .val (.int p3), .val (.int p4), .val (.int p5), .val (.int (2 : Int32)), .val (.ref b12), .val (.int (0 : Int32)), .unset] [(.int p2), (.int p1), (.int (0 : Int32))])) rfl (by rw [hml]; rfl) (argsL := [(.int p1), (.int p2)]) (rest := [(.int (0 : Int32))]) (lenOf pd_1 rfl) rfl (by show 2 * 0 + _ ≤ _; exact Nat.le_of_eq rfl) (hb hby at_84) (fun _ _ => ⟨rfl, e14, (by decide : 1 + 0 ≤ _), (by decide : 2 + 0 ≤ _)⟩)
    dsimp only [Pt.U, Pt.locs, Pt.cells, Pt.slots] at X15 l15 y15 z15 st15 hQ15
    subst l15 y15 z15
    obtain ⟨rfl, Nq15, e15⟩ := hQ15
    have N15 := Fr.app N14 Nq15
    obtain ⟨_, _, ⟨T16, L16, k16_, n16⟩, -, X16, ⟨Lc16, hQ16, l16, y16, z16⟩, st16⟩ := Jvm.LawKit.callS X15 hx (y := (⟨"com/example/lightloom/lightloom/plan/Lightpath", "changes", "([I)I"⟩ : MethodName)) hown (mvT hZ (hw _ (List.mem_of_getElem? (i := 2) rfl))) (mvT hZ (hw _ (List.mem_of_getElem? (i := 3) rfl))) (mvT hZ (hw _ (List.mem_of_getElem? (i := 4) rfl))) (mvT hZ (hw _ (List.mem_of_getElem? (i := 5) rfl))) (by decide) (backOf (W := 0) (rmC2 l Z a0 hw [] b12 c12 p1 p2 h14 n0 V_b12) hZ (hw _ (List.mem_of_getElem? (i := 5) rfl)) (hw _ (List.mem_of_getElem? (i := 4) rfl)) (by decide) (by decide)) (g := (mkF m 143 #[.val (.int p0), .val (.int p1), .val (.int p2), .val (.int p3), .val (.int p4), .val (.int p5), .val (.int (2 : Int32)), .val (.ref b12), .val (.int ((0 : Int32) + (own_dif p1 p2 ))), .unset] [(.ref b12)])) rfl (by rw [hml]; rfl) (argsL := [(.ref b12)]) (rest := []) (lenOf pd_0 rfl) rfl (by show 2 * 0 + _ ≤ _; exact Nat.le_of_eq rfl) (hb hby at_143) (fun _ _ => ⟨rfl, e15, (by decide : 1 + 0 ≤ _), (by decide : 2 + 0 ≤ _)⟩)
    dsimp only [Pt.U, Pt.locs, Pt.cells, Pt.slots] at X16 l16 y16 z16 st16 hQ16
    subst l16 y16 z16
    obtain ⟨rfl, Nq16, e16⟩ := hQ16
    have N16 := Fr.app N15 Nq16
    have k17 : ∀ t, Steps p.tables e below (T16.setTop (mkF m 160 #[.val (.int p0), .val (.int p1), .val (.int p2), .val (.int p3), .val (.int p4), .val (.int p5), .val (.int (2 : Int32)), .val (.ref b12), .val (.int ((0 : Int32) + (own_dif p1 p2 ))), .val (.int (own_chg2 p1 p2))] [(.int (1 : Int32))])) t → Steps p.tables e below (s₁.setTop (entryFrame m #[(.int p0), (.int p1), (.int p2), (.int p3), (.int p4), (.int p5)] maxLocals)) t := by
      intro t k
      refine k11 _ ?_
      show Steps p.tables e below (s₁.setTop (mkF m 9 #[.val (.int p0), .val (.int p1), .val (.int p2), .val (.int p3), .val (.int p4), .val (.int p5), .val (.int (2 : Int32)), .unset, .unset, .unset] [])) _
      refine XS.iload X0.here hx rfl (hb hby at_9) rfl ?_
      show Steps p.tables e below (s₁.setTop (mkF m 11 #[.val (.int p0), .val (.int p1), .val (.int p2), .val (.int p3), .val (.int p4), .val (.int p5), .val (.int (2 : Int32)), .unset, .unset, .unset] [(.int (2 : Int32))])) _
      refine st12 _ ?_
      show Steps p.tables e below (T12.setTop (mkF m 13 #[.val (.int p0), .val (.int p1), .val (.int p2), .val (.int p3), .val (.int p4), .val (.int p5), .val (.int (2 : Int32)), .unset, .unset, .unset] [(.ref b12)])) _
      refine XS.astore X12.here hx rfl (hb hby at_13) rfl rfl (l' := #[.val (.int p0), .val (.int p1), .val (.int p2), .val (.int p3), .val (.int p4), .val (.int p5), .val (.int (2 : Int32)), .val (.ref b12), .unset, .unset]) rfl ?_
      show Steps p.tables e below (T12.setTop (mkF m 15 #[.val (.int p0), .val (.int p1), .val (.int p2), .val (.int p3), .val (.int p4), .val (.int p5), .val (.int (2 : Int32)), .val (.ref b12), .unset, .unset] [])) _
      refine XS.iload X12.here hx rfl (hb hby at_15) rfl ?_
      show Steps p.tables e below (T12.setTop (mkF m 17 #[.val (.int p0), .val (.int p1), .val (.int p2), .val (.int p3), .val (.int p4), .val (.int p5), .val (.int (2 : Int32)), .val (.ref b12), .unset, .unset] [(.int (2 : Int32))])) _
      refine XS.ifNo X12.here hx rfl (hb hby at_17) rfl ((if0 _ _).trans (tlt (by decide)).2.2.2) ?_
      show Steps p.tables e below (T12.setTop (mkF m 20 #[.val (.int p0), .val (.int p1), .val (.int p2), .val (.int p3), .val (.int p4), .val (.int p5), .val (.int (2 : Int32)), .val (.ref b12), .unset, .unset] [])) _
      refine XS.aload X12.here hx rfl (hb hby at_20) rfl rfl ?_
      show Steps p.tables e below (T12.setTop (mkF m 22 #[.val (.int p0), .val (.int p1), .val (.int p2), .val (.int p3), .val (.int p4), .val (.int p5), .val (.int (2 : Int32)), .val (.ref b12), .unset, .unset] [(.ref b12)])) _
      refine XS.iconst X12.here hx rfl (hb hby at_22) ?_
      show Steps p.tables e below (T12.setTop (mkF m 23 #[.val (.int p0), .val (.int p1), .val (.int p2), .val (.int p3), .val (.int p4), .val (.int p5), .val (.int (2 : Int32)), .val (.ref b12), .unset, .unset] [(.int (0 : Int32)), (.ref b12)])) _
      refine XS.iloadN X12.here hx rfl (hb hby at_23) rfl ?_
      show Steps p.tables e below (T12.setTop (mkF m 24 #[.val (.int p0), .val (.int p1), .val (.int p2), .val (.int p3), .val (.int p4), .val (.int p5), .val (.int (2 : Int32)), .val (.ref b12), .unset, .unset] [(.int p1), (.int (0 : Int32)), (.ref b12)])) _
      refine st13 _ ?_
      show Steps p.tables e below (T13.setTop (mkF m 25 #[.val (.int p0), .val (.int p1), .val (.int p2), .val (.int p3), .val (.int p4), .val (.int p5), .val (.int (2 : Int32)), .val (.ref b12), .unset, .unset] [])) _
      refine XS.iload X13.here hx rfl (hb hby at_25) rfl ?_
      show Steps p.tables e below (T13.setTop (mkF m 27 #[.val (.int p0), .val (.int p1), .val (.int p2), .val (.int p3), .val (.int p4), .val (.int p5), .val (.int (2 : Int32)), .val (.ref b12), .unset, .unset] [(.int (2 : Int32))])) _
      refine XS.iconst X13.here hx rfl (hb hby at_27) ?_
      show Steps p.tables e below (T13.setTop (mkF m 28 #[.val (.int p0), .val (.int p1), .val (.int p2), .val (.int p3), .val (.int p4), .val (.int p5), .val (.int (2 : Int32)), .val (.ref b12), .unset, .unset] [(.int (1 : Int32)), (.int (2 : Int32))])) _
      refine XS.icmpNo X13.here hx rfl (hb hby at_28) rfl (tlt (by decide)).2.2.2 ?_
      show Steps p.tables e below (T13.setTop (mkF m 31 #[.val (.int p0), .val (.int p1), .val (.int p2), .val (.int p3), .val (.int p4), .val (.int p5), .val (.int (2 : Int32)), .val (.ref b12), .unset, .unset] [])) _
      refine XS.aload X13.here hx rfl (hb hby at_31) rfl rfl ?_
      show Steps p.tables e below (T13.setTop (mkF m 33 #[.val (.int p0), .val (.int p1), .val (.int p2), .val (.int p3), .val (.int p4), .val (.int p5), .val (.int (2 : Int32)), .val (.ref b12), .unset, .unset] [(.ref b12)])) _
      refine XS.iconst X13.here hx rfl (hb hby at_33) ?_
      show Steps p.tables e below (T13.setTop (mkF m 34 #[.val (.int p0), .val (.int p1), .val (.int p2), .val (.int p3), .val (.int p4), .val (.int p5), .val (.int (2 : Int32)), .val (.ref b12), .unset, .unset] [(.int (1 : Int32)), (.ref b12)])) _
      refine XS.iloadN X13.here hx rfl (hb hby at_34) rfl ?_
      show Steps p.tables e below (T13.setTop (mkF m 35 #[.val (.int p0), .val (.int p1), .val (.int p2), .val (.int p3), .val (.int p4), .val (.int p5), .val (.int (2 : Int32)), .val (.ref b12), .unset, .unset] [(.int p2), (.int (1 : Int32)), (.ref b12)])) _
      refine st14 _ ?_
      show Steps p.tables e below (T14.setTop (mkF m 36 #[.val (.int p0), .val (.int p1), .val (.int p2), .val (.int p3), .val (.int p4), .val (.int p5), .val (.int (2 : Int32)), .val (.ref b12), .unset, .unset] [])) _
      refine XS.iload X14.here hx rfl (hb hby at_36) rfl ?_
      show Steps p.tables e below (T14.setTop (mkF m 38 #[.val (.int p0), .val (.int p1), .val (.int p2), .val (.int p3), .val (.int p4), .val (.int p5), .val (.int (2 : Int32)), .val (.ref b12), .unset, .unset] [(.int (2 : Int32))])) _
      refine XS.iconst X14.here hx rfl (hb hby at_38) ?_
      show Steps p.tables e below (T14.setTop (mkF m 39 #[.val (.int p0), .val (.int p1), .val (.int p2), .val (.int p3), .val (.int p4), .val (.int p5), .val (.int (2 : Int32)), .val (.ref b12), .unset, .unset] [(.int (2 : Int32)), (.int (2 : Int32))])) _
      refine XS.icmpYes X14.here hx rfl (pc0 := 39) (pc' := 47) rfl (hb hby at_39) rfl (flt (by decide)).2.2.2 (by decide) (by decide) ?_
      show Steps p.tables e below (T14.setTop (mkF m 47 #[.val (.int p0), .val (.int p1), .val (.int p2), .val (.int p3), .val (.int p4), .val (.int p5), .val (.int (2 : Int32)), .val (.ref b12), .unset, .unset] [])) _
      refine XS.iload X14.here hx rfl (hb hby at_47) rfl ?_
      show Steps p.tables e below (T14.setTop (mkF m 49 #[.val (.int p0), .val (.int p1), .val (.int p2), .val (.int p3), .val (.int p4), .val (.int p5), .val (.int (2 : Int32)), .val (.ref b12), .unset, .unset] [(.int (2 : Int32))])) _
      refine XS.iconst X14.here hx rfl (hb hby at_49) ?_
      show Steps p.tables e below (T14.setTop (mkF m 50 #[.val (.int p0), .val (.int p1), .val (.int p2), .val (.int p3), .val (.int p4), .val (.int p5), .val (.int (2 : Int32)), .val (.ref b12), .unset, .unset] [(.int (3 : Int32)), (.int (2 : Int32))])) _
      refine XS.icmpYes X14.here hx rfl (pc0 := 50) (pc' := 59) rfl (hb hby at_50) rfl (flt (by decide)).2.2.2 (by decide) (by decide) ?_
      show Steps p.tables e below (T14.setTop (mkF m 59 #[.val (.int p0), .val (.int p1), .val (.int p2), .val (.int p3), .val (.int p4), .val (.int p5), .val (.int (2 : Int32)), .val (.ref b12), .unset, .unset] [])) _
      refine XS.iload X14.here hx rfl (hb hby at_59) rfl ?_
      show Steps p.tables e below (T14.setTop (mkF m 61 #[.val (.int p0), .val (.int p1), .val (.int p2), .val (.int p3), .val (.int p4), .val (.int p5), .val (.int (2 : Int32)), .val (.ref b12), .unset, .unset] [(.int (2 : Int32))])) _
      refine XS.iconst X14.here hx rfl (hb hby at_61) ?_
      show Steps p.tables e below (T14.setTop (mkF m 62 #[.val (.int p0), .val (.int p1), .val (.int p2), .val (.int p3), .val (.int p4), .val (.int p5), .val (.int (2 : Int32)), .val (.ref b12), .unset, .unset] [(.int (4 : Int32)), (.int (2 : Int32))])) _
      refine XS.icmpYes X14.here hx rfl (pc0 := 62) (pc' := 71) rfl (hb hby at_62) rfl (flt (by decide)).2.2.2 (by decide) (by decide) ?_
      show Steps p.tables e below (T14.setTop (mkF m 71 #[.val (.int p0), .val (.int p1), .val (.int p2), .val (.int p3), .val (.int p4), .val (.int p5), .val (.int (2 : Int32)), .val (.ref b12), .unset, .unset] [])) _
      refine XS.iconst X14.here hx rfl (hb hby at_71) ?_
      show Steps p.tables e below (T14.setTop (mkF m 72 #[.val (.int p0), .val (.int p1), .val (.int p2), .val (.int p3), .val (.int p4), .val (.int p5), .val (.int (2 : Int32)), .val (.ref b12), .unset, .unset] [(.int (0 : Int32))])) _
      refine XS.istore X14.here hx rfl (hb hby at_72) rfl (l' := #[.val (.int p0), .val (.int p1), .val (.int p2), .val (.int p3), .val (.int p4), .val (.int p5), .val (.int (2 : Int32)), .val (.ref b12), .val (.int (0 : Int32)), .unset]) rfl ?_
      show Steps p.tables e below (T14.setTop (mkF m 74 #[.val (.int p0), .val (.int p1), .val (.int p2), .val (.int p3), .val (.int p4), .val (.int p5), .val (.int (2 : Int32)), .val (.ref b12), .val (.int (0 : Int32)), .unset] [])) _
      refine XS.iload X14.here hx rfl (hb hby at_74) rfl ?_
      show Steps p.tables e below (T14.setTop (mkF m 76 #[.val (.int p0), .val (.int p1), .val (.int p2), .val (.int p3), .val (.int p4), .val (.int p5), .val (.int (2 : Int32)), .val (.ref b12), .val (.int (0 : Int32)), .unset] [(.int (2 : Int32))])) _
      refine XS.iconst X14.here hx rfl (hb hby at_76) ?_
      show Steps p.tables e below (T14.setTop (mkF m 77 #[.val (.int p0), .val (.int p1), .val (.int p2), .val (.int p3), .val (.int p4), .val (.int p5), .val (.int (2 : Int32)), .val (.ref b12), .val (.int (0 : Int32)), .unset] [(.int (2 : Int32)), (.int (2 : Int32))])) _
      refine XS.icmpNo X14.here hx rfl (hb hby at_77) rfl (flt (by decide)).1 ?_
      show Steps p.tables e below (T14.setTop (mkF m 80 #[.val (.int p0), .val (.int p1), .val (.int p2), .val (.int p3), .val (.int p4), .val (.int p5), .val (.int (2 : Int32)), .val (.ref b12), .val (.int (0 : Int32)), .unset] [])) _
      refine XS.iload X14.here hx rfl (hb hby at_80) rfl ?_
      show Steps p.tables e below (T14.setTop (mkF m 82 #[.val (.int p0), .val (.int p1), .val (.int p2), .val (.int p3), .val (.int p4), .val (.int p5), .val (.int (2 : Int32)), .val (.ref b12), .val (.int (0 : Int32)), .unset] [(.int (0 : Int32))])) _
      refine XS.iloadN X14.here hx rfl (hb hby at_82) rfl ?_
      show Steps p.tables e below (T14.setTop (mkF m 83 #[.val (.int p0), .val (.int p1), .val (.int p2), .val (.int p3), .val (.int p4), .val (.int p5), .val (.int (2 : Int32)), .val (.ref b12), .val (.int (0 : Int32)), .unset] [(.int p1), (.int (0 : Int32))])) _
      refine XS.iloadN X14.here hx rfl (hb hby at_83) rfl ?_
      show Steps p.tables e below (T14.setTop (mkF m 84 #[.val (.int p0), .val (.int p1), .val (.int p2), .val (.int p3), .val (.int p4), .val (.int p5), .val (.int (2 : Int32)), .val (.ref b12), .val (.int (0 : Int32)), .unset] [(.int p2), (.int p1), (.int (0 : Int32))])) _
      refine st15 _ ?_
      show Steps p.tables e below (T15.setTop (mkF m 87 #[.val (.int p0), .val (.int p1), .val (.int p2), .val (.int p3), .val (.int p4), .val (.int p5), .val (.int (2 : Int32)), .val (.ref b12), .val (.int (0 : Int32)), .unset] [(.int (own_dif p1 p2 )), (.int (0 : Int32))])) _
      refine XS.iadd X15.here hx rfl (hb hby at_87) rfl ?_
      show Steps p.tables e below (T15.setTop (mkF m 88 #[.val (.int p0), .val (.int p1), .val (.int p2), .val (.int p3), .val (.int p4), .val (.int p5), .val (.int (2 : Int32)), .val (.ref b12), .val (.int (0 : Int32)), .unset] [(.int ((0 : Int32) + (own_dif p1 p2 )))])) _
      refine XS.istore X15.here hx rfl (hb hby at_88) rfl (l' := #[.val (.int p0), .val (.int p1), .val (.int p2), .val (.int p3), .val (.int p4), .val (.int p5), .val (.int (2 : Int32)), .val (.ref b12), .val (.int ((0 : Int32) + (own_dif p1 p2 ))), .unset]) rfl ?_
      show Steps p.tables e below (T15.setTop (mkF m 90 #[.val (.int p0), .val (.int p1), .val (.int p2), .val (.int p3), .val (.int p4), .val (.int p5), .val (.int (2 : Int32)), .val (.ref b12), .val (.int ((0 : Int32) + (own_dif p1 p2 ))), .unset] [])) _
      refine XS.iload X15.here hx rfl (hb hby at_90) rfl ?_
      show Steps p.tables e below (T15.setTop (mkF m 92 #[.val (.int p0), .val (.int p1), .val (.int p2), .val (.int p3), .val (.int p4), .val (.int p5), .val (.int (2 : Int32)), .val (.ref b12), .val (.int ((0 : Int32) + (own_dif p1 p2 ))), .unset] [(.int (2 : Int32))])) _
      refine XS.iconst X15.here hx rfl (hb hby at_92) ?_
      show Steps p.tables e below (T15.setTop (mkF m 93 #[.val (.int p0), .val (.int p1), .val (.int p2), .val (.int p3), .val (.int p4), .val (.int p5), .val (.int (2 : Int32)), .val (.ref b12), .val (.int ((0 : Int32) + (own_dif p1 p2 ))), .unset] [(.int (3 : Int32)), (.int (2 : Int32))])) _
      refine XS.icmpYes X15.here hx rfl (pc0 := 93) (pc' := 106) rfl (hb hby at_93) rfl (tlt (by decide)).1 (by decide) (by decide) ?_
      show Steps p.tables e below (T15.setTop (mkF m 106 #[.val (.int p0), .val (.int p1), .val (.int p2), .val (.int p3), .val (.int p4), .val (.int p5), .val (.int (2 : Int32)), .val (.ref b12), .val (.int ((0 : Int32) + (own_dif p1 p2 ))), .unset] [])) _
      refine XS.iload X15.here hx rfl (hb hby at_106) rfl ?_
      show Steps p.tables e below (T15.setTop (mkF m 108 #[.val (.int p0), .val (.int p1), .val (.int p2), .val (.int p3), .val (.int p4), .val (.int p5), .val (.int (2 : Int32)), .val (.ref b12), .val (.int ((0 : Int32) + (own_dif p1 p2 ))), .unset] [(.int (2 : Int32))])) _
      refine XS.iconst X15.here hx rfl (hb hby at_108) ?_
      show Steps p.tables e below (T15.setTop (mkF m 109 #[.val (.int p0), .val (.int p1), .val (.int p2), .val (.int p3), .val (.int p4), .val (.int p5), .val (.int (2 : Int32)), .val (.ref b12), .val (.int ((0 : Int32) + (own_dif p1 p2 ))), .unset] [(.int (4 : Int32)), (.int (2 : Int32))])) _
      refine XS.icmpYes X15.here hx rfl (pc0 := 109) (pc' := 123) rfl (hb hby at_109) rfl (tlt (by decide)).1 (by decide) (by decide) ?_
      show Steps p.tables e below (T15.setTop (mkF m 123 #[.val (.int p0), .val (.int p1), .val (.int p2), .val (.int p3), .val (.int p4), .val (.int p5), .val (.int (2 : Int32)), .val (.ref b12), .val (.int ((0 : Int32) + (own_dif p1 p2 ))), .unset] [])) _
      refine XS.iload X15.here hx rfl (hb hby at_123) rfl ?_
      show Steps p.tables e below (T15.setTop (mkF m 125 #[.val (.int p0), .val (.int p1), .val (.int p2), .val (.int p3), .val (.int p4), .val (.int p5), .val (.int (2 : Int32)), .val (.ref b12), .val (.int ((0 : Int32) + (own_dif p1 p2 ))), .unset] [(.int (2 : Int32))])) _
      refine XS.iconst X15.here hx rfl (hb hby at_125) ?_
      show Steps p.tables e below (T15.setTop (mkF m 126 #[.val (.int p0), .val (.int p1), .val (.int p2), .val (.int p3), .val (.int p4), .val (.int p5), .val (.int (2 : Int32)), .val (.ref b12), .val (.int ((0 : Int32) + (own_dif p1 p2 ))), .unset] [(.int (5 : Int32)), (.int (2 : Int32))])) _
      refine XS.icmpYes X15.here hx rfl (pc0 := 126) (pc' := 141) rfl (hb hby at_126) rfl (tlt (by decide)).1 (by decide) (by decide) ?_
      show Steps p.tables e below (T15.setTop (mkF m 141 #[.val (.int p0), .val (.int p1), .val (.int p2), .val (.int p3), .val (.int p4), .val (.int p5), .val (.int (2 : Int32)), .val (.ref b12), .val (.int ((0 : Int32) + (own_dif p1 p2 ))), .unset] [])) _
      refine XS.aload X15.here hx rfl (hb hby at_141) rfl rfl ?_
      show Steps p.tables e below (T15.setTop (mkF m 143 #[.val (.int p0), .val (.int p1), .val (.int p2), .val (.int p3), .val (.int p4), .val (.int p5), .val (.int (2 : Int32)), .val (.ref b12), .val (.int ((0 : Int32) + (own_dif p1 p2 ))), .unset] [(.ref b12)])) _
      refine st16 _ ?_
      show Steps p.tables e below (T16.setTop (mkF m 146 #[.val (.int p0), .val (.int p1), .val (.int p2), .val (.int p3), .val (.int p4), .val (.int p5), .val (.int (2 : Int32)), .val (.ref b12), .val (.int ((0 : Int32) + (own_dif p1 p2 ))), .unset] [(.int (own_chg2 p1 p2))])) _
      refine XS.istore X16.here hx rfl (hb hby at_146) rfl (l' := #[.val (.int p0), .val (.int p1), .val (.int p2), .val (.int p3), .val (.int p4), .val (.int p5), .val (.int (2 : Int32)), .val (.ref b12), .val (.int ((0 : Int32) + (own_dif p1 p2 ))), .val (.int (own_chg2 p1 p2))]) rfl ?_
      show Steps p.tables e below (T16.setTop (mkF m 148 #[.val (.int p0), .val (.int p1), .val (.int p2), .val (.int p3), .val (.int p4), .val (.int p5), .val (.int (2 : Int32)), .val (.ref b12), .val (.int ((0 : Int32) + (own_dif p1 p2 ))), .val (.int (own_chg2 p1 p2))] [])) _
      refine XS.iload X16.here hx rfl (hb hby at_148) rfl ?_
      show Steps p.tables e below (T16.setTop (mkF m 150 #[.val (.int p0), .val (.int p1), .val (.int p2), .val (.int p3), .val (.int p4), .val (.int p5), .val (.int (2 : Int32)), .val (.ref b12), .val (.int ((0 : Int32) + (own_dif p1 p2 ))), .val (.int (own_chg2 p1 p2))] [(.int (own_chg2 p1 p2))])) _
      refine XS.iload X16.here hx rfl (hb hby at_150) rfl ?_
      show Steps p.tables e below (T16.setTop (mkF m 152 #[.val (.int p0), .val (.int p1), .val (.int p2), .val (.int p3), .val (.int p4), .val (.int p5), .val (.int (2 : Int32)), .val (.ref b12), .val (.int ((0 : Int32) + (own_dif p1 p2 ))), .val (.int (own_chg2 p1 p2))] [(.int ((0 : Int32) + (own_dif p1 p2 ))), (.int (own_chg2 p1 p2))])) _
      refine XS.icmpNo X16.here hx rfl (hb hby at_152) rfl (teq (own_e2 p1 p2)).2 ?_
      show Steps p.tables e below (T16.setTop (mkF m 155 #[.val (.int p0), .val (.int p1), .val (.int p2), .val (.int p3), .val (.int p4), .val (.int p5), .val (.int (2 : Int32)), .val (.ref b12), .val (.int ((0 : Int32) + (own_dif p1 p2 ))), .val (.int (own_chg2 p1 p2))] [])) _
      refine XS.iconst X16.here hx rfl (hb hby at_155) ?_
      show Steps p.tables e below (T16.setTop (mkF m 156 #[.val (.int p0), .val (.int p1), .val (.int p2), .val (.int p3), .val (.int p4), .val (.int p5), .val (.int (2 : Int32)), .val (.ref b12), .val (.int ((0 : Int32) + (own_dif p1 p2 ))), .val (.int (own_chg2 p1 p2))] [(.int (1 : Int32))])) _
      refine XS.goto X16.here hx rfl (pc0 := 156) (pc' := 160) rfl (hb hby at_156) (by decide) (by decide) ?_
      exact k
    obtain ⟨fs, hr, hrun, hended, hW, hsame⟩ := X16.leave (v := some (.int (1 : Int32))) (fun h => by rw [Bd.returns] at h; cases h)
    refine ⟨_, _, k17 _ ?_, hrun, hended, _, _, rfl, ?_, ⟨_, rfl⟩, hW, hsame.mono (by decide) (by decide)⟩
    · exact retN X16 hx (t := .boolean) Bd.returns (by simp) (hb hby at_160) hr
    · show own_R (some (.int 1)) n0 _ T16.heap _
      rw [e16]
      exact ⟨rfl, N16⟩
  · have k18 : ∀ t, Steps p.tables e below (s₁.setTop (mkF m 9 #[.val (.int p0), .val (.int p1), .val (.int p2), .val (.int p3), .val (.int p4), .val (.int p5), .val (.int (3 : Int32)), .unset, .unset, .unset] [])) t → Steps p.tables e below (s₁.setTop (entryFrame m #[(.int p0), (.int p1), (.int p2), (.int p3), (.int p4), (.int p5)] maxLocals)) t := by
      intro t k
      refine k1 _ ?_
      rw [hk]
      exact k
    obtain ⟨T19, h19, c19, X19, e19, E19, A19, st19⟩ := newP X0 hx hZ (hw _ (List.mem_of_getElem? (i := 1) rfl)) e0 (g := (mkF m 11 #[.val (.int p0), .val (.int p1), .val (.int p2), .val (.int p3), .val (.int p4), .val (.int p5), .val (.int (3 : Int32)), .unset, .unset, .unset] [(.int (3 : Int32))])) rfl (hb hby at_11) rfl (by decide) (cap := 3) (by decide) (by decide) (by decide) (by decide)
    obtain ⟨b19, g19⟩ : ∃ z, z = h0.size := ⟨_, rfl⟩
    rw [← g19] at A19 st19
    have gn_b19 : n0 ≤ b19 := Nat.le_trans Z0 (Nat.le_of_eq g19.symm)
    have Zs19 : n0 ≤ h19.size := Nat.le_trans Z0 E19.1
    have V_b19 : Arv Z h19 b19 c19 .int (3 : Int32) [(.int (0 : Int32)), (.int (0 : Int32)), (.int (0 : Int32))] (.int (0 : Int32)) := (Arv.new A19 (by decide)).pad (pad_rep [] (.int (0 : Int32)) 3)
    obtain ⟨cl_20, Ar_20, q_20, S_20, N_20, H_20, G_20⟩ := id V_b19
    have hin_20 : ¬ ((0 : Int32) < 0 ∨ cl_20.slots.size ≤ ((0 : Int32)).toNatClampNeg) := inb_of S_20 ⟨by decide, by decide⟩
    obtain ⟨T20, h20, X20, e20, W20, st20⟩ := stI X19 hx hZ e19 Ar_20 (j := (0 : Int32)) hin_20 (g := (mkF m 24 #[.val (.int p0), .val (.int p1), .val (.int p2), .val (.int p3), .val (.int p4), .val (.int p5), .val (.int (3 : Int32)), .val (.ref b19), .unset, .unset] [(.int p1), (.int (0 : Int32)), (.ref b19)])) rfl rfl (hb hby at_24)
    have Vn20 : Arv Z h20 b19 c19 .int (3 : Int32) [(.int p1), (.int (0 : Int32)), (.int (0 : Int32))] (.int (0 : Int32)) := Arv.set Ar_20 q_20 S_20 N_20 H_20 G_20 rfl W20 0 rfl (Nat.le_of_ble_eq_true rfl)
    replace V_b19 := Vn20
    have N20 := Fr.snoc X20 N0 gn_b19
    have Zs20 : n0 ≤ h20.size := by rw [W20.size]; exact Zs19
    obtain ⟨cl_21, Ar_21, q_21, S_21, N_21, H_21, G_21⟩ := id V_b19
    have hin_21 : ¬ ((1 : Int32) < 0 ∨ cl_21.slots.size ≤ ((1 : Int32)).toNatClampNeg) := inb_of S_21 ⟨by decide, by decide⟩
    obtain ⟨T21, h21, X21, e21, W21, st21⟩ := stI X20 hx hZ e20 Ar_21 (j := (1 : Int32)) hin_21 (g := (mkF m 35 #[.val (.int p0), .val (.int p1), .val (.int p2), .val (.int p3), .val (.int p4), .val (.int p5), .val (.int (3 : Int32)), .val (.ref b19), .unset, .unset] [(.int p2), (.int (1 : Int32)), (.ref b19)])) rfl rfl (hb hby at_35)
    have Vn21 : Arv Z h21 b19 c19 .int (3 : Int32) [(.int p1), (.int p2), (.int (0 : Int32))] (.int (0 : Int32)) := Arv.set Ar_21 q_21 S_21 N_21 H_21 G_21 rfl W21 1 rfl (Nat.le_of_ble_eq_true rfl)
    replace V_b19 := Vn21
    have N21 := Fr.snoc X21 N20 gn_b19
    have Zs21 : n0 ≤ h21.size := by rw [W21.size]; exact Zs20
    obtain ⟨cl_22, Ar_22, q_22, S_22, N_22, H_22, G_22⟩ := id V_b19
    have hin_22 : ¬ ((2 : Int32) < 0 ∨ cl_22.slots.size ≤ ((2 : Int32)).toNatClampNeg) := inb_of S_22 ⟨by decide, by decide⟩
    obtain ⟨T22, h22, X22, e22, W22, st22⟩ := stI X21 hx hZ e21 Ar_22 (j := (2 : Int32)) hin_22 (g := (mkF m 46 #[.val (.int p0), .val (.int p1), .val (.int p2), .val (.int p3), .val (.int p4), .val (.int p5), .val (.int (3 : Int32)), .val (.ref b19), .unset, .unset] [(.int p3), (.int (2 : Int32)), (.ref b19)])) rfl rfl (hb hby at_46)
    have Vn22 : Arv Z h22 b19 c19 .int (3 : Int32) [(.int p1), (.int p2), (.int p3)] (.int (0 : Int32)) := Arv.set Ar_22 q_22 S_22 N_22 H_22 G_22 rfl W22 2 rfl (Nat.le_of_ble_eq_true rfl)
    replace V_b19 := Vn22
    have N22 := Fr.snoc X22 N21 gn_b19
    have Zs22 : n0 ≤ h22.size := by rw [W22.size]; exact Zs21
    obtain ⟨_, _, ⟨T23, L23, k23_, n23⟩, -, X23, ⟨Lc23, hQ23, l23, y23, z23⟩, st23⟩ := Jvm.LawKit.callS X22 hx (y := (⟨"com/example/lightloom/lightloom/plan/LightpathChangesPinLaw", "differs", "(II)I"⟩ : MethodName)) hown (mvT hZ (hw _ (List.mem_of_getElem? (i := 6) rfl))) (mvT hZ (hw _ (List.mem_of_getElem? (i := 7) rfl))) (mvT hZ (hw _ (List.mem_of_getElem? (i := 8) rfl))) (mvT hZ (hw _ (List.mem_of_getElem? (i := 9) rfl))) (by decide) (backOf (W := 1) (rm2 l Z a0 hw [] p1 p2 h22 n0 ) hZ (hw _ (List.mem_of_getElem? (i := 9) rfl)) (hw _ (List.mem_of_getElem? (i := 8) rfl)) (by decide) (by decide)) (g := (mkF m 84 #[.val (.int p0), .val (.int p1), .val (.int p2), .val (.int p3), .val (.int p4), .val (.int p5), .val (.int (3 : Int32)), .val (.ref b19), .val (.int (0 : Int32)), .unset] [(.int p2), (.int p1), (.int (0 : Int32))])) rfl (by rw [hml]; rfl) (argsL := [(.int p1), (.int p2)]) (rest := [(.int (0 : Int32))]) (lenOf pd_1 rfl) rfl (by show 2 * 0 + _ ≤ _; exact Nat.le_of_eq rfl) (hb hby at_84) (fun _ _ => ⟨rfl, e22, (by decide : 1 + 0 ≤ _), (by decide : 3 + 0 ≤ _)⟩)
    dsimp only [Pt.U, Pt.locs, Pt.cells, Pt.slots] at X23 l23 y23 z23 st23 hQ23
    subst l23 y23 z23
    obtain ⟨rfl, Nq23, e23⟩ := hQ23
    have N23 := Fr.app N22 Nq23
    obtain ⟨_, _, ⟨T24, L24, k24_, n24⟩, -, X24, ⟨Lc24, hQ24, l24, y24, z24⟩, st24⟩ := Jvm.LawKit.callS X23 hx (y := (⟨"com/example/lightloom/lightloom/plan/LightpathChangesPinLaw", "differs", "(II)I"⟩ : MethodName)) hown (mvT hZ (hw _ (List.mem_of_getElem? (i := 6) rfl))) (mvT hZ (hw _ (List.mem_of_getElem? (i := 7) rfl))) (mvT hZ (hw _ (List.mem_of_getElem? (i := 8) rfl))) (mvT hZ (hw _ (List.mem_of_getElem? (i := 9) rfl))) (by decide) (backOf (W := 1) (rm2 l Z a0 hw [] p2 p3 h22 n0 ) hZ (hw _ (List.mem_of_getElem? (i := 9) rfl)) (hw _ (List.mem_of_getElem? (i := 8) rfl)) (by decide) (by decide)) (g := (mkF m 100 #[.val (.int p0), .val (.int p1), .val (.int p2), .val (.int p3), .val (.int p4), .val (.int p5), .val (.int (3 : Int32)), .val (.ref b19), .val (.int ((0 : Int32) + (own_dif p1 p2 ))), .unset] [(.int p3), (.int p2), (.int ((0 : Int32) + (own_dif p1 p2 )))])) rfl (by rw [hml]; rfl) (argsL := [(.int p2), (.int p3)]) (rest := [(.int ((0 : Int32) + (own_dif p1 p2 )))]) (lenOf pd_1 rfl) rfl (by show 2 * 0 + _ ≤ _; exact Nat.le_of_eq rfl) (hb hby at_100) (fun _ _ => ⟨rfl, e23, (by decide : 1 + 0 ≤ _), (by decide : 3 + 0 ≤ _)⟩)
    dsimp only [Pt.U, Pt.locs, Pt.cells, Pt.slots] at X24 l24 y24 z24 st24 hQ24
    subst l24 y24 z24
    obtain ⟨rfl, Nq24, e24⟩ := hQ24
    have N24 := Fr.app N23 Nq24
    obtain ⟨_, _, ⟨T25, L25, k25_, n25⟩, -, X25, ⟨Lc25, hQ25, l25, y25, z25⟩, st25⟩ := Jvm.LawKit.callS X24 hx (y := (⟨"com/example/lightloom/lightloom/plan/Lightpath", "changes", "([I)I"⟩ : MethodName)) hown (mvT hZ (hw _ (List.mem_of_getElem? (i := 2) rfl))) (mvT hZ (hw _ (List.mem_of_getElem? (i := 3) rfl))) (mvT hZ (hw _ (List.mem_of_getElem? (i := 4) rfl))) (mvT hZ (hw _ (List.mem_of_getElem? (i := 5) rfl))) (by decide) (backOf (W := 0) (rmC3 l Z a0 hw [] b19 c19 p1 p2 p3 h22 n0 V_b19) hZ (hw _ (List.mem_of_getElem? (i := 5) rfl)) (hw _ (List.mem_of_getElem? (i := 4) rfl)) (by decide) (by decide)) (g := (mkF m 143 #[.val (.int p0), .val (.int p1), .val (.int p2), .val (.int p3), .val (.int p4), .val (.int p5), .val (.int (3 : Int32)), .val (.ref b19), .val (.int (((0 : Int32) + (own_dif p1 p2 )) + (own_dif p2 p3 ))), .unset] [(.ref b19)])) rfl (by rw [hml]; rfl) (argsL := [(.ref b19)]) (rest := []) (lenOf pd_0 rfl) rfl (by show 2 * 0 + _ ≤ _; exact Nat.le_of_eq rfl) (hb hby at_143) (fun _ _ => ⟨rfl, e24, (by decide : 1 + 0 ≤ _), (by decide : 3 + 0 ≤ _)⟩)
    dsimp only [Pt.U, Pt.locs, Pt.cells, Pt.slots] at X25 l25 y25 z25 st25 hQ25
    subst l25 y25 z25
    obtain ⟨rfl, Nq25, e25⟩ := hQ25
    have N25 := Fr.app N24 Nq25
    have k26 : ∀ t, Steps p.tables e below (T25.setTop (mkF m 160 #[.val (.int p0), .val (.int p1), .val (.int p2), .val (.int p3), .val (.int p4), .val (.int p5), .val (.int (3 : Int32)), .val (.ref b19), .val (.int (((0 : Int32) + (own_dif p1 p2 )) + (own_dif p2 p3 ))), .val (.int (own_chg3 p1 p2 p3))] [(.int (1 : Int32))])) t → Steps p.tables e below (s₁.setTop (entryFrame m #[(.int p0), (.int p1), (.int p2), (.int p3), (.int p4), (.int p5)] maxLocals)) t := by
      intro t k
      refine k18 _ ?_
      show Steps p.tables e below (s₁.setTop (mkF m 9 #[.val (.int p0), .val (.int p1), .val (.int p2), .val (.int p3), .val (.int p4), .val (.int p5), .val (.int (3 : Int32)), .unset, .unset, .unset] [])) _
      refine XS.iload X0.here hx rfl (hb hby at_9) rfl ?_
      show Steps p.tables e below (s₁.setTop (mkF m 11 #[.val (.int p0), .val (.int p1), .val (.int p2), .val (.int p3), .val (.int p4), .val (.int p5), .val (.int (3 : Int32)), .unset, .unset, .unset] [(.int (3 : Int32))])) _
      refine st19 _ ?_
      show Steps p.tables e below (T19.setTop (mkF m 13 #[.val (.int p0), .val (.int p1), .val (.int p2), .val (.int p3), .val (.int p4), .val (.int p5), .val (.int (3 : Int32)), .unset, .unset, .unset] [(.ref b19)])) _
      refine XS.astore X19.here hx rfl (hb hby at_13) rfl rfl (l' := #[.val (.int p0), .val (.int p1), .val (.int p2), .val (.int p3), .val (.int p4), .val (.int p5), .val (.int (3 : Int32)), .val (.ref b19), .unset, .unset]) rfl ?_
      show Steps p.tables e below (T19.setTop (mkF m 15 #[.val (.int p0), .val (.int p1), .val (.int p2), .val (.int p3), .val (.int p4), .val (.int p5), .val (.int (3 : Int32)), .val (.ref b19), .unset, .unset] [])) _
      refine XS.iload X19.here hx rfl (hb hby at_15) rfl ?_
      show Steps p.tables e below (T19.setTop (mkF m 17 #[.val (.int p0), .val (.int p1), .val (.int p2), .val (.int p3), .val (.int p4), .val (.int p5), .val (.int (3 : Int32)), .val (.ref b19), .unset, .unset] [(.int (3 : Int32))])) _
      refine XS.ifNo X19.here hx rfl (hb hby at_17) rfl ((if0 _ _).trans (tlt (by decide)).2.2.2) ?_
      show Steps p.tables e below (T19.setTop (mkF m 20 #[.val (.int p0), .val (.int p1), .val (.int p2), .val (.int p3), .val (.int p4), .val (.int p5), .val (.int (3 : Int32)), .val (.ref b19), .unset, .unset] [])) _
      refine XS.aload X19.here hx rfl (hb hby at_20) rfl rfl ?_
      show Steps p.tables e below (T19.setTop (mkF m 22 #[.val (.int p0), .val (.int p1), .val (.int p2), .val (.int p3), .val (.int p4), .val (.int p5), .val (.int (3 : Int32)), .val (.ref b19), .unset, .unset] [(.ref b19)])) _
      refine XS.iconst X19.here hx rfl (hb hby at_22) ?_
      show Steps p.tables e below (T19.setTop (mkF m 23 #[.val (.int p0), .val (.int p1), .val (.int p2), .val (.int p3), .val (.int p4), .val (.int p5), .val (.int (3 : Int32)), .val (.ref b19), .unset, .unset] [(.int (0 : Int32)), (.ref b19)])) _
      refine XS.iloadN X19.here hx rfl (hb hby at_23) rfl ?_
      show Steps p.tables e below (T19.setTop (mkF m 24 #[.val (.int p0), .val (.int p1), .val (.int p2), .val (.int p3), .val (.int p4), .val (.int p5), .val (.int (3 : Int32)), .val (.ref b19), .unset, .unset] [(.int p1), (.int (0 : Int32)), (.ref b19)])) _
      refine st20 _ ?_
      show Steps p.tables e below (T20.setTop (mkF m 25 #[.val (.int p0), .val (.int p1), .val (.int p2), .val (.int p3), .val (.int p4), .val (.int p5), .val (.int (3 : Int32)), .val (.ref b19), .unset, .unset] [])) _
      refine XS.iload X20.here hx rfl (hb hby at_25) rfl ?_
      show Steps p.tables e below (T20.setTop (mkF m 27 #[.val (.int p0), .val (.int p1), .val (.int p2), .val (.int p3), .val (.int p4), .val (.int p5), .val (.int (3 : Int32)), .val (.ref b19), .unset, .unset] [(.int (3 : Int32))])) _
      refine XS.iconst X20.here hx rfl (hb hby at_27) ?_
      show Steps p.tables e below (T20.setTop (mkF m 28 #[.val (.int p0), .val (.int p1), .val (.int p2), .val (.int p3), .val (.int p4), .val (.int p5), .val (.int (3 : Int32)), .val (.ref b19), .unset, .unset] [(.int (1 : Int32)), (.int (3 : Int32))])) _
      refine XS.icmpNo X20.here hx rfl (hb hby at_28) rfl (tlt (by decide)).2.2.2 ?_
      show Steps p.tables e below (T20.setTop (mkF m 31 #[.val (.int p0), .val (.int p1), .val (.int p2), .val (.int p3), .val (.int p4), .val (.int p5), .val (.int (3 : Int32)), .val (.ref b19), .unset, .unset] [])) _
      refine XS.aload X20.here hx rfl (hb hby at_31) rfl rfl ?_
      show Steps p.tables e below (T20.setTop (mkF m 33 #[.val (.int p0), .val (.int p1), .val (.int p2), .val (.int p3), .val (.int p4), .val (.int p5), .val (.int (3 : Int32)), .val (.ref b19), .unset, .unset] [(.ref b19)])) _
      refine XS.iconst X20.here hx rfl (hb hby at_33) ?_
      show Steps p.tables e below (T20.setTop (mkF m 34 #[.val (.int p0), .val (.int p1), .val (.int p2), .val (.int p3), .val (.int p4), .val (.int p5), .val (.int (3 : Int32)), .val (.ref b19), .unset, .unset] [(.int (1 : Int32)), (.ref b19)])) _
      refine XS.iloadN X20.here hx rfl (hb hby at_34) rfl ?_
      show Steps p.tables e below (T20.setTop (mkF m 35 #[.val (.int p0), .val (.int p1), .val (.int p2), .val (.int p3), .val (.int p4), .val (.int p5), .val (.int (3 : Int32)), .val (.ref b19), .unset, .unset] [(.int p2), (.int (1 : Int32)), (.ref b19)])) _
      refine st21 _ ?_
      show Steps p.tables e below (T21.setTop (mkF m 36 #[.val (.int p0), .val (.int p1), .val (.int p2), .val (.int p3), .val (.int p4), .val (.int p5), .val (.int (3 : Int32)), .val (.ref b19), .unset, .unset] [])) _
      refine XS.iload X21.here hx rfl (hb hby at_36) rfl ?_
      show Steps p.tables e below (T21.setTop (mkF m 38 #[.val (.int p0), .val (.int p1), .val (.int p2), .val (.int p3), .val (.int p4), .val (.int p5), .val (.int (3 : Int32)), .val (.ref b19), .unset, .unset] [(.int (3 : Int32))])) _
      refine XS.iconst X21.here hx rfl (hb hby at_38) ?_
      show Steps p.tables e below (T21.setTop (mkF m 39 #[.val (.int p0), .val (.int p1), .val (.int p2), .val (.int p3), .val (.int p4), .val (.int p5), .val (.int (3 : Int32)), .val (.ref b19), .unset, .unset] [(.int (2 : Int32)), (.int (3 : Int32))])) _
      refine XS.icmpNo X21.here hx rfl (hb hby at_39) rfl (tlt (by decide)).2.2.2 ?_
      show Steps p.tables e below (T21.setTop (mkF m 42 #[.val (.int p0), .val (.int p1), .val (.int p2), .val (.int p3), .val (.int p4), .val (.int p5), .val (.int (3 : Int32)), .val (.ref b19), .unset, .unset] [])) _
      refine XS.aload X21.here hx rfl (hb hby at_42) rfl rfl ?_
      show Steps p.tables e below (T21.setTop (mkF m 44 #[.val (.int p0), .val (.int p1), .val (.int p2), .val (.int p3), .val (.int p4), .val (.int p5), .val (.int (3 : Int32)), .val (.ref b19), .unset, .unset] [(.ref b19)])) _
      refine XS.iconst X21.here hx rfl (hb hby at_44) ?_
      show Steps p.tables e below (T21.setTop (mkF m 45 #[.val (.int p0), .val (.int p1), .val (.int p2), .val (.int p3), .val (.int p4), .val (.int p5), .val (.int (3 : Int32)), .val (.ref b19), .unset, .unset] [(.int (2 : Int32)), (.ref b19)])) _
      refine XS.iloadN X21.here hx rfl (hb hby at_45) rfl ?_
      show Steps p.tables e below (T21.setTop (mkF m 46 #[.val (.int p0), .val (.int p1), .val (.int p2), .val (.int p3), .val (.int p4), .val (.int p5), .val (.int (3 : Int32)), .val (.ref b19), .unset, .unset] [(.int p3), (.int (2 : Int32)), (.ref b19)])) _
      refine st22 _ ?_
      show Steps p.tables e below (T22.setTop (mkF m 47 #[.val (.int p0), .val (.int p1), .val (.int p2), .val (.int p3), .val (.int p4), .val (.int p5), .val (.int (3 : Int32)), .val (.ref b19), .unset, .unset] [])) _
      refine XS.iload X22.here hx rfl (hb hby at_47) rfl ?_
      show Steps p.tables e below (T22.setTop (mkF m 49 #[.val (.int p0), .val (.int p1), .val (.int p2), .val (.int p3), .val (.int p4), .val (.int p5), .val (.int (3 : Int32)), .val (.ref b19), .unset, .unset] [(.int (3 : Int32))])) _
      refine XS.iconst X22.here hx rfl (hb hby at_49) ?_
      show Steps p.tables e below (T22.setTop (mkF m 50 #[.val (.int p0), .val (.int p1), .val (.int p2), .val (.int p3), .val (.int p4), .val (.int p5), .val (.int (3 : Int32)), .val (.ref b19), .unset, .unset] [(.int (3 : Int32)), (.int (3 : Int32))])) _
      refine XS.icmpYes X22.here hx rfl (pc0 := 50) (pc' := 59) rfl (hb hby at_50) rfl (flt (by decide)).2.2.2 (by decide) (by decide) ?_
      show Steps p.tables e below (T22.setTop (mkF m 59 #[.val (.int p0), .val (.int p1), .val (.int p2), .val (.int p3), .val (.int p4), .val (.int p5), .val (.int (3 : Int32)), .val (.ref b19), .unset, .unset] [])) _
      refine XS.iload X22.here hx rfl (hb hby at_59) rfl ?_
      show Steps p.tables e below (T22.setTop (mkF m 61 #[.val (.int p0), .val (.int p1), .val (.int p2), .val (.int p3), .val (.int p4), .val (.int p5), .val (.int (3 : Int32)), .val (.ref b19), .unset, .unset] [(.int (3 : Int32))])) _
      refine XS.iconst X22.here hx rfl (hb hby at_61) ?_
      show Steps p.tables e below (T22.setTop (mkF m 62 #[.val (.int p0), .val (.int p1), .val (.int p2), .val (.int p3), .val (.int p4), .val (.int p5), .val (.int (3 : Int32)), .val (.ref b19), .unset, .unset] [(.int (4 : Int32)), (.int (3 : Int32))])) _
      refine XS.icmpYes X22.here hx rfl (pc0 := 62) (pc' := 71) rfl (hb hby at_62) rfl (flt (by decide)).2.2.2 (by decide) (by decide) ?_
      show Steps p.tables e below (T22.setTop (mkF m 71 #[.val (.int p0), .val (.int p1), .val (.int p2), .val (.int p3), .val (.int p4), .val (.int p5), .val (.int (3 : Int32)), .val (.ref b19), .unset, .unset] [])) _
      refine XS.iconst X22.here hx rfl (hb hby at_71) ?_
      show Steps p.tables e below (T22.setTop (mkF m 72 #[.val (.int p0), .val (.int p1), .val (.int p2), .val (.int p3), .val (.int p4), .val (.int p5), .val (.int (3 : Int32)), .val (.ref b19), .unset, .unset] [(.int (0 : Int32))])) _
      refine XS.istore X22.here hx rfl (hb hby at_72) rfl (l' := #[.val (.int p0), .val (.int p1), .val (.int p2), .val (.int p3), .val (.int p4), .val (.int p5), .val (.int (3 : Int32)), .val (.ref b19), .val (.int (0 : Int32)), .unset]) rfl ?_
      show Steps p.tables e below (T22.setTop (mkF m 74 #[.val (.int p0), .val (.int p1), .val (.int p2), .val (.int p3), .val (.int p4), .val (.int p5), .val (.int (3 : Int32)), .val (.ref b19), .val (.int (0 : Int32)), .unset] [])) _
      refine XS.iload X22.here hx rfl (hb hby at_74) rfl ?_
      show Steps p.tables e below (T22.setTop (mkF m 76 #[.val (.int p0), .val (.int p1), .val (.int p2), .val (.int p3), .val (.int p4), .val (.int p5), .val (.int (3 : Int32)), .val (.ref b19), .val (.int (0 : Int32)), .unset] [(.int (3 : Int32))])) _
      refine XS.iconst X22.here hx rfl (hb hby at_76) ?_
      show Steps p.tables e below (T22.setTop (mkF m 77 #[.val (.int p0), .val (.int p1), .val (.int p2), .val (.int p3), .val (.int p4), .val (.int p5), .val (.int (3 : Int32)), .val (.ref b19), .val (.int (0 : Int32)), .unset] [(.int (2 : Int32)), (.int (3 : Int32))])) _
      refine XS.icmpNo X22.here hx rfl (hb hby at_77) rfl (flt (by decide)).1 ?_
      show Steps p.tables e below (T22.setTop (mkF m 80 #[.val (.int p0), .val (.int p1), .val (.int p2), .val (.int p3), .val (.int p4), .val (.int p5), .val (.int (3 : Int32)), .val (.ref b19), .val (.int (0 : Int32)), .unset] [])) _
      refine XS.iload X22.here hx rfl (hb hby at_80) rfl ?_
      show Steps p.tables e below (T22.setTop (mkF m 82 #[.val (.int p0), .val (.int p1), .val (.int p2), .val (.int p3), .val (.int p4), .val (.int p5), .val (.int (3 : Int32)), .val (.ref b19), .val (.int (0 : Int32)), .unset] [(.int (0 : Int32))])) _
      refine XS.iloadN X22.here hx rfl (hb hby at_82) rfl ?_
      show Steps p.tables e below (T22.setTop (mkF m 83 #[.val (.int p0), .val (.int p1), .val (.int p2), .val (.int p3), .val (.int p4), .val (.int p5), .val (.int (3 : Int32)), .val (.ref b19), .val (.int (0 : Int32)), .unset] [(.int p1), (.int (0 : Int32))])) _
      refine XS.iloadN X22.here hx rfl (hb hby at_83) rfl ?_
      show Steps p.tables e below (T22.setTop (mkF m 84 #[.val (.int p0), .val (.int p1), .val (.int p2), .val (.int p3), .val (.int p4), .val (.int p5), .val (.int (3 : Int32)), .val (.ref b19), .val (.int (0 : Int32)), .unset] [(.int p2), (.int p1), (.int (0 : Int32))])) _
      refine st23 _ ?_
      show Steps p.tables e below (T23.setTop (mkF m 87 #[.val (.int p0), .val (.int p1), .val (.int p2), .val (.int p3), .val (.int p4), .val (.int p5), .val (.int (3 : Int32)), .val (.ref b19), .val (.int (0 : Int32)), .unset] [(.int (own_dif p1 p2 )), (.int (0 : Int32))])) _
      refine XS.iadd X23.here hx rfl (hb hby at_87) rfl ?_
      show Steps p.tables e below (T23.setTop (mkF m 88 #[.val (.int p0), .val (.int p1), .val (.int p2), .val (.int p3), .val (.int p4), .val (.int p5), .val (.int (3 : Int32)), .val (.ref b19), .val (.int (0 : Int32)), .unset] [(.int ((0 : Int32) + (own_dif p1 p2 )))])) _
      refine XS.istore X23.here hx rfl (hb hby at_88) rfl (l' := #[.val (.int p0), .val (.int p1), .val (.int p2), .val (.int p3), .val (.int p4), .val (.int p5), .val (.int (3 : Int32)), .val (.ref b19), .val (.int ((0 : Int32) + (own_dif p1 p2 ))), .unset]) rfl ?_
      show Steps p.tables e below (T23.setTop (mkF m 90 #[.val (.int p0), .val (.int p1), .val (.int p2), .val (.int p3), .val (.int p4), .val (.int p5), .val (.int (3 : Int32)), .val (.ref b19), .val (.int ((0 : Int32) + (own_dif p1 p2 ))), .unset] [])) _
      refine XS.iload X23.here hx rfl (hb hby at_90) rfl ?_
      show Steps p.tables e below (T23.setTop (mkF m 92 #[.val (.int p0), .val (.int p1), .val (.int p2), .val (.int p3), .val (.int p4), .val (.int p5), .val (.int (3 : Int32)), .val (.ref b19), .val (.int ((0 : Int32) + (own_dif p1 p2 ))), .unset] [(.int (3 : Int32))])) _
      refine XS.iconst X23.here hx rfl (hb hby at_92) ?_
      show Steps p.tables e below (T23.setTop (mkF m 93 #[.val (.int p0), .val (.int p1), .val (.int p2), .val (.int p3), .val (.int p4), .val (.int p5), .val (.int (3 : Int32)), .val (.ref b19), .val (.int ((0 : Int32) + (own_dif p1 p2 ))), .unset] [(.int (3 : Int32)), (.int (3 : Int32))])) _
      refine XS.icmpNo X23.here hx rfl (hb hby at_93) rfl (flt (by decide)).1 ?_
      show Steps p.tables e below (T23.setTop (mkF m 96 #[.val (.int p0), .val (.int p1), .val (.int p2), .val (.int p3), .val (.int p4), .val (.int p5), .val (.int (3 : Int32)), .val (.ref b19), .val (.int ((0 : Int32) + (own_dif p1 p2 ))), .unset] [])) _
      refine XS.iload X23.here hx rfl (hb hby at_96) rfl ?_
      show Steps p.tables e below (T23.setTop (mkF m 98 #[.val (.int p0), .val (.int p1), .val (.int p2), .val (.int p3), .val (.int p4), .val (.int p5), .val (.int (3 : Int32)), .val (.ref b19), .val (.int ((0 : Int32) + (own_dif p1 p2 ))), .unset] [(.int ((0 : Int32) + (own_dif p1 p2 )))])) _
      refine XS.iloadN X23.here hx rfl (hb hby at_98) rfl ?_
      show Steps p.tables e below (T23.setTop (mkF m 99 #[.val (.int p0), .val (.int p1), .val (.int p2), .val (.int p3), .val (.int p4), .val (.int p5), .val (.int (3 : Int32)), .val (.ref b19), .val (.int ((0 : Int32) + (own_dif p1 p2 ))), .unset] [(.int p2), (.int ((0 : Int32) + (own_dif p1 p2 )))])) _
      refine XS.iloadN X23.here hx rfl (hb hby at_99) rfl ?_
      show Steps p.tables e below (T23.setTop (mkF m 100 #[.val (.int p0), .val (.int p1), .val (.int p2), .val (.int p3), .val (.int p4), .val (.int p5), .val (.int (3 : Int32)), .val (.ref b19), .val (.int ((0 : Int32) + (own_dif p1 p2 ))), .unset] [(.int p3), (.int p2), (.int ((0 : Int32) + (own_dif p1 p2 )))])) _
      refine st24 _ ?_
      show Steps p.tables e below (T24.setTop (mkF m 103 #[.val (.int p0), .val (.int p1), .val (.int p2), .val (.int p3), .val (.int p4), .val (.int p5), .val (.int (3 : Int32)), .val (.ref b19), .val (.int ((0 : Int32) + (own_dif p1 p2 ))), .unset] [(.int (own_dif p2 p3 )), (.int ((0 : Int32) + (own_dif p1 p2 )))])) _
      refine XS.iadd X24.here hx rfl (hb hby at_103) rfl ?_
      show Steps p.tables e below (T24.setTop (mkF m 104 #[.val (.int p0), .val (.int p1), .val (.int p2), .val (.int p3), .val (.int p4), .val (.int p5), .val (.int (3 : Int32)), .val (.ref b19), .val (.int ((0 : Int32) + (own_dif p1 p2 ))), .unset] [(.int (((0 : Int32) + (own_dif p1 p2 )) + (own_dif p2 p3 )))])) _
      refine XS.istore X24.here hx rfl (hb hby at_104) rfl (l' := #[.val (.int p0), .val (.int p1), .val (.int p2), .val (.int p3), .val (.int p4), .val (.int p5), .val (.int (3 : Int32)), .val (.ref b19), .val (.int (((0 : Int32) + (own_dif p1 p2 )) + (own_dif p2 p3 ))), .unset]) rfl ?_
      show Steps p.tables e below (T24.setTop (mkF m 106 #[.val (.int p0), .val (.int p1), .val (.int p2), .val (.int p3), .val (.int p4), .val (.int p5), .val (.int (3 : Int32)), .val (.ref b19), .val (.int (((0 : Int32) + (own_dif p1 p2 )) + (own_dif p2 p3 ))), .unset] [])) _
      refine XS.iload X24.here hx rfl (hb hby at_106) rfl ?_
      show Steps p.tables e below (T24.setTop (mkF m 108 #[.val (.int p0), .val (.int p1), .val (.int p2), .val (.int p3), .val (.int p4), .val (.int p5), .val (.int (3 : Int32)), .val (.ref b19), .val (.int (((0 : Int32) + (own_dif p1 p2 )) + (own_dif p2 p3 ))), .unset] [(.int (3 : Int32))])) _
      refine XS.iconst X24.here hx rfl (hb hby at_108) ?_
      show Steps p.tables e below (T24.setTop (mkF m 109 #[.val (.int p0), .val (.int p1), .val (.int p2), .val (.int p3), .val (.int p4), .val (.int p5), .val (.int (3 : Int32)), .val (.ref b19), .val (.int (((0 : Int32) + (own_dif p1 p2 )) + (own_dif p2 p3 ))), .unset] [(.int (4 : Int32)), (.int (3 : Int32))])) _
      refine XS.icmpYes X24.here hx rfl (pc0 := 109) (pc' := 123) rfl (hb hby at_109) rfl (tlt (by decide)).1 (by decide) (by decide) ?_
      show Steps p.tables e below (T24.setTop (mkF m 123 #[.val (.int p0), .val (.int p1), .val (.int p2), .val (.int p3), .val (.int p4), .val (.int p5), .val (.int (3 : Int32)), .val (.ref b19), .val (.int (((0 : Int32) + (own_dif p1 p2 )) + (own_dif p2 p3 ))), .unset] [])) _
      refine XS.iload X24.here hx rfl (hb hby at_123) rfl ?_
      show Steps p.tables e below (T24.setTop (mkF m 125 #[.val (.int p0), .val (.int p1), .val (.int p2), .val (.int p3), .val (.int p4), .val (.int p5), .val (.int (3 : Int32)), .val (.ref b19), .val (.int (((0 : Int32) + (own_dif p1 p2 )) + (own_dif p2 p3 ))), .unset] [(.int (3 : Int32))])) _
      refine XS.iconst X24.here hx rfl (hb hby at_125) ?_
      show Steps p.tables e below (T24.setTop (mkF m 126 #[.val (.int p0), .val (.int p1), .val (.int p2), .val (.int p3), .val (.int p4), .val (.int p5), .val (.int (3 : Int32)), .val (.ref b19), .val (.int (((0 : Int32) + (own_dif p1 p2 )) + (own_dif p2 p3 ))), .unset] [(.int (5 : Int32)), (.int (3 : Int32))])) _
      refine XS.icmpYes X24.here hx rfl (pc0 := 126) (pc' := 141) rfl (hb hby at_126) rfl (tlt (by decide)).1 (by decide) (by decide) ?_
      show Steps p.tables e below (T24.setTop (mkF m 141 #[.val (.int p0), .val (.int p1), .val (.int p2), .val (.int p3), .val (.int p4), .val (.int p5), .val (.int (3 : Int32)), .val (.ref b19), .val (.int (((0 : Int32) + (own_dif p1 p2 )) + (own_dif p2 p3 ))), .unset] [])) _
      refine XS.aload X24.here hx rfl (hb hby at_141) rfl rfl ?_
      show Steps p.tables e below (T24.setTop (mkF m 143 #[.val (.int p0), .val (.int p1), .val (.int p2), .val (.int p3), .val (.int p4), .val (.int p5), .val (.int (3 : Int32)), .val (.ref b19), .val (.int (((0 : Int32) + (own_dif p1 p2 )) + (own_dif p2 p3 ))), .unset] [(.ref b19)])) _
      refine st25 _ ?_
      show Steps p.tables e below (T25.setTop (mkF m 146 #[.val (.int p0), .val (.int p1), .val (.int p2), .val (.int p3), .val (.int p4), .val (.int p5), .val (.int (3 : Int32)), .val (.ref b19), .val (.int (((0 : Int32) + (own_dif p1 p2 )) + (own_dif p2 p3 ))), .unset] [(.int (own_chg3 p1 p2 p3))])) _
      refine XS.istore X25.here hx rfl (hb hby at_146) rfl (l' := #[.val (.int p0), .val (.int p1), .val (.int p2), .val (.int p3), .val (.int p4), .val (.int p5), .val (.int (3 : Int32)), .val (.ref b19), .val (.int (((0 : Int32) + (own_dif p1 p2 )) + (own_dif p2 p3 ))), .val (.int (own_chg3 p1 p2 p3))]) rfl ?_
      show Steps p.tables e below (T25.setTop (mkF m 148 #[.val (.int p0), .val (.int p1), .val (.int p2), .val (.int p3), .val (.int p4), .val (.int p5), .val (.int (3 : Int32)), .val (.ref b19), .val (.int (((0 : Int32) + (own_dif p1 p2 )) + (own_dif p2 p3 ))), .val (.int (own_chg3 p1 p2 p3))] [])) _
      refine XS.iload X25.here hx rfl (hb hby at_148) rfl ?_
      show Steps p.tables e below (T25.setTop (mkF m 150 #[.val (.int p0), .val (.int p1), .val (.int p2), .val (.int p3), .val (.int p4), .val (.int p5), .val (.int (3 : Int32)), .val (.ref b19), .val (.int (((0 : Int32) + (own_dif p1 p2 )) + (own_dif p2 p3 ))), .val (.int (own_chg3 p1 p2 p3))] [(.int (own_chg3 p1 p2 p3))])) _
      refine XS.iload X25.here hx rfl (hb hby at_150) rfl ?_
      show Steps p.tables e below (T25.setTop (mkF m 152 #[.val (.int p0), .val (.int p1), .val (.int p2), .val (.int p3), .val (.int p4), .val (.int p5), .val (.int (3 : Int32)), .val (.ref b19), .val (.int (((0 : Int32) + (own_dif p1 p2 )) + (own_dif p2 p3 ))), .val (.int (own_chg3 p1 p2 p3))] [(.int (((0 : Int32) + (own_dif p1 p2 )) + (own_dif p2 p3 ))), (.int (own_chg3 p1 p2 p3))])) _
      refine XS.icmpNo X25.here hx rfl (hb hby at_152) rfl (teq (own_e3 p1 p2 p3)).2 ?_
      show Steps p.tables e below (T25.setTop (mkF m 155 #[.val (.int p0), .val (.int p1), .val (.int p2), .val (.int p3), .val (.int p4), .val (.int p5), .val (.int (3 : Int32)), .val (.ref b19), .val (.int (((0 : Int32) + (own_dif p1 p2 )) + (own_dif p2 p3 ))), .val (.int (own_chg3 p1 p2 p3))] [])) _
      refine XS.iconst X25.here hx rfl (hb hby at_155) ?_
      show Steps p.tables e below (T25.setTop (mkF m 156 #[.val (.int p0), .val (.int p1), .val (.int p2), .val (.int p3), .val (.int p4), .val (.int p5), .val (.int (3 : Int32)), .val (.ref b19), .val (.int (((0 : Int32) + (own_dif p1 p2 )) + (own_dif p2 p3 ))), .val (.int (own_chg3 p1 p2 p3))] [(.int (1 : Int32))])) _
      refine XS.goto X25.here hx rfl (pc0 := 156) (pc' := 160) rfl (hb hby at_156) (by decide) (by decide) ?_
      exact k
    obtain ⟨fs, hr, hrun, hended, hW, hsame⟩ := X25.leave (v := some (.int (1 : Int32))) (fun h => by rw [Bd.returns] at h; cases h)
    refine ⟨_, _, k26 _ ?_, hrun, hended, _, _, rfl, ?_, ⟨_, rfl⟩, hW, hsame.mono (by decide) (by decide)⟩
    · exact retN X25 hx (t := .boolean) Bd.returns (by simp) (hb hby at_160) hr
    · show own_R (some (.int 1)) n0 _ T25.heap _
      rw [e25]
      exact ⟨rfl, N25⟩
  · have k27 : ∀ t, Steps p.tables e below (s₁.setTop (mkF m 9 #[.val (.int p0), .val (.int p1), .val (.int p2), .val (.int p3), .val (.int p4), .val (.int p5), .val (.int (4 : Int32)), .unset, .unset, .unset] [])) t → Steps p.tables e below (s₁.setTop (entryFrame m #[(.int p0), (.int p1), (.int p2), (.int p3), (.int p4), (.int p5)] maxLocals)) t := by
      intro t k
      refine k1 _ ?_
      rw [hk]
      exact k
    obtain ⟨T28, h28, c28, X28, e28, E28, A28, st28⟩ := newP X0 hx hZ (hw _ (List.mem_of_getElem? (i := 1) rfl)) e0 (g := (mkF m 11 #[.val (.int p0), .val (.int p1), .val (.int p2), .val (.int p3), .val (.int p4), .val (.int p5), .val (.int (4 : Int32)), .unset, .unset, .unset] [(.int (4 : Int32))])) rfl (hb hby at_11) rfl (by decide) (cap := 4) (by decide) (by decide) (by decide) (by decide)
    obtain ⟨b28, g28⟩ : ∃ z, z = h0.size := ⟨_, rfl⟩
    rw [← g28] at A28 st28
    have gn_b28 : n0 ≤ b28 := Nat.le_trans Z0 (Nat.le_of_eq g28.symm)
    have Zs28 : n0 ≤ h28.size := Nat.le_trans Z0 E28.1
    have V_b28 : Arv Z h28 b28 c28 .int (4 : Int32) [(.int (0 : Int32)), (.int (0 : Int32)), (.int (0 : Int32)), (.int (0 : Int32))] (.int (0 : Int32)) := (Arv.new A28 (by decide)).pad (pad_rep [] (.int (0 : Int32)) 4)
    obtain ⟨cl_29, Ar_29, q_29, S_29, N_29, H_29, G_29⟩ := id V_b28
    have hin_29 : ¬ ((0 : Int32) < 0 ∨ cl_29.slots.size ≤ ((0 : Int32)).toNatClampNeg) := inb_of S_29 ⟨by decide, by decide⟩
    obtain ⟨T29, h29, X29, e29, W29, st29⟩ := stI X28 hx hZ e28 Ar_29 (j := (0 : Int32)) hin_29 (g := (mkF m 24 #[.val (.int p0), .val (.int p1), .val (.int p2), .val (.int p3), .val (.int p4), .val (.int p5), .val (.int (4 : Int32)), .val (.ref b28), .unset, .unset] [(.int p1), (.int (0 : Int32)), (.ref b28)])) rfl rfl (hb hby at_24)
    have Vn29 : Arv Z h29 b28 c28 .int (4 : Int32) [(.int p1), (.int (0 : Int32)), (.int (0 : Int32)), (.int (0 : Int32))] (.int (0 : Int32)) := Arv.set Ar_29 q_29 S_29 N_29 H_29 G_29 rfl W29 0 rfl (Nat.le_of_ble_eq_true rfl)
    replace V_b28 := Vn29
    have N29 := Fr.snoc X29 N0 gn_b28
    have Zs29 : n0 ≤ h29.size := by rw [W29.size]; exact Zs28
    obtain ⟨cl_30, Ar_30, q_30, S_30, N_30, H_30, G_30⟩ := id V_b28
    have hin_30 : ¬ ((1 : Int32) < 0 ∨ cl_30.slots.size ≤ ((1 : Int32)).toNatClampNeg) := inb_of S_30 ⟨by decide, by decide⟩
    obtain ⟨T30, h30, X30, e30, W30, st30⟩ := stI X29 hx hZ e29 Ar_30 (j := (1 : Int32)) hin_30 (g := (mkF m 35 #[.val (.int p0), .val (.int p1), .val (.int p2), .val (.int p3), .val (.int p4), .val (.int p5), .val (.int (4 : Int32)), .val (.ref b28), .unset, .unset] [(.int p2), (.int (1 : Int32)), (.ref b28)])) rfl rfl (hb hby at_35)
    have Vn30 : Arv Z h30 b28 c28 .int (4 : Int32) [(.int p1), (.int p2), (.int (0 : Int32)), (.int (0 : Int32))] (.int (0 : Int32)) := Arv.set Ar_30 q_30 S_30 N_30 H_30 G_30 rfl W30 1 rfl (Nat.le_of_ble_eq_true rfl)
    replace V_b28 := Vn30
    have N30 := Fr.snoc X30 N29 gn_b28
    have Zs30 : n0 ≤ h30.size := by rw [W30.size]; exact Zs29
    obtain ⟨cl_31, Ar_31, q_31, S_31, N_31, H_31, G_31⟩ := id V_b28
    have hin_31 : ¬ ((2 : Int32) < 0 ∨ cl_31.slots.size ≤ ((2 : Int32)).toNatClampNeg) := inb_of S_31 ⟨by decide, by decide⟩
    obtain ⟨T31, h31, X31, e31, W31, st31⟩ := stI X30 hx hZ e30 Ar_31 (j := (2 : Int32)) hin_31 (g := (mkF m 46 #[.val (.int p0), .val (.int p1), .val (.int p2), .val (.int p3), .val (.int p4), .val (.int p5), .val (.int (4 : Int32)), .val (.ref b28), .unset, .unset] [(.int p3), (.int (2 : Int32)), (.ref b28)])) rfl rfl (hb hby at_46)
    have Vn31 : Arv Z h31 b28 c28 .int (4 : Int32) [(.int p1), (.int p2), (.int p3), (.int (0 : Int32))] (.int (0 : Int32)) := Arv.set Ar_31 q_31 S_31 N_31 H_31 G_31 rfl W31 2 rfl (Nat.le_of_ble_eq_true rfl)
    replace V_b28 := Vn31
    have N31 := Fr.snoc X31 N30 gn_b28
    have Zs31 : n0 ≤ h31.size := by rw [W31.size]; exact Zs30
    obtain ⟨cl_32, Ar_32, q_32, S_32, N_32, H_32, G_32⟩ := id V_b28
    have hin_32 : ¬ ((3 : Int32) < 0 ∨ cl_32.slots.size ≤ ((3 : Int32)).toNatClampNeg) := inb_of S_32 ⟨by decide, by decide⟩
    obtain ⟨T32, h32, X32, e32, W32, st32⟩ := stI X31 hx hZ e31 Ar_32 (j := (3 : Int32)) hin_32 (g := (mkF m 58 #[.val (.int p0), .val (.int p1), .val (.int p2), .val (.int p3), .val (.int p4), .val (.int p5), .val (.int (4 : Int32)), .val (.ref b28), .unset, .unset] [(.int p4), (.int (3 : Int32)), (.ref b28)])) rfl rfl (hb hby at_58)
    have Vn32 : Arv Z h32 b28 c28 .int (4 : Int32) [(.int p1), (.int p2), (.int p3), (.int p4)] (.int (0 : Int32)) := Arv.set Ar_32 q_32 S_32 N_32 H_32 G_32 rfl W32 3 rfl (Nat.le_of_ble_eq_true rfl)
    replace V_b28 := Vn32
    have N32 := Fr.snoc X32 N31 gn_b28
    have Zs32 : n0 ≤ h32.size := by rw [W32.size]; exact Zs31
    obtain ⟨_, _, ⟨T33, L33, k33_, n33⟩, -, X33, ⟨Lc33, hQ33, l33, y33, z33⟩, st33⟩ := Jvm.LawKit.callS X32 hx (y := (⟨"com/example/lightloom/lightloom/plan/LightpathChangesPinLaw", "differs", "(II)I"⟩ : MethodName)) hown (mvT hZ (hw _ (List.mem_of_getElem? (i := 6) rfl))) (mvT hZ (hw _ (List.mem_of_getElem? (i := 7) rfl))) (mvT hZ (hw _ (List.mem_of_getElem? (i := 8) rfl))) (mvT hZ (hw _ (List.mem_of_getElem? (i := 9) rfl))) (by decide) (backOf (W := 1) (rm2 l Z a0 hw [] p1 p2 h32 n0 ) hZ (hw _ (List.mem_of_getElem? (i := 9) rfl)) (hw _ (List.mem_of_getElem? (i := 8) rfl)) (by decide) (by decide)) (g := (mkF m 84 #[.val (.int p0), .val (.int p1), .val (.int p2), .val (.int p3), .val (.int p4), .val (.int p5), .val (.int (4 : Int32)), .val (.ref b28), .val (.int (0 : Int32)), .unset] [(.int p2), (.int p1), (.int (0 : Int32))])) rfl (by rw [hml]; rfl) (argsL := [(.int p1), (.int p2)]) (rest := [(.int (0 : Int32))]) (lenOf pd_1 rfl) rfl (by show 2 * 0 + _ ≤ _; exact Nat.le_of_eq rfl) (hb hby at_84) (fun _ _ => ⟨rfl, e32, (by decide : 1 + 0 ≤ _), (by decide : 4 + 0 ≤ _)⟩)
    dsimp only [Pt.U, Pt.locs, Pt.cells, Pt.slots] at X33 l33 y33 z33 st33 hQ33
    subst l33 y33 z33
    obtain ⟨rfl, Nq33, e33⟩ := hQ33
    have N33 := Fr.app N32 Nq33
    obtain ⟨_, _, ⟨T34, L34, k34_, n34⟩, -, X34, ⟨Lc34, hQ34, l34, y34, z34⟩, st34⟩ := Jvm.LawKit.callS X33 hx (y := (⟨"com/example/lightloom/lightloom/plan/LightpathChangesPinLaw", "differs", "(II)I"⟩ : MethodName)) hown (mvT hZ (hw _ (List.mem_of_getElem? (i := 6) rfl))) (mvT hZ (hw _ (List.mem_of_getElem? (i := 7) rfl))) (mvT hZ (hw _ (List.mem_of_getElem? (i := 8) rfl))) (mvT hZ (hw _ (List.mem_of_getElem? (i := 9) rfl))) (by decide) (backOf (W := 1) (rm2 l Z a0 hw [] p2 p3 h32 n0 ) hZ (hw _ (List.mem_of_getElem? (i := 9) rfl)) (hw _ (List.mem_of_getElem? (i := 8) rfl)) (by decide) (by decide)) (g := (mkF m 100 #[.val (.int p0), .val (.int p1), .val (.int p2), .val (.int p3), .val (.int p4), .val (.int p5), .val (.int (4 : Int32)), .val (.ref b28), .val (.int ((0 : Int32) + (own_dif p1 p2 ))), .unset] [(.int p3), (.int p2), (.int ((0 : Int32) + (own_dif p1 p2 )))])) rfl (by rw [hml]; rfl) (argsL := [(.int p2), (.int p3)]) (rest := [(.int ((0 : Int32) + (own_dif p1 p2 )))]) (lenOf pd_1 rfl) rfl (by show 2 * 0 + _ ≤ _; exact Nat.le_of_eq rfl) (hb hby at_100) (fun _ _ => ⟨rfl, e33, (by decide : 1 + 0 ≤ _), (by decide : 4 + 0 ≤ _)⟩)
    dsimp only [Pt.U, Pt.locs, Pt.cells, Pt.slots] at X34 l34 y34 z34 st34 hQ34
    subst l34 y34 z34
    obtain ⟨rfl, Nq34, e34⟩ := hQ34
    have N34 := Fr.app N33 Nq34
    obtain ⟨_, _, ⟨T35, L35, k35_, n35⟩, -, X35, ⟨Lc35, hQ35, l35, y35, z35⟩, st35⟩ := Jvm.LawKit.callS X34 hx (y := (⟨"com/example/lightloom/lightloom/plan/LightpathChangesPinLaw", "differs", "(II)I"⟩ : MethodName)) hown (mvT hZ (hw _ (List.mem_of_getElem? (i := 6) rfl))) (mvT hZ (hw _ (List.mem_of_getElem? (i := 7) rfl))) (mvT hZ (hw _ (List.mem_of_getElem? (i := 8) rfl))) (mvT hZ (hw _ (List.mem_of_getElem? (i := 9) rfl))) (by decide) (backOf (W := 1) (rm2 l Z a0 hw [] p3 p4 h32 n0 ) hZ (hw _ (List.mem_of_getElem? (i := 9) rfl)) (hw _ (List.mem_of_getElem? (i := 8) rfl)) (by decide) (by decide)) (g := (mkF m 117 #[.val (.int p0), .val (.int p1), .val (.int p2), .val (.int p3), .val (.int p4), .val (.int p5), .val (.int (4 : Int32)), .val (.ref b28), .val (.int (((0 : Int32) + (own_dif p1 p2 )) + (own_dif p2 p3 ))), .unset] [(.int p4), (.int p3), (.int (((0 : Int32) + (own_dif p1 p2 )) + (own_dif p2 p3 )))])) rfl (by rw [hml]; rfl) (argsL := [(.int p3), (.int p4)]) (rest := [(.int (((0 : Int32) + (own_dif p1 p2 )) + (own_dif p2 p3 )))]) (lenOf pd_1 rfl) rfl (by show 2 * 0 + _ ≤ _; exact Nat.le_of_eq rfl) (hb hby at_117) (fun _ _ => ⟨rfl, e34, (by decide : 1 + 0 ≤ _), (by decide : 4 + 0 ≤ _)⟩)
    dsimp only [Pt.U, Pt.locs, Pt.cells, Pt.slots] at X35 l35 y35 z35 st35 hQ35
    subst l35 y35 z35
    obtain ⟨rfl, Nq35, e35⟩ := hQ35
    have N35 := Fr.app N34 Nq35
    obtain ⟨_, _, ⟨T36, L36, k36_, n36⟩, -, X36, ⟨Lc36, hQ36, l36, y36, z36⟩, st36⟩ := Jvm.LawKit.callS X35 hx (y := (⟨"com/example/lightloom/lightloom/plan/Lightpath", "changes", "([I)I"⟩ : MethodName)) hown (mvT hZ (hw _ (List.mem_of_getElem? (i := 2) rfl))) (mvT hZ (hw _ (List.mem_of_getElem? (i := 3) rfl))) (mvT hZ (hw _ (List.mem_of_getElem? (i := 4) rfl))) (mvT hZ (hw _ (List.mem_of_getElem? (i := 5) rfl))) (by decide) (backOf (W := 0) (rmC4 l Z a0 hw [] b28 c28 p1 p2 p3 p4 h32 n0 V_b28) hZ (hw _ (List.mem_of_getElem? (i := 5) rfl)) (hw _ (List.mem_of_getElem? (i := 4) rfl)) (by decide) (by decide)) (g := (mkF m 143 #[.val (.int p0), .val (.int p1), .val (.int p2), .val (.int p3), .val (.int p4), .val (.int p5), .val (.int (4 : Int32)), .val (.ref b28), .val (.int ((((0 : Int32) + (own_dif p1 p2 )) + (own_dif p2 p3 )) + (own_dif p3 p4 ))), .unset] [(.ref b28)])) rfl (by rw [hml]; rfl) (argsL := [(.ref b28)]) (rest := []) (lenOf pd_0 rfl) rfl (by show 2 * 0 + _ ≤ _; exact Nat.le_of_eq rfl) (hb hby at_143) (fun _ _ => ⟨rfl, e35, (by decide : 1 + 0 ≤ _), (by decide : 4 + 0 ≤ _)⟩)
    dsimp only [Pt.U, Pt.locs, Pt.cells, Pt.slots] at X36 l36 y36 z36 st36 hQ36
    subst l36 y36 z36
    obtain ⟨rfl, Nq36, e36⟩ := hQ36
    have N36 := Fr.app N35 Nq36
    have k37 : ∀ t, Steps p.tables e below (T36.setTop (mkF m 160 #[.val (.int p0), .val (.int p1), .val (.int p2), .val (.int p3), .val (.int p4), .val (.int p5), .val (.int (4 : Int32)), .val (.ref b28), .val (.int ((((0 : Int32) + (own_dif p1 p2 )) + (own_dif p2 p3 )) + (own_dif p3 p4 ))), .val (.int (own_chg4 p1 p2 p3 p4))] [(.int (1 : Int32))])) t → Steps p.tables e below (s₁.setTop (entryFrame m #[(.int p0), (.int p1), (.int p2), (.int p3), (.int p4), (.int p5)] maxLocals)) t := by
      intro t k
      refine k27 _ ?_
      show Steps p.tables e below (s₁.setTop (mkF m 9 #[.val (.int p0), .val (.int p1), .val (.int p2), .val (.int p3), .val (.int p4), .val (.int p5), .val (.int (4 : Int32)), .unset, .unset, .unset] [])) _
      refine XS.iload X0.here hx rfl (hb hby at_9) rfl ?_
      show Steps p.tables e below (s₁.setTop (mkF m 11 #[.val (.int p0), .val (.int p1), .val (.int p2), .val (.int p3), .val (.int p4), .val (.int p5), .val (.int (4 : Int32)), .unset, .unset, .unset] [(.int (4 : Int32))])) _
      refine st28 _ ?_
      show Steps p.tables e below (T28.setTop (mkF m 13 #[.val (.int p0), .val (.int p1), .val (.int p2), .val (.int p3), .val (.int p4), .val (.int p5), .val (.int (4 : Int32)), .unset, .unset, .unset] [(.ref b28)])) _
      refine XS.astore X28.here hx rfl (hb hby at_13) rfl rfl (l' := #[.val (.int p0), .val (.int p1), .val (.int p2), .val (.int p3), .val (.int p4), .val (.int p5), .val (.int (4 : Int32)), .val (.ref b28), .unset, .unset]) rfl ?_
      show Steps p.tables e below (T28.setTop (mkF m 15 #[.val (.int p0), .val (.int p1), .val (.int p2), .val (.int p3), .val (.int p4), .val (.int p5), .val (.int (4 : Int32)), .val (.ref b28), .unset, .unset] [])) _
      refine XS.iload X28.here hx rfl (hb hby at_15) rfl ?_
      show Steps p.tables e below (T28.setTop (mkF m 17 #[.val (.int p0), .val (.int p1), .val (.int p2), .val (.int p3), .val (.int p4), .val (.int p5), .val (.int (4 : Int32)), .val (.ref b28), .unset, .unset] [(.int (4 : Int32))])) _
      refine XS.ifNo X28.here hx rfl (hb hby at_17) rfl ((if0 _ _).trans (tlt (by decide)).2.2.2) ?_
      show Steps p.tables e below (T28.setTop (mkF m 20 #[.val (.int p0), .val (.int p1), .val (.int p2), .val (.int p3), .val (.int p4), .val (.int p5), .val (.int (4 : Int32)), .val (.ref b28), .unset, .unset] [])) _
      refine XS.aload X28.here hx rfl (hb hby at_20) rfl rfl ?_
      show Steps p.tables e below (T28.setTop (mkF m 22 #[.val (.int p0), .val (.int p1), .val (.int p2), .val (.int p3), .val (.int p4), .val (.int p5), .val (.int (4 : Int32)), .val (.ref b28), .unset, .unset] [(.ref b28)])) _
      refine XS.iconst X28.here hx rfl (hb hby at_22) ?_
      show Steps p.tables e below (T28.setTop (mkF m 23 #[.val (.int p0), .val (.int p1), .val (.int p2), .val (.int p3), .val (.int p4), .val (.int p5), .val (.int (4 : Int32)), .val (.ref b28), .unset, .unset] [(.int (0 : Int32)), (.ref b28)])) _
      refine XS.iloadN X28.here hx rfl (hb hby at_23) rfl ?_
      show Steps p.tables e below (T28.setTop (mkF m 24 #[.val (.int p0), .val (.int p1), .val (.int p2), .val (.int p3), .val (.int p4), .val (.int p5), .val (.int (4 : Int32)), .val (.ref b28), .unset, .unset] [(.int p1), (.int (0 : Int32)), (.ref b28)])) _
      refine st29 _ ?_
      show Steps p.tables e below (T29.setTop (mkF m 25 #[.val (.int p0), .val (.int p1), .val (.int p2), .val (.int p3), .val (.int p4), .val (.int p5), .val (.int (4 : Int32)), .val (.ref b28), .unset, .unset] [])) _
      refine XS.iload X29.here hx rfl (hb hby at_25) rfl ?_
      show Steps p.tables e below (T29.setTop (mkF m 27 #[.val (.int p0), .val (.int p1), .val (.int p2), .val (.int p3), .val (.int p4), .val (.int p5), .val (.int (4 : Int32)), .val (.ref b28), .unset, .unset] [(.int (4 : Int32))])) _
      refine XS.iconst X29.here hx rfl (hb hby at_27) ?_
      show Steps p.tables e below (T29.setTop (mkF m 28 #[.val (.int p0), .val (.int p1), .val (.int p2), .val (.int p3), .val (.int p4), .val (.int p5), .val (.int (4 : Int32)), .val (.ref b28), .unset, .unset] [(.int (1 : Int32)), (.int (4 : Int32))])) _
      refine XS.icmpNo X29.here hx rfl (hb hby at_28) rfl (tlt (by decide)).2.2.2 ?_
      show Steps p.tables e below (T29.setTop (mkF m 31 #[.val (.int p0), .val (.int p1), .val (.int p2), .val (.int p3), .val (.int p4), .val (.int p5), .val (.int (4 : Int32)), .val (.ref b28), .unset, .unset] [])) _
      refine XS.aload X29.here hx rfl (hb hby at_31) rfl rfl ?_
      show Steps p.tables e below (T29.setTop (mkF m 33 #[.val (.int p0), .val (.int p1), .val (.int p2), .val (.int p3), .val (.int p4), .val (.int p5), .val (.int (4 : Int32)), .val (.ref b28), .unset, .unset] [(.ref b28)])) _
      refine XS.iconst X29.here hx rfl (hb hby at_33) ?_
      show Steps p.tables e below (T29.setTop (mkF m 34 #[.val (.int p0), .val (.int p1), .val (.int p2), .val (.int p3), .val (.int p4), .val (.int p5), .val (.int (4 : Int32)), .val (.ref b28), .unset, .unset] [(.int (1 : Int32)), (.ref b28)])) _
      refine XS.iloadN X29.here hx rfl (hb hby at_34) rfl ?_
      show Steps p.tables e below (T29.setTop (mkF m 35 #[.val (.int p0), .val (.int p1), .val (.int p2), .val (.int p3), .val (.int p4), .val (.int p5), .val (.int (4 : Int32)), .val (.ref b28), .unset, .unset] [(.int p2), (.int (1 : Int32)), (.ref b28)])) _
      refine st30 _ ?_
      show Steps p.tables e below (T30.setTop (mkF m 36 #[.val (.int p0), .val (.int p1), .val (.int p2), .val (.int p3), .val (.int p4), .val (.int p5), .val (.int (4 : Int32)), .val (.ref b28), .unset, .unset] [])) _
      refine XS.iload X30.here hx rfl (hb hby at_36) rfl ?_
      show Steps p.tables e below (T30.setTop (mkF m 38 #[.val (.int p0), .val (.int p1), .val (.int p2), .val (.int p3), .val (.int p4), .val (.int p5), .val (.int (4 : Int32)), .val (.ref b28), .unset, .unset] [(.int (4 : Int32))])) _
      refine XS.iconst X30.here hx rfl (hb hby at_38) ?_
      show Steps p.tables e below (T30.setTop (mkF m 39 #[.val (.int p0), .val (.int p1), .val (.int p2), .val (.int p3), .val (.int p4), .val (.int p5), .val (.int (4 : Int32)), .val (.ref b28), .unset, .unset] [(.int (2 : Int32)), (.int (4 : Int32))])) _
      refine XS.icmpNo X30.here hx rfl (hb hby at_39) rfl (tlt (by decide)).2.2.2 ?_
      show Steps p.tables e below (T30.setTop (mkF m 42 #[.val (.int p0), .val (.int p1), .val (.int p2), .val (.int p3), .val (.int p4), .val (.int p5), .val (.int (4 : Int32)), .val (.ref b28), .unset, .unset] [])) _
      refine XS.aload X30.here hx rfl (hb hby at_42) rfl rfl ?_
      show Steps p.tables e below (T30.setTop (mkF m 44 #[.val (.int p0), .val (.int p1), .val (.int p2), .val (.int p3), .val (.int p4), .val (.int p5), .val (.int (4 : Int32)), .val (.ref b28), .unset, .unset] [(.ref b28)])) _
      refine XS.iconst X30.here hx rfl (hb hby at_44) ?_
      show Steps p.tables e below (T30.setTop (mkF m 45 #[.val (.int p0), .val (.int p1), .val (.int p2), .val (.int p3), .val (.int p4), .val (.int p5), .val (.int (4 : Int32)), .val (.ref b28), .unset, .unset] [(.int (2 : Int32)), (.ref b28)])) _
      refine XS.iloadN X30.here hx rfl (hb hby at_45) rfl ?_
      show Steps p.tables e below (T30.setTop (mkF m 46 #[.val (.int p0), .val (.int p1), .val (.int p2), .val (.int p3), .val (.int p4), .val (.int p5), .val (.int (4 : Int32)), .val (.ref b28), .unset, .unset] [(.int p3), (.int (2 : Int32)), (.ref b28)])) _
      refine st31 _ ?_
      show Steps p.tables e below (T31.setTop (mkF m 47 #[.val (.int p0), .val (.int p1), .val (.int p2), .val (.int p3), .val (.int p4), .val (.int p5), .val (.int (4 : Int32)), .val (.ref b28), .unset, .unset] [])) _
      refine XS.iload X31.here hx rfl (hb hby at_47) rfl ?_
      show Steps p.tables e below (T31.setTop (mkF m 49 #[.val (.int p0), .val (.int p1), .val (.int p2), .val (.int p3), .val (.int p4), .val (.int p5), .val (.int (4 : Int32)), .val (.ref b28), .unset, .unset] [(.int (4 : Int32))])) _
      refine XS.iconst X31.here hx rfl (hb hby at_49) ?_
      show Steps p.tables e below (T31.setTop (mkF m 50 #[.val (.int p0), .val (.int p1), .val (.int p2), .val (.int p3), .val (.int p4), .val (.int p5), .val (.int (4 : Int32)), .val (.ref b28), .unset, .unset] [(.int (3 : Int32)), (.int (4 : Int32))])) _
      refine XS.icmpNo X31.here hx rfl (hb hby at_50) rfl (tlt (by decide)).2.2.2 ?_
      show Steps p.tables e below (T31.setTop (mkF m 53 #[.val (.int p0), .val (.int p1), .val (.int p2), .val (.int p3), .val (.int p4), .val (.int p5), .val (.int (4 : Int32)), .val (.ref b28), .unset, .unset] [])) _
      refine XS.aload X31.here hx rfl (hb hby at_53) rfl rfl ?_
      show Steps p.tables e below (T31.setTop (mkF m 55 #[.val (.int p0), .val (.int p1), .val (.int p2), .val (.int p3), .val (.int p4), .val (.int p5), .val (.int (4 : Int32)), .val (.ref b28), .unset, .unset] [(.ref b28)])) _
      refine XS.iconst X31.here hx rfl (hb hby at_55) ?_
      show Steps p.tables e below (T31.setTop (mkF m 56 #[.val (.int p0), .val (.int p1), .val (.int p2), .val (.int p3), .val (.int p4), .val (.int p5), .val (.int (4 : Int32)), .val (.ref b28), .unset, .unset] [(.int (3 : Int32)), (.ref b28)])) _
      refine XS.iload X31.here hx rfl (hb hby at_56) rfl ?_
      show Steps p.tables e below (T31.setTop (mkF m 58 #[.val (.int p0), .val (.int p1), .val (.int p2), .val (.int p3), .val (.int p4), .val (.int p5), .val (.int (4 : Int32)), .val (.ref b28), .unset, .unset] [(.int p4), (.int (3 : Int32)), (.ref b28)])) _
      refine st32 _ ?_
      show Steps p.tables e below (T32.setTop (mkF m 59 #[.val (.int p0), .val (.int p1), .val (.int p2), .val (.int p3), .val (.int p4), .val (.int p5), .val (.int (4 : Int32)), .val (.ref b28), .unset, .unset] [])) _
      refine XS.iload X32.here hx rfl (hb hby at_59) rfl ?_
      show Steps p.tables e below (T32.setTop (mkF m 61 #[.val (.int p0), .val (.int p1), .val (.int p2), .val (.int p3), .val (.int p4), .val (.int p5), .val (.int (4 : Int32)), .val (.ref b28), .unset, .unset] [(.int (4 : Int32))])) _
      refine XS.iconst X32.here hx rfl (hb hby at_61) ?_
      show Steps p.tables e below (T32.setTop (mkF m 62 #[.val (.int p0), .val (.int p1), .val (.int p2), .val (.int p3), .val (.int p4), .val (.int p5), .val (.int (4 : Int32)), .val (.ref b28), .unset, .unset] [(.int (4 : Int32)), (.int (4 : Int32))])) _
      refine XS.icmpYes X32.here hx rfl (pc0 := 62) (pc' := 71) rfl (hb hby at_62) rfl (flt (by decide)).2.2.2 (by decide) (by decide) ?_
      show Steps p.tables e below (T32.setTop (mkF m 71 #[.val (.int p0), .val (.int p1), .val (.int p2), .val (.int p3), .val (.int p4), .val (.int p5), .val (.int (4 : Int32)), .val (.ref b28), .unset, .unset] [])) _
      refine XS.iconst X32.here hx rfl (hb hby at_71) ?_
      show Steps p.tables e below (T32.setTop (mkF m 72 #[.val (.int p0), .val (.int p1), .val (.int p2), .val (.int p3), .val (.int p4), .val (.int p5), .val (.int (4 : Int32)), .val (.ref b28), .unset, .unset] [(.int (0 : Int32))])) _
      refine XS.istore X32.here hx rfl (hb hby at_72) rfl (l' := #[.val (.int p0), .val (.int p1), .val (.int p2), .val (.int p3), .val (.int p4), .val (.int p5), .val (.int (4 : Int32)), .val (.ref b28), .val (.int (0 : Int32)), .unset]) rfl ?_
      show Steps p.tables e below (T32.setTop (mkF m 74 #[.val (.int p0), .val (.int p1), .val (.int p2), .val (.int p3), .val (.int p4), .val (.int p5), .val (.int (4 : Int32)), .val (.ref b28), .val (.int (0 : Int32)), .unset] [])) _
      refine XS.iload X32.here hx rfl (hb hby at_74) rfl ?_
      show Steps p.tables e below (T32.setTop (mkF m 76 #[.val (.int p0), .val (.int p1), .val (.int p2), .val (.int p3), .val (.int p4), .val (.int p5), .val (.int (4 : Int32)), .val (.ref b28), .val (.int (0 : Int32)), .unset] [(.int (4 : Int32))])) _
      refine XS.iconst X32.here hx rfl (hb hby at_76) ?_
      show Steps p.tables e below (T32.setTop (mkF m 77 #[.val (.int p0), .val (.int p1), .val (.int p2), .val (.int p3), .val (.int p4), .val (.int p5), .val (.int (4 : Int32)), .val (.ref b28), .val (.int (0 : Int32)), .unset] [(.int (2 : Int32)), (.int (4 : Int32))])) _
      refine XS.icmpNo X32.here hx rfl (hb hby at_77) rfl (flt (by decide)).1 ?_
      show Steps p.tables e below (T32.setTop (mkF m 80 #[.val (.int p0), .val (.int p1), .val (.int p2), .val (.int p3), .val (.int p4), .val (.int p5), .val (.int (4 : Int32)), .val (.ref b28), .val (.int (0 : Int32)), .unset] [])) _
      refine XS.iload X32.here hx rfl (hb hby at_80) rfl ?_
      show Steps p.tables e below (T32.setTop (mkF m 82 #[.val (.int p0), .val (.int p1), .val (.int p2), .val (.int p3), .val (.int p4), .val (.int p5), .val (.int (4 : Int32)), .val (.ref b28), .val (.int (0 : Int32)), .unset] [(.int (0 : Int32))])) _
      refine XS.iloadN X32.here hx rfl (hb hby at_82) rfl ?_
      show Steps p.tables e below (T32.setTop (mkF m 83 #[.val (.int p0), .val (.int p1), .val (.int p2), .val (.int p3), .val (.int p4), .val (.int p5), .val (.int (4 : Int32)), .val (.ref b28), .val (.int (0 : Int32)), .unset] [(.int p1), (.int (0 : Int32))])) _
      refine XS.iloadN X32.here hx rfl (hb hby at_83) rfl ?_
      show Steps p.tables e below (T32.setTop (mkF m 84 #[.val (.int p0), .val (.int p1), .val (.int p2), .val (.int p3), .val (.int p4), .val (.int p5), .val (.int (4 : Int32)), .val (.ref b28), .val (.int (0 : Int32)), .unset] [(.int p2), (.int p1), (.int (0 : Int32))])) _
      refine st33 _ ?_
      show Steps p.tables e below (T33.setTop (mkF m 87 #[.val (.int p0), .val (.int p1), .val (.int p2), .val (.int p3), .val (.int p4), .val (.int p5), .val (.int (4 : Int32)), .val (.ref b28), .val (.int (0 : Int32)), .unset] [(.int (own_dif p1 p2 )), (.int (0 : Int32))])) _
      refine XS.iadd X33.here hx rfl (hb hby at_87) rfl ?_
      show Steps p.tables e below (T33.setTop (mkF m 88 #[.val (.int p0), .val (.int p1), .val (.int p2), .val (.int p3), .val (.int p4), .val (.int p5), .val (.int (4 : Int32)), .val (.ref b28), .val (.int (0 : Int32)), .unset] [(.int ((0 : Int32) + (own_dif p1 p2 )))])) _
      refine XS.istore X33.here hx rfl (hb hby at_88) rfl (l' := #[.val (.int p0), .val (.int p1), .val (.int p2), .val (.int p3), .val (.int p4), .val (.int p5), .val (.int (4 : Int32)), .val (.ref b28), .val (.int ((0 : Int32) + (own_dif p1 p2 ))), .unset]) rfl ?_
      show Steps p.tables e below (T33.setTop (mkF m 90 #[.val (.int p0), .val (.int p1), .val (.int p2), .val (.int p3), .val (.int p4), .val (.int p5), .val (.int (4 : Int32)), .val (.ref b28), .val (.int ((0 : Int32) + (own_dif p1 p2 ))), .unset] [])) _
      refine XS.iload X33.here hx rfl (hb hby at_90) rfl ?_
      show Steps p.tables e below (T33.setTop (mkF m 92 #[.val (.int p0), .val (.int p1), .val (.int p2), .val (.int p3), .val (.int p4), .val (.int p5), .val (.int (4 : Int32)), .val (.ref b28), .val (.int ((0 : Int32) + (own_dif p1 p2 ))), .unset] [(.int (4 : Int32))])) _
      refine XS.iconst X33.here hx rfl (hb hby at_92) ?_
      show Steps p.tables e below (T33.setTop (mkF m 93 #[.val (.int p0), .val (.int p1), .val (.int p2), .val (.int p3), .val (.int p4), .val (.int p5), .val (.int (4 : Int32)), .val (.ref b28), .val (.int ((0 : Int32) + (own_dif p1 p2 ))), .unset] [(.int (3 : Int32)), (.int (4 : Int32))])) _
      refine XS.icmpNo X33.here hx rfl (hb hby at_93) rfl (flt (by decide)).1 ?_
      show Steps p.tables e below (T33.setTop (mkF m 96 #[.val (.int p0), .val (.int p1), .val (.int p2), .val (.int p3), .val (.int p4), .val (.int p5), .val (.int (4 : Int32)), .val (.ref b28), .val (.int ((0 : Int32) + (own_dif p1 p2 ))), .unset] [])) _
      refine XS.iload X33.here hx rfl (hb hby at_96) rfl ?_
      show Steps p.tables e below (T33.setTop (mkF m 98 #[.val (.int p0), .val (.int p1), .val (.int p2), .val (.int p3), .val (.int p4), .val (.int p5), .val (.int (4 : Int32)), .val (.ref b28), .val (.int ((0 : Int32) + (own_dif p1 p2 ))), .unset] [(.int ((0 : Int32) + (own_dif p1 p2 )))])) _
      refine XS.iloadN X33.here hx rfl (hb hby at_98) rfl ?_
      show Steps p.tables e below (T33.setTop (mkF m 99 #[.val (.int p0), .val (.int p1), .val (.int p2), .val (.int p3), .val (.int p4), .val (.int p5), .val (.int (4 : Int32)), .val (.ref b28), .val (.int ((0 : Int32) + (own_dif p1 p2 ))), .unset] [(.int p2), (.int ((0 : Int32) + (own_dif p1 p2 )))])) _
      refine XS.iloadN X33.here hx rfl (hb hby at_99) rfl ?_
      show Steps p.tables e below (T33.setTop (mkF m 100 #[.val (.int p0), .val (.int p1), .val (.int p2), .val (.int p3), .val (.int p4), .val (.int p5), .val (.int (4 : Int32)), .val (.ref b28), .val (.int ((0 : Int32) + (own_dif p1 p2 ))), .unset] [(.int p3), (.int p2), (.int ((0 : Int32) + (own_dif p1 p2 )))])) _
      refine st34 _ ?_
      show Steps p.tables e below (T34.setTop (mkF m 103 #[.val (.int p0), .val (.int p1), .val (.int p2), .val (.int p3), .val (.int p4), .val (.int p5), .val (.int (4 : Int32)), .val (.ref b28), .val (.int ((0 : Int32) + (own_dif p1 p2 ))), .unset] [(.int (own_dif p2 p3 )), (.int ((0 : Int32) + (own_dif p1 p2 )))])) _
      refine XS.iadd X34.here hx rfl (hb hby at_103) rfl ?_
      show Steps p.tables e below (T34.setTop (mkF m 104 #[.val (.int p0), .val (.int p1), .val (.int p2), .val (.int p3), .val (.int p4), .val (.int p5), .val (.int (4 : Int32)), .val (.ref b28), .val (.int ((0 : Int32) + (own_dif p1 p2 ))), .unset] [(.int (((0 : Int32) + (own_dif p1 p2 )) + (own_dif p2 p3 )))])) _
      refine XS.istore X34.here hx rfl (hb hby at_104) rfl (l' := #[.val (.int p0), .val (.int p1), .val (.int p2), .val (.int p3), .val (.int p4), .val (.int p5), .val (.int (4 : Int32)), .val (.ref b28), .val (.int (((0 : Int32) + (own_dif p1 p2 )) + (own_dif p2 p3 ))), .unset]) rfl ?_
      show Steps p.tables e below (T34.setTop (mkF m 106 #[.val (.int p0), .val (.int p1), .val (.int p2), .val (.int p3), .val (.int p4), .val (.int p5), .val (.int (4 : Int32)), .val (.ref b28), .val (.int (((0 : Int32) + (own_dif p1 p2 )) + (own_dif p2 p3 ))), .unset] [])) _
      refine XS.iload X34.here hx rfl (hb hby at_106) rfl ?_
      show Steps p.tables e below (T34.setTop (mkF m 108 #[.val (.int p0), .val (.int p1), .val (.int p2), .val (.int p3), .val (.int p4), .val (.int p5), .val (.int (4 : Int32)), .val (.ref b28), .val (.int (((0 : Int32) + (own_dif p1 p2 )) + (own_dif p2 p3 ))), .unset] [(.int (4 : Int32))])) _
      refine XS.iconst X34.here hx rfl (hb hby at_108) ?_
      show Steps p.tables e below (T34.setTop (mkF m 109 #[.val (.int p0), .val (.int p1), .val (.int p2), .val (.int p3), .val (.int p4), .val (.int p5), .val (.int (4 : Int32)), .val (.ref b28), .val (.int (((0 : Int32) + (own_dif p1 p2 )) + (own_dif p2 p3 ))), .unset] [(.int (4 : Int32)), (.int (4 : Int32))])) _
      refine XS.icmpNo X34.here hx rfl (hb hby at_109) rfl (flt (by decide)).1 ?_
      show Steps p.tables e below (T34.setTop (mkF m 112 #[.val (.int p0), .val (.int p1), .val (.int p2), .val (.int p3), .val (.int p4), .val (.int p5), .val (.int (4 : Int32)), .val (.ref b28), .val (.int (((0 : Int32) + (own_dif p1 p2 )) + (own_dif p2 p3 ))), .unset] [])) _
      refine XS.iload X34.here hx rfl (hb hby at_112) rfl ?_
      show Steps p.tables e below (T34.setTop (mkF m 114 #[.val (.int p0), .val (.int p1), .val (.int p2), .val (.int p3), .val (.int p4), .val (.int p5), .val (.int (4 : Int32)), .val (.ref b28), .val (.int (((0 : Int32) + (own_dif p1 p2 )) + (own_dif p2 p3 ))), .unset] [(.int (((0 : Int32) + (own_dif p1 p2 )) + (own_dif p2 p3 )))])) _
      refine XS.iloadN X34.here hx rfl (hb hby at_114) rfl ?_
      show Steps p.tables e below (T34.setTop (mkF m 115 #[.val (.int p0), .val (.int p1), .val (.int p2), .val (.int p3), .val (.int p4), .val (.int p5), .val (.int (4 : Int32)), .val (.ref b28), .val (.int (((0 : Int32) + (own_dif p1 p2 )) + (own_dif p2 p3 ))), .unset] [(.int p3), (.int (((0 : Int32) + (own_dif p1 p2 )) + (own_dif p2 p3 )))])) _
      refine XS.iload X34.here hx rfl (hb hby at_115) rfl ?_
      show Steps p.tables e below (T34.setTop (mkF m 117 #[.val (.int p0), .val (.int p1), .val (.int p2), .val (.int p3), .val (.int p4), .val (.int p5), .val (.int (4 : Int32)), .val (.ref b28), .val (.int (((0 : Int32) + (own_dif p1 p2 )) + (own_dif p2 p3 ))), .unset] [(.int p4), (.int p3), (.int (((0 : Int32) + (own_dif p1 p2 )) + (own_dif p2 p3 )))])) _
      refine st35 _ ?_
      show Steps p.tables e below (T35.setTop (mkF m 120 #[.val (.int p0), .val (.int p1), .val (.int p2), .val (.int p3), .val (.int p4), .val (.int p5), .val (.int (4 : Int32)), .val (.ref b28), .val (.int (((0 : Int32) + (own_dif p1 p2 )) + (own_dif p2 p3 ))), .unset] [(.int (own_dif p3 p4 )), (.int (((0 : Int32) + (own_dif p1 p2 )) + (own_dif p2 p3 )))])) _
      refine XS.iadd X35.here hx rfl (hb hby at_120) rfl ?_
      show Steps p.tables e below (T35.setTop (mkF m 121 #[.val (.int p0), .val (.int p1), .val (.int p2), .val (.int p3), .val (.int p4), .val (.int p5), .val (.int (4 : Int32)), .val (.ref b28), .val (.int (((0 : Int32) + (own_dif p1 p2 )) + (own_dif p2 p3 ))), .unset] [(.int ((((0 : Int32) + (own_dif p1 p2 )) + (own_dif p2 p3 )) + (own_dif p3 p4 )))])) _
      refine XS.istore X35.here hx rfl (hb hby at_121) rfl (l' := #[.val (.int p0), .val (.int p1), .val (.int p2), .val (.int p3), .val (.int p4), .val (.int p5), .val (.int (4 : Int32)), .val (.ref b28), .val (.int ((((0 : Int32) + (own_dif p1 p2 )) + (own_dif p2 p3 )) + (own_dif p3 p4 ))), .unset]) rfl ?_
      show Steps p.tables e below (T35.setTop (mkF m 123 #[.val (.int p0), .val (.int p1), .val (.int p2), .val (.int p3), .val (.int p4), .val (.int p5), .val (.int (4 : Int32)), .val (.ref b28), .val (.int ((((0 : Int32) + (own_dif p1 p2 )) + (own_dif p2 p3 )) + (own_dif p3 p4 ))), .unset] [])) _
      refine XS.iload X35.here hx rfl (hb hby at_123) rfl ?_
      show Steps p.tables e below (T35.setTop (mkF m 125 #[.val (.int p0), .val (.int p1), .val (.int p2), .val (.int p3), .val (.int p4), .val (.int p5), .val (.int (4 : Int32)), .val (.ref b28), .val (.int ((((0 : Int32) + (own_dif p1 p2 )) + (own_dif p2 p3 )) + (own_dif p3 p4 ))), .unset] [(.int (4 : Int32))])) _
      refine XS.iconst X35.here hx rfl (hb hby at_125) ?_
      show Steps p.tables e below (T35.setTop (mkF m 126 #[.val (.int p0), .val (.int p1), .val (.int p2), .val (.int p3), .val (.int p4), .val (.int p5), .val (.int (4 : Int32)), .val (.ref b28), .val (.int ((((0 : Int32) + (own_dif p1 p2 )) + (own_dif p2 p3 )) + (own_dif p3 p4 ))), .unset] [(.int (5 : Int32)), (.int (4 : Int32))])) _
      refine XS.icmpYes X35.here hx rfl (pc0 := 126) (pc' := 141) rfl (hb hby at_126) rfl (tlt (by decide)).1 (by decide) (by decide) ?_
      show Steps p.tables e below (T35.setTop (mkF m 141 #[.val (.int p0), .val (.int p1), .val (.int p2), .val (.int p3), .val (.int p4), .val (.int p5), .val (.int (4 : Int32)), .val (.ref b28), .val (.int ((((0 : Int32) + (own_dif p1 p2 )) + (own_dif p2 p3 )) + (own_dif p3 p4 ))), .unset] [])) _
      refine XS.aload X35.here hx rfl (hb hby at_141) rfl rfl ?_
      show Steps p.tables e below (T35.setTop (mkF m 143 #[.val (.int p0), .val (.int p1), .val (.int p2), .val (.int p3), .val (.int p4), .val (.int p5), .val (.int (4 : Int32)), .val (.ref b28), .val (.int ((((0 : Int32) + (own_dif p1 p2 )) + (own_dif p2 p3 )) + (own_dif p3 p4 ))), .unset] [(.ref b28)])) _
      refine st36 _ ?_
      show Steps p.tables e below (T36.setTop (mkF m 146 #[.val (.int p0), .val (.int p1), .val (.int p2), .val (.int p3), .val (.int p4), .val (.int p5), .val (.int (4 : Int32)), .val (.ref b28), .val (.int ((((0 : Int32) + (own_dif p1 p2 )) + (own_dif p2 p3 )) + (own_dif p3 p4 ))), .unset] [(.int (own_chg4 p1 p2 p3 p4))])) _
      refine XS.istore X36.here hx rfl (hb hby at_146) rfl (l' := #[.val (.int p0), .val (.int p1), .val (.int p2), .val (.int p3), .val (.int p4), .val (.int p5), .val (.int (4 : Int32)), .val (.ref b28), .val (.int ((((0 : Int32) + (own_dif p1 p2 )) + (own_dif p2 p3 )) + (own_dif p3 p4 ))), .val (.int (own_chg4 p1 p2 p3 p4))]) rfl ?_
      show Steps p.tables e below (T36.setTop (mkF m 148 #[.val (.int p0), .val (.int p1), .val (.int p2), .val (.int p3), .val (.int p4), .val (.int p5), .val (.int (4 : Int32)), .val (.ref b28), .val (.int ((((0 : Int32) + (own_dif p1 p2 )) + (own_dif p2 p3 )) + (own_dif p3 p4 ))), .val (.int (own_chg4 p1 p2 p3 p4))] [])) _
      refine XS.iload X36.here hx rfl (hb hby at_148) rfl ?_
      show Steps p.tables e below (T36.setTop (mkF m 150 #[.val (.int p0), .val (.int p1), .val (.int p2), .val (.int p3), .val (.int p4), .val (.int p5), .val (.int (4 : Int32)), .val (.ref b28), .val (.int ((((0 : Int32) + (own_dif p1 p2 )) + (own_dif p2 p3 )) + (own_dif p3 p4 ))), .val (.int (own_chg4 p1 p2 p3 p4))] [(.int (own_chg4 p1 p2 p3 p4))])) _
      refine XS.iload X36.here hx rfl (hb hby at_150) rfl ?_
      show Steps p.tables e below (T36.setTop (mkF m 152 #[.val (.int p0), .val (.int p1), .val (.int p2), .val (.int p3), .val (.int p4), .val (.int p5), .val (.int (4 : Int32)), .val (.ref b28), .val (.int ((((0 : Int32) + (own_dif p1 p2 )) + (own_dif p2 p3 )) + (own_dif p3 p4 ))), .val (.int (own_chg4 p1 p2 p3 p4))] [(.int ((((0 : Int32) + (own_dif p1 p2 )) + (own_dif p2 p3 )) + (own_dif p3 p4 ))), (.int (own_chg4 p1 p2 p3 p4))])) _
      refine XS.icmpNo X36.here hx rfl (hb hby at_152) rfl (teq (own_e4 p1 p2 p3 p4)).2 ?_
      show Steps p.tables e below (T36.setTop (mkF m 155 #[.val (.int p0), .val (.int p1), .val (.int p2), .val (.int p3), .val (.int p4), .val (.int p5), .val (.int (4 : Int32)), .val (.ref b28), .val (.int ((((0 : Int32) + (own_dif p1 p2 )) + (own_dif p2 p3 )) + (own_dif p3 p4 ))), .val (.int (own_chg4 p1 p2 p3 p4))] [])) _
      refine XS.iconst X36.here hx rfl (hb hby at_155) ?_
      show Steps p.tables e below (T36.setTop (mkF m 156 #[.val (.int p0), .val (.int p1), .val (.int p2), .val (.int p3), .val (.int p4), .val (.int p5), .val (.int (4 : Int32)), .val (.ref b28), .val (.int ((((0 : Int32) + (own_dif p1 p2 )) + (own_dif p2 p3 )) + (own_dif p3 p4 ))), .val (.int (own_chg4 p1 p2 p3 p4))] [(.int (1 : Int32))])) _
      refine XS.goto X36.here hx rfl (pc0 := 156) (pc' := 160) rfl (hb hby at_156) (by decide) (by decide) ?_
      exact k
    obtain ⟨fs, hr, hrun, hended, hW, hsame⟩ := X36.leave (v := some (.int (1 : Int32))) (fun h => by rw [Bd.returns] at h; cases h)
    refine ⟨_, _, k37 _ ?_, hrun, hended, _, _, rfl, ?_, ⟨_, rfl⟩, hW, hsame.mono (by decide) (by decide)⟩
    · exact retN X36 hx (t := .boolean) Bd.returns (by simp) (hb hby at_160) hr
    · show own_R (some (.int 1)) n0 _ T36.heap _
      rw [e36]
      exact ⟨rfl, N36⟩
  · have k38 : ∀ t, Steps p.tables e below (s₁.setTop (mkF m 9 #[.val (.int p0), .val (.int p1), .val (.int p2), .val (.int p3), .val (.int p4), .val (.int p5), .val (.int (5 : Int32)), .unset, .unset, .unset] [])) t → Steps p.tables e below (s₁.setTop (entryFrame m #[(.int p0), (.int p1), (.int p2), (.int p3), (.int p4), (.int p5)] maxLocals)) t := by
      intro t k
      refine k1 _ ?_
      rw [hk]
      exact k
    obtain ⟨T39, h39, c39, X39, e39, E39, A39, st39⟩ := newP X0 hx hZ (hw _ (List.mem_of_getElem? (i := 1) rfl)) e0 (g := (mkF m 11 #[.val (.int p0), .val (.int p1), .val (.int p2), .val (.int p3), .val (.int p4), .val (.int p5), .val (.int (5 : Int32)), .unset, .unset, .unset] [(.int (5 : Int32))])) rfl (hb hby at_11) rfl (by decide) (cap := 5) (by decide) (by decide) (by decide) (by decide)
    obtain ⟨b39, g39⟩ : ∃ z, z = h0.size := ⟨_, rfl⟩
    rw [← g39] at A39 st39
    have gn_b39 : n0 ≤ b39 := Nat.le_trans Z0 (Nat.le_of_eq g39.symm)
    have Zs39 : n0 ≤ h39.size := Nat.le_trans Z0 E39.1
    have V_b39 : Arv Z h39 b39 c39 .int (5 : Int32) [(.int (0 : Int32)), (.int (0 : Int32)), (.int (0 : Int32)), (.int (0 : Int32)), (.int (0 : Int32))] (.int (0 : Int32)) := (Arv.new A39 (by decide)).pad (pad_rep [] (.int (0 : Int32)) 5)
    obtain ⟨cl_40, Ar_40, q_40, S_40, N_40, H_40, G_40⟩ := id V_b39
    have hin_40 : ¬ ((0 : Int32) < 0 ∨ cl_40.slots.size ≤ ((0 : Int32)).toNatClampNeg) := inb_of S_40 ⟨by decide, by decide⟩
    obtain ⟨T40, h40, X40, e40, W40, st40⟩ := stI X39 hx hZ e39 Ar_40 (j := (0 : Int32)) hin_40 (g := (mkF m 24 #[.val (.int p0), .val (.int p1), .val (.int p2), .val (.int p3), .val (.int p4), .val (.int p5), .val (.int (5 : Int32)), .val (.ref b39), .unset, .unset] [(.int p1), (.int (0 : Int32)), (.ref b39)])) rfl rfl (hb hby at_24)
    have Vn40 : Arv Z h40 b39 c39 .int (5 : Int32) [(.int p1), (.int (0 : Int32)), (.int (0 : Int32)), (.int (0 : Int32)), (.int (0 : Int32))] (.int (0 : Int32)) := Arv.set Ar_40 q_40 S_40 N_40 H_40 G_40 rfl W40 0 rfl (Nat.le_of_ble_eq_true rfl)
    replace V_b39 := Vn40
    have N40 := Fr.snoc X40 N0 gn_b39
    have Zs40 : n0 ≤ h40.size := by rw [W40.size]; exact Zs39
    obtain ⟨cl_41, Ar_41, q_41, S_41, N_41, H_41, G_41⟩ := id V_b39
    have hin_41 : ¬ ((1 : Int32) < 0 ∨ cl_41.slots.size ≤ ((1 : Int32)).toNatClampNeg) := inb_of S_41 ⟨by decide, by decide⟩
    obtain ⟨T41, h41, X41, e41, W41, st41⟩ := stI X40 hx hZ e40 Ar_41 (j := (1 : Int32)) hin_41 (g := (mkF m 35 #[.val (.int p0), .val (.int p1), .val (.int p2), .val (.int p3), .val (.int p4), .val (.int p5), .val (.int (5 : Int32)), .val (.ref b39), .unset, .unset] [(.int p2), (.int (1 : Int32)), (.ref b39)])) rfl rfl (hb hby at_35)
    have Vn41 : Arv Z h41 b39 c39 .int (5 : Int32) [(.int p1), (.int p2), (.int (0 : Int32)), (.int (0 : Int32)), (.int (0 : Int32))] (.int (0 : Int32)) := Arv.set Ar_41 q_41 S_41 N_41 H_41 G_41 rfl W41 1 rfl (Nat.le_of_ble_eq_true rfl)
    replace V_b39 := Vn41
    have N41 := Fr.snoc X41 N40 gn_b39
    have Zs41 : n0 ≤ h41.size := by rw [W41.size]; exact Zs40
    obtain ⟨cl_42, Ar_42, q_42, S_42, N_42, H_42, G_42⟩ := id V_b39
    have hin_42 : ¬ ((2 : Int32) < 0 ∨ cl_42.slots.size ≤ ((2 : Int32)).toNatClampNeg) := inb_of S_42 ⟨by decide, by decide⟩
    obtain ⟨T42, h42, X42, e42, W42, st42⟩ := stI X41 hx hZ e41 Ar_42 (j := (2 : Int32)) hin_42 (g := (mkF m 46 #[.val (.int p0), .val (.int p1), .val (.int p2), .val (.int p3), .val (.int p4), .val (.int p5), .val (.int (5 : Int32)), .val (.ref b39), .unset, .unset] [(.int p3), (.int (2 : Int32)), (.ref b39)])) rfl rfl (hb hby at_46)
    have Vn42 : Arv Z h42 b39 c39 .int (5 : Int32) [(.int p1), (.int p2), (.int p3), (.int (0 : Int32)), (.int (0 : Int32))] (.int (0 : Int32)) := Arv.set Ar_42 q_42 S_42 N_42 H_42 G_42 rfl W42 2 rfl (Nat.le_of_ble_eq_true rfl)
    replace V_b39 := Vn42
    have N42 := Fr.snoc X42 N41 gn_b39
    have Zs42 : n0 ≤ h42.size := by rw [W42.size]; exact Zs41
    obtain ⟨cl_43, Ar_43, q_43, S_43, N_43, H_43, G_43⟩ := id V_b39
    have hin_43 : ¬ ((3 : Int32) < 0 ∨ cl_43.slots.size ≤ ((3 : Int32)).toNatClampNeg) := inb_of S_43 ⟨by decide, by decide⟩
    obtain ⟨T43, h43, X43, e43, W43, st43⟩ := stI X42 hx hZ e42 Ar_43 (j := (3 : Int32)) hin_43 (g := (mkF m 58 #[.val (.int p0), .val (.int p1), .val (.int p2), .val (.int p3), .val (.int p4), .val (.int p5), .val (.int (5 : Int32)), .val (.ref b39), .unset, .unset] [(.int p4), (.int (3 : Int32)), (.ref b39)])) rfl rfl (hb hby at_58)
    have Vn43 : Arv Z h43 b39 c39 .int (5 : Int32) [(.int p1), (.int p2), (.int p3), (.int p4), (.int (0 : Int32))] (.int (0 : Int32)) := Arv.set Ar_43 q_43 S_43 N_43 H_43 G_43 rfl W43 3 rfl (Nat.le_of_ble_eq_true rfl)
    replace V_b39 := Vn43
    have N43 := Fr.snoc X43 N42 gn_b39
    have Zs43 : n0 ≤ h43.size := by rw [W43.size]; exact Zs42
    obtain ⟨cl_44, Ar_44, q_44, S_44, N_44, H_44, G_44⟩ := id V_b39
    have hin_44 : ¬ ((4 : Int32) < 0 ∨ cl_44.slots.size ≤ ((4 : Int32)).toNatClampNeg) := inb_of S_44 ⟨by decide, by decide⟩
    obtain ⟨T44, h44, X44, e44, W44, st44⟩ := stI X43 hx hZ e43 Ar_44 (j := (4 : Int32)) hin_44 (g := (mkF m 70 #[.val (.int p0), .val (.int p1), .val (.int p2), .val (.int p3), .val (.int p4), .val (.int p5), .val (.int (5 : Int32)), .val (.ref b39), .unset, .unset] [(.int p5), (.int (4 : Int32)), (.ref b39)])) rfl rfl (hb hby at_70)
    have Vn44 : Arv Z h44 b39 c39 .int (5 : Int32) [(.int p1), (.int p2), (.int p3), (.int p4), (.int p5)] (.int (0 : Int32)) := Arv.set Ar_44 q_44 S_44 N_44 H_44 G_44 rfl W44 4 rfl (Nat.le_of_ble_eq_true rfl)
    replace V_b39 := Vn44
    have N44 := Fr.snoc X44 N43 gn_b39
    have Zs44 : n0 ≤ h44.size := by rw [W44.size]; exact Zs43
    obtain ⟨_, _, ⟨T45, L45, k45_, n45⟩, -, X45, ⟨Lc45, hQ45, l45, y45, z45⟩, st45⟩ := Jvm.LawKit.callS X44 hx (y := (⟨"com/example/lightloom/lightloom/plan/LightpathChangesPinLaw", "differs", "(II)I"⟩ : MethodName)) hown (mvT hZ (hw _ (List.mem_of_getElem? (i := 6) rfl))) (mvT hZ (hw _ (List.mem_of_getElem? (i := 7) rfl))) (mvT hZ (hw _ (List.mem_of_getElem? (i := 8) rfl))) (mvT hZ (hw _ (List.mem_of_getElem? (i := 9) rfl))) (by decide) (backOf (W := 1) (rm2 l Z a0 hw [] p1 p2 h44 n0 ) hZ (hw _ (List.mem_of_getElem? (i := 9) rfl)) (hw _ (List.mem_of_getElem? (i := 8) rfl)) (by decide) (by decide)) (g := (mkF m 84 #[.val (.int p0), .val (.int p1), .val (.int p2), .val (.int p3), .val (.int p4), .val (.int p5), .val (.int (5 : Int32)), .val (.ref b39), .val (.int (0 : Int32)), .unset] [(.int p2), (.int p1), (.int (0 : Int32))])) rfl (by rw [hml]; rfl) (argsL := [(.int p1), (.int p2)]) (rest := [(.int (0 : Int32))]) (lenOf pd_1 rfl) rfl (by show 2 * 0 + _ ≤ _; exact Nat.le_of_eq rfl) (hb hby at_84) (fun _ _ => ⟨rfl, e44, (by decide : 1 + 0 ≤ _), (by decide : 5 + 0 ≤ _)⟩)
    dsimp only [Pt.U, Pt.locs, Pt.cells, Pt.slots] at X45 l45 y45 z45 st45 hQ45
    subst l45 y45 z45
    obtain ⟨rfl, Nq45, e45⟩ := hQ45
    have N45 := Fr.app N44 Nq45
    obtain ⟨_, _, ⟨T46, L46, k46_, n46⟩, -, X46, ⟨Lc46, hQ46, l46, y46, z46⟩, st46⟩ := Jvm.LawKit.callS X45 hx (y := (⟨"com/example/lightloom/lightloom/plan/LightpathChangesPinLaw", "differs", "(II)I"⟩ : MethodName)) hown (mvT hZ (hw _ (List.mem_of_getElem? (i := 6) rfl))) (mvT hZ (hw _ (List.mem_of_getElem? (i := 7) rfl))) (mvT hZ (hw _ (List.mem_of_getElem? (i := 8) rfl))) (mvT hZ (hw _ (List.mem_of_getElem? (i := 9) rfl))) (by decide) (backOf (W := 1) (rm2 l Z a0 hw [] p2 p3 h44 n0 ) hZ (hw _ (List.mem_of_getElem? (i := 9) rfl)) (hw _ (List.mem_of_getElem? (i := 8) rfl)) (by decide) (by decide)) (g := (mkF m 100 #[.val (.int p0), .val (.int p1), .val (.int p2), .val (.int p3), .val (.int p4), .val (.int p5), .val (.int (5 : Int32)), .val (.ref b39), .val (.int ((0 : Int32) + (own_dif p1 p2 ))), .unset] [(.int p3), (.int p2), (.int ((0 : Int32) + (own_dif p1 p2 )))])) rfl (by rw [hml]; rfl) (argsL := [(.int p2), (.int p3)]) (rest := [(.int ((0 : Int32) + (own_dif p1 p2 )))]) (lenOf pd_1 rfl) rfl (by show 2 * 0 + _ ≤ _; exact Nat.le_of_eq rfl) (hb hby at_100) (fun _ _ => ⟨rfl, e45, (by decide : 1 + 0 ≤ _), (by decide : 5 + 0 ≤ _)⟩)
    dsimp only [Pt.U, Pt.locs, Pt.cells, Pt.slots] at X46 l46 y46 z46 st46 hQ46
    subst l46 y46 z46
    obtain ⟨rfl, Nq46, e46⟩ := hQ46
    have N46 := Fr.app N45 Nq46
    obtain ⟨_, _, ⟨T47, L47, k47_, n47⟩, -, X47, ⟨Lc47, hQ47, l47, y47, z47⟩, st47⟩ := Jvm.LawKit.callS X46 hx (y := (⟨"com/example/lightloom/lightloom/plan/LightpathChangesPinLaw", "differs", "(II)I"⟩ : MethodName)) hown (mvT hZ (hw _ (List.mem_of_getElem? (i := 6) rfl))) (mvT hZ (hw _ (List.mem_of_getElem? (i := 7) rfl))) (mvT hZ (hw _ (List.mem_of_getElem? (i := 8) rfl))) (mvT hZ (hw _ (List.mem_of_getElem? (i := 9) rfl))) (by decide) (backOf (W := 1) (rm2 l Z a0 hw [] p3 p4 h44 n0 ) hZ (hw _ (List.mem_of_getElem? (i := 9) rfl)) (hw _ (List.mem_of_getElem? (i := 8) rfl)) (by decide) (by decide)) (g := (mkF m 117 #[.val (.int p0), .val (.int p1), .val (.int p2), .val (.int p3), .val (.int p4), .val (.int p5), .val (.int (5 : Int32)), .val (.ref b39), .val (.int (((0 : Int32) + (own_dif p1 p2 )) + (own_dif p2 p3 ))), .unset] [(.int p4), (.int p3), (.int (((0 : Int32) + (own_dif p1 p2 )) + (own_dif p2 p3 )))])) rfl (by rw [hml]; rfl) (argsL := [(.int p3), (.int p4)]) (rest := [(.int (((0 : Int32) + (own_dif p1 p2 )) + (own_dif p2 p3 )))]) (lenOf pd_1 rfl) rfl (by show 2 * 0 + _ ≤ _; exact Nat.le_of_eq rfl) (hb hby at_117) (fun _ _ => ⟨rfl, e46, (by decide : 1 + 0 ≤ _), (by decide : 5 + 0 ≤ _)⟩)
    dsimp only [Pt.U, Pt.locs, Pt.cells, Pt.slots] at X47 l47 y47 z47 st47 hQ47
    subst l47 y47 z47
    obtain ⟨rfl, Nq47, e47⟩ := hQ47
    have N47 := Fr.app N46 Nq47
    obtain ⟨_, _, ⟨T48, L48, k48_, n48⟩, -, X48, ⟨Lc48, hQ48, l48, y48, z48⟩, st48⟩ := Jvm.LawKit.callS X47 hx (y := (⟨"com/example/lightloom/lightloom/plan/LightpathChangesPinLaw", "differs", "(II)I"⟩ : MethodName)) hown (mvT hZ (hw _ (List.mem_of_getElem? (i := 6) rfl))) (mvT hZ (hw _ (List.mem_of_getElem? (i := 7) rfl))) (mvT hZ (hw _ (List.mem_of_getElem? (i := 8) rfl))) (mvT hZ (hw _ (List.mem_of_getElem? (i := 9) rfl))) (by decide) (backOf (W := 1) (rm2 l Z a0 hw [] p4 p5 h44 n0 ) hZ (hw _ (List.mem_of_getElem? (i := 9) rfl)) (hw _ (List.mem_of_getElem? (i := 8) rfl)) (by decide) (by decide)) (g := (mkF m 135 #[.val (.int p0), .val (.int p1), .val (.int p2), .val (.int p3), .val (.int p4), .val (.int p5), .val (.int (5 : Int32)), .val (.ref b39), .val (.int ((((0 : Int32) + (own_dif p1 p2 )) + (own_dif p2 p3 )) + (own_dif p3 p4 ))), .unset] [(.int p5), (.int p4), (.int ((((0 : Int32) + (own_dif p1 p2 )) + (own_dif p2 p3 )) + (own_dif p3 p4 )))])) rfl (by rw [hml]; rfl) (argsL := [(.int p4), (.int p5)]) (rest := [(.int ((((0 : Int32) + (own_dif p1 p2 )) + (own_dif p2 p3 )) + (own_dif p3 p4 )))]) (lenOf pd_1 rfl) rfl (by show 2 * 0 + _ ≤ _; exact Nat.le_of_eq rfl) (hb hby at_135) (fun _ _ => ⟨rfl, e47, (by decide : 1 + 0 ≤ _), (by decide : 5 + 0 ≤ _)⟩)
    dsimp only [Pt.U, Pt.locs, Pt.cells, Pt.slots] at X48 l48 y48 z48 st48 hQ48
    subst l48 y48 z48
    obtain ⟨rfl, Nq48, e48⟩ := hQ48
    have N48 := Fr.app N47 Nq48
    obtain ⟨_, _, ⟨T49, L49, k49_, n49⟩, -, X49, ⟨Lc49, hQ49, l49, y49, z49⟩, st49⟩ := Jvm.LawKit.callS X48 hx (y := (⟨"com/example/lightloom/lightloom/plan/Lightpath", "changes", "([I)I"⟩ : MethodName)) hown (mvT hZ (hw _ (List.mem_of_getElem? (i := 2) rfl))) (mvT hZ (hw _ (List.mem_of_getElem? (i := 3) rfl))) (mvT hZ (hw _ (List.mem_of_getElem? (i := 4) rfl))) (mvT hZ (hw _ (List.mem_of_getElem? (i := 5) rfl))) (by decide) (backOf (W := 0) (rmC5 l Z a0 hw [] b39 c39 p1 p2 p3 p4 p5 h44 n0 V_b39) hZ (hw _ (List.mem_of_getElem? (i := 5) rfl)) (hw _ (List.mem_of_getElem? (i := 4) rfl)) (by decide) (by decide)) (g := (mkF m 143 #[.val (.int p0), .val (.int p1), .val (.int p2), .val (.int p3), .val (.int p4), .val (.int p5), .val (.int (5 : Int32)), .val (.ref b39), .val (.int (((((0 : Int32) + (own_dif p1 p2 )) + (own_dif p2 p3 )) + (own_dif p3 p4 )) + (own_dif p4 p5 ))), .unset] [(.ref b39)])) rfl (by rw [hml]; rfl) (argsL := [(.ref b39)]) (rest := []) (lenOf pd_0 rfl) rfl (by show 2 * 0 + _ ≤ _; exact Nat.le_of_eq rfl) (hb hby at_143) (fun _ _ => ⟨rfl, e48, (by decide : 1 + 0 ≤ _), (by decide : 5 + 0 ≤ _)⟩)
    dsimp only [Pt.U, Pt.locs, Pt.cells, Pt.slots] at X49 l49 y49 z49 st49 hQ49
    subst l49 y49 z49
    obtain ⟨rfl, Nq49, e49⟩ := hQ49
    have N49 := Fr.app N48 Nq49
    have k50 : ∀ t, Steps p.tables e below (T49.setTop (mkF m 160 #[.val (.int p0), .val (.int p1), .val (.int p2), .val (.int p3), .val (.int p4), .val (.int p5), .val (.int (5 : Int32)), .val (.ref b39), .val (.int (((((0 : Int32) + (own_dif p1 p2 )) + (own_dif p2 p3 )) + (own_dif p3 p4 )) + (own_dif p4 p5 ))), .val (.int (own_chg5 p1 p2 p3 p4 p5))] [(.int (1 : Int32))])) t → Steps p.tables e below (s₁.setTop (entryFrame m #[(.int p0), (.int p1), (.int p2), (.int p3), (.int p4), (.int p5)] maxLocals)) t := by
      intro t k
      refine k38 _ ?_
      show Steps p.tables e below (s₁.setTop (mkF m 9 #[.val (.int p0), .val (.int p1), .val (.int p2), .val (.int p3), .val (.int p4), .val (.int p5), .val (.int (5 : Int32)), .unset, .unset, .unset] [])) _
      refine XS.iload X0.here hx rfl (hb hby at_9) rfl ?_
      show Steps p.tables e below (s₁.setTop (mkF m 11 #[.val (.int p0), .val (.int p1), .val (.int p2), .val (.int p3), .val (.int p4), .val (.int p5), .val (.int (5 : Int32)), .unset, .unset, .unset] [(.int (5 : Int32))])) _
      refine st39 _ ?_
      show Steps p.tables e below (T39.setTop (mkF m 13 #[.val (.int p0), .val (.int p1), .val (.int p2), .val (.int p3), .val (.int p4), .val (.int p5), .val (.int (5 : Int32)), .unset, .unset, .unset] [(.ref b39)])) _
      refine XS.astore X39.here hx rfl (hb hby at_13) rfl rfl (l' := #[.val (.int p0), .val (.int p1), .val (.int p2), .val (.int p3), .val (.int p4), .val (.int p5), .val (.int (5 : Int32)), .val (.ref b39), .unset, .unset]) rfl ?_
      show Steps p.tables e below (T39.setTop (mkF m 15 #[.val (.int p0), .val (.int p1), .val (.int p2), .val (.int p3), .val (.int p4), .val (.int p5), .val (.int (5 : Int32)), .val (.ref b39), .unset, .unset] [])) _
      refine XS.iload X39.here hx rfl (hb hby at_15) rfl ?_
      show Steps p.tables e below (T39.setTop (mkF m 17 #[.val (.int p0), .val (.int p1), .val (.int p2), .val (.int p3), .val (.int p4), .val (.int p5), .val (.int (5 : Int32)), .val (.ref b39), .unset, .unset] [(.int (5 : Int32))])) _
      refine XS.ifNo X39.here hx rfl (hb hby at_17) rfl ((if0 _ _).trans (tlt (by decide)).2.2.2) ?_
      show Steps p.tables e below (T39.setTop (mkF m 20 #[.val (.int p0), .val (.int p1), .val (.int p2), .val (.int p3), .val (.int p4), .val (.int p5), .val (.int (5 : Int32)), .val (.ref b39), .unset, .unset] [])) _
      refine XS.aload X39.here hx rfl (hb hby at_20) rfl rfl ?_
      show Steps p.tables e below (T39.setTop (mkF m 22 #[.val (.int p0), .val (.int p1), .val (.int p2), .val (.int p3), .val (.int p4), .val (.int p5), .val (.int (5 : Int32)), .val (.ref b39), .unset, .unset] [(.ref b39)])) _
      refine XS.iconst X39.here hx rfl (hb hby at_22) ?_
      show Steps p.tables e below (T39.setTop (mkF m 23 #[.val (.int p0), .val (.int p1), .val (.int p2), .val (.int p3), .val (.int p4), .val (.int p5), .val (.int (5 : Int32)), .val (.ref b39), .unset, .unset] [(.int (0 : Int32)), (.ref b39)])) _
      refine XS.iloadN X39.here hx rfl (hb hby at_23) rfl ?_
      show Steps p.tables e below (T39.setTop (mkF m 24 #[.val (.int p0), .val (.int p1), .val (.int p2), .val (.int p3), .val (.int p4), .val (.int p5), .val (.int (5 : Int32)), .val (.ref b39), .unset, .unset] [(.int p1), (.int (0 : Int32)), (.ref b39)])) _
      refine st40 _ ?_
      show Steps p.tables e below (T40.setTop (mkF m 25 #[.val (.int p0), .val (.int p1), .val (.int p2), .val (.int p3), .val (.int p4), .val (.int p5), .val (.int (5 : Int32)), .val (.ref b39), .unset, .unset] [])) _
      refine XS.iload X40.here hx rfl (hb hby at_25) rfl ?_
      show Steps p.tables e below (T40.setTop (mkF m 27 #[.val (.int p0), .val (.int p1), .val (.int p2), .val (.int p3), .val (.int p4), .val (.int p5), .val (.int (5 : Int32)), .val (.ref b39), .unset, .unset] [(.int (5 : Int32))])) _
      refine XS.iconst X40.here hx rfl (hb hby at_27) ?_
      show Steps p.tables e below (T40.setTop (mkF m 28 #[.val (.int p0), .val (.int p1), .val (.int p2), .val (.int p3), .val (.int p4), .val (.int p5), .val (.int (5 : Int32)), .val (.ref b39), .unset, .unset] [(.int (1 : Int32)), (.int (5 : Int32))])) _
      refine XS.icmpNo X40.here hx rfl (hb hby at_28) rfl (tlt (by decide)).2.2.2 ?_
      show Steps p.tables e below (T40.setTop (mkF m 31 #[.val (.int p0), .val (.int p1), .val (.int p2), .val (.int p3), .val (.int p4), .val (.int p5), .val (.int (5 : Int32)), .val (.ref b39), .unset, .unset] [])) _
      refine XS.aload X40.here hx rfl (hb hby at_31) rfl rfl ?_
      show Steps p.tables e below (T40.setTop (mkF m 33 #[.val (.int p0), .val (.int p1), .val (.int p2), .val (.int p3), .val (.int p4), .val (.int p5), .val (.int (5 : Int32)), .val (.ref b39), .unset, .unset] [(.ref b39)])) _
      refine XS.iconst X40.here hx rfl (hb hby at_33) ?_
      show Steps p.tables e below (T40.setTop (mkF m 34 #[.val (.int p0), .val (.int p1), .val (.int p2), .val (.int p3), .val (.int p4), .val (.int p5), .val (.int (5 : Int32)), .val (.ref b39), .unset, .unset] [(.int (1 : Int32)), (.ref b39)])) _
      refine XS.iloadN X40.here hx rfl (hb hby at_34) rfl ?_
      show Steps p.tables e below (T40.setTop (mkF m 35 #[.val (.int p0), .val (.int p1), .val (.int p2), .val (.int p3), .val (.int p4), .val (.int p5), .val (.int (5 : Int32)), .val (.ref b39), .unset, .unset] [(.int p2), (.int (1 : Int32)), (.ref b39)])) _
      refine st41 _ ?_
      show Steps p.tables e below (T41.setTop (mkF m 36 #[.val (.int p0), .val (.int p1), .val (.int p2), .val (.int p3), .val (.int p4), .val (.int p5), .val (.int (5 : Int32)), .val (.ref b39), .unset, .unset] [])) _
      refine XS.iload X41.here hx rfl (hb hby at_36) rfl ?_
      show Steps p.tables e below (T41.setTop (mkF m 38 #[.val (.int p0), .val (.int p1), .val (.int p2), .val (.int p3), .val (.int p4), .val (.int p5), .val (.int (5 : Int32)), .val (.ref b39), .unset, .unset] [(.int (5 : Int32))])) _
      refine XS.iconst X41.here hx rfl (hb hby at_38) ?_
      show Steps p.tables e below (T41.setTop (mkF m 39 #[.val (.int p0), .val (.int p1), .val (.int p2), .val (.int p3), .val (.int p4), .val (.int p5), .val (.int (5 : Int32)), .val (.ref b39), .unset, .unset] [(.int (2 : Int32)), (.int (5 : Int32))])) _
      refine XS.icmpNo X41.here hx rfl (hb hby at_39) rfl (tlt (by decide)).2.2.2 ?_
      show Steps p.tables e below (T41.setTop (mkF m 42 #[.val (.int p0), .val (.int p1), .val (.int p2), .val (.int p3), .val (.int p4), .val (.int p5), .val (.int (5 : Int32)), .val (.ref b39), .unset, .unset] [])) _
      refine XS.aload X41.here hx rfl (hb hby at_42) rfl rfl ?_
      show Steps p.tables e below (T41.setTop (mkF m 44 #[.val (.int p0), .val (.int p1), .val (.int p2), .val (.int p3), .val (.int p4), .val (.int p5), .val (.int (5 : Int32)), .val (.ref b39), .unset, .unset] [(.ref b39)])) _
      refine XS.iconst X41.here hx rfl (hb hby at_44) ?_
      show Steps p.tables e below (T41.setTop (mkF m 45 #[.val (.int p0), .val (.int p1), .val (.int p2), .val (.int p3), .val (.int p4), .val (.int p5), .val (.int (5 : Int32)), .val (.ref b39), .unset, .unset] [(.int (2 : Int32)), (.ref b39)])) _
      refine XS.iloadN X41.here hx rfl (hb hby at_45) rfl ?_
      show Steps p.tables e below (T41.setTop (mkF m 46 #[.val (.int p0), .val (.int p1), .val (.int p2), .val (.int p3), .val (.int p4), .val (.int p5), .val (.int (5 : Int32)), .val (.ref b39), .unset, .unset] [(.int p3), (.int (2 : Int32)), (.ref b39)])) _
      refine st42 _ ?_
      show Steps p.tables e below (T42.setTop (mkF m 47 #[.val (.int p0), .val (.int p1), .val (.int p2), .val (.int p3), .val (.int p4), .val (.int p5), .val (.int (5 : Int32)), .val (.ref b39), .unset, .unset] [])) _
      refine XS.iload X42.here hx rfl (hb hby at_47) rfl ?_
      show Steps p.tables e below (T42.setTop (mkF m 49 #[.val (.int p0), .val (.int p1), .val (.int p2), .val (.int p3), .val (.int p4), .val (.int p5), .val (.int (5 : Int32)), .val (.ref b39), .unset, .unset] [(.int (5 : Int32))])) _
      refine XS.iconst X42.here hx rfl (hb hby at_49) ?_
      show Steps p.tables e below (T42.setTop (mkF m 50 #[.val (.int p0), .val (.int p1), .val (.int p2), .val (.int p3), .val (.int p4), .val (.int p5), .val (.int (5 : Int32)), .val (.ref b39), .unset, .unset] [(.int (3 : Int32)), (.int (5 : Int32))])) _
      refine XS.icmpNo X42.here hx rfl (hb hby at_50) rfl (tlt (by decide)).2.2.2 ?_
      show Steps p.tables e below (T42.setTop (mkF m 53 #[.val (.int p0), .val (.int p1), .val (.int p2), .val (.int p3), .val (.int p4), .val (.int p5), .val (.int (5 : Int32)), .val (.ref b39), .unset, .unset] [])) _
      refine XS.aload X42.here hx rfl (hb hby at_53) rfl rfl ?_
      show Steps p.tables e below (T42.setTop (mkF m 55 #[.val (.int p0), .val (.int p1), .val (.int p2), .val (.int p3), .val (.int p4), .val (.int p5), .val (.int (5 : Int32)), .val (.ref b39), .unset, .unset] [(.ref b39)])) _
      refine XS.iconst X42.here hx rfl (hb hby at_55) ?_
      show Steps p.tables e below (T42.setTop (mkF m 56 #[.val (.int p0), .val (.int p1), .val (.int p2), .val (.int p3), .val (.int p4), .val (.int p5), .val (.int (5 : Int32)), .val (.ref b39), .unset, .unset] [(.int (3 : Int32)), (.ref b39)])) _
      refine XS.iload X42.here hx rfl (hb hby at_56) rfl ?_
      show Steps p.tables e below (T42.setTop (mkF m 58 #[.val (.int p0), .val (.int p1), .val (.int p2), .val (.int p3), .val (.int p4), .val (.int p5), .val (.int (5 : Int32)), .val (.ref b39), .unset, .unset] [(.int p4), (.int (3 : Int32)), (.ref b39)])) _
      refine st43 _ ?_
      show Steps p.tables e below (T43.setTop (mkF m 59 #[.val (.int p0), .val (.int p1), .val (.int p2), .val (.int p3), .val (.int p4), .val (.int p5), .val (.int (5 : Int32)), .val (.ref b39), .unset, .unset] [])) _
      refine XS.iload X43.here hx rfl (hb hby at_59) rfl ?_
      show Steps p.tables e below (T43.setTop (mkF m 61 #[.val (.int p0), .val (.int p1), .val (.int p2), .val (.int p3), .val (.int p4), .val (.int p5), .val (.int (5 : Int32)), .val (.ref b39), .unset, .unset] [(.int (5 : Int32))])) _
      refine XS.iconst X43.here hx rfl (hb hby at_61) ?_
      show Steps p.tables e below (T43.setTop (mkF m 62 #[.val (.int p0), .val (.int p1), .val (.int p2), .val (.int p3), .val (.int p4), .val (.int p5), .val (.int (5 : Int32)), .val (.ref b39), .unset, .unset] [(.int (4 : Int32)), (.int (5 : Int32))])) _
      refine XS.icmpNo X43.here hx rfl (hb hby at_62) rfl (tlt (by decide)).2.2.2 ?_
      show Steps p.tables e below (T43.setTop (mkF m 65 #[.val (.int p0), .val (.int p1), .val (.int p2), .val (.int p3), .val (.int p4), .val (.int p5), .val (.int (5 : Int32)), .val (.ref b39), .unset, .unset] [])) _
      refine XS.aload X43.here hx rfl (hb hby at_65) rfl rfl ?_
      show Steps p.tables e below (T43.setTop (mkF m 67 #[.val (.int p0), .val (.int p1), .val (.int p2), .val (.int p3), .val (.int p4), .val (.int p5), .val (.int (5 : Int32)), .val (.ref b39), .unset, .unset] [(.ref b39)])) _
      refine XS.iconst X43.here hx rfl (hb hby at_67) ?_
      show Steps p.tables e below (T43.setTop (mkF m 68 #[.val (.int p0), .val (.int p1), .val (.int p2), .val (.int p3), .val (.int p4), .val (.int p5), .val (.int (5 : Int32)), .val (.ref b39), .unset, .unset] [(.int (4 : Int32)), (.ref b39)])) _
      refine XS.iload X43.here hx rfl (hb hby at_68) rfl ?_
      show Steps p.tables e below (T43.setTop (mkF m 70 #[.val (.int p0), .val (.int p1), .val (.int p2), .val (.int p3), .val (.int p4), .val (.int p5), .val (.int (5 : Int32)), .val (.ref b39), .unset, .unset] [(.int p5), (.int (4 : Int32)), (.ref b39)])) _
      refine st44 _ ?_
      show Steps p.tables e below (T44.setTop (mkF m 71 #[.val (.int p0), .val (.int p1), .val (.int p2), .val (.int p3), .val (.int p4), .val (.int p5), .val (.int (5 : Int32)), .val (.ref b39), .unset, .unset] [])) _
      refine XS.iconst X44.here hx rfl (hb hby at_71) ?_
      show Steps p.tables e below (T44.setTop (mkF m 72 #[.val (.int p0), .val (.int p1), .val (.int p2), .val (.int p3), .val (.int p4), .val (.int p5), .val (.int (5 : Int32)), .val (.ref b39), .unset, .unset] [(.int (0 : Int32))])) _
      refine XS.istore X44.here hx rfl (hb hby at_72) rfl (l' := #[.val (.int p0), .val (.int p1), .val (.int p2), .val (.int p3), .val (.int p4), .val (.int p5), .val (.int (5 : Int32)), .val (.ref b39), .val (.int (0 : Int32)), .unset]) rfl ?_
      show Steps p.tables e below (T44.setTop (mkF m 74 #[.val (.int p0), .val (.int p1), .val (.int p2), .val (.int p3), .val (.int p4), .val (.int p5), .val (.int (5 : Int32)), .val (.ref b39), .val (.int (0 : Int32)), .unset] [])) _
      refine XS.iload X44.here hx rfl (hb hby at_74) rfl ?_
      show Steps p.tables e below (T44.setTop (mkF m 76 #[.val (.int p0), .val (.int p1), .val (.int p2), .val (.int p3), .val (.int p4), .val (.int p5), .val (.int (5 : Int32)), .val (.ref b39), .val (.int (0 : Int32)), .unset] [(.int (5 : Int32))])) _
      refine XS.iconst X44.here hx rfl (hb hby at_76) ?_
      show Steps p.tables e below (T44.setTop (mkF m 77 #[.val (.int p0), .val (.int p1), .val (.int p2), .val (.int p3), .val (.int p4), .val (.int p5), .val (.int (5 : Int32)), .val (.ref b39), .val (.int (0 : Int32)), .unset] [(.int (2 : Int32)), (.int (5 : Int32))])) _
      refine XS.icmpNo X44.here hx rfl (hb hby at_77) rfl (flt (by decide)).1 ?_
      show Steps p.tables e below (T44.setTop (mkF m 80 #[.val (.int p0), .val (.int p1), .val (.int p2), .val (.int p3), .val (.int p4), .val (.int p5), .val (.int (5 : Int32)), .val (.ref b39), .val (.int (0 : Int32)), .unset] [])) _
      refine XS.iload X44.here hx rfl (hb hby at_80) rfl ?_
      show Steps p.tables e below (T44.setTop (mkF m 82 #[.val (.int p0), .val (.int p1), .val (.int p2), .val (.int p3), .val (.int p4), .val (.int p5), .val (.int (5 : Int32)), .val (.ref b39), .val (.int (0 : Int32)), .unset] [(.int (0 : Int32))])) _
      refine XS.iloadN X44.here hx rfl (hb hby at_82) rfl ?_
      show Steps p.tables e below (T44.setTop (mkF m 83 #[.val (.int p0), .val (.int p1), .val (.int p2), .val (.int p3), .val (.int p4), .val (.int p5), .val (.int (5 : Int32)), .val (.ref b39), .val (.int (0 : Int32)), .unset] [(.int p1), (.int (0 : Int32))])) _
      refine XS.iloadN X44.here hx rfl (hb hby at_83) rfl ?_
      show Steps p.tables e below (T44.setTop (mkF m 84 #[.val (.int p0), .val (.int p1), .val (.int p2), .val (.int p3), .val (.int p4), .val (.int p5), .val (.int (5 : Int32)), .val (.ref b39), .val (.int (0 : Int32)), .unset] [(.int p2), (.int p1), (.int (0 : Int32))])) _
      refine st45 _ ?_
      show Steps p.tables e below (T45.setTop (mkF m 87 #[.val (.int p0), .val (.int p1), .val (.int p2), .val (.int p3), .val (.int p4), .val (.int p5), .val (.int (5 : Int32)), .val (.ref b39), .val (.int (0 : Int32)), .unset] [(.int (own_dif p1 p2 )), (.int (0 : Int32))])) _
      refine XS.iadd X45.here hx rfl (hb hby at_87) rfl ?_
      show Steps p.tables e below (T45.setTop (mkF m 88 #[.val (.int p0), .val (.int p1), .val (.int p2), .val (.int p3), .val (.int p4), .val (.int p5), .val (.int (5 : Int32)), .val (.ref b39), .val (.int (0 : Int32)), .unset] [(.int ((0 : Int32) + (own_dif p1 p2 )))])) _
      refine XS.istore X45.here hx rfl (hb hby at_88) rfl (l' := #[.val (.int p0), .val (.int p1), .val (.int p2), .val (.int p3), .val (.int p4), .val (.int p5), .val (.int (5 : Int32)), .val (.ref b39), .val (.int ((0 : Int32) + (own_dif p1 p2 ))), .unset]) rfl ?_
      show Steps p.tables e below (T45.setTop (mkF m 90 #[.val (.int p0), .val (.int p1), .val (.int p2), .val (.int p3), .val (.int p4), .val (.int p5), .val (.int (5 : Int32)), .val (.ref b39), .val (.int ((0 : Int32) + (own_dif p1 p2 ))), .unset] [])) _
      refine XS.iload X45.here hx rfl (hb hby at_90) rfl ?_
      show Steps p.tables e below (T45.setTop (mkF m 92 #[.val (.int p0), .val (.int p1), .val (.int p2), .val (.int p3), .val (.int p4), .val (.int p5), .val (.int (5 : Int32)), .val (.ref b39), .val (.int ((0 : Int32) + (own_dif p1 p2 ))), .unset] [(.int (5 : Int32))])) _
      refine XS.iconst X45.here hx rfl (hb hby at_92) ?_
      show Steps p.tables e below (T45.setTop (mkF m 93 #[.val (.int p0), .val (.int p1), .val (.int p2), .val (.int p3), .val (.int p4), .val (.int p5), .val (.int (5 : Int32)), .val (.ref b39), .val (.int ((0 : Int32) + (own_dif p1 p2 ))), .unset] [(.int (3 : Int32)), (.int (5 : Int32))])) _
      refine XS.icmpNo X45.here hx rfl (hb hby at_93) rfl (flt (by decide)).1 ?_
      show Steps p.tables e below (T45.setTop (mkF m 96 #[.val (.int p0), .val (.int p1), .val (.int p2), .val (.int p3), .val (.int p4), .val (.int p5), .val (.int (5 : Int32)), .val (.ref b39), .val (.int ((0 : Int32) + (own_dif p1 p2 ))), .unset] [])) _
      refine XS.iload X45.here hx rfl (hb hby at_96) rfl ?_
      show Steps p.tables e below (T45.setTop (mkF m 98 #[.val (.int p0), .val (.int p1), .val (.int p2), .val (.int p3), .val (.int p4), .val (.int p5), .val (.int (5 : Int32)), .val (.ref b39), .val (.int ((0 : Int32) + (own_dif p1 p2 ))), .unset] [(.int ((0 : Int32) + (own_dif p1 p2 )))])) _
      refine XS.iloadN X45.here hx rfl (hb hby at_98) rfl ?_
      show Steps p.tables e below (T45.setTop (mkF m 99 #[.val (.int p0), .val (.int p1), .val (.int p2), .val (.int p3), .val (.int p4), .val (.int p5), .val (.int (5 : Int32)), .val (.ref b39), .val (.int ((0 : Int32) + (own_dif p1 p2 ))), .unset] [(.int p2), (.int ((0 : Int32) + (own_dif p1 p2 )))])) _
      refine XS.iloadN X45.here hx rfl (hb hby at_99) rfl ?_
      show Steps p.tables e below (T45.setTop (mkF m 100 #[.val (.int p0), .val (.int p1), .val (.int p2), .val (.int p3), .val (.int p4), .val (.int p5), .val (.int (5 : Int32)), .val (.ref b39), .val (.int ((0 : Int32) + (own_dif p1 p2 ))), .unset] [(.int p3), (.int p2), (.int ((0 : Int32) + (own_dif p1 p2 )))])) _
      refine st46 _ ?_
      show Steps p.tables e below (T46.setTop (mkF m 103 #[.val (.int p0), .val (.int p1), .val (.int p2), .val (.int p3), .val (.int p4), .val (.int p5), .val (.int (5 : Int32)), .val (.ref b39), .val (.int ((0 : Int32) + (own_dif p1 p2 ))), .unset] [(.int (own_dif p2 p3 )), (.int ((0 : Int32) + (own_dif p1 p2 )))])) _
      refine XS.iadd X46.here hx rfl (hb hby at_103) rfl ?_
      show Steps p.tables e below (T46.setTop (mkF m 104 #[.val (.int p0), .val (.int p1), .val (.int p2), .val (.int p3), .val (.int p4), .val (.int p5), .val (.int (5 : Int32)), .val (.ref b39), .val (.int ((0 : Int32) + (own_dif p1 p2 ))), .unset] [(.int (((0 : Int32) + (own_dif p1 p2 )) + (own_dif p2 p3 )))])) _
      refine XS.istore X46.here hx rfl (hb hby at_104) rfl (l' := #[.val (.int p0), .val (.int p1), .val (.int p2), .val (.int p3), .val (.int p4), .val (.int p5), .val (.int (5 : Int32)), .val (.ref b39), .val (.int (((0 : Int32) + (own_dif p1 p2 )) + (own_dif p2 p3 ))), .unset]) rfl ?_
      show Steps p.tables e below (T46.setTop (mkF m 106 #[.val (.int p0), .val (.int p1), .val (.int p2), .val (.int p3), .val (.int p4), .val (.int p5), .val (.int (5 : Int32)), .val (.ref b39), .val (.int (((0 : Int32) + (own_dif p1 p2 )) + (own_dif p2 p3 ))), .unset] [])) _
      refine XS.iload X46.here hx rfl (hb hby at_106) rfl ?_
      show Steps p.tables e below (T46.setTop (mkF m 108 #[.val (.int p0), .val (.int p1), .val (.int p2), .val (.int p3), .val (.int p4), .val (.int p5), .val (.int (5 : Int32)), .val (.ref b39), .val (.int (((0 : Int32) + (own_dif p1 p2 )) + (own_dif p2 p3 ))), .unset] [(.int (5 : Int32))])) _
      refine XS.iconst X46.here hx rfl (hb hby at_108) ?_
      show Steps p.tables e below (T46.setTop (mkF m 109 #[.val (.int p0), .val (.int p1), .val (.int p2), .val (.int p3), .val (.int p4), .val (.int p5), .val (.int (5 : Int32)), .val (.ref b39), .val (.int (((0 : Int32) + (own_dif p1 p2 )) + (own_dif p2 p3 ))), .unset] [(.int (4 : Int32)), (.int (5 : Int32))])) _
      refine XS.icmpNo X46.here hx rfl (hb hby at_109) rfl (flt (by decide)).1 ?_
      show Steps p.tables e below (T46.setTop (mkF m 112 #[.val (.int p0), .val (.int p1), .val (.int p2), .val (.int p3), .val (.int p4), .val (.int p5), .val (.int (5 : Int32)), .val (.ref b39), .val (.int (((0 : Int32) + (own_dif p1 p2 )) + (own_dif p2 p3 ))), .unset] [])) _
      refine XS.iload X46.here hx rfl (hb hby at_112) rfl ?_
      show Steps p.tables e below (T46.setTop (mkF m 114 #[.val (.int p0), .val (.int p1), .val (.int p2), .val (.int p3), .val (.int p4), .val (.int p5), .val (.int (5 : Int32)), .val (.ref b39), .val (.int (((0 : Int32) + (own_dif p1 p2 )) + (own_dif p2 p3 ))), .unset] [(.int (((0 : Int32) + (own_dif p1 p2 )) + (own_dif p2 p3 )))])) _
      refine XS.iloadN X46.here hx rfl (hb hby at_114) rfl ?_
      show Steps p.tables e below (T46.setTop (mkF m 115 #[.val (.int p0), .val (.int p1), .val (.int p2), .val (.int p3), .val (.int p4), .val (.int p5), .val (.int (5 : Int32)), .val (.ref b39), .val (.int (((0 : Int32) + (own_dif p1 p2 )) + (own_dif p2 p3 ))), .unset] [(.int p3), (.int (((0 : Int32) + (own_dif p1 p2 )) + (own_dif p2 p3 )))])) _
      refine XS.iload X46.here hx rfl (hb hby at_115) rfl ?_
      show Steps p.tables e below (T46.setTop (mkF m 117 #[.val (.int p0), .val (.int p1), .val (.int p2), .val (.int p3), .val (.int p4), .val (.int p5), .val (.int (5 : Int32)), .val (.ref b39), .val (.int (((0 : Int32) + (own_dif p1 p2 )) + (own_dif p2 p3 ))), .unset] [(.int p4), (.int p3), (.int (((0 : Int32) + (own_dif p1 p2 )) + (own_dif p2 p3 )))])) _
      refine st47 _ ?_
      show Steps p.tables e below (T47.setTop (mkF m 120 #[.val (.int p0), .val (.int p1), .val (.int p2), .val (.int p3), .val (.int p4), .val (.int p5), .val (.int (5 : Int32)), .val (.ref b39), .val (.int (((0 : Int32) + (own_dif p1 p2 )) + (own_dif p2 p3 ))), .unset] [(.int (own_dif p3 p4 )), (.int (((0 : Int32) + (own_dif p1 p2 )) + (own_dif p2 p3 )))])) _
      refine XS.iadd X47.here hx rfl (hb hby at_120) rfl ?_
      show Steps p.tables e below (T47.setTop (mkF m 121 #[.val (.int p0), .val (.int p1), .val (.int p2), .val (.int p3), .val (.int p4), .val (.int p5), .val (.int (5 : Int32)), .val (.ref b39), .val (.int (((0 : Int32) + (own_dif p1 p2 )) + (own_dif p2 p3 ))), .unset] [(.int ((((0 : Int32) + (own_dif p1 p2 )) + (own_dif p2 p3 )) + (own_dif p3 p4 )))])) _
      refine XS.istore X47.here hx rfl (hb hby at_121) rfl (l' := #[.val (.int p0), .val (.int p1), .val (.int p2), .val (.int p3), .val (.int p4), .val (.int p5), .val (.int (5 : Int32)), .val (.ref b39), .val (.int ((((0 : Int32) + (own_dif p1 p2 )) + (own_dif p2 p3 )) + (own_dif p3 p4 ))), .unset]) rfl ?_
      show Steps p.tables e below (T47.setTop (mkF m 123 #[.val (.int p0), .val (.int p1), .val (.int p2), .val (.int p3), .val (.int p4), .val (.int p5), .val (.int (5 : Int32)), .val (.ref b39), .val (.int ((((0 : Int32) + (own_dif p1 p2 )) + (own_dif p2 p3 )) + (own_dif p3 p4 ))), .unset] [])) _
      refine XS.iload X47.here hx rfl (hb hby at_123) rfl ?_
      show Steps p.tables e below (T47.setTop (mkF m 125 #[.val (.int p0), .val (.int p1), .val (.int p2), .val (.int p3), .val (.int p4), .val (.int p5), .val (.int (5 : Int32)), .val (.ref b39), .val (.int ((((0 : Int32) + (own_dif p1 p2 )) + (own_dif p2 p3 )) + (own_dif p3 p4 ))), .unset] [(.int (5 : Int32))])) _
      refine XS.iconst X47.here hx rfl (hb hby at_125) ?_
      show Steps p.tables e below (T47.setTop (mkF m 126 #[.val (.int p0), .val (.int p1), .val (.int p2), .val (.int p3), .val (.int p4), .val (.int p5), .val (.int (5 : Int32)), .val (.ref b39), .val (.int ((((0 : Int32) + (own_dif p1 p2 )) + (own_dif p2 p3 )) + (own_dif p3 p4 ))), .unset] [(.int (5 : Int32)), (.int (5 : Int32))])) _
      refine XS.icmpNo X47.here hx rfl (hb hby at_126) rfl (flt (by decide)).1 ?_
      show Steps p.tables e below (T47.setTop (mkF m 129 #[.val (.int p0), .val (.int p1), .val (.int p2), .val (.int p3), .val (.int p4), .val (.int p5), .val (.int (5 : Int32)), .val (.ref b39), .val (.int ((((0 : Int32) + (own_dif p1 p2 )) + (own_dif p2 p3 )) + (own_dif p3 p4 ))), .unset] [])) _
      refine XS.iload X47.here hx rfl (hb hby at_129) rfl ?_
      show Steps p.tables e below (T47.setTop (mkF m 131 #[.val (.int p0), .val (.int p1), .val (.int p2), .val (.int p3), .val (.int p4), .val (.int p5), .val (.int (5 : Int32)), .val (.ref b39), .val (.int ((((0 : Int32) + (own_dif p1 p2 )) + (own_dif p2 p3 )) + (own_dif p3 p4 ))), .unset] [(.int ((((0 : Int32) + (own_dif p1 p2 )) + (own_dif p2 p3 )) + (own_dif p3 p4 )))])) _
      refine XS.iload X47.here hx rfl (hb hby at_131) rfl ?_
      show Steps p.tables e below (T47.setTop (mkF m 133 #[.val (.int p0), .val (.int p1), .val (.int p2), .val (.int p3), .val (.int p4), .val (.int p5), .val (.int (5 : Int32)), .val (.ref b39), .val (.int ((((0 : Int32) + (own_dif p1 p2 )) + (own_dif p2 p3 )) + (own_dif p3 p4 ))), .unset] [(.int p4), (.int ((((0 : Int32) + (own_dif p1 p2 )) + (own_dif p2 p3 )) + (own_dif p3 p4 )))])) _
      refine XS.iload X47.here hx rfl (hb hby at_133) rfl ?_
      show Steps p.tables e below (T47.setTop (mkF m 135 #[.val (.int p0), .val (.int p1), .val (.int p2), .val (.int p3), .val (.int p4), .val (.int p5), .val (.int (5 : Int32)), .val (.ref b39), .val (.int ((((0 : Int32) + (own_dif p1 p2 )) + (own_dif p2 p3 )) + (own_dif p3 p4 ))), .unset] [(.int p5), (.int p4), (.int ((((0 : Int32) + (own_dif p1 p2 )) + (own_dif p2 p3 )) + (own_dif p3 p4 )))])) _
      refine st48 _ ?_
      show Steps p.tables e below (T48.setTop (mkF m 138 #[.val (.int p0), .val (.int p1), .val (.int p2), .val (.int p3), .val (.int p4), .val (.int p5), .val (.int (5 : Int32)), .val (.ref b39), .val (.int ((((0 : Int32) + (own_dif p1 p2 )) + (own_dif p2 p3 )) + (own_dif p3 p4 ))), .unset] [(.int (own_dif p4 p5 )), (.int ((((0 : Int32) + (own_dif p1 p2 )) + (own_dif p2 p3 )) + (own_dif p3 p4 )))])) _
      refine XS.iadd X48.here hx rfl (hb hby at_138) rfl ?_
      show Steps p.tables e below (T48.setTop (mkF m 139 #[.val (.int p0), .val (.int p1), .val (.int p2), .val (.int p3), .val (.int p4), .val (.int p5), .val (.int (5 : Int32)), .val (.ref b39), .val (.int ((((0 : Int32) + (own_dif p1 p2 )) + (own_dif p2 p3 )) + (own_dif p3 p4 ))), .unset] [(.int (((((0 : Int32) + (own_dif p1 p2 )) + (own_dif p2 p3 )) + (own_dif p3 p4 )) + (own_dif p4 p5 )))])) _
      refine XS.istore X48.here hx rfl (hb hby at_139) rfl (l' := #[.val (.int p0), .val (.int p1), .val (.int p2), .val (.int p3), .val (.int p4), .val (.int p5), .val (.int (5 : Int32)), .val (.ref b39), .val (.int (((((0 : Int32) + (own_dif p1 p2 )) + (own_dif p2 p3 )) + (own_dif p3 p4 )) + (own_dif p4 p5 ))), .unset]) rfl ?_
      show Steps p.tables e below (T48.setTop (mkF m 141 #[.val (.int p0), .val (.int p1), .val (.int p2), .val (.int p3), .val (.int p4), .val (.int p5), .val (.int (5 : Int32)), .val (.ref b39), .val (.int (((((0 : Int32) + (own_dif p1 p2 )) + (own_dif p2 p3 )) + (own_dif p3 p4 )) + (own_dif p4 p5 ))), .unset] [])) _
      refine XS.aload X48.here hx rfl (hb hby at_141) rfl rfl ?_
      show Steps p.tables e below (T48.setTop (mkF m 143 #[.val (.int p0), .val (.int p1), .val (.int p2), .val (.int p3), .val (.int p4), .val (.int p5), .val (.int (5 : Int32)), .val (.ref b39), .val (.int (((((0 : Int32) + (own_dif p1 p2 )) + (own_dif p2 p3 )) + (own_dif p3 p4 )) + (own_dif p4 p5 ))), .unset] [(.ref b39)])) _
      refine st49 _ ?_
      show Steps p.tables e below (T49.setTop (mkF m 146 #[.val (.int p0), .val (.int p1), .val (.int p2), .val (.int p3), .val (.int p4), .val (.int p5), .val (.int (5 : Int32)), .val (.ref b39), .val (.int (((((0 : Int32) + (own_dif p1 p2 )) + (own_dif p2 p3 )) + (own_dif p3 p4 )) + (own_dif p4 p5 ))), .unset] [(.int (own_chg5 p1 p2 p3 p4 p5))])) _
      refine XS.istore X49.here hx rfl (hb hby at_146) rfl (l' := #[.val (.int p0), .val (.int p1), .val (.int p2), .val (.int p3), .val (.int p4), .val (.int p5), .val (.int (5 : Int32)), .val (.ref b39), .val (.int (((((0 : Int32) + (own_dif p1 p2 )) + (own_dif p2 p3 )) + (own_dif p3 p4 )) + (own_dif p4 p5 ))), .val (.int (own_chg5 p1 p2 p3 p4 p5))]) rfl ?_
      show Steps p.tables e below (T49.setTop (mkF m 148 #[.val (.int p0), .val (.int p1), .val (.int p2), .val (.int p3), .val (.int p4), .val (.int p5), .val (.int (5 : Int32)), .val (.ref b39), .val (.int (((((0 : Int32) + (own_dif p1 p2 )) + (own_dif p2 p3 )) + (own_dif p3 p4 )) + (own_dif p4 p5 ))), .val (.int (own_chg5 p1 p2 p3 p4 p5))] [])) _
      refine XS.iload X49.here hx rfl (hb hby at_148) rfl ?_
      show Steps p.tables e below (T49.setTop (mkF m 150 #[.val (.int p0), .val (.int p1), .val (.int p2), .val (.int p3), .val (.int p4), .val (.int p5), .val (.int (5 : Int32)), .val (.ref b39), .val (.int (((((0 : Int32) + (own_dif p1 p2 )) + (own_dif p2 p3 )) + (own_dif p3 p4 )) + (own_dif p4 p5 ))), .val (.int (own_chg5 p1 p2 p3 p4 p5))] [(.int (own_chg5 p1 p2 p3 p4 p5))])) _
      refine XS.iload X49.here hx rfl (hb hby at_150) rfl ?_
      show Steps p.tables e below (T49.setTop (mkF m 152 #[.val (.int p0), .val (.int p1), .val (.int p2), .val (.int p3), .val (.int p4), .val (.int p5), .val (.int (5 : Int32)), .val (.ref b39), .val (.int (((((0 : Int32) + (own_dif p1 p2 )) + (own_dif p2 p3 )) + (own_dif p3 p4 )) + (own_dif p4 p5 ))), .val (.int (own_chg5 p1 p2 p3 p4 p5))] [(.int (((((0 : Int32) + (own_dif p1 p2 )) + (own_dif p2 p3 )) + (own_dif p3 p4 )) + (own_dif p4 p5 ))), (.int (own_chg5 p1 p2 p3 p4 p5))])) _
      refine XS.icmpNo X49.here hx rfl (hb hby at_152) rfl (teq (own_e5 p1 p2 p3 p4 p5)).2 ?_
      show Steps p.tables e below (T49.setTop (mkF m 155 #[.val (.int p0), .val (.int p1), .val (.int p2), .val (.int p3), .val (.int p4), .val (.int p5), .val (.int (5 : Int32)), .val (.ref b39), .val (.int (((((0 : Int32) + (own_dif p1 p2 )) + (own_dif p2 p3 )) + (own_dif p3 p4 )) + (own_dif p4 p5 ))), .val (.int (own_chg5 p1 p2 p3 p4 p5))] [])) _
      refine XS.iconst X49.here hx rfl (hb hby at_155) ?_
      show Steps p.tables e below (T49.setTop (mkF m 156 #[.val (.int p0), .val (.int p1), .val (.int p2), .val (.int p3), .val (.int p4), .val (.int p5), .val (.int (5 : Int32)), .val (.ref b39), .val (.int (((((0 : Int32) + (own_dif p1 p2 )) + (own_dif p2 p3 )) + (own_dif p3 p4 )) + (own_dif p4 p5 ))), .val (.int (own_chg5 p1 p2 p3 p4 p5))] [(.int (1 : Int32))])) _
      refine XS.goto X49.here hx rfl (pc0 := 156) (pc' := 160) rfl (hb hby at_156) (by decide) (by decide) ?_
      exact k
    obtain ⟨fs, hr, hrun, hended, hW, hsame⟩ := X49.leave (v := some (.int (1 : Int32))) (fun h => by rw [Bd.returns] at h; cases h)
    refine ⟨_, _, k50 _ ?_, hrun, hended, _, _, rfl, ?_, ⟨_, rfl⟩, hW, hsame.mono (by decide) (by decide)⟩
    · exact retN X49 hx (t := .boolean) Bd.returns (by simp) (hb hby at_160) hr
    · show own_R (some (.int 1)) n0 _ T49.heap _
      rw [e49]
      exact ⟨rfl, N49⟩
set_option maxRecDepth 65536 in
set_option maxHeartbeats 40000000 in
theorem comes_1 {Post : Tables → Env → Array Value → State → Outcome → State → Prop} (hpost : ∀ tb e args s v u, (limb_1_1.after args s (.returned v) u = true ∧ limb_1_2.after args s (.returned v) u = true ∧ True) → FrameEnd s (.returned v) u (Jvm.fieldLocs frame_1_writes args s ++ Jvm.arrayLocs frame_1_arrays args s ++ Jvm.staticLocs frame_1_statics s) 16 128 → Post tb e args s (.returned v) u) :
    ArmFor flags0 classFile x code maxLocals ret World_1 tables_1 room_1 Calls_1 rest_1 Pre_1 Post := by
  intro l hfl _ _ p e ha hc hk s m args below hf hA hF happ hP
  obtain ⟨hcalls, hrest, hpre⟩ := hP
  obtain ⟨-, -, -, hnamed, -, -, -, hat⟩ := (Spec.applies_iff hf).mp happ
  obtain ⟨hg, hn⟩ := and_e (Cond.before_iff.mp (show (Jvm.Cond.and given_1 narrow_1).before args s = true from hpre))
  obtain ⟨g0a, g0b⟩ := and_e hg
  obtain ⟨g1a, g1b⟩ := and_e g0b
  obtain ⟨g2a, g2b⟩ := and_e g1b
  obtain ⟨g3a, g3b⟩ := and_e g2b
  obtain ⟨g4a, g4b⟩ := and_e g3b
  obtain ⟨g5a, g5b⟩ := and_e g4b
  obtain ⟨w0, w1, w2, w3, w4, w5, rfl⟩ : ∃ w0 w1 w2 w3 w4 w5 : Value, args = #[w0, w1, w2, w3, w4, w5] := by
    have hs : args.size = 6 := by simpa [Cond.value, given_1] using g0a
    obtain ⟨L⟩ := args
    match L, hs with
    | [w0, w1, w2, w3, w4, w5], _ => exact ⟨w0, w1, w2, w3, w4, w5, rfl⟩
  have hw := fun d (hd : d ∈ tables_1) => atoms_spec (ws := Jvm.Cond.code x code maxLocals ret :: tables_1) hat d (List.mem_cons_of_mem _ hd)
  have hfit : Fit s := fun {y c} hc i hi => by
    obtain ⟨ha, rfl⟩ := Array.getElem?_eq_some_iff.mp hc
    have q := List.all_eq_true.mp ((Array.all_eq_true_iff_forall_mem.mp hF) _ (Array.getElem_mem ha)) i (List.mem_range.mpr hi)
    simpa [Array.getElem?_eq_getElem hi] using q
  obtain ⟨i0, ei0⟩ := is_v g1a
  obtain rfl : w0 = (.int i0) := Option.some.inj ei0
  obtain ⟨i1, ei1⟩ := is_v g2a
  obtain rfl : w1 = (.int i1) := Option.some.inj ei1
  obtain ⟨i2, ei2⟩ := is_v g3a
  obtain rfl : w2 = (.int i2) := Option.some.inj ei2
  obtain ⟨i3, ei3⟩ := is_v g4a
  obtain rfl : w3 = (.int i3) := Option.some.inj ei3
  obtain ⟨i4, ei4⟩ := is_v g5a
  obtain rfl : w4 = (.int i4) := Option.some.inj ei4
  obtain ⟨i5, ei5⟩ := is_v g5b
  obtain rfl : w5 = (.int i5) := Option.some.inj ei5
  obtain ⟨n, o, h1, h2, h3, _, L, rfl, ⟨rfl, N⟩, hq⟩ := rm0 l s _ hw tables_1 i0 i1 i2 i3 i4 i5 s.heap s.heap.size (Nat.le_refl _) p e ha hc hk s m _ below hf ((Spec.applies_iff_loose hf).mp happ).1 ⟨rfl, State.Warmed39.refl s, rfl⟩ trivial
  refine ⟨n, _, h1, h2, h3, hpost _ _ _ _ _ _ ⟨Cond.after_iff.mpr rfl, Cond.after_iff.mpr (eq_i res_at (Term.int_eval (1)) rfl), trivial⟩ ⟨hq.1, hq.2.1, (hq.2.2.sift fun y hy => Or.inr (N y hy)).mono (by decide) (by decide)⟩⟩
theorem main_1_1 : Claimed_1_1 := comes_1 fun _ _ _ _ _ _ h hF => ⟨h.1, hF⟩
theorem main_1_2 : Claimed_1_2 := comes_1 fun _ _ _ _ _ _ h hF => ⟨h.2.1, hF⟩
end Jvm.Pilot.@@N@@
namespace Jvm.Pilot.@@N@@
open Jvm Jvm.ClassFile Sem Op Lib Jvm.Free Jvm.Stand Jvm.Pilot.@@N@@.Jvm.D
/-! MADE BY PROGRAM (witnessworld.py) out of the Statement's table words and the real class files: 9 classes; the members and pool entries that the words name. The judged class is class 1, her method 2. -/
namespace start1
open Jvm.ClassFile
def u (s : String) : CpInfo := .utf8 (stringToUtf16 s)
/-- a pool by its gaps: so many unusable entries, then the entry; so many at the end -/
def gap : Nat → List CpInfo → List CpInfo
  | 0, r => r
  | n + 1, r => .unusable :: gap n r
def poolList (es : List (Nat × CpInfo)) (last : Nat) : List CpInfo := es.foldr (fun e r => gap e.1 (e.2 :: r)) (gap last [])
def pool (es : List (Nat × CpInfo)) (last : Nat) : Array CpInfo := ⟨poolList es last⟩
def fileOf (pool : Array CpInfo) (this : Nat) (attrs : Array Attribute := #[]) (ms : Array MethodInfo := #[]) (fl : Nat := 33) (sup : Nat := 0) (ifs : Array Nat := #[]) (fds : Array FieldInfo := #[]) : ClassFile where
  minorVersion := 0
  majorVersion := 65
  constantPool := pool
  accessFlags := fl
  thisClass := this
  superClass := sup
  interfaces := ifs
  fields := fds
  methods := ms
  attributes := attrs
def plain (name : String) (sup : Option ClassId) : Class where
  name := name
  kind := .ordinary
  loader := none
  accessFlags := 33
  super := sup
  interfaces := #[]
  cf := none
  fields := #[]
  methods := #[]
  instanceTypes := #[]
  staticTypes := #[]
  resolved := #[]
  callSites := []
  init := .initialized
  statics := none
  mirror := none

def pool0 : Array CpInfo := pool [(5, u "<init>"), (0, u "()V"), (1, .class_ 10), (1, u "java/lang/Object")] 113

def k0m0 : Method := { name := "<init>", desc := "()V", sig := { parameters := [], returnType := none }, accessFlags := 1, code := none }
/-- java/lang/Object -/
def k0 : Class := { plain "java/lang/Object" none with
  accessFlags := 33
  interfaces := #[]
  cf := some (fileOf pool0 8 #[] #[{ accessFlags := 1, nameIndex := 5, descriptorIndex := 6, attributes := #[] }] 33 0 #[] #[])
  fields := #[]
  methods := #[k0m0]
  instanceTypes := #[]
  staticTypes := #[]
  resolved := Array.replicate 124 none
  statics := none }

def pool1 : Array CpInfo := pool [(2, .class_ 4), (1, u "java/lang/Object"), (0, u "<init>"), (0, u "()V"), (0, .integer 2147483647), (0, .methodref 9 10), (0, .class_ 11), (0, .nameAndType 12 13), (0, u "com/example/lightloom/lightloom/plan/LightpathChangesPinLaw"), (0, u "differs"), (0, u "(II)I"), (0, .methodref 15 16), (0, .class_ 17), (0, .nameAndType 18 19), (0, u "com/example/lightloom/lightloom/plan/Lightpath"), (0, u "changes"), (0, u "([I)I"), (3, u "law"), (0, u "(IIIIII)Z")] 4

def k1m0 : Method := { name := "<init>", desc := "()V", sig := { parameters := [], returnType := none }, accessFlags := 2, code := none }
def k1c1 : Code := { maxStack := 2, maxLocals := 2, code := method_2_code, exceptionTable := #[], attributes := #[] }
def k1m1 : Method := { name := "differs", desc := "(II)I", sig := { parameters := [.int, .int], returnType := some .int }, accessFlags := 10, code := some k1c1 }
def k1c2 : Code := { maxStack := 3, maxLocals := 10, code := code, exceptionTable := #[], attributes := #[] }
def k1m2 : Method := { name := "law", desc := "(IIIIII)Z", sig := { parameters := [.int, .int, .int, .int, .int, .int], returnType := some .boolean }, accessFlags := 9, code := some k1c2 }
/-- com/example/lightloom/lightloom/plan/LightpathChangesPinLaw -/
def k1 : Class := { plain "com/example/lightloom/lightloom/plan/LightpathChangesPinLaw" (some 0) with
  accessFlags := 49
  interfaces := #[]
  cf := some (fileOf pool1 9 #[] #[{ accessFlags := 2, nameIndex := 5, descriptorIndex := 6, attributes := #[] }, { accessFlags := 10, nameIndex := 12, descriptorIndex := 13, attributes := #[] }, { accessFlags := 9, nameIndex := 23, descriptorIndex := 24, attributes := #[] }] 49 2 #[] #[])
  fields := #[]
  methods := #[k1m0, k1m1, k1m2]
  instanceTypes := #[]
  staticTypes := #[]
  resolved := Array.replicate 29 none
  statics := none }

def pool2 : Array CpInfo := pool [(2, .class_ 4), (1, u "java/lang/Object"), (12, .class_ 19), (1, u "com/example/lightloom/lightloom/plan/Lightpath"), (0, u "id"), (0, u "I"), (2, u "source"), (2, u "target"), (2, u "route"), (0, u "Lcom/example/lightloom/lightloom/network/Route;"), (2, u "wavelengths"), (0, u "[I"), (24, u "changes"), (0, u "([I)I")] 34

def k2c0 : Code := { maxStack := 4, maxLocals := 3, code := prog_31_method_13_code, exceptionTable := #[], attributes := #[] }
def k2m0 : Method := { name := "changes", desc := "([I)I", sig := { parameters := [(.array .int)], returnType := some .int }, accessFlags := 8, code := some k2c0 }
/-- com/example/lightloom/lightloom/plan/Lightpath -/
def k2 : Class := { plain "com/example/lightloom/lightloom/plan/Lightpath" (some 0) with
  accessFlags := 49
  interfaces := #[]
  cf := some (fileOf pool2 17 #[] #[{ accessFlags := 8, nameIndex := 60, descriptorIndex := 61, attributes := #[] }] 49 2 #[] #[{ accessFlags := 18, nameIndex := 20, descriptorIndex := 21, attributes := #[] }, { accessFlags := 18, nameIndex := 24, descriptorIndex := 21, attributes := #[] }, { accessFlags := 18, nameIndex := 27, descriptorIndex := 21, attributes := #[] }, { accessFlags := 18, nameIndex := 30, descriptorIndex := 31, attributes := #[] }, { accessFlags := 18, nameIndex := 34, descriptorIndex := 35, attributes := #[] }])
  fields := #[{ name := "id", type := .int, accessFlags := 18, slot := 0, constantValue := 0 }, { name := "source", type := .int, accessFlags := 18, slot := 1, constantValue := 0 }, { name := "target", type := .int, accessFlags := 18, slot := 2, constantValue := 0 }, { name := "route", type := (.object "com/example/lightloom/lightloom/network/Route"), accessFlags := 18, slot := 3, constantValue := 0 }, { name := "wavelengths", type := (.array .int), accessFlags := 18, slot := 4, constantValue := 0 }]
  methods := #[k2m0]
  instanceTypes := #[.int, .int, .int, (.object "com/example/lightloom/lightloom/network/Route"), (.array .int)]
  staticTypes := #[]
  resolved := Array.replicate 96 none
  statics := none }

def pool3 : Array CpInfo := pool [(1, u "java/lang/Cloneable"), (0, .class_ 1), (0, u "java/lang/Object"), (0, .class_ 3)] 3

/-- java/lang/Cloneable -/
def k3 : Class := { plain "java/lang/Cloneable" (some 0) with
  accessFlags := 1537
  interfaces := #[]
  cf := some (fileOf pool3 2 #[] #[] 1537 4 #[] #[])
  fields := #[]
  methods := #[]
  instanceTypes := #[]
  staticTypes := #[]
  resolved := Array.replicate 8 none
  statics := none }

def pool4 : Array CpInfo := pool [(1, u "java/io/Serializable"), (0, .class_ 1), (0, u "java/lang/Object"), (0, .class_ 3)] 3

/-- java/io/Serializable -/
def k4 : Class := { plain "java/io/Serializable" (some 0) with
  accessFlags := 1537
  interfaces := #[]
  cf := some (fileOf pool4 2 #[] #[] 1537 4 #[] #[])
  fields := #[]
  methods := #[]
  instanceTypes := #[]
  staticTypes := #[]
  resolved := Array.replicate 8 none
  statics := none }

/-- the primitive byte -/
def k5 : Class := { plain "byte" none with kind := .primitive 'B', accessFlags := 0x411 }
/-- [B -/
def k6 : Class := { plain "[B" (some 0) with kind := .array 5 .byte, interfaces := #[3, 4], accessFlags := 1041 }

/-- the primitive int -/
def k7 : Class := { plain "int" none with kind := .primitive 'I', accessFlags := 0x411 }
/-- [I -/
def k8 : Class := { plain "[I" (some 0) with kind := .array 7 .int, interfaces := #[3, 4], accessFlags := 1041 }

def heap : Heap := #[]
def classes : Array Class := #[k0, k1, k2, k3, k4, k5, k6, k7, k8]
def interned : List (Array UInt16 × Addr) := []
def slotsUsed : Nat := 0
def theMethod : MethodId := ⟨1, 2⟩
def args0 : Array Value := #[.int 5, .int 5, .int 5, .int 5, .int 5, .int 5]
def aboutOver (below : List Frame) : State where
  vm := { classes := classes, interned := interned.toArray }
  heap := heap
  slotsUsed := slotsUsed
  threads := #[{ frames := .invoking theMethod args0 :: below }]
def below0 : List Frame := [.native { method := ⟨0, 0⟩, args := #[] }]
def about1 : State := aboutOver below0
def p0 : Program := .bare "" "" ""
def e0 : Env := launch0.env 0 0 0
theorem w_frames : about1.frames = Frame.invoking theMethod args0 :: below0 := rfl
set_option maxRecDepth 65536 in
theorem w_args : argsFit about1.vm theMethod args0 = true := by decide +kernel
set_option maxRecDepth 65536 in
theorem w_heap : heapFits about1 = true := by decide +kernel
set_option maxRecDepth 65536 in
theorem w_runnable : about1.curStatus? = some .runnable := by decide +kernel
set_option maxRecDepth 65536 in
theorem w_alone : about1.alone = true := by decide +kernel
set_option maxRecDepth 65536 in
theorem w_named : about1.methodNamed? x = some theMethod := by decide +kernel
set_option maxRecDepth 65536 in
theorem w_hears : about1.hears theMethod below0 = true := by decide +kernel
set_option maxRecDepth 65536 in
theorem w_ripe : about1.ripe theMethod args0 below0 = true := by decide +kernel
theorem w_running : about1.status = .running := rfl
set_option maxRecDepth 65536 in
theorem w_room : about1.hasRoom e0.platform room_1 = true :=
  launch0.hasRoom_least _ room_1 (by decide +kernel) (by decide +kernel) (by decide +kernel) (by decide +kernel) (by decide +kernel) (by decide +kernel)
theorem allAtoms_all (ts : List Jvm.Cond) (a : Array Jvm.Value) (st : Jvm.State) : (allAtoms ts).before a st = ts.all (fun c => c.before a st) := by
  induction ts with
  | nil => rfl
  | cons c t ih =>
    show (Jvm.Cond.and c (allAtoms t)).before a st = _
    rw [Jvm.Cond.before_and, ih, List.all_cons]
def words1 : List Jvm.Cond := Jvm.Cond.code x code maxLocals ret :: tables_1
/-- a 'code' word, met by the world's own term for the bytes: nothing is compared byte by byte -/
theorem code_word {y : MethodName} {bytes : ByteArray} {mx : Nat} {rt : Option FieldType} {a : Array Value} {s : State} {m : MethodId} {meth : Method} {c : Code} (h1 : s.methodNamed? y = some m) (h2 : s.vm.method? m = some meth) (h3 : meth.code = some c) (h4 : c.code = bytes)
    (h5 : (c.maxLocals == mx && c.exceptionTable.isEmpty && decide (c.maxStack ≤ mostOperands) && decide (meth.sig.returnType = rt) && !meth.locks && decide (parseMethodDescriptor y.desc = some meth.sig)) = true) : (Jvm.Cond.code y bytes mx rt).before a s = true := by
  simp only [Bool.and_eq_true, beq_iff_eq, Bool.not_eq_true', decide_eq_true_eq] at h5
  obtain ⟨⟨⟨⟨⟨g1, g2⟩, g3⟩, g4⟩, g5⟩, g6⟩ := h5
  simp [Cond.before, Cond.holds, Cond.value, h1, h2, h3, h4, g1, g2, g3, g4, g5, g6]
def isCode : Jvm.Cond → Bool
  | .code _ _ _ _ => true
  | _ => false
theorem all_split {L : List Jvm.Cond} {P : Jvm.Cond → Bool} (h1 : L.all (fun c => isCode c || P c) = true) (h2 : ∀ c ∈ L.filter isCode, P c = true) : L.all P = true := by
  refine List.all_eq_true.mpr fun c hc => ?_
  have h := List.all_eq_true.mp h1 c hc
  rcases Bool.eq_false_or_eq_true (isCode c) with hi | hi
  · exact h2 c (List.mem_filter.mpr ⟨hc, hi⟩)
  · simpa [hi] using h
set_option maxRecDepth 65536 in
theorem w_c0 : (Jvm.Cond.code x code maxLocals ret).before args0 about1 = true := code_word (m := ⟨1, 2⟩) (meth := k1m2) (c := k1c2) (by decide +kernel) rfl rfl rfl (by decide +kernel)
set_option maxRecDepth 65536 in
theorem w_c1 : (Jvm.Cond.code ({ cls := "com/example/lightloom/lightloom/plan/Lightpath", name := "changes", desc := "([I)I" } : Jvm.MethodName) prog_31_method_13_code (3 : Nat) (Option.some Jvm.ClassFile.FieldType.int)).before args0 about1 = true := code_word (m := ⟨2, 0⟩) (meth := k2m0) (c := k2c0) (by decide +kernel) rfl rfl rfl (by decide +kernel)
set_option maxRecDepth 65536 in
theorem w_c2 : (Jvm.Cond.code ({ cls := "com/example/lightloom/lightloom/plan/LightpathChangesPinLaw", name := "differs", desc := "(II)I" } : Jvm.MethodName) method_2_code (2 : Nat) (Option.some Jvm.ClassFile.FieldType.int)).before args0 about1 = true := code_word (m := ⟨1, 1⟩) (meth := k1m1) (c := k1c1) (by decide +kernel) rfl rfl rfl (by decide +kernel)
def codes1 : List Jvm.Cond := [Jvm.Cond.code x code maxLocals ret, Jvm.Cond.code ({ cls := "com/example/lightloom/lightloom/plan/Lightpath", name := "changes", desc := "([I)I" } : Jvm.MethodName) prog_31_method_13_code (3 : Nat) (Option.some Jvm.ClassFile.FieldType.int), Jvm.Cond.code ({ cls := "com/example/lightloom/lightloom/plan/LightpathChangesPinLaw", name := "differs", desc := "(II)I" } : Jvm.MethodName) method_2_code (2 : Nat) (Option.some Jvm.ClassFile.FieldType.int)]
set_option maxRecDepth 65536 in
theorem codes_eq : words1.filter isCode = codes1 := rfl
theorem w_codes : ∀ c ∈ words1.filter isCode, c.before args0 about1 = true := by
  rw [codes_eq]
  intro c hc
  simp only [codes1, List.mem_cons, List.not_mem_nil, or_false] at hc
  rcases hc with rfl | rfl | rfl
  · exact w_c0
  · exact w_c1
  · exact w_c2
set_option maxRecDepth 65536 in
theorem w_t1 : words1.all (fun c => isCode c || c.before args0 about1) = true := by decide +kernel
theorem w_tables : (allAtoms (Jvm.Cond.code x code maxLocals ret :: tables_1)).before args0 about1 = true := by
  rw [allAtoms_all]
  show words1.all (fun c => c.before args0 about1) = true
  refine all_split ?_ w_codes
  rw [w_t1]
set_option maxRecDepth 65536 in
theorem w_case : (Jvm.Cond.and given_1 narrow_1).before args0 about1 = true := by decide +kernel
theorem w_applies : (headSpec (Jvm.Cond.code x code maxLocals ret :: tables_1) room_1).applies x e0.platform about1 = true :=
  (Spec.applies_iff w_frames).mpr ⟨w_running, w_runnable, w_alone, w_named, w_hears, w_ripe, w_room, w_tables⟩
theorem atStart : AtStart classFile x code maxLocals ret World_1 tables_1 room_1 Calls_1 rest_1 Pre_1 launch0 p0 e0 about1 theMethod args0 below0 :=
  ⟨lists_1, trivial, launch0.admits_env _ _ _, launch0.least_env, fairChoices_fair.cas, fairChoices_fair.clock, w_frames, w_args, w_heap, w_applies, trivial, trivial, w_case⟩
end start1
theorem witness_1 : WitnessClaimed_1 := ⟨start1.p0, start1.e0, start1.about1, start1.theMethod, start1.args0, start1.below0, start1.atStart⟩
end Jvm.Pilot.@@N@@
