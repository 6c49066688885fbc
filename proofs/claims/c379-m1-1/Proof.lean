import JvmDerived
import JvmDerived.Pilot.@@N@@Statement
import JvmDerived.Pilot.@@N@@Code
set_option linter.unusedVariables false
set_option linter.unusedSimpArgs false
namespace Jvm.Pilot.@@N@@
open Jvm Jvm.ClassFile Sem Op Lib Jvm.Free Jvm.Stand Jvm.LawKit Jvm.RoadKit Bundle Jvm.Pilot.@@N@@.Jvm.D
def own_Q (r : Option Value) (h0 : Heap) (n0 : Nat) (v : Option Value) (h : Heap) (L : List Loc) : Prop := v = r ∧ Fr n0 L ∧ h = h0
def own_R (r : Option Value) (n0 : Nat) (v : Option Value) (h : Heap) (L : List Loc) : Prop := v = r ∧ Fr n0 L
theorem pn_0 : plainName "com/example/interlace/interlace/method/Ties" = true := by first | (simp [plainName, overriddenIn]; done) | decide +kernel
theorem ef_rmL0 (m : MethodId) (x0 : Addr) (x1 : UInt64) : entryFrame m #[(.ref x0), (.double x1)] 4 = mkF m 0 #[.val (.ref x0), .val (.double x1), .second, .unset] [] := by first | (simp [entryFrame, mkF, argsToLocals, Value.category]; done) | rfl
theorem d1_0 : decode prog_57_method_6_code 0 = .ok (.iconst 0, 1) := by decide +kernel
theorem d1_1 : decode prog_57_method_6_code 1 = .ok (.istore_n 3, 1) := by decide +kernel
theorem d1_2 : decode prog_57_method_6_code 2 = .ok (.iload_n 3, 1) := by decide +kernel
theorem d1_3 : decode prog_57_method_6_code 3 = .ok (.aload_n 0, 1) := by decide +kernel
theorem d1_4 : decode prog_57_method_6_code 4 = .ok (.arraylength, 1) := by decide +kernel
theorem d1_5 : decode prog_57_method_6_code 5 = .ok (.if_icmp .ge 17, 3) := by decide +kernel
theorem d1_22 : decode prog_57_method_6_code 22 = .ok (.iload_n 3, 1) := by decide +kernel
theorem d1_23 : decode prog_57_method_6_code 23 = .ok (.aload_n 0, 1) := by decide +kernel
theorem d1_24 : decode prog_57_method_6_code 24 = .ok (.arraylength, 1) := by decide +kernel
theorem d1_25 : decode prog_57_method_6_code 25 = .ok (.if_icmp .ge 7, 3) := by decide +kernel
theorem d1_32 : decode prog_57_method_6_code 32 = .ok (.iconst (-1), 1) := by decide +kernel
theorem d1_33 : decode prog_57_method_6_code 33 = .ok (.ireturn, 1) := by decide +kernel
def own_low0 (d1 : UInt64) : Int32 := (-1 : Int32)
set_option maxRecDepth 65536 in
set_option maxHeartbeats 40000000 in
theorem rmL0 (l : Launch) (Z : State) (a0 : Array Value) (hw : ∀ d ∈ tables_1, d.before a0 Z = true) (ws : List Jvm.Cond) (r0 : Addr) (d1 : UInt64) (ck : ClassId) (h0 : Heap) (n0 : Nat) (Va : Arv Z h0 r0 ck .double (0 : Int32) [] (.double (0 : UInt64))) :
    MetFree l (⟨"com/example/interlace/interlace/method/Ties", "lowestWithin", "([DD)I"⟩ : MethodName) (head1 (Jvm.Cond.code (⟨"com/example/interlace/interlace/method/Ties", "lowestWithin", "([DD)I"⟩ : MethodName) prog_57_method_6_code 4 (some .int) :: ws) ({ frames := 0, cells := 0, slots := 0, locals := 0 } : Room)) (fun a U => a = #[(.ref r0), (.double d1)] ∧ Z.Warmed39 U.vm ∧ U.heap = h0) (fun _ _ _ _ _ => True) (fun _ U o U' => ∃ v L, o = .returned v ∧ own_Q (some (.int (own_low0 d1 ))) h0 n0 v U'.heap L ∧ FrameEnd U o U' L ({ frames := 0, cells := 0, slots := 0, locals := 0 } : Room).cells ({ frames := 0, cells := 0, slots := 0, locals := 0 } : Room).slots) := by
  refine MetFree.of_bodySF (plainFor_of_name pn_0) hisR ?_
  intro p e s m args below meth c s₁ Bd hml0 hP hK
  obtain ⟨rfl, hZ, hh⟩ := hP
  have hx := Bd.exec
  have hby := Bd.bytes
  have hml : c.maxLocals = 4 := hml0
  have hown : s.vm.findClass "com/example/interlace/interlace/method/Ties" = some m.cls := findClass_of_methodNamed Bd.named
  have hnm := (name_of_methodNamed Bd.named Bd.method).1
  have X0 : Stand p l e ({ frames := 0, cells := 0, slots := 0, locals := 0 } : Room) s m #[(.ref r0), (.double d1)] below meth c s₁ [] 0 0 := Stand.of_body Bd
  have e0 : s₁.heap = h0 := by rw [← hh, Bd.state]; rfl
  have N0 := Fr.nil n0
  have pre0 : ∀ t, Steps p.tables e below (s₁.setTop (mkF m 0 #[.val (.ref r0), .val (.double d1), .second, .unset] [])) t → Steps p.tables e below (s₁.setTop (entryFrame m #[(.ref r0), (.double d1)] 4)) t := fun t k => castTop (ef_rmL0 m r0 d1) k
  have k3 : ∀ t, Steps p.tables e below (s₁.setTop (mkF m 33 #[.val (.ref r0), .val (.double d1), .second, .val (.int (0 : Int32))] [(.int (-1 : Int32))])) t → Steps p.tables e below (s₁.setTop (entryFrame m #[(.ref r0), (.double d1)] 4)) t := by
    intro t k
    refine pre0 _ ?_
    show Steps p.tables e below (s₁.setTop (mkF m 0 #[.val (.ref r0), .val (.double d1), .second, .unset] [])) _
    refine XS.iconst X0.here hx rfl (hb hby d1_0) ?_
    show Steps p.tables e below (s₁.setTop (mkF m 1 #[.val (.ref r0), .val (.double d1), .second, .unset] [(.int (0 : Int32))])) _
    refine XS.istoreN X0.here hx rfl (hb hby d1_1) rfl (l' := #[.val (.ref r0), .val (.double d1), .second, .val (.int (0 : Int32))]) rfl ?_
    show Steps p.tables e below (s₁.setTop (mkF m 2 #[.val (.ref r0), .val (.double d1), .second, .val (.int (0 : Int32))] [])) _
    refine XS.iloadN X0.here hx rfl (hb hby d1_2) rfl ?_
    show Steps p.tables e below (s₁.setTop (mkF m 3 #[.val (.ref r0), .val (.double d1), .second, .val (.int (0 : Int32))] [(.int (0 : Int32))])) _
    refine XS.aloadN X0.here hx rfl (hb hby d1_3) rfl rfl ?_
    show Steps p.tables e below (s₁.setTop (mkF m 4 #[.val (.ref r0), .val (.double d1), .second, .val (.int (0 : Int32))] [(.ref r0), (.int (0 : Int32))])) _
    obtain ⟨cl_1, Ar_1, -, S_1, N_1, -, -⟩ := id Va
    refine X0.arraylength hx (by rw [e0]; exact Ar_1.1) (State.isArrayOf_alike hZ.alike Ar_1.2.1) (g := (mkF m 4 #[.val (.ref r0), .val (.double d1), .second, .val (.int (0 : Int32))] [(.ref r0), (.int (0 : Int32))])) rfl rfl (hb hby d1_4) _ ?_
    rw [len_of S_1 N_1]
    show Steps p.tables e below (s₁.setTop (mkF m 5 #[.val (.ref r0), .val (.double d1), .second, .val (.int (0 : Int32))] [(.int (0 : Int32)), (.int (0 : Int32))])) _
    refine XS.icmpYes X0.here hx rfl (pc0 := 5) (pc' := 22) rfl (hb hby d1_5) rfl (flt (by decide)).2.1 (by decide) (by decide) ?_
    show Steps p.tables e below (s₁.setTop (mkF m 22 #[.val (.ref r0), .val (.double d1), .second, .val (.int (0 : Int32))] [])) _
    refine XS.iloadN X0.here hx rfl (hb hby d1_22) rfl ?_
    show Steps p.tables e below (s₁.setTop (mkF m 23 #[.val (.ref r0), .val (.double d1), .second, .val (.int (0 : Int32))] [(.int (0 : Int32))])) _
    refine XS.aloadN X0.here hx rfl (hb hby d1_23) rfl rfl ?_
    show Steps p.tables e below (s₁.setTop (mkF m 24 #[.val (.ref r0), .val (.double d1), .second, .val (.int (0 : Int32))] [(.ref r0), (.int (0 : Int32))])) _
    obtain ⟨cl_2, Ar_2, -, S_2, N_2, -, -⟩ := id Va
    refine X0.arraylength hx (by rw [e0]; exact Ar_2.1) (State.isArrayOf_alike hZ.alike Ar_2.2.1) (g := (mkF m 24 #[.val (.ref r0), .val (.double d1), .second, .val (.int (0 : Int32))] [(.ref r0), (.int (0 : Int32))])) rfl rfl (hb hby d1_24) _ ?_
    rw [len_of S_2 N_2]
    show Steps p.tables e below (s₁.setTop (mkF m 25 #[.val (.ref r0), .val (.double d1), .second, .val (.int (0 : Int32))] [(.int (0 : Int32)), (.int (0 : Int32))])) _
    refine XS.icmpYes X0.here hx rfl (pc0 := 25) (pc' := 32) rfl (hb hby d1_25) rfl (flt (by decide)).2.1 (by decide) (by decide) ?_
    show Steps p.tables e below (s₁.setTop (mkF m 32 #[.val (.ref r0), .val (.double d1), .second, .val (.int (0 : Int32))] [])) _
    refine XS.iconst X0.here hx rfl (hb hby d1_32) ?_
    exact k
  obtain ⟨fs, hr, hrun, hended, hW, hsame⟩ := X0.leave (v := some (.int (-1 : Int32))) (fun h => by rw [Bd.returns] at h; cases h)
  refine ⟨_, _, k3 _ ?_, hrun, hended, _, _, rfl, ?_, ⟨_, rfl⟩, hW, hsame.mono (by decide) (by decide)⟩
  · exact retOut X0 hx Bd.returns rfl (Or.inl ⟨rfl, Or.inl rfl, _, rfl⟩) (hb hby d1_33) hr
  · show own_Q (some (.int (own_low0 d1 ))) h0 n0 _ s₁.heap _
    rw [e0]
    exact ⟨rfl, N0, rfl⟩
theorem ef_rmL1 (m : MethodId) (x0 : Addr) (x1 : UInt64) : entryFrame m #[(.ref x0), (.double x1)] 4 = mkF m 0 #[.val (.ref x0), .val (.double x1), .second, .unset] [] := by first | (simp [entryFrame, mkF, argsToLocals, Value.category]; done) | rfl
theorem d1_8 : decode prog_57_method_6_code 8 = .ok (.aload_n 0, 1) := by decide +kernel
theorem d1_9 : decode prog_57_method_6_code 9 = .ok (.iload_n 3, 1) := by decide +kernel
theorem d1_10 : decode prog_57_method_6_code 10 = .ok (.daload, 1) := by decide +kernel
theorem d1_11 : decode prog_57_method_6_code 11 = .ok (.dload_n 1, 1) := by decide +kernel
theorem d1_12 : decode prog_57_method_6_code 12 = .ok (.dcmp .l, 1) := by decide +kernel
theorem d1_13 : decode prog_57_method_6_code 13 = .ok (.ifCond .le 9, 3) := by decide +kernel
theorem d1_16 : decode prog_57_method_6_code 16 = .ok (.iinc 3 1, 3) := by decide +kernel
theorem d1_19 : decode prog_57_method_6_code 19 = .ok (.goto (-17), 3) := by decide +kernel
theorem d1_28 : decode prog_57_method_6_code 28 = .ok (.iload_n 3, 1) := by decide +kernel
theorem d1_29 : decode prog_57_method_6_code 29 = .ok (.goto 4, 3) := by decide +kernel
def own_low1 (d1 : UInt64) (v0 : UInt64) : Int32 := (if (0 : Int32) < (cmpValue (FP.dcmp v0 d1) .l) then (-1 : Int32) else (0 : Int32))
set_option maxRecDepth 65536 in
set_option maxHeartbeats 40000000 in
theorem rmL1 (l : Launch) (Z : State) (a0 : Array Value) (hw : ∀ d ∈ tables_1, d.before a0 Z = true) (ws : List Jvm.Cond) (r0 : Addr) (d1 : UInt64) (ck : ClassId) (v0 : UInt64) (h0 : Heap) (n0 : Nat) (Va : Arv Z h0 r0 ck .double (1 : Int32) [(.double v0)] (.double (0 : UInt64))) :
    MetFree l (⟨"com/example/interlace/interlace/method/Ties", "lowestWithin", "([DD)I"⟩ : MethodName) (head1 (Jvm.Cond.code (⟨"com/example/interlace/interlace/method/Ties", "lowestWithin", "([DD)I"⟩ : MethodName) prog_57_method_6_code 4 (some .int) :: ws) ({ frames := 0, cells := 0, slots := 0, locals := 0 } : Room)) (fun a U => a = #[(.ref r0), (.double d1)] ∧ Z.Warmed39 U.vm ∧ U.heap = h0) (fun _ _ _ _ _ => True) (fun _ U o U' => ∃ v L, o = .returned v ∧ own_Q (some (.int (own_low1 d1 v0))) h0 n0 v U'.heap L ∧ FrameEnd U o U' L ({ frames := 0, cells := 0, slots := 0, locals := 0 } : Room).cells ({ frames := 0, cells := 0, slots := 0, locals := 0 } : Room).slots) := by
  refine MetFree.of_bodySF (plainFor_of_name pn_0) hisR ?_
  intro p e s m args below meth c s₁ Bd hml0 hP hK
  obtain ⟨rfl, hZ, hh⟩ := hP
  have hx := Bd.exec
  have hby := Bd.bytes
  have hml : c.maxLocals = 4 := hml0
  have hown : s.vm.findClass "com/example/interlace/interlace/method/Ties" = some m.cls := findClass_of_methodNamed Bd.named
  have hnm := (name_of_methodNamed Bd.named Bd.method).1
  have X0 : Stand p l e ({ frames := 0, cells := 0, slots := 0, locals := 0 } : Room) s m #[(.ref r0), (.double d1)] below meth c s₁ [] 0 0 := Stand.of_body Bd
  have e0 : s₁.heap = h0 := by rw [← hh, Bd.state]; rfl
  have N0 := Fr.nil n0
  have pre0 : ∀ t, Steps p.tables e below (s₁.setTop (mkF m 0 #[.val (.ref r0), .val (.double d1), .second, .unset] [])) t → Steps p.tables e below (s₁.setTop (entryFrame m #[(.ref r0), (.double d1)] 4)) t := fun t k => castTop (ef_rmL1 m r0 d1) k
  have k3 : ∀ t, Steps p.tables e below (s₁.setTop (mkF m 13 #[.val (.ref r0), .val (.double d1), .second, .val (.int (0 : Int32))] [(.int (cmpValue (FP.dcmp v0 d1) .l))])) t → Steps p.tables e below (s₁.setTop (entryFrame m #[(.ref r0), (.double d1)] 4)) t := by
    intro t k
    refine pre0 _ ?_
    show Steps p.tables e below (s₁.setTop (mkF m 0 #[.val (.ref r0), .val (.double d1), .second, .unset] [])) _
    refine XS.iconst X0.here hx rfl (hb hby d1_0) ?_
    show Steps p.tables e below (s₁.setTop (mkF m 1 #[.val (.ref r0), .val (.double d1), .second, .unset] [(.int (0 : Int32))])) _
    refine XS.istoreN X0.here hx rfl (hb hby d1_1) rfl (l' := #[.val (.ref r0), .val (.double d1), .second, .val (.int (0 : Int32))]) rfl ?_
    show Steps p.tables e below (s₁.setTop (mkF m 2 #[.val (.ref r0), .val (.double d1), .second, .val (.int (0 : Int32))] [])) _
    refine XS.iloadN X0.here hx rfl (hb hby d1_2) rfl ?_
    show Steps p.tables e below (s₁.setTop (mkF m 3 #[.val (.ref r0), .val (.double d1), .second, .val (.int (0 : Int32))] [(.int (0 : Int32))])) _
    refine XS.aloadN X0.here hx rfl (hb hby d1_3) rfl rfl ?_
    show Steps p.tables e below (s₁.setTop (mkF m 4 #[.val (.ref r0), .val (.double d1), .second, .val (.int (0 : Int32))] [(.ref r0), (.int (0 : Int32))])) _
    obtain ⟨cl_1, Ar_1, -, S_1, N_1, -, -⟩ := id Va
    refine X0.arraylength hx (by rw [e0]; exact Ar_1.1) (State.isArrayOf_alike hZ.alike Ar_1.2.1) (g := (mkF m 4 #[.val (.ref r0), .val (.double d1), .second, .val (.int (0 : Int32))] [(.ref r0), (.int (0 : Int32))])) rfl rfl (hb hby d1_4) _ ?_
    rw [len_of S_1 N_1]
    show Steps p.tables e below (s₁.setTop (mkF m 5 #[.val (.ref r0), .val (.double d1), .second, .val (.int (0 : Int32))] [(.int (1 : Int32)), (.int (0 : Int32))])) _
    refine XS.icmpNo X0.here hx rfl (hb hby d1_5) rfl (tlt (by decide)).2.1 ?_
    show Steps p.tables e below (s₁.setTop (mkF m 8 #[.val (.ref r0), .val (.double d1), .second, .val (.int (0 : Int32))] [])) _
    refine XS.aloadN X0.here hx rfl (hb hby d1_8) rfl rfl ?_
    show Steps p.tables e below (s₁.setTop (mkF m 9 #[.val (.ref r0), .val (.double d1), .second, .val (.int (0 : Int32))] [(.ref r0)])) _
    refine XS.iloadN X0.here hx rfl (hb hby d1_9) rfl ?_
    show Steps p.tables e below (s₁.setTop (mkF m 10 #[.val (.ref r0), .val (.double d1), .second, .val (.int (0 : Int32))] [(.int (0 : Int32)), (.ref r0)])) _
    obtain ⟨cl_2, Ar_2, q_2, S_2, N_2, H_2, G_2⟩ := id Va
    have hin_2 : ¬ ((0 : Int32) < 0 ∨ cl_2.slots.size ≤ ((0 : Int32)).toNatClampNeg) := inb_of S_2 ⟨by decide, by decide⟩
    refine X0.daload hx (j := (0 : Int32)) (v := (.double v0)) (by rw [e0]; exact Ar_2.1) (State.isArrayOf_alike hZ.alike Ar_2.2.1) Ar_2.2.2 hin_2 (Has.at H_2 hin_2 rfl) (g := (mkF m 10 #[.val (.ref r0), .val (.double d1), .second, .val (.int (0 : Int32))] [(.int (0 : Int32)), (.ref r0)])) rfl rfl (hb hby d1_10) _ ?_
    show Steps p.tables e below (s₁.setTop (mkF m 11 #[.val (.ref r0), .val (.double d1), .second, .val (.int (0 : Int32))] [(.double v0)])) _
    refine XS.dloadN X0.here hx rfl (hb hby d1_11) rfl ?_
    show Steps p.tables e below (s₁.setTop (mkF m 12 #[.val (.ref r0), .val (.double d1), .second, .val (.int (0 : Int32))] [(.double d1), (.double v0)])) _
    refine XS.dcmpS X0.here hx rfl (hb hby d1_12) rfl rfl ?_
    exact k
  by_cases hc13_1 : (0 : Int32) < (cmpValue (FP.dcmp v0 d1) .l)
  · have k6 : ∀ t, Steps p.tables e below (s₁.setTop (mkF m 33 #[.val (.ref r0), .val (.double d1), .second, .val (.int (1 : Int32))] [(.int (-1 : Int32))])) t → Steps p.tables e below (s₁.setTop (entryFrame m #[(.ref r0), (.double d1)] 4)) t := by
      intro t k
      refine k3 _ ?_
      show Steps p.tables e below (s₁.setTop (mkF m 13 #[.val (.ref r0), .val (.double d1), .second, .val (.int (0 : Int32))] [(.int (cmpValue (FP.dcmp v0 d1) .l))])) _
      refine XS.ifNo X0.here hx rfl (hb hby d1_13) rfl ((if0 _ _).trans (tlt hc13_1).2.2.2) ?_
      show Steps p.tables e below (s₁.setTop (mkF m 16 #[.val (.ref r0), .val (.double d1), .second, .val (.int (0 : Int32))] [])) _
      refine XS.iinc X0.here hx rfl (hb hby d1_16) rfl (l' := #[.val (.ref r0), .val (.double d1), .second, .val (.int (1 : Int32))]) rfl ?_
      show Steps p.tables e below (s₁.setTop (mkF m 19 #[.val (.ref r0), .val (.double d1), .second, .val (.int (1 : Int32))] [])) _
      refine XS.goto X0.here hx rfl (pc0 := 19) (pc' := 2) rfl (hb hby d1_19) (by decide) (by decide) ?_
      show Steps p.tables e below (s₁.setTop (mkF m 2 #[.val (.ref r0), .val (.double d1), .second, .val (.int (1 : Int32))] [])) _
      refine XS.iloadN X0.here hx rfl (hb hby d1_2) rfl ?_
      show Steps p.tables e below (s₁.setTop (mkF m 3 #[.val (.ref r0), .val (.double d1), .second, .val (.int (1 : Int32))] [(.int (1 : Int32))])) _
      refine XS.aloadN X0.here hx rfl (hb hby d1_3) rfl rfl ?_
      show Steps p.tables e below (s₁.setTop (mkF m 4 #[.val (.ref r0), .val (.double d1), .second, .val (.int (1 : Int32))] [(.ref r0), (.int (1 : Int32))])) _
      obtain ⟨cl_4, Ar_4, -, S_4, N_4, -, -⟩ := id Va
      refine X0.arraylength hx (by rw [e0]; exact Ar_4.1) (State.isArrayOf_alike hZ.alike Ar_4.2.1) (g := (mkF m 4 #[.val (.ref r0), .val (.double d1), .second, .val (.int (1 : Int32))] [(.ref r0), (.int (1 : Int32))])) rfl rfl (hb hby d1_4) _ ?_
      rw [len_of S_4 N_4]
      show Steps p.tables e below (s₁.setTop (mkF m 5 #[.val (.ref r0), .val (.double d1), .second, .val (.int (1 : Int32))] [(.int (1 : Int32)), (.int (1 : Int32))])) _
      refine XS.icmpYes X0.here hx rfl (pc0 := 5) (pc' := 22) rfl (hb hby d1_5) rfl (flt (by decide)).2.1 (by decide) (by decide) ?_
      show Steps p.tables e below (s₁.setTop (mkF m 22 #[.val (.ref r0), .val (.double d1), .second, .val (.int (1 : Int32))] [])) _
      refine XS.iloadN X0.here hx rfl (hb hby d1_22) rfl ?_
      show Steps p.tables e below (s₁.setTop (mkF m 23 #[.val (.ref r0), .val (.double d1), .second, .val (.int (1 : Int32))] [(.int (1 : Int32))])) _
      refine XS.aloadN X0.here hx rfl (hb hby d1_23) rfl rfl ?_
      show Steps p.tables e below (s₁.setTop (mkF m 24 #[.val (.ref r0), .val (.double d1), .second, .val (.int (1 : Int32))] [(.ref r0), (.int (1 : Int32))])) _
      obtain ⟨cl_5, Ar_5, -, S_5, N_5, -, -⟩ := id Va
      refine X0.arraylength hx (by rw [e0]; exact Ar_5.1) (State.isArrayOf_alike hZ.alike Ar_5.2.1) (g := (mkF m 24 #[.val (.ref r0), .val (.double d1), .second, .val (.int (1 : Int32))] [(.ref r0), (.int (1 : Int32))])) rfl rfl (hb hby d1_24) _ ?_
      rw [len_of S_5 N_5]
      show Steps p.tables e below (s₁.setTop (mkF m 25 #[.val (.ref r0), .val (.double d1), .second, .val (.int (1 : Int32))] [(.int (1 : Int32)), (.int (1 : Int32))])) _
      refine XS.icmpYes X0.here hx rfl (pc0 := 25) (pc' := 32) rfl (hb hby d1_25) rfl (flt (by decide)).2.1 (by decide) (by decide) ?_
      show Steps p.tables e below (s₁.setTop (mkF m 32 #[.val (.ref r0), .val (.double d1), .second, .val (.int (1 : Int32))] [])) _
      refine XS.iconst X0.here hx rfl (hb hby d1_32) ?_
      exact k
    obtain ⟨fs, hr, hrun, hended, hW, hsame⟩ := X0.leave (v := some (.int (-1 : Int32))) (fun h => by rw [Bd.returns] at h; cases h)
    refine ⟨_, _, k6 _ ?_, hrun, hended, _, _, rfl, ?_, ⟨_, rfl⟩, hW, hsame.mono (by decide) (by decide)⟩
    · exact retOut X0 hx Bd.returns rfl (Or.inl ⟨rfl, Or.inl rfl, _, rfl⟩) (hb hby d1_33) hr
    · show own_Q (some (.int (own_low1 d1 v0))) h0 n0 _ s₁.heap _
      rw [e0]
      exact ⟨by simp only [own_low1, if_pos hc13_1], N0, rfl⟩
  · have k8 : ∀ t, Steps p.tables e below (s₁.setTop (mkF m 33 #[.val (.ref r0), .val (.double d1), .second, .val (.int (0 : Int32))] [(.int (0 : Int32))])) t → Steps p.tables e below (s₁.setTop (entryFrame m #[(.ref r0), (.double d1)] 4)) t := by
      intro t k
      refine k3 _ ?_
      show Steps p.tables e below (s₁.setTop (mkF m 13 #[.val (.ref r0), .val (.double d1), .second, .val (.int (0 : Int32))] [(.int (cmpValue (FP.dcmp v0 d1) .l))])) _
      refine XS.ifYes X0.here hx rfl (pc0 := 13) (pc' := 22) rfl (hb hby d1_13) rfl ((if0 _ _).trans (flt hc13_1).2.2.2) (by decide) (by decide) ?_
      show Steps p.tables e below (s₁.setTop (mkF m 22 #[.val (.ref r0), .val (.double d1), .second, .val (.int (0 : Int32))] [])) _
      refine XS.iloadN X0.here hx rfl (hb hby d1_22) rfl ?_
      show Steps p.tables e below (s₁.setTop (mkF m 23 #[.val (.ref r0), .val (.double d1), .second, .val (.int (0 : Int32))] [(.int (0 : Int32))])) _
      refine XS.aloadN X0.here hx rfl (hb hby d1_23) rfl rfl ?_
      show Steps p.tables e below (s₁.setTop (mkF m 24 #[.val (.ref r0), .val (.double d1), .second, .val (.int (0 : Int32))] [(.ref r0), (.int (0 : Int32))])) _
      obtain ⟨cl_7, Ar_7, -, S_7, N_7, -, -⟩ := id Va
      refine X0.arraylength hx (by rw [e0]; exact Ar_7.1) (State.isArrayOf_alike hZ.alike Ar_7.2.1) (g := (mkF m 24 #[.val (.ref r0), .val (.double d1), .second, .val (.int (0 : Int32))] [(.ref r0), (.int (0 : Int32))])) rfl rfl (hb hby d1_24) _ ?_
      rw [len_of S_7 N_7]
      show Steps p.tables e below (s₁.setTop (mkF m 25 #[.val (.ref r0), .val (.double d1), .second, .val (.int (0 : Int32))] [(.int (1 : Int32)), (.int (0 : Int32))])) _
      refine XS.icmpNo X0.here hx rfl (hb hby d1_25) rfl (tlt (by decide)).2.1 ?_
      show Steps p.tables e below (s₁.setTop (mkF m 28 #[.val (.ref r0), .val (.double d1), .second, .val (.int (0 : Int32))] [])) _
      refine XS.iloadN X0.here hx rfl (hb hby d1_28) rfl ?_
      show Steps p.tables e below (s₁.setTop (mkF m 29 #[.val (.ref r0), .val (.double d1), .second, .val (.int (0 : Int32))] [(.int (0 : Int32))])) _
      refine XS.goto X0.here hx rfl (pc0 := 29) (pc' := 33) rfl (hb hby d1_29) (by decide) (by decide) ?_
      exact k
    obtain ⟨fs, hr, hrun, hended, hW, hsame⟩ := X0.leave (v := some (.int (0 : Int32))) (fun h => by rw [Bd.returns] at h; cases h)
    refine ⟨_, _, k8 _ ?_, hrun, hended, _, _, rfl, ?_, ⟨_, rfl⟩, hW, hsame.mono (by decide) (by decide)⟩
    · exact retOut X0 hx Bd.returns rfl (Or.inl ⟨rfl, Or.inl rfl, _, rfl⟩) (hb hby d1_33) hr
    · show own_Q (some (.int (own_low1 d1 v0))) h0 n0 _ s₁.heap _
      rw [e0]
      exact ⟨by simp only [own_low1, if_neg hc13_1], N0, rfl⟩
theorem ef_rmL2 (m : MethodId) (x0 : Addr) (x1 : UInt64) : entryFrame m #[(.ref x0), (.double x1)] 4 = mkF m 0 #[.val (.ref x0), .val (.double x1), .second, .unset] [] := by first | (simp [entryFrame, mkF, argsToLocals, Value.category]; done) | rfl
def own_low2 (d1 : UInt64) (v0 v1 : UInt64) : Int32 := (if (0 : Int32) < (cmpValue (FP.dcmp v0 d1) .l) then (if (0 : Int32) < (cmpValue (FP.dcmp v1 d1) .l) then (-1 : Int32) else (1 : Int32)) else (0 : Int32))
set_option maxRecDepth 65536 in
set_option maxHeartbeats 40000000 in
theorem rmL2 (l : Launch) (Z : State) (a0 : Array Value) (hw : ∀ d ∈ tables_1, d.before a0 Z = true) (ws : List Jvm.Cond) (r0 : Addr) (d1 : UInt64) (ck : ClassId) (v0 v1 : UInt64) (h0 : Heap) (n0 : Nat) (Va : Arv Z h0 r0 ck .double (2 : Int32) [(.double v0), (.double v1)] (.double (0 : UInt64))) :
    MetFree l (⟨"com/example/interlace/interlace/method/Ties", "lowestWithin", "([DD)I"⟩ : MethodName) (head1 (Jvm.Cond.code (⟨"com/example/interlace/interlace/method/Ties", "lowestWithin", "([DD)I"⟩ : MethodName) prog_57_method_6_code 4 (some .int) :: ws) ({ frames := 0, cells := 0, slots := 0, locals := 0 } : Room)) (fun a U => a = #[(.ref r0), (.double d1)] ∧ Z.Warmed39 U.vm ∧ U.heap = h0) (fun _ _ _ _ _ => True) (fun _ U o U' => ∃ v L, o = .returned v ∧ own_Q (some (.int (own_low2 d1 v0 v1))) h0 n0 v U'.heap L ∧ FrameEnd U o U' L ({ frames := 0, cells := 0, slots := 0, locals := 0 } : Room).cells ({ frames := 0, cells := 0, slots := 0, locals := 0 } : Room).slots) := by
  refine MetFree.of_bodySF (plainFor_of_name pn_0) hisR ?_
  intro p e s m args below meth c s₁ Bd hml0 hP hK
  obtain ⟨rfl, hZ, hh⟩ := hP
  have hx := Bd.exec
  have hby := Bd.bytes
  have hml : c.maxLocals = 4 := hml0
  have hown : s.vm.findClass "com/example/interlace/interlace/method/Ties" = some m.cls := findClass_of_methodNamed Bd.named
  have hnm := (name_of_methodNamed Bd.named Bd.method).1
  have X0 : Stand p l e ({ frames := 0, cells := 0, slots := 0, locals := 0 } : Room) s m #[(.ref r0), (.double d1)] below meth c s₁ [] 0 0 := Stand.of_body Bd
  have e0 : s₁.heap = h0 := by rw [← hh, Bd.state]; rfl
  have N0 := Fr.nil n0
  have pre0 : ∀ t, Steps p.tables e below (s₁.setTop (mkF m 0 #[.val (.ref r0), .val (.double d1), .second, .unset] [])) t → Steps p.tables e below (s₁.setTop (entryFrame m #[(.ref r0), (.double d1)] 4)) t := fun t k => castTop (ef_rmL2 m r0 d1) k
  have k3 : ∀ t, Steps p.tables e below (s₁.setTop (mkF m 13 #[.val (.ref r0), .val (.double d1), .second, .val (.int (0 : Int32))] [(.int (cmpValue (FP.dcmp v0 d1) .l))])) t → Steps p.tables e below (s₁.setTop (entryFrame m #[(.ref r0), (.double d1)] 4)) t := by
    intro t k
    refine pre0 _ ?_
    show Steps p.tables e below (s₁.setTop (mkF m 0 #[.val (.ref r0), .val (.double d1), .second, .unset] [])) _
    refine XS.iconst X0.here hx rfl (hb hby d1_0) ?_
    show Steps p.tables e below (s₁.setTop (mkF m 1 #[.val (.ref r0), .val (.double d1), .second, .unset] [(.int (0 : Int32))])) _
    refine XS.istoreN X0.here hx rfl (hb hby d1_1) rfl (l' := #[.val (.ref r0), .val (.double d1), .second, .val (.int (0 : Int32))]) rfl ?_
    show Steps p.tables e below (s₁.setTop (mkF m 2 #[.val (.ref r0), .val (.double d1), .second, .val (.int (0 : Int32))] [])) _
    refine XS.iloadN X0.here hx rfl (hb hby d1_2) rfl ?_
    show Steps p.tables e below (s₁.setTop (mkF m 3 #[.val (.ref r0), .val (.double d1), .second, .val (.int (0 : Int32))] [(.int (0 : Int32))])) _
    refine XS.aloadN X0.here hx rfl (hb hby d1_3) rfl rfl ?_
    show Steps p.tables e below (s₁.setTop (mkF m 4 #[.val (.ref r0), .val (.double d1), .second, .val (.int (0 : Int32))] [(.ref r0), (.int (0 : Int32))])) _
    obtain ⟨cl_1, Ar_1, -, S_1, N_1, -, -⟩ := id Va
    refine X0.arraylength hx (by rw [e0]; exact Ar_1.1) (State.isArrayOf_alike hZ.alike Ar_1.2.1) (g := (mkF m 4 #[.val (.ref r0), .val (.double d1), .second, .val (.int (0 : Int32))] [(.ref r0), (.int (0 : Int32))])) rfl rfl (hb hby d1_4) _ ?_
    rw [len_of S_1 N_1]
    show Steps p.tables e below (s₁.setTop (mkF m 5 #[.val (.ref r0), .val (.double d1), .second, .val (.int (0 : Int32))] [(.int (2 : Int32)), (.int (0 : Int32))])) _
    refine XS.icmpNo X0.here hx rfl (hb hby d1_5) rfl (tlt (by decide)).2.1 ?_
    show Steps p.tables e below (s₁.setTop (mkF m 8 #[.val (.ref r0), .val (.double d1), .second, .val (.int (0 : Int32))] [])) _
    refine XS.aloadN X0.here hx rfl (hb hby d1_8) rfl rfl ?_
    show Steps p.tables e below (s₁.setTop (mkF m 9 #[.val (.ref r0), .val (.double d1), .second, .val (.int (0 : Int32))] [(.ref r0)])) _
    refine XS.iloadN X0.here hx rfl (hb hby d1_9) rfl ?_
    show Steps p.tables e below (s₁.setTop (mkF m 10 #[.val (.ref r0), .val (.double d1), .second, .val (.int (0 : Int32))] [(.int (0 : Int32)), (.ref r0)])) _
    obtain ⟨cl_2, Ar_2, q_2, S_2, N_2, H_2, G_2⟩ := id Va
    have hin_2 : ¬ ((0 : Int32) < 0 ∨ cl_2.slots.size ≤ ((0 : Int32)).toNatClampNeg) := inb_of S_2 ⟨by decide, by decide⟩
    refine X0.daload hx (j := (0 : Int32)) (v := (.double v0)) (by rw [e0]; exact Ar_2.1) (State.isArrayOf_alike hZ.alike Ar_2.2.1) Ar_2.2.2 hin_2 (Has.at H_2 hin_2 rfl) (g := (mkF m 10 #[.val (.ref r0), .val (.double d1), .second, .val (.int (0 : Int32))] [(.int (0 : Int32)), (.ref r0)])) rfl rfl (hb hby d1_10) _ ?_
    show Steps p.tables e below (s₁.setTop (mkF m 11 #[.val (.ref r0), .val (.double d1), .second, .val (.int (0 : Int32))] [(.double v0)])) _
    refine XS.dloadN X0.here hx rfl (hb hby d1_11) rfl ?_
    show Steps p.tables e below (s₁.setTop (mkF m 12 #[.val (.ref r0), .val (.double d1), .second, .val (.int (0 : Int32))] [(.double d1), (.double v0)])) _
    refine XS.dcmpS X0.here hx rfl (hb hby d1_12) rfl rfl ?_
    exact k
  by_cases hc13_1 : (0 : Int32) < (cmpValue (FP.dcmp v0 d1) .l)
  · have k6 : ∀ t, Steps p.tables e below (s₁.setTop (mkF m 13 #[.val (.ref r0), .val (.double d1), .second, .val (.int (1 : Int32))] [(.int (cmpValue (FP.dcmp v1 d1) .l))])) t → Steps p.tables e below (s₁.setTop (entryFrame m #[(.ref r0), (.double d1)] 4)) t := by
      intro t k
      refine k3 _ ?_
      show Steps p.tables e below (s₁.setTop (mkF m 13 #[.val (.ref r0), .val (.double d1), .second, .val (.int (0 : Int32))] [(.int (cmpValue (FP.dcmp v0 d1) .l))])) _
      refine XS.ifNo X0.here hx rfl (hb hby d1_13) rfl ((if0 _ _).trans (tlt hc13_1).2.2.2) ?_
      show Steps p.tables e below (s₁.setTop (mkF m 16 #[.val (.ref r0), .val (.double d1), .second, .val (.int (0 : Int32))] [])) _
      refine XS.iinc X0.here hx rfl (hb hby d1_16) rfl (l' := #[.val (.ref r0), .val (.double d1), .second, .val (.int (1 : Int32))]) rfl ?_
      show Steps p.tables e below (s₁.setTop (mkF m 19 #[.val (.ref r0), .val (.double d1), .second, .val (.int (1 : Int32))] [])) _
      refine XS.goto X0.here hx rfl (pc0 := 19) (pc' := 2) rfl (hb hby d1_19) (by decide) (by decide) ?_
      show Steps p.tables e below (s₁.setTop (mkF m 2 #[.val (.ref r0), .val (.double d1), .second, .val (.int (1 : Int32))] [])) _
      refine XS.iloadN X0.here hx rfl (hb hby d1_2) rfl ?_
      show Steps p.tables e below (s₁.setTop (mkF m 3 #[.val (.ref r0), .val (.double d1), .second, .val (.int (1 : Int32))] [(.int (1 : Int32))])) _
      refine XS.aloadN X0.here hx rfl (hb hby d1_3) rfl rfl ?_
      show Steps p.tables e below (s₁.setTop (mkF m 4 #[.val (.ref r0), .val (.double d1), .second, .val (.int (1 : Int32))] [(.ref r0), (.int (1 : Int32))])) _
      obtain ⟨cl_4, Ar_4, -, S_4, N_4, -, -⟩ := id Va
      refine X0.arraylength hx (by rw [e0]; exact Ar_4.1) (State.isArrayOf_alike hZ.alike Ar_4.2.1) (g := (mkF m 4 #[.val (.ref r0), .val (.double d1), .second, .val (.int (1 : Int32))] [(.ref r0), (.int (1 : Int32))])) rfl rfl (hb hby d1_4) _ ?_
      rw [len_of S_4 N_4]
      show Steps p.tables e below (s₁.setTop (mkF m 5 #[.val (.ref r0), .val (.double d1), .second, .val (.int (1 : Int32))] [(.int (2 : Int32)), (.int (1 : Int32))])) _
      refine XS.icmpNo X0.here hx rfl (hb hby d1_5) rfl (tlt (by decide)).2.1 ?_
      show Steps p.tables e below (s₁.setTop (mkF m 8 #[.val (.ref r0), .val (.double d1), .second, .val (.int (1 : Int32))] [])) _
      refine XS.aloadN X0.here hx rfl (hb hby d1_8) rfl rfl ?_
      show Steps p.tables e below (s₁.setTop (mkF m 9 #[.val (.ref r0), .val (.double d1), .second, .val (.int (1 : Int32))] [(.ref r0)])) _
      refine XS.iloadN X0.here hx rfl (hb hby d1_9) rfl ?_
      show Steps p.tables e below (s₁.setTop (mkF m 10 #[.val (.ref r0), .val (.double d1), .second, .val (.int (1 : Int32))] [(.int (1 : Int32)), (.ref r0)])) _
      obtain ⟨cl_5, Ar_5, q_5, S_5, N_5, H_5, G_5⟩ := id Va
      have hin_5 : ¬ ((1 : Int32) < 0 ∨ cl_5.slots.size ≤ ((1 : Int32)).toNatClampNeg) := inb_of S_5 ⟨by decide, by decide⟩
      refine X0.daload hx (j := (1 : Int32)) (v := (.double v1)) (by rw [e0]; exact Ar_5.1) (State.isArrayOf_alike hZ.alike Ar_5.2.1) Ar_5.2.2 hin_5 (Has.at H_5 hin_5 rfl) (g := (mkF m 10 #[.val (.ref r0), .val (.double d1), .second, .val (.int (1 : Int32))] [(.int (1 : Int32)), (.ref r0)])) rfl rfl (hb hby d1_10) _ ?_
      show Steps p.tables e below (s₁.setTop (mkF m 11 #[.val (.ref r0), .val (.double d1), .second, .val (.int (1 : Int32))] [(.double v1)])) _
      refine XS.dloadN X0.here hx rfl (hb hby d1_11) rfl ?_
      show Steps p.tables e below (s₁.setTop (mkF m 12 #[.val (.ref r0), .val (.double d1), .second, .val (.int (1 : Int32))] [(.double d1), (.double v1)])) _
      refine XS.dcmpS X0.here hx rfl (hb hby d1_12) rfl rfl ?_
      exact k
    by_cases hc13_2 : (0 : Int32) < (cmpValue (FP.dcmp v1 d1) .l)
    · have k9 : ∀ t, Steps p.tables e below (s₁.setTop (mkF m 33 #[.val (.ref r0), .val (.double d1), .second, .val (.int (2 : Int32))] [(.int (-1 : Int32))])) t → Steps p.tables e below (s₁.setTop (entryFrame m #[(.ref r0), (.double d1)] 4)) t := by
        intro t k
        refine k6 _ ?_
        show Steps p.tables e below (s₁.setTop (mkF m 13 #[.val (.ref r0), .val (.double d1), .second, .val (.int (1 : Int32))] [(.int (cmpValue (FP.dcmp v1 d1) .l))])) _
        refine XS.ifNo X0.here hx rfl (hb hby d1_13) rfl ((if0 _ _).trans (tlt hc13_2).2.2.2) ?_
        show Steps p.tables e below (s₁.setTop (mkF m 16 #[.val (.ref r0), .val (.double d1), .second, .val (.int (1 : Int32))] [])) _
        refine XS.iinc X0.here hx rfl (hb hby d1_16) rfl (l' := #[.val (.ref r0), .val (.double d1), .second, .val (.int (2 : Int32))]) rfl ?_
        show Steps p.tables e below (s₁.setTop (mkF m 19 #[.val (.ref r0), .val (.double d1), .second, .val (.int (2 : Int32))] [])) _
        refine XS.goto X0.here hx rfl (pc0 := 19) (pc' := 2) rfl (hb hby d1_19) (by decide) (by decide) ?_
        show Steps p.tables e below (s₁.setTop (mkF m 2 #[.val (.ref r0), .val (.double d1), .second, .val (.int (2 : Int32))] [])) _
        refine XS.iloadN X0.here hx rfl (hb hby d1_2) rfl ?_
        show Steps p.tables e below (s₁.setTop (mkF m 3 #[.val (.ref r0), .val (.double d1), .second, .val (.int (2 : Int32))] [(.int (2 : Int32))])) _
        refine XS.aloadN X0.here hx rfl (hb hby d1_3) rfl rfl ?_
        show Steps p.tables e below (s₁.setTop (mkF m 4 #[.val (.ref r0), .val (.double d1), .second, .val (.int (2 : Int32))] [(.ref r0), (.int (2 : Int32))])) _
        obtain ⟨cl_7, Ar_7, -, S_7, N_7, -, -⟩ := id Va
        refine X0.arraylength hx (by rw [e0]; exact Ar_7.1) (State.isArrayOf_alike hZ.alike Ar_7.2.1) (g := (mkF m 4 #[.val (.ref r0), .val (.double d1), .second, .val (.int (2 : Int32))] [(.ref r0), (.int (2 : Int32))])) rfl rfl (hb hby d1_4) _ ?_
        rw [len_of S_7 N_7]
        show Steps p.tables e below (s₁.setTop (mkF m 5 #[.val (.ref r0), .val (.double d1), .second, .val (.int (2 : Int32))] [(.int (2 : Int32)), (.int (2 : Int32))])) _
        refine XS.icmpYes X0.here hx rfl (pc0 := 5) (pc' := 22) rfl (hb hby d1_5) rfl (flt (by decide)).2.1 (by decide) (by decide) ?_
        show Steps p.tables e below (s₁.setTop (mkF m 22 #[.val (.ref r0), .val (.double d1), .second, .val (.int (2 : Int32))] [])) _
        refine XS.iloadN X0.here hx rfl (hb hby d1_22) rfl ?_
        show Steps p.tables e below (s₁.setTop (mkF m 23 #[.val (.ref r0), .val (.double d1), .second, .val (.int (2 : Int32))] [(.int (2 : Int32))])) _
        refine XS.aloadN X0.here hx rfl (hb hby d1_23) rfl rfl ?_
        show Steps p.tables e below (s₁.setTop (mkF m 24 #[.val (.ref r0), .val (.double d1), .second, .val (.int (2 : Int32))] [(.ref r0), (.int (2 : Int32))])) _
        obtain ⟨cl_8, Ar_8, -, S_8, N_8, -, -⟩ := id Va
        refine X0.arraylength hx (by rw [e0]; exact Ar_8.1) (State.isArrayOf_alike hZ.alike Ar_8.2.1) (g := (mkF m 24 #[.val (.ref r0), .val (.double d1), .second, .val (.int (2 : Int32))] [(.ref r0), (.int (2 : Int32))])) rfl rfl (hb hby d1_24) _ ?_
        rw [len_of S_8 N_8]
        show Steps p.tables e below (s₁.setTop (mkF m 25 #[.val (.ref r0), .val (.double d1), .second, .val (.int (2 : Int32))] [(.int (2 : Int32)), (.int (2 : Int32))])) _
        refine XS.icmpYes X0.here hx rfl (pc0 := 25) (pc' := 32) rfl (hb hby d1_25) rfl (flt (by decide)).2.1 (by decide) (by decide) ?_
        show Steps p.tables e below (s₁.setTop (mkF m 32 #[.val (.ref r0), .val (.double d1), .second, .val (.int (2 : Int32))] [])) _
        refine XS.iconst X0.here hx rfl (hb hby d1_32) ?_
        exact k
      obtain ⟨fs, hr, hrun, hended, hW, hsame⟩ := X0.leave (v := some (.int (-1 : Int32))) (fun h => by rw [Bd.returns] at h; cases h)
      refine ⟨_, _, k9 _ ?_, hrun, hended, _, _, rfl, ?_, ⟨_, rfl⟩, hW, hsame.mono (by decide) (by decide)⟩
      · exact retOut X0 hx Bd.returns rfl (Or.inl ⟨rfl, Or.inl rfl, _, rfl⟩) (hb hby d1_33) hr
      · show own_Q (some (.int (own_low2 d1 v0 v1))) h0 n0 _ s₁.heap _
        rw [e0]
        exact ⟨by simp only [own_low2, if_pos hc13_1, if_pos hc13_2], N0, rfl⟩
    · have k11 : ∀ t, Steps p.tables e below (s₁.setTop (mkF m 33 #[.val (.ref r0), .val (.double d1), .second, .val (.int (1 : Int32))] [(.int (1 : Int32))])) t → Steps p.tables e below (s₁.setTop (entryFrame m #[(.ref r0), (.double d1)] 4)) t := by
        intro t k
        refine k6 _ ?_
        show Steps p.tables e below (s₁.setTop (mkF m 13 #[.val (.ref r0), .val (.double d1), .second, .val (.int (1 : Int32))] [(.int (cmpValue (FP.dcmp v1 d1) .l))])) _
        refine XS.ifYes X0.here hx rfl (pc0 := 13) (pc' := 22) rfl (hb hby d1_13) rfl ((if0 _ _).trans (flt hc13_2).2.2.2) (by decide) (by decide) ?_
        show Steps p.tables e below (s₁.setTop (mkF m 22 #[.val (.ref r0), .val (.double d1), .second, .val (.int (1 : Int32))] [])) _
        refine XS.iloadN X0.here hx rfl (hb hby d1_22) rfl ?_
        show Steps p.tables e below (s₁.setTop (mkF m 23 #[.val (.ref r0), .val (.double d1), .second, .val (.int (1 : Int32))] [(.int (1 : Int32))])) _
        refine XS.aloadN X0.here hx rfl (hb hby d1_23) rfl rfl ?_
        show Steps p.tables e below (s₁.setTop (mkF m 24 #[.val (.ref r0), .val (.double d1), .second, .val (.int (1 : Int32))] [(.ref r0), (.int (1 : Int32))])) _
        obtain ⟨cl_10, Ar_10, -, S_10, N_10, -, -⟩ := id Va
        refine X0.arraylength hx (by rw [e0]; exact Ar_10.1) (State.isArrayOf_alike hZ.alike Ar_10.2.1) (g := (mkF m 24 #[.val (.ref r0), .val (.double d1), .second, .val (.int (1 : Int32))] [(.ref r0), (.int (1 : Int32))])) rfl rfl (hb hby d1_24) _ ?_
        rw [len_of S_10 N_10]
        show Steps p.tables e below (s₁.setTop (mkF m 25 #[.val (.ref r0), .val (.double d1), .second, .val (.int (1 : Int32))] [(.int (2 : Int32)), (.int (1 : Int32))])) _
        refine XS.icmpNo X0.here hx rfl (hb hby d1_25) rfl (tlt (by decide)).2.1 ?_
        show Steps p.tables e below (s₁.setTop (mkF m 28 #[.val (.ref r0), .val (.double d1), .second, .val (.int (1 : Int32))] [])) _
        refine XS.iloadN X0.here hx rfl (hb hby d1_28) rfl ?_
        show Steps p.tables e below (s₁.setTop (mkF m 29 #[.val (.ref r0), .val (.double d1), .second, .val (.int (1 : Int32))] [(.int (1 : Int32))])) _
        refine XS.goto X0.here hx rfl (pc0 := 29) (pc' := 33) rfl (hb hby d1_29) (by decide) (by decide) ?_
        exact k
      obtain ⟨fs, hr, hrun, hended, hW, hsame⟩ := X0.leave (v := some (.int (1 : Int32))) (fun h => by rw [Bd.returns] at h; cases h)
      refine ⟨_, _, k11 _ ?_, hrun, hended, _, _, rfl, ?_, ⟨_, rfl⟩, hW, hsame.mono (by decide) (by decide)⟩
      · exact retOut X0 hx Bd.returns rfl (Or.inl ⟨rfl, Or.inl rfl, _, rfl⟩) (hb hby d1_33) hr
      · show own_Q (some (.int (own_low2 d1 v0 v1))) h0 n0 _ s₁.heap _
        rw [e0]
        exact ⟨by simp only [own_low2, if_pos hc13_1, if_neg hc13_2], N0, rfl⟩
  · have k13 : ∀ t, Steps p.tables e below (s₁.setTop (mkF m 33 #[.val (.ref r0), .val (.double d1), .second, .val (.int (0 : Int32))] [(.int (0 : Int32))])) t → Steps p.tables e below (s₁.setTop (entryFrame m #[(.ref r0), (.double d1)] 4)) t := by
      intro t k
      refine k3 _ ?_
      show Steps p.tables e below (s₁.setTop (mkF m 13 #[.val (.ref r0), .val (.double d1), .second, .val (.int (0 : Int32))] [(.int (cmpValue (FP.dcmp v0 d1) .l))])) _
      refine XS.ifYes X0.here hx rfl (pc0 := 13) (pc' := 22) rfl (hb hby d1_13) rfl ((if0 _ _).trans (flt hc13_1).2.2.2) (by decide) (by decide) ?_
      show Steps p.tables e below (s₁.setTop (mkF m 22 #[.val (.ref r0), .val (.double d1), .second, .val (.int (0 : Int32))] [])) _
      refine XS.iloadN X0.here hx rfl (hb hby d1_22) rfl ?_
      show Steps p.tables e below (s₁.setTop (mkF m 23 #[.val (.ref r0), .val (.double d1), .second, .val (.int (0 : Int32))] [(.int (0 : Int32))])) _
      refine XS.aloadN X0.here hx rfl (hb hby d1_23) rfl rfl ?_
      show Steps p.tables e below (s₁.setTop (mkF m 24 #[.val (.ref r0), .val (.double d1), .second, .val (.int (0 : Int32))] [(.ref r0), (.int (0 : Int32))])) _
      obtain ⟨cl_12, Ar_12, -, S_12, N_12, -, -⟩ := id Va
      refine X0.arraylength hx (by rw [e0]; exact Ar_12.1) (State.isArrayOf_alike hZ.alike Ar_12.2.1) (g := (mkF m 24 #[.val (.ref r0), .val (.double d1), .second, .val (.int (0 : Int32))] [(.ref r0), (.int (0 : Int32))])) rfl rfl (hb hby d1_24) _ ?_
      rw [len_of S_12 N_12]
      show Steps p.tables e below (s₁.setTop (mkF m 25 #[.val (.ref r0), .val (.double d1), .second, .val (.int (0 : Int32))] [(.int (2 : Int32)), (.int (0 : Int32))])) _
      refine XS.icmpNo X0.here hx rfl (hb hby d1_25) rfl (tlt (by decide)).2.1 ?_
      show Steps p.tables e below (s₁.setTop (mkF m 28 #[.val (.ref r0), .val (.double d1), .second, .val (.int (0 : Int32))] [])) _
      refine XS.iloadN X0.here hx rfl (hb hby d1_28) rfl ?_
      show Steps p.tables e below (s₁.setTop (mkF m 29 #[.val (.ref r0), .val (.double d1), .second, .val (.int (0 : Int32))] [(.int (0 : Int32))])) _
      refine XS.goto X0.here hx rfl (pc0 := 29) (pc' := 33) rfl (hb hby d1_29) (by decide) (by decide) ?_
      exact k
    obtain ⟨fs, hr, hrun, hended, hW, hsame⟩ := X0.leave (v := some (.int (0 : Int32))) (fun h => by rw [Bd.returns] at h; cases h)
    refine ⟨_, _, k13 _ ?_, hrun, hended, _, _, rfl, ?_, ⟨_, rfl⟩, hW, hsame.mono (by decide) (by decide)⟩
    · exact retOut X0 hx Bd.returns rfl (Or.inl ⟨rfl, Or.inl rfl, _, rfl⟩) (hb hby d1_33) hr
    · show own_Q (some (.int (own_low2 d1 v0 v1))) h0 n0 _ s₁.heap _
      rw [e0]
      exact ⟨by simp only [own_low2, if_neg hc13_1], N0, rfl⟩
theorem ef_rmL3 (m : MethodId) (x0 : Addr) (x1 : UInt64) : entryFrame m #[(.ref x0), (.double x1)] 4 = mkF m 0 #[.val (.ref x0), .val (.double x1), .second, .unset] [] := by first | (simp [entryFrame, mkF, argsToLocals, Value.category]; done) | rfl
def own_low3 (d1 : UInt64) (v0 v1 v2 : UInt64) : Int32 := (if (0 : Int32) < (cmpValue (FP.dcmp v0 d1) .l) then (if (0 : Int32) < (cmpValue (FP.dcmp v1 d1) .l) then (if (0 : Int32) < (cmpValue (FP.dcmp v2 d1) .l) then (-1 : Int32) else (2 : Int32)) else (1 : Int32)) else (0 : Int32))
set_option maxRecDepth 65536 in
set_option maxHeartbeats 40000000 in
theorem rmL3 (l : Launch) (Z : State) (a0 : Array Value) (hw : ∀ d ∈ tables_1, d.before a0 Z = true) (ws : List Jvm.Cond) (r0 : Addr) (d1 : UInt64) (ck : ClassId) (v0 v1 v2 : UInt64) (h0 : Heap) (n0 : Nat) (Va : Arv Z h0 r0 ck .double (3 : Int32) [(.double v0), (.double v1), (.double v2)] (.double (0 : UInt64))) :
    MetFree l (⟨"com/example/interlace/interlace/method/Ties", "lowestWithin", "([DD)I"⟩ : MethodName) (head1 (Jvm.Cond.code (⟨"com/example/interlace/interlace/method/Ties", "lowestWithin", "([DD)I"⟩ : MethodName) prog_57_method_6_code 4 (some .int) :: ws) ({ frames := 0, cells := 0, slots := 0, locals := 0 } : Room)) (fun a U => a = #[(.ref r0), (.double d1)] ∧ Z.Warmed39 U.vm ∧ U.heap = h0) (fun _ _ _ _ _ => True) (fun _ U o U' => ∃ v L, o = .returned v ∧ own_Q (some (.int (own_low3 d1 v0 v1 v2))) h0 n0 v U'.heap L ∧ FrameEnd U o U' L ({ frames := 0, cells := 0, slots := 0, locals := 0 } : Room).cells ({ frames := 0, cells := 0, slots := 0, locals := 0 } : Room).slots) := by
  refine MetFree.of_bodySF (plainFor_of_name pn_0) hisR ?_
  intro p e s m args below meth c s₁ Bd hml0 hP hK
  obtain ⟨rfl, hZ, hh⟩ := hP
  have hx := Bd.exec
  have hby := Bd.bytes
  have hml : c.maxLocals = 4 := hml0
  have hown : s.vm.findClass "com/example/interlace/interlace/method/Ties" = some m.cls := findClass_of_methodNamed Bd.named
  have hnm := (name_of_methodNamed Bd.named Bd.method).1
  have X0 : Stand p l e ({ frames := 0, cells := 0, slots := 0, locals := 0 } : Room) s m #[(.ref r0), (.double d1)] below meth c s₁ [] 0 0 := Stand.of_body Bd
  have e0 : s₁.heap = h0 := by rw [← hh, Bd.state]; rfl
  have N0 := Fr.nil n0
  have pre0 : ∀ t, Steps p.tables e below (s₁.setTop (mkF m 0 #[.val (.ref r0), .val (.double d1), .second, .unset] [])) t → Steps p.tables e below (s₁.setTop (entryFrame m #[(.ref r0), (.double d1)] 4)) t := fun t k => castTop (ef_rmL3 m r0 d1) k
  have k3 : ∀ t, Steps p.tables e below (s₁.setTop (mkF m 13 #[.val (.ref r0), .val (.double d1), .second, .val (.int (0 : Int32))] [(.int (cmpValue (FP.dcmp v0 d1) .l))])) t → Steps p.tables e below (s₁.setTop (entryFrame m #[(.ref r0), (.double d1)] 4)) t := by
    intro t k
    refine pre0 _ ?_
    show Steps p.tables e below (s₁.setTop (mkF m 0 #[.val (.ref r0), .val (.double d1), .second, .unset] [])) _
    refine XS.iconst X0.here hx rfl (hb hby d1_0) ?_
    show Steps p.tables e below (s₁.setTop (mkF m 1 #[.val (.ref r0), .val (.double d1), .second, .unset] [(.int (0 : Int32))])) _
    refine XS.istoreN X0.here hx rfl (hb hby d1_1) rfl (l' := #[.val (.ref r0), .val (.double d1), .second, .val (.int (0 : Int32))]) rfl ?_
    show Steps p.tables e below (s₁.setTop (mkF m 2 #[.val (.ref r0), .val (.double d1), .second, .val (.int (0 : Int32))] [])) _
    refine XS.iloadN X0.here hx rfl (hb hby d1_2) rfl ?_
    show Steps p.tables e below (s₁.setTop (mkF m 3 #[.val (.ref r0), .val (.double d1), .second, .val (.int (0 : Int32))] [(.int (0 : Int32))])) _
    refine XS.aloadN X0.here hx rfl (hb hby d1_3) rfl rfl ?_
    show Steps p.tables e below (s₁.setTop (mkF m 4 #[.val (.ref r0), .val (.double d1), .second, .val (.int (0 : Int32))] [(.ref r0), (.int (0 : Int32))])) _
    obtain ⟨cl_1, Ar_1, -, S_1, N_1, -, -⟩ := id Va
    refine X0.arraylength hx (by rw [e0]; exact Ar_1.1) (State.isArrayOf_alike hZ.alike Ar_1.2.1) (g := (mkF m 4 #[.val (.ref r0), .val (.double d1), .second, .val (.int (0 : Int32))] [(.ref r0), (.int (0 : Int32))])) rfl rfl (hb hby d1_4) _ ?_
    rw [len_of S_1 N_1]
    show Steps p.tables e below (s₁.setTop (mkF m 5 #[.val (.ref r0), .val (.double d1), .second, .val (.int (0 : Int32))] [(.int (3 : Int32)), (.int (0 : Int32))])) _
    refine XS.icmpNo X0.here hx rfl (hb hby d1_5) rfl (tlt (by decide)).2.1 ?_
    show Steps p.tables e below (s₁.setTop (mkF m 8 #[.val (.ref r0), .val (.double d1), .second, .val (.int (0 : Int32))] [])) _
    refine XS.aloadN X0.here hx rfl (hb hby d1_8) rfl rfl ?_
    show Steps p.tables e below (s₁.setTop (mkF m 9 #[.val (.ref r0), .val (.double d1), .second, .val (.int (0 : Int32))] [(.ref r0)])) _
    refine XS.iloadN X0.here hx rfl (hb hby d1_9) rfl ?_
    show Steps p.tables e below (s₁.setTop (mkF m 10 #[.val (.ref r0), .val (.double d1), .second, .val (.int (0 : Int32))] [(.int (0 : Int32)), (.ref r0)])) _
    obtain ⟨cl_2, Ar_2, q_2, S_2, N_2, H_2, G_2⟩ := id Va
    have hin_2 : ¬ ((0 : Int32) < 0 ∨ cl_2.slots.size ≤ ((0 : Int32)).toNatClampNeg) := inb_of S_2 ⟨by decide, by decide⟩
    refine X0.daload hx (j := (0 : Int32)) (v := (.double v0)) (by rw [e0]; exact Ar_2.1) (State.isArrayOf_alike hZ.alike Ar_2.2.1) Ar_2.2.2 hin_2 (Has.at H_2 hin_2 rfl) (g := (mkF m 10 #[.val (.ref r0), .val (.double d1), .second, .val (.int (0 : Int32))] [(.int (0 : Int32)), (.ref r0)])) rfl rfl (hb hby d1_10) _ ?_
    show Steps p.tables e below (s₁.setTop (mkF m 11 #[.val (.ref r0), .val (.double d1), .second, .val (.int (0 : Int32))] [(.double v0)])) _
    refine XS.dloadN X0.here hx rfl (hb hby d1_11) rfl ?_
    show Steps p.tables e below (s₁.setTop (mkF m 12 #[.val (.ref r0), .val (.double d1), .second, .val (.int (0 : Int32))] [(.double d1), (.double v0)])) _
    refine XS.dcmpS X0.here hx rfl (hb hby d1_12) rfl rfl ?_
    exact k
  by_cases hc13_1 : (0 : Int32) < (cmpValue (FP.dcmp v0 d1) .l)
  · have k6 : ∀ t, Steps p.tables e below (s₁.setTop (mkF m 13 #[.val (.ref r0), .val (.double d1), .second, .val (.int (1 : Int32))] [(.int (cmpValue (FP.dcmp v1 d1) .l))])) t → Steps p.tables e below (s₁.setTop (entryFrame m #[(.ref r0), (.double d1)] 4)) t := by
      intro t k
      refine k3 _ ?_
      show Steps p.tables e below (s₁.setTop (mkF m 13 #[.val (.ref r0), .val (.double d1), .second, .val (.int (0 : Int32))] [(.int (cmpValue (FP.dcmp v0 d1) .l))])) _
      refine XS.ifNo X0.here hx rfl (hb hby d1_13) rfl ((if0 _ _).trans (tlt hc13_1).2.2.2) ?_
      show Steps p.tables e below (s₁.setTop (mkF m 16 #[.val (.ref r0), .val (.double d1), .second, .val (.int (0 : Int32))] [])) _
      refine XS.iinc X0.here hx rfl (hb hby d1_16) rfl (l' := #[.val (.ref r0), .val (.double d1), .second, .val (.int (1 : Int32))]) rfl ?_
      show Steps p.tables e below (s₁.setTop (mkF m 19 #[.val (.ref r0), .val (.double d1), .second, .val (.int (1 : Int32))] [])) _
      refine XS.goto X0.here hx rfl (pc0 := 19) (pc' := 2) rfl (hb hby d1_19) (by decide) (by decide) ?_
      show Steps p.tables e below (s₁.setTop (mkF m 2 #[.val (.ref r0), .val (.double d1), .second, .val (.int (1 : Int32))] [])) _
      refine XS.iloadN X0.here hx rfl (hb hby d1_2) rfl ?_
      show Steps p.tables e below (s₁.setTop (mkF m 3 #[.val (.ref r0), .val (.double d1), .second, .val (.int (1 : Int32))] [(.int (1 : Int32))])) _
      refine XS.aloadN X0.here hx rfl (hb hby d1_3) rfl rfl ?_
      show Steps p.tables e below (s₁.setTop (mkF m 4 #[.val (.ref r0), .val (.double d1), .second, .val (.int (1 : Int32))] [(.ref r0), (.int (1 : Int32))])) _
      obtain ⟨cl_4, Ar_4, -, S_4, N_4, -, -⟩ := id Va
      refine X0.arraylength hx (by rw [e0]; exact Ar_4.1) (State.isArrayOf_alike hZ.alike Ar_4.2.1) (g := (mkF m 4 #[.val (.ref r0), .val (.double d1), .second, .val (.int (1 : Int32))] [(.ref r0), (.int (1 : Int32))])) rfl rfl (hb hby d1_4) _ ?_
      rw [len_of S_4 N_4]
      show Steps p.tables e below (s₁.setTop (mkF m 5 #[.val (.ref r0), .val (.double d1), .second, .val (.int (1 : Int32))] [(.int (3 : Int32)), (.int (1 : Int32))])) _
      refine XS.icmpNo X0.here hx rfl (hb hby d1_5) rfl (tlt (by decide)).2.1 ?_
      show Steps p.tables e below (s₁.setTop (mkF m 8 #[.val (.ref r0), .val (.double d1), .second, .val (.int (1 : Int32))] [])) _
      refine XS.aloadN X0.here hx rfl (hb hby d1_8) rfl rfl ?_
      show Steps p.tables e below (s₁.setTop (mkF m 9 #[.val (.ref r0), .val (.double d1), .second, .val (.int (1 : Int32))] [(.ref r0)])) _
      refine XS.iloadN X0.here hx rfl (hb hby d1_9) rfl ?_
      show Steps p.tables e below (s₁.setTop (mkF m 10 #[.val (.ref r0), .val (.double d1), .second, .val (.int (1 : Int32))] [(.int (1 : Int32)), (.ref r0)])) _
      obtain ⟨cl_5, Ar_5, q_5, S_5, N_5, H_5, G_5⟩ := id Va
      have hin_5 : ¬ ((1 : Int32) < 0 ∨ cl_5.slots.size ≤ ((1 : Int32)).toNatClampNeg) := inb_of S_5 ⟨by decide, by decide⟩
      refine X0.daload hx (j := (1 : Int32)) (v := (.double v1)) (by rw [e0]; exact Ar_5.1) (State.isArrayOf_alike hZ.alike Ar_5.2.1) Ar_5.2.2 hin_5 (Has.at H_5 hin_5 rfl) (g := (mkF m 10 #[.val (.ref r0), .val (.double d1), .second, .val (.int (1 : Int32))] [(.int (1 : Int32)), (.ref r0)])) rfl rfl (hb hby d1_10) _ ?_
      show Steps p.tables e below (s₁.setTop (mkF m 11 #[.val (.ref r0), .val (.double d1), .second, .val (.int (1 : Int32))] [(.double v1)])) _
      refine XS.dloadN X0.here hx rfl (hb hby d1_11) rfl ?_
      show Steps p.tables e below (s₁.setTop (mkF m 12 #[.val (.ref r0), .val (.double d1), .second, .val (.int (1 : Int32))] [(.double d1), (.double v1)])) _
      refine XS.dcmpS X0.here hx rfl (hb hby d1_12) rfl rfl ?_
      exact k
    by_cases hc13_2 : (0 : Int32) < (cmpValue (FP.dcmp v1 d1) .l)
    · have k9 : ∀ t, Steps p.tables e below (s₁.setTop (mkF m 13 #[.val (.ref r0), .val (.double d1), .second, .val (.int (2 : Int32))] [(.int (cmpValue (FP.dcmp v2 d1) .l))])) t → Steps p.tables e below (s₁.setTop (entryFrame m #[(.ref r0), (.double d1)] 4)) t := by
        intro t k
        refine k6 _ ?_
        show Steps p.tables e below (s₁.setTop (mkF m 13 #[.val (.ref r0), .val (.double d1), .second, .val (.int (1 : Int32))] [(.int (cmpValue (FP.dcmp v1 d1) .l))])) _
        refine XS.ifNo X0.here hx rfl (hb hby d1_13) rfl ((if0 _ _).trans (tlt hc13_2).2.2.2) ?_
        show Steps p.tables e below (s₁.setTop (mkF m 16 #[.val (.ref r0), .val (.double d1), .second, .val (.int (1 : Int32))] [])) _
        refine XS.iinc X0.here hx rfl (hb hby d1_16) rfl (l' := #[.val (.ref r0), .val (.double d1), .second, .val (.int (2 : Int32))]) rfl ?_
        show Steps p.tables e below (s₁.setTop (mkF m 19 #[.val (.ref r0), .val (.double d1), .second, .val (.int (2 : Int32))] [])) _
        refine XS.goto X0.here hx rfl (pc0 := 19) (pc' := 2) rfl (hb hby d1_19) (by decide) (by decide) ?_
        show Steps p.tables e below (s₁.setTop (mkF m 2 #[.val (.ref r0), .val (.double d1), .second, .val (.int (2 : Int32))] [])) _
        refine XS.iloadN X0.here hx rfl (hb hby d1_2) rfl ?_
        show Steps p.tables e below (s₁.setTop (mkF m 3 #[.val (.ref r0), .val (.double d1), .second, .val (.int (2 : Int32))] [(.int (2 : Int32))])) _
        refine XS.aloadN X0.here hx rfl (hb hby d1_3) rfl rfl ?_
        show Steps p.tables e below (s₁.setTop (mkF m 4 #[.val (.ref r0), .val (.double d1), .second, .val (.int (2 : Int32))] [(.ref r0), (.int (2 : Int32))])) _
        obtain ⟨cl_7, Ar_7, -, S_7, N_7, -, -⟩ := id Va
        refine X0.arraylength hx (by rw [e0]; exact Ar_7.1) (State.isArrayOf_alike hZ.alike Ar_7.2.1) (g := (mkF m 4 #[.val (.ref r0), .val (.double d1), .second, .val (.int (2 : Int32))] [(.ref r0), (.int (2 : Int32))])) rfl rfl (hb hby d1_4) _ ?_
        rw [len_of S_7 N_7]
        show Steps p.tables e below (s₁.setTop (mkF m 5 #[.val (.ref r0), .val (.double d1), .second, .val (.int (2 : Int32))] [(.int (3 : Int32)), (.int (2 : Int32))])) _
        refine XS.icmpNo X0.here hx rfl (hb hby d1_5) rfl (tlt (by decide)).2.1 ?_
        show Steps p.tables e below (s₁.setTop (mkF m 8 #[.val (.ref r0), .val (.double d1), .second, .val (.int (2 : Int32))] [])) _
        refine XS.aloadN X0.here hx rfl (hb hby d1_8) rfl rfl ?_
        show Steps p.tables e below (s₁.setTop (mkF m 9 #[.val (.ref r0), .val (.double d1), .second, .val (.int (2 : Int32))] [(.ref r0)])) _
        refine XS.iloadN X0.here hx rfl (hb hby d1_9) rfl ?_
        show Steps p.tables e below (s₁.setTop (mkF m 10 #[.val (.ref r0), .val (.double d1), .second, .val (.int (2 : Int32))] [(.int (2 : Int32)), (.ref r0)])) _
        obtain ⟨cl_8, Ar_8, q_8, S_8, N_8, H_8, G_8⟩ := id Va
        have hin_8 : ¬ ((2 : Int32) < 0 ∨ cl_8.slots.size ≤ ((2 : Int32)).toNatClampNeg) := inb_of S_8 ⟨by decide, by decide⟩
        refine X0.daload hx (j := (2 : Int32)) (v := (.double v2)) (by rw [e0]; exact Ar_8.1) (State.isArrayOf_alike hZ.alike Ar_8.2.1) Ar_8.2.2 hin_8 (Has.at H_8 hin_8 rfl) (g := (mkF m 10 #[.val (.ref r0), .val (.double d1), .second, .val (.int (2 : Int32))] [(.int (2 : Int32)), (.ref r0)])) rfl rfl (hb hby d1_10) _ ?_
        show Steps p.tables e below (s₁.setTop (mkF m 11 #[.val (.ref r0), .val (.double d1), .second, .val (.int (2 : Int32))] [(.double v2)])) _
        refine XS.dloadN X0.here hx rfl (hb hby d1_11) rfl ?_
        show Steps p.tables e below (s₁.setTop (mkF m 12 #[.val (.ref r0), .val (.double d1), .second, .val (.int (2 : Int32))] [(.double d1), (.double v2)])) _
        refine XS.dcmpS X0.here hx rfl (hb hby d1_12) rfl rfl ?_
        exact k
      by_cases hc13_3 : (0 : Int32) < (cmpValue (FP.dcmp v2 d1) .l)
      · have k12 : ∀ t, Steps p.tables e below (s₁.setTop (mkF m 33 #[.val (.ref r0), .val (.double d1), .second, .val (.int (3 : Int32))] [(.int (-1 : Int32))])) t → Steps p.tables e below (s₁.setTop (entryFrame m #[(.ref r0), (.double d1)] 4)) t := by
          intro t k
          refine k9 _ ?_
          show Steps p.tables e below (s₁.setTop (mkF m 13 #[.val (.ref r0), .val (.double d1), .second, .val (.int (2 : Int32))] [(.int (cmpValue (FP.dcmp v2 d1) .l))])) _
          refine XS.ifNo X0.here hx rfl (hb hby d1_13) rfl ((if0 _ _).trans (tlt hc13_3).2.2.2) ?_
          show Steps p.tables e below (s₁.setTop (mkF m 16 #[.val (.ref r0), .val (.double d1), .second, .val (.int (2 : Int32))] [])) _
          refine XS.iinc X0.here hx rfl (hb hby d1_16) rfl (l' := #[.val (.ref r0), .val (.double d1), .second, .val (.int (3 : Int32))]) rfl ?_
          show Steps p.tables e below (s₁.setTop (mkF m 19 #[.val (.ref r0), .val (.double d1), .second, .val (.int (3 : Int32))] [])) _
          refine XS.goto X0.here hx rfl (pc0 := 19) (pc' := 2) rfl (hb hby d1_19) (by decide) (by decide) ?_
          show Steps p.tables e below (s₁.setTop (mkF m 2 #[.val (.ref r0), .val (.double d1), .second, .val (.int (3 : Int32))] [])) _
          refine XS.iloadN X0.here hx rfl (hb hby d1_2) rfl ?_
          show Steps p.tables e below (s₁.setTop (mkF m 3 #[.val (.ref r0), .val (.double d1), .second, .val (.int (3 : Int32))] [(.int (3 : Int32))])) _
          refine XS.aloadN X0.here hx rfl (hb hby d1_3) rfl rfl ?_
          show Steps p.tables e below (s₁.setTop (mkF m 4 #[.val (.ref r0), .val (.double d1), .second, .val (.int (3 : Int32))] [(.ref r0), (.int (3 : Int32))])) _
          obtain ⟨cl_10, Ar_10, -, S_10, N_10, -, -⟩ := id Va
          refine X0.arraylength hx (by rw [e0]; exact Ar_10.1) (State.isArrayOf_alike hZ.alike Ar_10.2.1) (g := (mkF m 4 #[.val (.ref r0), .val (.double d1), .second, .val (.int (3 : Int32))] [(.ref r0), (.int (3 : Int32))])) rfl rfl (hb hby d1_4) _ ?_
          rw [len_of S_10 N_10]
          show Steps p.tables e below (s₁.setTop (mkF m 5 #[.val (.ref r0), .val (.double d1), .second, .val (.int (3 : Int32))] [(.int (3 : Int32)), (.int (3 : Int32))])) _
          refine XS.icmpYes X0.here hx rfl (pc0 := 5) (pc' := 22) rfl (hb hby d1_5) rfl (flt (by decide)).2.1 (by decide) (by decide) ?_
          show Steps p.tables e below (s₁.setTop (mkF m 22 #[.val (.ref r0), .val (.double d1), .second, .val (.int (3 : Int32))] [])) _
          refine XS.iloadN X0.here hx rfl (hb hby d1_22) rfl ?_
          show Steps p.tables e below (s₁.setTop (mkF m 23 #[.val (.ref r0), .val (.double d1), .second, .val (.int (3 : Int32))] [(.int (3 : Int32))])) _
          refine XS.aloadN X0.here hx rfl (hb hby d1_23) rfl rfl ?_
          show Steps p.tables e below (s₁.setTop (mkF m 24 #[.val (.ref r0), .val (.double d1), .second, .val (.int (3 : Int32))] [(.ref r0), (.int (3 : Int32))])) _
          obtain ⟨cl_11, Ar_11, -, S_11, N_11, -, -⟩ := id Va
          refine X0.arraylength hx (by rw [e0]; exact Ar_11.1) (State.isArrayOf_alike hZ.alike Ar_11.2.1) (g := (mkF m 24 #[.val (.ref r0), .val (.double d1), .second, .val (.int (3 : Int32))] [(.ref r0), (.int (3 : Int32))])) rfl rfl (hb hby d1_24) _ ?_
          rw [len_of S_11 N_11]
          show Steps p.tables e below (s₁.setTop (mkF m 25 #[.val (.ref r0), .val (.double d1), .second, .val (.int (3 : Int32))] [(.int (3 : Int32)), (.int (3 : Int32))])) _
          refine XS.icmpYes X0.here hx rfl (pc0 := 25) (pc' := 32) rfl (hb hby d1_25) rfl (flt (by decide)).2.1 (by decide) (by decide) ?_
          show Steps p.tables e below (s₁.setTop (mkF m 32 #[.val (.ref r0), .val (.double d1), .second, .val (.int (3 : Int32))] [])) _
          refine XS.iconst X0.here hx rfl (hb hby d1_32) ?_
          exact k
        obtain ⟨fs, hr, hrun, hended, hW, hsame⟩ := X0.leave (v := some (.int (-1 : Int32))) (fun h => by rw [Bd.returns] at h; cases h)
        refine ⟨_, _, k12 _ ?_, hrun, hended, _, _, rfl, ?_, ⟨_, rfl⟩, hW, hsame.mono (by decide) (by decide)⟩
        · exact retOut X0 hx Bd.returns rfl (Or.inl ⟨rfl, Or.inl rfl, _, rfl⟩) (hb hby d1_33) hr
        · show own_Q (some (.int (own_low3 d1 v0 v1 v2))) h0 n0 _ s₁.heap _
          rw [e0]
          exact ⟨by simp only [own_low3, if_pos hc13_1, if_pos hc13_2, if_pos hc13_3], N0, rfl⟩
      · have k14 : ∀ t, Steps p.tables e below (s₁.setTop (mkF m 33 #[.val (.ref r0), .val (.double d1), .second, .val (.int (2 : Int32))] [(.int (2 : Int32))])) t → Steps p.tables e below (s₁.setTop (entryFrame m #[(.ref r0), (.double d1)] 4)) t := by
          intro t k
          refine k9 _ ?_
          show Steps p.tables e below (s₁.setTop (mkF m 13 #[.val (.ref r0), .val (.double d1), .second, .val (.int (2 : Int32))] [(.int (cmpValue (FP.dcmp v2 d1) .l))])) _
          refine XS.ifYes X0.here hx rfl (pc0 := 13) (pc' := 22) rfl (hb hby d1_13) rfl ((if0 _ _).trans (flt hc13_3).2.2.2) (by decide) (by decide) ?_
          show Steps p.tables e below (s₁.setTop (mkF m 22 #[.val (.ref r0), .val (.double d1), .second, .val (.int (2 : Int32))] [])) _
          refine XS.iloadN X0.here hx rfl (hb hby d1_22) rfl ?_
          show Steps p.tables e below (s₁.setTop (mkF m 23 #[.val (.ref r0), .val (.double d1), .second, .val (.int (2 : Int32))] [(.int (2 : Int32))])) _
          refine XS.aloadN X0.here hx rfl (hb hby d1_23) rfl rfl ?_
          show Steps p.tables e below (s₁.setTop (mkF m 24 #[.val (.ref r0), .val (.double d1), .second, .val (.int (2 : Int32))] [(.ref r0), (.int (2 : Int32))])) _
          obtain ⟨cl_13, Ar_13, -, S_13, N_13, -, -⟩ := id Va
          refine X0.arraylength hx (by rw [e0]; exact Ar_13.1) (State.isArrayOf_alike hZ.alike Ar_13.2.1) (g := (mkF m 24 #[.val (.ref r0), .val (.double d1), .second, .val (.int (2 : Int32))] [(.ref r0), (.int (2 : Int32))])) rfl rfl (hb hby d1_24) _ ?_
          rw [len_of S_13 N_13]
          show Steps p.tables e below (s₁.setTop (mkF m 25 #[.val (.ref r0), .val (.double d1), .second, .val (.int (2 : Int32))] [(.int (3 : Int32)), (.int (2 : Int32))])) _
          refine XS.icmpNo X0.here hx rfl (hb hby d1_25) rfl (tlt (by decide)).2.1 ?_
          show Steps p.tables e below (s₁.setTop (mkF m 28 #[.val (.ref r0), .val (.double d1), .second, .val (.int (2 : Int32))] [])) _
          refine XS.iloadN X0.here hx rfl (hb hby d1_28) rfl ?_
          show Steps p.tables e below (s₁.setTop (mkF m 29 #[.val (.ref r0), .val (.double d1), .second, .val (.int (2 : Int32))] [(.int (2 : Int32))])) _
          refine XS.goto X0.here hx rfl (pc0 := 29) (pc' := 33) rfl (hb hby d1_29) (by decide) (by decide) ?_
          exact k
        obtain ⟨fs, hr, hrun, hended, hW, hsame⟩ := X0.leave (v := some (.int (2 : Int32))) (fun h => by rw [Bd.returns] at h; cases h)
        refine ⟨_, _, k14 _ ?_, hrun, hended, _, _, rfl, ?_, ⟨_, rfl⟩, hW, hsame.mono (by decide) (by decide)⟩
        · exact retOut X0 hx Bd.returns rfl (Or.inl ⟨rfl, Or.inl rfl, _, rfl⟩) (hb hby d1_33) hr
        · show own_Q (some (.int (own_low3 d1 v0 v1 v2))) h0 n0 _ s₁.heap _
          rw [e0]
          exact ⟨by simp only [own_low3, if_pos hc13_1, if_pos hc13_2, if_neg hc13_3], N0, rfl⟩
    · have k16 : ∀ t, Steps p.tables e below (s₁.setTop (mkF m 33 #[.val (.ref r0), .val (.double d1), .second, .val (.int (1 : Int32))] [(.int (1 : Int32))])) t → Steps p.tables e below (s₁.setTop (entryFrame m #[(.ref r0), (.double d1)] 4)) t := by
        intro t k
        refine k6 _ ?_
        show Steps p.tables e below (s₁.setTop (mkF m 13 #[.val (.ref r0), .val (.double d1), .second, .val (.int (1 : Int32))] [(.int (cmpValue (FP.dcmp v1 d1) .l))])) _
        refine XS.ifYes X0.here hx rfl (pc0 := 13) (pc' := 22) rfl (hb hby d1_13) rfl ((if0 _ _).trans (flt hc13_2).2.2.2) (by decide) (by decide) ?_
        show Steps p.tables e below (s₁.setTop (mkF m 22 #[.val (.ref r0), .val (.double d1), .second, .val (.int (1 : Int32))] [])) _
        refine XS.iloadN X0.here hx rfl (hb hby d1_22) rfl ?_
        show Steps p.tables e below (s₁.setTop (mkF m 23 #[.val (.ref r0), .val (.double d1), .second, .val (.int (1 : Int32))] [(.int (1 : Int32))])) _
        refine XS.aloadN X0.here hx rfl (hb hby d1_23) rfl rfl ?_
        show Steps p.tables e below (s₁.setTop (mkF m 24 #[.val (.ref r0), .val (.double d1), .second, .val (.int (1 : Int32))] [(.ref r0), (.int (1 : Int32))])) _
        obtain ⟨cl_15, Ar_15, -, S_15, N_15, -, -⟩ := id Va
        refine X0.arraylength hx (by rw [e0]; exact Ar_15.1) (State.isArrayOf_alike hZ.alike Ar_15.2.1) (g := (mkF m 24 #[.val (.ref r0), .val (.double d1), .second, .val (.int (1 : Int32))] [(.ref r0), (.int (1 : Int32))])) rfl rfl (hb hby d1_24) _ ?_
        rw [len_of S_15 N_15]
        show Steps p.tables e below (s₁.setTop (mkF m 25 #[.val (.ref r0), .val (.double d1), .second, .val (.int (1 : Int32))] [(.int (3 : Int32)), (.int (1 : Int32))])) _
        refine XS.icmpNo X0.here hx rfl (hb hby d1_25) rfl (tlt (by decide)).2.1 ?_
        show Steps p.tables e below (s₁.setTop (mkF m 28 #[.val (.ref r0), .val (.double d1), .second, .val (.int (1 : Int32))] [])) _
        refine XS.iloadN X0.here hx rfl (hb hby d1_28) rfl ?_
        show Steps p.tables e below (s₁.setTop (mkF m 29 #[.val (.ref r0), .val (.double d1), .second, .val (.int (1 : Int32))] [(.int (1 : Int32))])) _
        refine XS.goto X0.here hx rfl (pc0 := 29) (pc' := 33) rfl (hb hby d1_29) (by decide) (by decide) ?_
        exact k
      obtain ⟨fs, hr, hrun, hended, hW, hsame⟩ := X0.leave (v := some (.int (1 : Int32))) (fun h => by rw [Bd.returns] at h; cases h)
      refine ⟨_, _, k16 _ ?_, hrun, hended, _, _, rfl, ?_, ⟨_, rfl⟩, hW, hsame.mono (by decide) (by decide)⟩
      · exact retOut X0 hx Bd.returns rfl (Or.inl ⟨rfl, Or.inl rfl, _, rfl⟩) (hb hby d1_33) hr
      · show own_Q (some (.int (own_low3 d1 v0 v1 v2))) h0 n0 _ s₁.heap _
        rw [e0]
        exact ⟨by simp only [own_low3, if_pos hc13_1, if_neg hc13_2], N0, rfl⟩
  · have k18 : ∀ t, Steps p.tables e below (s₁.setTop (mkF m 33 #[.val (.ref r0), .val (.double d1), .second, .val (.int (0 : Int32))] [(.int (0 : Int32))])) t → Steps p.tables e below (s₁.setTop (entryFrame m #[(.ref r0), (.double d1)] 4)) t := by
      intro t k
      refine k3 _ ?_
      show Steps p.tables e below (s₁.setTop (mkF m 13 #[.val (.ref r0), .val (.double d1), .second, .val (.int (0 : Int32))] [(.int (cmpValue (FP.dcmp v0 d1) .l))])) _
      refine XS.ifYes X0.here hx rfl (pc0 := 13) (pc' := 22) rfl (hb hby d1_13) rfl ((if0 _ _).trans (flt hc13_1).2.2.2) (by decide) (by decide) ?_
      show Steps p.tables e below (s₁.setTop (mkF m 22 #[.val (.ref r0), .val (.double d1), .second, .val (.int (0 : Int32))] [])) _
      refine XS.iloadN X0.here hx rfl (hb hby d1_22) rfl ?_
      show Steps p.tables e below (s₁.setTop (mkF m 23 #[.val (.ref r0), .val (.double d1), .second, .val (.int (0 : Int32))] [(.int (0 : Int32))])) _
      refine XS.aloadN X0.here hx rfl (hb hby d1_23) rfl rfl ?_
      show Steps p.tables e below (s₁.setTop (mkF m 24 #[.val (.ref r0), .val (.double d1), .second, .val (.int (0 : Int32))] [(.ref r0), (.int (0 : Int32))])) _
      obtain ⟨cl_17, Ar_17, -, S_17, N_17, -, -⟩ := id Va
      refine X0.arraylength hx (by rw [e0]; exact Ar_17.1) (State.isArrayOf_alike hZ.alike Ar_17.2.1) (g := (mkF m 24 #[.val (.ref r0), .val (.double d1), .second, .val (.int (0 : Int32))] [(.ref r0), (.int (0 : Int32))])) rfl rfl (hb hby d1_24) _ ?_
      rw [len_of S_17 N_17]
      show Steps p.tables e below (s₁.setTop (mkF m 25 #[.val (.ref r0), .val (.double d1), .second, .val (.int (0 : Int32))] [(.int (3 : Int32)), (.int (0 : Int32))])) _
      refine XS.icmpNo X0.here hx rfl (hb hby d1_25) rfl (tlt (by decide)).2.1 ?_
      show Steps p.tables e below (s₁.setTop (mkF m 28 #[.val (.ref r0), .val (.double d1), .second, .val (.int (0 : Int32))] [])) _
      refine XS.iloadN X0.here hx rfl (hb hby d1_28) rfl ?_
      show Steps p.tables e below (s₁.setTop (mkF m 29 #[.val (.ref r0), .val (.double d1), .second, .val (.int (0 : Int32))] [(.int (0 : Int32))])) _
      refine XS.goto X0.here hx rfl (pc0 := 29) (pc' := 33) rfl (hb hby d1_29) (by decide) (by decide) ?_
      exact k
    obtain ⟨fs, hr, hrun, hended, hW, hsame⟩ := X0.leave (v := some (.int (0 : Int32))) (fun h => by rw [Bd.returns] at h; cases h)
    refine ⟨_, _, k18 _ ?_, hrun, hended, _, _, rfl, ?_, ⟨_, rfl⟩, hW, hsame.mono (by decide) (by decide)⟩
    · exact retOut X0 hx Bd.returns rfl (Or.inl ⟨rfl, Or.inl rfl, _, rfl⟩) (hb hby d1_33) hr
    · show own_Q (some (.int (own_low3 d1 v0 v1 v2))) h0 n0 _ s₁.heap _
      rw [e0]
      exact ⟨by simp only [own_low3, if_neg hc13_1], N0, rfl⟩
theorem ef_rmL4 (m : MethodId) (x0 : Addr) (x1 : UInt64) : entryFrame m #[(.ref x0), (.double x1)] 4 = mkF m 0 #[.val (.ref x0), .val (.double x1), .second, .unset] [] := by first | (simp [entryFrame, mkF, argsToLocals, Value.category]; done) | rfl
def own_low4 (d1 : UInt64) (v0 v1 v2 v3 : UInt64) : Int32 := (if (0 : Int32) < (cmpValue (FP.dcmp v0 d1) .l) then (if (0 : Int32) < (cmpValue (FP.dcmp v1 d1) .l) then (if (0 : Int32) < (cmpValue (FP.dcmp v2 d1) .l) then (if (0 : Int32) < (cmpValue (FP.dcmp v3 d1) .l) then (-1 : Int32) else (3 : Int32)) else (2 : Int32)) else (1 : Int32)) else (0 : Int32))
set_option maxRecDepth 65536 in
set_option maxHeartbeats 40000000 in
theorem rmL4 (l : Launch) (Z : State) (a0 : Array Value) (hw : ∀ d ∈ tables_1, d.before a0 Z = true) (ws : List Jvm.Cond) (r0 : Addr) (d1 : UInt64) (ck : ClassId) (v0 v1 v2 v3 : UInt64) (h0 : Heap) (n0 : Nat) (Va : Arv Z h0 r0 ck .double (4 : Int32) [(.double v0), (.double v1), (.double v2), (.double v3)] (.double (0 : UInt64))) :
    MetFree l (⟨"com/example/interlace/interlace/method/Ties", "lowestWithin", "([DD)I"⟩ : MethodName) (head1 (Jvm.Cond.code (⟨"com/example/interlace/interlace/method/Ties", "lowestWithin", "([DD)I"⟩ : MethodName) prog_57_method_6_code 4 (some .int) :: ws) ({ frames := 0, cells := 0, slots := 0, locals := 0 } : Room)) (fun a U => a = #[(.ref r0), (.double d1)] ∧ Z.Warmed39 U.vm ∧ U.heap = h0) (fun _ _ _ _ _ => True) (fun _ U o U' => ∃ v L, o = .returned v ∧ own_Q (some (.int (own_low4 d1 v0 v1 v2 v3))) h0 n0 v U'.heap L ∧ FrameEnd U o U' L ({ frames := 0, cells := 0, slots := 0, locals := 0 } : Room).cells ({ frames := 0, cells := 0, slots := 0, locals := 0 } : Room).slots) := by
  refine MetFree.of_bodySF (plainFor_of_name pn_0) hisR ?_
  intro p e s m args below meth c s₁ Bd hml0 hP hK
  obtain ⟨rfl, hZ, hh⟩ := hP
  have hx := Bd.exec
  have hby := Bd.bytes
  have hml : c.maxLocals = 4 := hml0
  have hown : s.vm.findClass "com/example/interlace/interlace/method/Ties" = some m.cls := findClass_of_methodNamed Bd.named
  have hnm := (name_of_methodNamed Bd.named Bd.method).1
  have X0 : Stand p l e ({ frames := 0, cells := 0, slots := 0, locals := 0 } : Room) s m #[(.ref r0), (.double d1)] below meth c s₁ [] 0 0 := Stand.of_body Bd
  have e0 : s₁.heap = h0 := by rw [← hh, Bd.state]; rfl
  have N0 := Fr.nil n0
  have pre0 : ∀ t, Steps p.tables e below (s₁.setTop (mkF m 0 #[.val (.ref r0), .val (.double d1), .second, .unset] [])) t → Steps p.tables e below (s₁.setTop (entryFrame m #[(.ref r0), (.double d1)] 4)) t := fun t k => castTop (ef_rmL4 m r0 d1) k
  have k3 : ∀ t, Steps p.tables e below (s₁.setTop (mkF m 13 #[.val (.ref r0), .val (.double d1), .second, .val (.int (0 : Int32))] [(.int (cmpValue (FP.dcmp v0 d1) .l))])) t → Steps p.tables e below (s₁.setTop (entryFrame m #[(.ref r0), (.double d1)] 4)) t := by
    intro t k
    refine pre0 _ ?_
    show Steps p.tables e below (s₁.setTop (mkF m 0 #[.val (.ref r0), .val (.double d1), .second, .unset] [])) _
    refine XS.iconst X0.here hx rfl (hb hby d1_0) ?_
    show Steps p.tables e below (s₁.setTop (mkF m 1 #[.val (.ref r0), .val (.double d1), .second, .unset] [(.int (0 : Int32))])) _
    refine XS.istoreN X0.here hx rfl (hb hby d1_1) rfl (l' := #[.val (.ref r0), .val (.double d1), .second, .val (.int (0 : Int32))]) rfl ?_
    show Steps p.tables e below (s₁.setTop (mkF m 2 #[.val (.ref r0), .val (.double d1), .second, .val (.int (0 : Int32))] [])) _
    refine XS.iloadN X0.here hx rfl (hb hby d1_2) rfl ?_
    show Steps p.tables e below (s₁.setTop (mkF m 3 #[.val (.ref r0), .val (.double d1), .second, .val (.int (0 : Int32))] [(.int (0 : Int32))])) _
    refine XS.aloadN X0.here hx rfl (hb hby d1_3) rfl rfl ?_
    show Steps p.tables e below (s₁.setTop (mkF m 4 #[.val (.ref r0), .val (.double d1), .second, .val (.int (0 : Int32))] [(.ref r0), (.int (0 : Int32))])) _
    obtain ⟨cl_1, Ar_1, -, S_1, N_1, -, -⟩ := id Va
    refine X0.arraylength hx (by rw [e0]; exact Ar_1.1) (State.isArrayOf_alike hZ.alike Ar_1.2.1) (g := (mkF m 4 #[.val (.ref r0), .val (.double d1), .second, .val (.int (0 : Int32))] [(.ref r0), (.int (0 : Int32))])) rfl rfl (hb hby d1_4) _ ?_
    rw [len_of S_1 N_1]
    show Steps p.tables e below (s₁.setTop (mkF m 5 #[.val (.ref r0), .val (.double d1), .second, .val (.int (0 : Int32))] [(.int (4 : Int32)), (.int (0 : Int32))])) _
    refine XS.icmpNo X0.here hx rfl (hb hby d1_5) rfl (tlt (by decide)).2.1 ?_
    show Steps p.tables e below (s₁.setTop (mkF m 8 #[.val (.ref r0), .val (.double d1), .second, .val (.int (0 : Int32))] [])) _
    refine XS.aloadN X0.here hx rfl (hb hby d1_8) rfl rfl ?_
    show Steps p.tables e below (s₁.setTop (mkF m 9 #[.val (.ref r0), .val (.double d1), .second, .val (.int (0 : Int32))] [(.ref r0)])) _
    refine XS.iloadN X0.here hx rfl (hb hby d1_9) rfl ?_
    show Steps p.tables e below (s₁.setTop (mkF m 10 #[.val (.ref r0), .val (.double d1), .second, .val (.int (0 : Int32))] [(.int (0 : Int32)), (.ref r0)])) _
    obtain ⟨cl_2, Ar_2, q_2, S_2, N_2, H_2, G_2⟩ := id Va
    have hin_2 : ¬ ((0 : Int32) < 0 ∨ cl_2.slots.size ≤ ((0 : Int32)).toNatClampNeg) := inb_of S_2 ⟨by decide, by decide⟩
    refine X0.daload hx (j := (0 : Int32)) (v := (.double v0)) (by rw [e0]; exact Ar_2.1) (State.isArrayOf_alike hZ.alike Ar_2.2.1) Ar_2.2.2 hin_2 (Has.at H_2 hin_2 rfl) (g := (mkF m 10 #[.val (.ref r0), .val (.double d1), .second, .val (.int (0 : Int32))] [(.int (0 : Int32)), (.ref r0)])) rfl rfl (hb hby d1_10) _ ?_
    show Steps p.tables e below (s₁.setTop (mkF m 11 #[.val (.ref r0), .val (.double d1), .second, .val (.int (0 : Int32))] [(.double v0)])) _
    refine XS.dloadN X0.here hx rfl (hb hby d1_11) rfl ?_
    show Steps p.tables e below (s₁.setTop (mkF m 12 #[.val (.ref r0), .val (.double d1), .second, .val (.int (0 : Int32))] [(.double d1), (.double v0)])) _
    refine XS.dcmpS X0.here hx rfl (hb hby d1_12) rfl rfl ?_
    exact k
  by_cases hc13_1 : (0 : Int32) < (cmpValue (FP.dcmp v0 d1) .l)
  · have k6 : ∀ t, Steps p.tables e below (s₁.setTop (mkF m 13 #[.val (.ref r0), .val (.double d1), .second, .val (.int (1 : Int32))] [(.int (cmpValue (FP.dcmp v1 d1) .l))])) t → Steps p.tables e below (s₁.setTop (entryFrame m #[(.ref r0), (.double d1)] 4)) t := by
      intro t k
      refine k3 _ ?_
      show Steps p.tables e below (s₁.setTop (mkF m 13 #[.val (.ref r0), .val (.double d1), .second, .val (.int (0 : Int32))] [(.int (cmpValue (FP.dcmp v0 d1) .l))])) _
      refine XS.ifNo X0.here hx rfl (hb hby d1_13) rfl ((if0 _ _).trans (tlt hc13_1).2.2.2) ?_
      show Steps p.tables e below (s₁.setTop (mkF m 16 #[.val (.ref r0), .val (.double d1), .second, .val (.int (0 : Int32))] [])) _
      refine XS.iinc X0.here hx rfl (hb hby d1_16) rfl (l' := #[.val (.ref r0), .val (.double d1), .second, .val (.int (1 : Int32))]) rfl ?_
      show Steps p.tables e below (s₁.setTop (mkF m 19 #[.val (.ref r0), .val (.double d1), .second, .val (.int (1 : Int32))] [])) _
      refine XS.goto X0.here hx rfl (pc0 := 19) (pc' := 2) rfl (hb hby d1_19) (by decide) (by decide) ?_
      show Steps p.tables e below (s₁.setTop (mkF m 2 #[.val (.ref r0), .val (.double d1), .second, .val (.int (1 : Int32))] [])) _
      refine XS.iloadN X0.here hx rfl (hb hby d1_2) rfl ?_
      show Steps p.tables e below (s₁.setTop (mkF m 3 #[.val (.ref r0), .val (.double d1), .second, .val (.int (1 : Int32))] [(.int (1 : Int32))])) _
      refine XS.aloadN X0.here hx rfl (hb hby d1_3) rfl rfl ?_
      show Steps p.tables e below (s₁.setTop (mkF m 4 #[.val (.ref r0), .val (.double d1), .second, .val (.int (1 : Int32))] [(.ref r0), (.int (1 : Int32))])) _
      obtain ⟨cl_4, Ar_4, -, S_4, N_4, -, -⟩ := id Va
      refine X0.arraylength hx (by rw [e0]; exact Ar_4.1) (State.isArrayOf_alike hZ.alike Ar_4.2.1) (g := (mkF m 4 #[.val (.ref r0), .val (.double d1), .second, .val (.int (1 : Int32))] [(.ref r0), (.int (1 : Int32))])) rfl rfl (hb hby d1_4) _ ?_
      rw [len_of S_4 N_4]
      show Steps p.tables e below (s₁.setTop (mkF m 5 #[.val (.ref r0), .val (.double d1), .second, .val (.int (1 : Int32))] [(.int (4 : Int32)), (.int (1 : Int32))])) _
      refine XS.icmpNo X0.here hx rfl (hb hby d1_5) rfl (tlt (by decide)).2.1 ?_
      show Steps p.tables e below (s₁.setTop (mkF m 8 #[.val (.ref r0), .val (.double d1), .second, .val (.int (1 : Int32))] [])) _
      refine XS.aloadN X0.here hx rfl (hb hby d1_8) rfl rfl ?_
      show Steps p.tables e below (s₁.setTop (mkF m 9 #[.val (.ref r0), .val (.double d1), .second, .val (.int (1 : Int32))] [(.ref r0)])) _
      refine XS.iloadN X0.here hx rfl (hb hby d1_9) rfl ?_
      show Steps p.tables e below (s₁.setTop (mkF m 10 #[.val (.ref r0), .val (.double d1), .second, .val (.int (1 : Int32))] [(.int (1 : Int32)), (.ref r0)])) _
      obtain ⟨cl_5, Ar_5, q_5, S_5, N_5, H_5, G_5⟩ := id Va
      have hin_5 : ¬ ((1 : Int32) < 0 ∨ cl_5.slots.size ≤ ((1 : Int32)).toNatClampNeg) := inb_of S_5 ⟨by decide, by decide⟩
      refine X0.daload hx (j := (1 : Int32)) (v := (.double v1)) (by rw [e0]; exact Ar_5.1) (State.isArrayOf_alike hZ.alike Ar_5.2.1) Ar_5.2.2 hin_5 (Has.at H_5 hin_5 rfl) (g := (mkF m 10 #[.val (.ref r0), .val (.double d1), .second, .val (.int (1 : Int32))] [(.int (1 : Int32)), (.ref r0)])) rfl rfl (hb hby d1_10) _ ?_
      show Steps p.tables e below (s₁.setTop (mkF m 11 #[.val (.ref r0), .val (.double d1), .second, .val (.int (1 : Int32))] [(.double v1)])) _
      refine XS.dloadN X0.here hx rfl (hb hby d1_11) rfl ?_
      show Steps p.tables e below (s₁.setTop (mkF m 12 #[.val (.ref r0), .val (.double d1), .second, .val (.int (1 : Int32))] [(.double d1), (.double v1)])) _
      refine XS.dcmpS X0.here hx rfl (hb hby d1_12) rfl rfl ?_
      exact k
    by_cases hc13_2 : (0 : Int32) < (cmpValue (FP.dcmp v1 d1) .l)
    · have k9 : ∀ t, Steps p.tables e below (s₁.setTop (mkF m 13 #[.val (.ref r0), .val (.double d1), .second, .val (.int (2 : Int32))] [(.int (cmpValue (FP.dcmp v2 d1) .l))])) t → Steps p.tables e below (s₁.setTop (entryFrame m #[(.ref r0), (.double d1)] 4)) t := by
        intro t k
        refine k6 _ ?_
        show Steps p.tables e below (s₁.setTop (mkF m 13 #[.val (.ref r0), .val (.double d1), .second, .val (.int (1 : Int32))] [(.int (cmpValue (FP.dcmp v1 d1) .l))])) _
        refine XS.ifNo X0.here hx rfl (hb hby d1_13) rfl ((if0 _ _).trans (tlt hc13_2).2.2.2) ?_
        show Steps p.tables e below (s₁.setTop (mkF m 16 #[.val (.ref r0), .val (.double d1), .second, .val (.int (1 : Int32))] [])) _
        refine XS.iinc X0.here hx rfl (hb hby d1_16) rfl (l' := #[.val (.ref r0), .val (.double d1), .second, .val (.int (2 : Int32))]) rfl ?_
        show Steps p.tables e below (s₁.setTop (mkF m 19 #[.val (.ref r0), .val (.double d1), .second, .val (.int (2 : Int32))] [])) _
        refine XS.goto X0.here hx rfl (pc0 := 19) (pc' := 2) rfl (hb hby d1_19) (by decide) (by decide) ?_
        show Steps p.tables e below (s₁.setTop (mkF m 2 #[.val (.ref r0), .val (.double d1), .second, .val (.int (2 : Int32))] [])) _
        refine XS.iloadN X0.here hx rfl (hb hby d1_2) rfl ?_
        show Steps p.tables e below (s₁.setTop (mkF m 3 #[.val (.ref r0), .val (.double d1), .second, .val (.int (2 : Int32))] [(.int (2 : Int32))])) _
        refine XS.aloadN X0.here hx rfl (hb hby d1_3) rfl rfl ?_
        show Steps p.tables e below (s₁.setTop (mkF m 4 #[.val (.ref r0), .val (.double d1), .second, .val (.int (2 : Int32))] [(.ref r0), (.int (2 : Int32))])) _
        obtain ⟨cl_7, Ar_7, -, S_7, N_7, -, -⟩ := id Va
        refine X0.arraylength hx (by rw [e0]; exact Ar_7.1) (State.isArrayOf_alike hZ.alike Ar_7.2.1) (g := (mkF m 4 #[.val (.ref r0), .val (.double d1), .second, .val (.int (2 : Int32))] [(.ref r0), (.int (2 : Int32))])) rfl rfl (hb hby d1_4) _ ?_
        rw [len_of S_7 N_7]
        show Steps p.tables e below (s₁.setTop (mkF m 5 #[.val (.ref r0), .val (.double d1), .second, .val (.int (2 : Int32))] [(.int (4 : Int32)), (.int (2 : Int32))])) _
        refine XS.icmpNo X0.here hx rfl (hb hby d1_5) rfl (tlt (by decide)).2.1 ?_
        show Steps p.tables e below (s₁.setTop (mkF m 8 #[.val (.ref r0), .val (.double d1), .second, .val (.int (2 : Int32))] [])) _
        refine XS.aloadN X0.here hx rfl (hb hby d1_8) rfl rfl ?_
        show Steps p.tables e below (s₁.setTop (mkF m 9 #[.val (.ref r0), .val (.double d1), .second, .val (.int (2 : Int32))] [(.ref r0)])) _
        refine XS.iloadN X0.here hx rfl (hb hby d1_9) rfl ?_
        show Steps p.tables e below (s₁.setTop (mkF m 10 #[.val (.ref r0), .val (.double d1), .second, .val (.int (2 : Int32))] [(.int (2 : Int32)), (.ref r0)])) _
        obtain ⟨cl_8, Ar_8, q_8, S_8, N_8, H_8, G_8⟩ := id Va
        have hin_8 : ¬ ((2 : Int32) < 0 ∨ cl_8.slots.size ≤ ((2 : Int32)).toNatClampNeg) := inb_of S_8 ⟨by decide, by decide⟩
        refine X0.daload hx (j := (2 : Int32)) (v := (.double v2)) (by rw [e0]; exact Ar_8.1) (State.isArrayOf_alike hZ.alike Ar_8.2.1) Ar_8.2.2 hin_8 (Has.at H_8 hin_8 rfl) (g := (mkF m 10 #[.val (.ref r0), .val (.double d1), .second, .val (.int (2 : Int32))] [(.int (2 : Int32)), (.ref r0)])) rfl rfl (hb hby d1_10) _ ?_
        show Steps p.tables e below (s₁.setTop (mkF m 11 #[.val (.ref r0), .val (.double d1), .second, .val (.int (2 : Int32))] [(.double v2)])) _
        refine XS.dloadN X0.here hx rfl (hb hby d1_11) rfl ?_
        show Steps p.tables e below (s₁.setTop (mkF m 12 #[.val (.ref r0), .val (.double d1), .second, .val (.int (2 : Int32))] [(.double d1), (.double v2)])) _
        refine XS.dcmpS X0.here hx rfl (hb hby d1_12) rfl rfl ?_
        exact k
      by_cases hc13_3 : (0 : Int32) < (cmpValue (FP.dcmp v2 d1) .l)
      · have k12 : ∀ t, Steps p.tables e below (s₁.setTop (mkF m 13 #[.val (.ref r0), .val (.double d1), .second, .val (.int (3 : Int32))] [(.int (cmpValue (FP.dcmp v3 d1) .l))])) t → Steps p.tables e below (s₁.setTop (entryFrame m #[(.ref r0), (.double d1)] 4)) t := by
          intro t k
          refine k9 _ ?_
          show Steps p.tables e below (s₁.setTop (mkF m 13 #[.val (.ref r0), .val (.double d1), .second, .val (.int (2 : Int32))] [(.int (cmpValue (FP.dcmp v2 d1) .l))])) _
          refine XS.ifNo X0.here hx rfl (hb hby d1_13) rfl ((if0 _ _).trans (tlt hc13_3).2.2.2) ?_
          show Steps p.tables e below (s₁.setTop (mkF m 16 #[.val (.ref r0), .val (.double d1), .second, .val (.int (2 : Int32))] [])) _
          refine XS.iinc X0.here hx rfl (hb hby d1_16) rfl (l' := #[.val (.ref r0), .val (.double d1), .second, .val (.int (3 : Int32))]) rfl ?_
          show Steps p.tables e below (s₁.setTop (mkF m 19 #[.val (.ref r0), .val (.double d1), .second, .val (.int (3 : Int32))] [])) _
          refine XS.goto X0.here hx rfl (pc0 := 19) (pc' := 2) rfl (hb hby d1_19) (by decide) (by decide) ?_
          show Steps p.tables e below (s₁.setTop (mkF m 2 #[.val (.ref r0), .val (.double d1), .second, .val (.int (3 : Int32))] [])) _
          refine XS.iloadN X0.here hx rfl (hb hby d1_2) rfl ?_
          show Steps p.tables e below (s₁.setTop (mkF m 3 #[.val (.ref r0), .val (.double d1), .second, .val (.int (3 : Int32))] [(.int (3 : Int32))])) _
          refine XS.aloadN X0.here hx rfl (hb hby d1_3) rfl rfl ?_
          show Steps p.tables e below (s₁.setTop (mkF m 4 #[.val (.ref r0), .val (.double d1), .second, .val (.int (3 : Int32))] [(.ref r0), (.int (3 : Int32))])) _
          obtain ⟨cl_10, Ar_10, -, S_10, N_10, -, -⟩ := id Va
          refine X0.arraylength hx (by rw [e0]; exact Ar_10.1) (State.isArrayOf_alike hZ.alike Ar_10.2.1) (g := (mkF m 4 #[.val (.ref r0), .val (.double d1), .second, .val (.int (3 : Int32))] [(.ref r0), (.int (3 : Int32))])) rfl rfl (hb hby d1_4) _ ?_
          rw [len_of S_10 N_10]
          show Steps p.tables e below (s₁.setTop (mkF m 5 #[.val (.ref r0), .val (.double d1), .second, .val (.int (3 : Int32))] [(.int (4 : Int32)), (.int (3 : Int32))])) _
          refine XS.icmpNo X0.here hx rfl (hb hby d1_5) rfl (tlt (by decide)).2.1 ?_
          show Steps p.tables e below (s₁.setTop (mkF m 8 #[.val (.ref r0), .val (.double d1), .second, .val (.int (3 : Int32))] [])) _
          refine XS.aloadN X0.here hx rfl (hb hby d1_8) rfl rfl ?_
          show Steps p.tables e below (s₁.setTop (mkF m 9 #[.val (.ref r0), .val (.double d1), .second, .val (.int (3 : Int32))] [(.ref r0)])) _
          refine XS.iloadN X0.here hx rfl (hb hby d1_9) rfl ?_
          show Steps p.tables e below (s₁.setTop (mkF m 10 #[.val (.ref r0), .val (.double d1), .second, .val (.int (3 : Int32))] [(.int (3 : Int32)), (.ref r0)])) _
          obtain ⟨cl_11, Ar_11, q_11, S_11, N_11, H_11, G_11⟩ := id Va
          have hin_11 : ¬ ((3 : Int32) < 0 ∨ cl_11.slots.size ≤ ((3 : Int32)).toNatClampNeg) := inb_of S_11 ⟨by decide, by decide⟩
          refine X0.daload hx (j := (3 : Int32)) (v := (.double v3)) (by rw [e0]; exact Ar_11.1) (State.isArrayOf_alike hZ.alike Ar_11.2.1) Ar_11.2.2 hin_11 (Has.at H_11 hin_11 rfl) (g := (mkF m 10 #[.val (.ref r0), .val (.double d1), .second, .val (.int (3 : Int32))] [(.int (3 : Int32)), (.ref r0)])) rfl rfl (hb hby d1_10) _ ?_
          show Steps p.tables e below (s₁.setTop (mkF m 11 #[.val (.ref r0), .val (.double d1), .second, .val (.int (3 : Int32))] [(.double v3)])) _
          refine XS.dloadN X0.here hx rfl (hb hby d1_11) rfl ?_
          show Steps p.tables e below (s₁.setTop (mkF m 12 #[.val (.ref r0), .val (.double d1), .second, .val (.int (3 : Int32))] [(.double d1), (.double v3)])) _
          refine XS.dcmpS X0.here hx rfl (hb hby d1_12) rfl rfl ?_
          exact k
        by_cases hc13_4 : (0 : Int32) < (cmpValue (FP.dcmp v3 d1) .l)
        · have k15 : ∀ t, Steps p.tables e below (s₁.setTop (mkF m 33 #[.val (.ref r0), .val (.double d1), .second, .val (.int (4 : Int32))] [(.int (-1 : Int32))])) t → Steps p.tables e below (s₁.setTop (entryFrame m #[(.ref r0), (.double d1)] 4)) t := by
            intro t k
            refine k12 _ ?_
            show Steps p.tables e below (s₁.setTop (mkF m 13 #[.val (.ref r0), .val (.double d1), .second, .val (.int (3 : Int32))] [(.int (cmpValue (FP.dcmp v3 d1) .l))])) _
            refine XS.ifNo X0.here hx rfl (hb hby d1_13) rfl ((if0 _ _).trans (tlt hc13_4).2.2.2) ?_
            show Steps p.tables e below (s₁.setTop (mkF m 16 #[.val (.ref r0), .val (.double d1), .second, .val (.int (3 : Int32))] [])) _
            refine XS.iinc X0.here hx rfl (hb hby d1_16) rfl (l' := #[.val (.ref r0), .val (.double d1), .second, .val (.int (4 : Int32))]) rfl ?_
            show Steps p.tables e below (s₁.setTop (mkF m 19 #[.val (.ref r0), .val (.double d1), .second, .val (.int (4 : Int32))] [])) _
            refine XS.goto X0.here hx rfl (pc0 := 19) (pc' := 2) rfl (hb hby d1_19) (by decide) (by decide) ?_
            show Steps p.tables e below (s₁.setTop (mkF m 2 #[.val (.ref r0), .val (.double d1), .second, .val (.int (4 : Int32))] [])) _
            refine XS.iloadN X0.here hx rfl (hb hby d1_2) rfl ?_
            show Steps p.tables e below (s₁.setTop (mkF m 3 #[.val (.ref r0), .val (.double d1), .second, .val (.int (4 : Int32))] [(.int (4 : Int32))])) _
            refine XS.aloadN X0.here hx rfl (hb hby d1_3) rfl rfl ?_
            show Steps p.tables e below (s₁.setTop (mkF m 4 #[.val (.ref r0), .val (.double d1), .second, .val (.int (4 : Int32))] [(.ref r0), (.int (4 : Int32))])) _
            obtain ⟨cl_13, Ar_13, -, S_13, N_13, -, -⟩ := id Va
            refine X0.arraylength hx (by rw [e0]; exact Ar_13.1) (State.isArrayOf_alike hZ.alike Ar_13.2.1) (g := (mkF m 4 #[.val (.ref r0), .val (.double d1), .second, .val (.int (4 : Int32))] [(.ref r0), (.int (4 : Int32))])) rfl rfl (hb hby d1_4) _ ?_
            rw [len_of S_13 N_13]
            show Steps p.tables e below (s₁.setTop (mkF m 5 #[.val (.ref r0), .val (.double d1), .second, .val (.int (4 : Int32))] [(.int (4 : Int32)), (.int (4 : Int32))])) _
            refine XS.icmpYes X0.here hx rfl (pc0 := 5) (pc' := 22) rfl (hb hby d1_5) rfl (flt (by decide)).2.1 (by decide) (by decide) ?_
            show Steps p.tables e below (s₁.setTop (mkF m 22 #[.val (.ref r0), .val (.double d1), .second, .val (.int (4 : Int32))] [])) _
            refine XS.iloadN X0.here hx rfl (hb hby d1_22) rfl ?_
            show Steps p.tables e below (s₁.setTop (mkF m 23 #[.val (.ref r0), .val (.double d1), .second, .val (.int (4 : Int32))] [(.int (4 : Int32))])) _
            refine XS.aloadN X0.here hx rfl (hb hby d1_23) rfl rfl ?_
            show Steps p.tables e below (s₁.setTop (mkF m 24 #[.val (.ref r0), .val (.double d1), .second, .val (.int (4 : Int32))] [(.ref r0), (.int (4 : Int32))])) _
            obtain ⟨cl_14, Ar_14, -, S_14, N_14, -, -⟩ := id Va
            refine X0.arraylength hx (by rw [e0]; exact Ar_14.1) (State.isArrayOf_alike hZ.alike Ar_14.2.1) (g := (mkF m 24 #[.val (.ref r0), .val (.double d1), .second, .val (.int (4 : Int32))] [(.ref r0), (.int (4 : Int32))])) rfl rfl (hb hby d1_24) _ ?_
            rw [len_of S_14 N_14]
            show Steps p.tables e below (s₁.setTop (mkF m 25 #[.val (.ref r0), .val (.double d1), .second, .val (.int (4 : Int32))] [(.int (4 : Int32)), (.int (4 : Int32))])) _
            refine XS.icmpYes X0.here hx rfl (pc0 := 25) (pc' := 32) rfl (hb hby d1_25) rfl (flt (by decide)).2.1 (by decide) (by decide) ?_
            show Steps p.tables e below (s₁.setTop (mkF m 32 #[.val (.ref r0), .val (.double d1), .second, .val (.int (4 : Int32))] [])) _
            refine XS.iconst X0.here hx rfl (hb hby d1_32) ?_
            exact k
          obtain ⟨fs, hr, hrun, hended, hW, hsame⟩ := X0.leave (v := some (.int (-1 : Int32))) (fun h => by rw [Bd.returns] at h; cases h)
          refine ⟨_, _, k15 _ ?_, hrun, hended, _, _, rfl, ?_, ⟨_, rfl⟩, hW, hsame.mono (by decide) (by decide)⟩
          · exact retOut X0 hx Bd.returns rfl (Or.inl ⟨rfl, Or.inl rfl, _, rfl⟩) (hb hby d1_33) hr
          · show own_Q (some (.int (own_low4 d1 v0 v1 v2 v3))) h0 n0 _ s₁.heap _
            rw [e0]
            exact ⟨by simp only [own_low4, if_pos hc13_1, if_pos hc13_2, if_pos hc13_3, if_pos hc13_4], N0, rfl⟩
        · have k17 : ∀ t, Steps p.tables e below (s₁.setTop (mkF m 33 #[.val (.ref r0), .val (.double d1), .second, .val (.int (3 : Int32))] [(.int (3 : Int32))])) t → Steps p.tables e below (s₁.setTop (entryFrame m #[(.ref r0), (.double d1)] 4)) t := by
            intro t k
            refine k12 _ ?_
            show Steps p.tables e below (s₁.setTop (mkF m 13 #[.val (.ref r0), .val (.double d1), .second, .val (.int (3 : Int32))] [(.int (cmpValue (FP.dcmp v3 d1) .l))])) _
            refine XS.ifYes X0.here hx rfl (pc0 := 13) (pc' := 22) rfl (hb hby d1_13) rfl ((if0 _ _).trans (flt hc13_4).2.2.2) (by decide) (by decide) ?_
            show Steps p.tables e below (s₁.setTop (mkF m 22 #[.val (.ref r0), .val (.double d1), .second, .val (.int (3 : Int32))] [])) _
            refine XS.iloadN X0.here hx rfl (hb hby d1_22) rfl ?_
            show Steps p.tables e below (s₁.setTop (mkF m 23 #[.val (.ref r0), .val (.double d1), .second, .val (.int (3 : Int32))] [(.int (3 : Int32))])) _
            refine XS.aloadN X0.here hx rfl (hb hby d1_23) rfl rfl ?_
            show Steps p.tables e below (s₁.setTop (mkF m 24 #[.val (.ref r0), .val (.double d1), .second, .val (.int (3 : Int32))] [(.ref r0), (.int (3 : Int32))])) _
            obtain ⟨cl_16, Ar_16, -, S_16, N_16, -, -⟩ := id Va
            refine X0.arraylength hx (by rw [e0]; exact Ar_16.1) (State.isArrayOf_alike hZ.alike Ar_16.2.1) (g := (mkF m 24 #[.val (.ref r0), .val (.double d1), .second, .val (.int (3 : Int32))] [(.ref r0), (.int (3 : Int32))])) rfl rfl (hb hby d1_24) _ ?_
            rw [len_of S_16 N_16]
            show Steps p.tables e below (s₁.setTop (mkF m 25 #[.val (.ref r0), .val (.double d1), .second, .val (.int (3 : Int32))] [(.int (4 : Int32)), (.int (3 : Int32))])) _
            refine XS.icmpNo X0.here hx rfl (hb hby d1_25) rfl (tlt (by decide)).2.1 ?_
            show Steps p.tables e below (s₁.setTop (mkF m 28 #[.val (.ref r0), .val (.double d1), .second, .val (.int (3 : Int32))] [])) _
            refine XS.iloadN X0.here hx rfl (hb hby d1_28) rfl ?_
            show Steps p.tables e below (s₁.setTop (mkF m 29 #[.val (.ref r0), .val (.double d1), .second, .val (.int (3 : Int32))] [(.int (3 : Int32))])) _
            refine XS.goto X0.here hx rfl (pc0 := 29) (pc' := 33) rfl (hb hby d1_29) (by decide) (by decide) ?_
            exact k
          obtain ⟨fs, hr, hrun, hended, hW, hsame⟩ := X0.leave (v := some (.int (3 : Int32))) (fun h => by rw [Bd.returns] at h; cases h)
          refine ⟨_, _, k17 _ ?_, hrun, hended, _, _, rfl, ?_, ⟨_, rfl⟩, hW, hsame.mono (by decide) (by decide)⟩
          · exact retOut X0 hx Bd.returns rfl (Or.inl ⟨rfl, Or.inl rfl, _, rfl⟩) (hb hby d1_33) hr
          · show own_Q (some (.int (own_low4 d1 v0 v1 v2 v3))) h0 n0 _ s₁.heap _
            rw [e0]
            exact ⟨by simp only [own_low4, if_pos hc13_1, if_pos hc13_2, if_pos hc13_3, if_neg hc13_4], N0, rfl⟩
      · have k19 : ∀ t, Steps p.tables e below (s₁.setTop (mkF m 33 #[.val (.ref r0), .val (.double d1), .second, .val (.int (2 : Int32))] [(.int (2 : Int32))])) t → Steps p.tables e below (s₁.setTop (entryFrame m #[(.ref r0), (.double d1)] 4)) t := by
          intro t k
          refine k9 _ ?_
          show Steps p.tables e below (s₁.setTop (mkF m 13 #[.val (.ref r0), .val (.double d1), .second, .val (.int (2 : Int32))] [(.int (cmpValue (FP.dcmp v2 d1) .l))])) _
          refine XS.ifYes X0.here hx rfl (pc0 := 13) (pc' := 22) rfl (hb hby d1_13) rfl ((if0 _ _).trans (flt hc13_3).2.2.2) (by decide) (by decide) ?_
          show Steps p.tables e below (s₁.setTop (mkF m 22 #[.val (.ref r0), .val (.double d1), .second, .val (.int (2 : Int32))] [])) _
          refine XS.iloadN X0.here hx rfl (hb hby d1_22) rfl ?_
          show Steps p.tables e below (s₁.setTop (mkF m 23 #[.val (.ref r0), .val (.double d1), .second, .val (.int (2 : Int32))] [(.int (2 : Int32))])) _
          refine XS.aloadN X0.here hx rfl (hb hby d1_23) rfl rfl ?_
          show Steps p.tables e below (s₁.setTop (mkF m 24 #[.val (.ref r0), .val (.double d1), .second, .val (.int (2 : Int32))] [(.ref r0), (.int (2 : Int32))])) _
          obtain ⟨cl_18, Ar_18, -, S_18, N_18, -, -⟩ := id Va
          refine X0.arraylength hx (by rw [e0]; exact Ar_18.1) (State.isArrayOf_alike hZ.alike Ar_18.2.1) (g := (mkF m 24 #[.val (.ref r0), .val (.double d1), .second, .val (.int (2 : Int32))] [(.ref r0), (.int (2 : Int32))])) rfl rfl (hb hby d1_24) _ ?_
          rw [len_of S_18 N_18]
          show Steps p.tables e below (s₁.setTop (mkF m 25 #[.val (.ref r0), .val (.double d1), .second, .val (.int (2 : Int32))] [(.int (4 : Int32)), (.int (2 : Int32))])) _
          refine XS.icmpNo X0.here hx rfl (hb hby d1_25) rfl (tlt (by decide)).2.1 ?_
          show Steps p.tables e below (s₁.setTop (mkF m 28 #[.val (.ref r0), .val (.double d1), .second, .val (.int (2 : Int32))] [])) _
          refine XS.iloadN X0.here hx rfl (hb hby d1_28) rfl ?_
          show Steps p.tables e below (s₁.setTop (mkF m 29 #[.val (.ref r0), .val (.double d1), .second, .val (.int (2 : Int32))] [(.int (2 : Int32))])) _
          refine XS.goto X0.here hx rfl (pc0 := 29) (pc' := 33) rfl (hb hby d1_29) (by decide) (by decide) ?_
          exact k
        obtain ⟨fs, hr, hrun, hended, hW, hsame⟩ := X0.leave (v := some (.int (2 : Int32))) (fun h => by rw [Bd.returns] at h; cases h)
        refine ⟨_, _, k19 _ ?_, hrun, hended, _, _, rfl, ?_, ⟨_, rfl⟩, hW, hsame.mono (by decide) (by decide)⟩
        · exact retOut X0 hx Bd.returns rfl (Or.inl ⟨rfl, Or.inl rfl, _, rfl⟩) (hb hby d1_33) hr
        · show own_Q (some (.int (own_low4 d1 v0 v1 v2 v3))) h0 n0 _ s₁.heap _
          rw [e0]
          exact ⟨by simp only [own_low4, if_pos hc13_1, if_pos hc13_2, if_neg hc13_3], N0, rfl⟩
    · have k21 : ∀ t, Steps p.tables e below (s₁.setTop (mkF m 33 #[.val (.ref r0), .val (.double d1), .second, .val (.int (1 : Int32))] [(.int (1 : Int32))])) t → Steps p.tables e below (s₁.setTop (entryFrame m #[(.ref r0), (.double d1)] 4)) t := by
        intro t k
        refine k6 _ ?_
        show Steps p.tables e below (s₁.setTop (mkF m 13 #[.val (.ref r0), .val (.double d1), .second, .val (.int (1 : Int32))] [(.int (cmpValue (FP.dcmp v1 d1) .l))])) _
        refine XS.ifYes X0.here hx rfl (pc0 := 13) (pc' := 22) rfl (hb hby d1_13) rfl ((if0 _ _).trans (flt hc13_2).2.2.2) (by decide) (by decide) ?_
        show Steps p.tables e below (s₁.setTop (mkF m 22 #[.val (.ref r0), .val (.double d1), .second, .val (.int (1 : Int32))] [])) _
        refine XS.iloadN X0.here hx rfl (hb hby d1_22) rfl ?_
        show Steps p.tables e below (s₁.setTop (mkF m 23 #[.val (.ref r0), .val (.double d1), .second, .val (.int (1 : Int32))] [(.int (1 : Int32))])) _
        refine XS.aloadN X0.here hx rfl (hb hby d1_23) rfl rfl ?_
        show Steps p.tables e below (s₁.setTop (mkF m 24 #[.val (.ref r0), .val (.double d1), .second, .val (.int (1 : Int32))] [(.ref r0), (.int (1 : Int32))])) _
        obtain ⟨cl_20, Ar_20, -, S_20, N_20, -, -⟩ := id Va
        refine X0.arraylength hx (by rw [e0]; exact Ar_20.1) (State.isArrayOf_alike hZ.alike Ar_20.2.1) (g := (mkF m 24 #[.val (.ref r0), .val (.double d1), .second, .val (.int (1 : Int32))] [(.ref r0), (.int (1 : Int32))])) rfl rfl (hb hby d1_24) _ ?_
        rw [len_of S_20 N_20]
        show Steps p.tables e below (s₁.setTop (mkF m 25 #[.val (.ref r0), .val (.double d1), .second, .val (.int (1 : Int32))] [(.int (4 : Int32)), (.int (1 : Int32))])) _
        refine XS.icmpNo X0.here hx rfl (hb hby d1_25) rfl (tlt (by decide)).2.1 ?_
        show Steps p.tables e below (s₁.setTop (mkF m 28 #[.val (.ref r0), .val (.double d1), .second, .val (.int (1 : Int32))] [])) _
        refine XS.iloadN X0.here hx rfl (hb hby d1_28) rfl ?_
        show Steps p.tables e below (s₁.setTop (mkF m 29 #[.val (.ref r0), .val (.double d1), .second, .val (.int (1 : Int32))] [(.int (1 : Int32))])) _
        refine XS.goto X0.here hx rfl (pc0 := 29) (pc' := 33) rfl (hb hby d1_29) (by decide) (by decide) ?_
        exact k
      obtain ⟨fs, hr, hrun, hended, hW, hsame⟩ := X0.leave (v := some (.int (1 : Int32))) (fun h => by rw [Bd.returns] at h; cases h)
      refine ⟨_, _, k21 _ ?_, hrun, hended, _, _, rfl, ?_, ⟨_, rfl⟩, hW, hsame.mono (by decide) (by decide)⟩
      · exact retOut X0 hx Bd.returns rfl (Or.inl ⟨rfl, Or.inl rfl, _, rfl⟩) (hb hby d1_33) hr
      · show own_Q (some (.int (own_low4 d1 v0 v1 v2 v3))) h0 n0 _ s₁.heap _
        rw [e0]
        exact ⟨by simp only [own_low4, if_pos hc13_1, if_neg hc13_2], N0, rfl⟩
  · have k23 : ∀ t, Steps p.tables e below (s₁.setTop (mkF m 33 #[.val (.ref r0), .val (.double d1), .second, .val (.int (0 : Int32))] [(.int (0 : Int32))])) t → Steps p.tables e below (s₁.setTop (entryFrame m #[(.ref r0), (.double d1)] 4)) t := by
      intro t k
      refine k3 _ ?_
      show Steps p.tables e below (s₁.setTop (mkF m 13 #[.val (.ref r0), .val (.double d1), .second, .val (.int (0 : Int32))] [(.int (cmpValue (FP.dcmp v0 d1) .l))])) _
      refine XS.ifYes X0.here hx rfl (pc0 := 13) (pc' := 22) rfl (hb hby d1_13) rfl ((if0 _ _).trans (flt hc13_1).2.2.2) (by decide) (by decide) ?_
      show Steps p.tables e below (s₁.setTop (mkF m 22 #[.val (.ref r0), .val (.double d1), .second, .val (.int (0 : Int32))] [])) _
      refine XS.iloadN X0.here hx rfl (hb hby d1_22) rfl ?_
      show Steps p.tables e below (s₁.setTop (mkF m 23 #[.val (.ref r0), .val (.double d1), .second, .val (.int (0 : Int32))] [(.int (0 : Int32))])) _
      refine XS.aloadN X0.here hx rfl (hb hby d1_23) rfl rfl ?_
      show Steps p.tables e below (s₁.setTop (mkF m 24 #[.val (.ref r0), .val (.double d1), .second, .val (.int (0 : Int32))] [(.ref r0), (.int (0 : Int32))])) _
      obtain ⟨cl_22, Ar_22, -, S_22, N_22, -, -⟩ := id Va
      refine X0.arraylength hx (by rw [e0]; exact Ar_22.1) (State.isArrayOf_alike hZ.alike Ar_22.2.1) (g := (mkF m 24 #[.val (.ref r0), .val (.double d1), .second, .val (.int (0 : Int32))] [(.ref r0), (.int (0 : Int32))])) rfl rfl (hb hby d1_24) _ ?_
      rw [len_of S_22 N_22]
      show Steps p.tables e below (s₁.setTop (mkF m 25 #[.val (.ref r0), .val (.double d1), .second, .val (.int (0 : Int32))] [(.int (4 : Int32)), (.int (0 : Int32))])) _
      refine XS.icmpNo X0.here hx rfl (hb hby d1_25) rfl (tlt (by decide)).2.1 ?_
      show Steps p.tables e below (s₁.setTop (mkF m 28 #[.val (.ref r0), .val (.double d1), .second, .val (.int (0 : Int32))] [])) _
      refine XS.iloadN X0.here hx rfl (hb hby d1_28) rfl ?_
      show Steps p.tables e below (s₁.setTop (mkF m 29 #[.val (.ref r0), .val (.double d1), .second, .val (.int (0 : Int32))] [(.int (0 : Int32))])) _
      refine XS.goto X0.here hx rfl (pc0 := 29) (pc' := 33) rfl (hb hby d1_29) (by decide) (by decide) ?_
      exact k
    obtain ⟨fs, hr, hrun, hended, hW, hsame⟩ := X0.leave (v := some (.int (0 : Int32))) (fun h => by rw [Bd.returns] at h; cases h)
    refine ⟨_, _, k23 _ ?_, hrun, hended, _, _, rfl, ?_, ⟨_, rfl⟩, hW, hsame.mono (by decide) (by decide)⟩
    · exact retOut X0 hx Bd.returns rfl (Or.inl ⟨rfl, Or.inl rfl, _, rfl⟩) (hb hby d1_33) hr
    · show own_Q (some (.int (own_low4 d1 v0 v1 v2 v3))) h0 n0 _ s₁.heap _
      rw [e0]
      exact ⟨by simp only [own_low4, if_neg hc13_1], N0, rfl⟩
theorem own_k (x : Int32) : ((x &&& (2147483647 : Int32)) % (5 : Int32)) = (0 : Int32) ∨ ((x &&& (2147483647 : Int32)) % (5 : Int32)) = (1 : Int32) ∨ ((x &&& (2147483647 : Int32)) % (5 : Int32)) = (2 : Int32) ∨ ((x &&& (2147483647 : Int32)) % (5 : Int32)) = (3 : Int32) ∨ ((x &&& (2147483647 : Int32)) % (5 : Int32)) = (4 : Int32) := by
  have a := c_mask x 2147483647 31 (by decide) (by decide)
  have r := c_irem (x &&& 2147483647) 5 5 (by decide)
  have z0 : (0 : Int32).toInt = 0 := by decide
  have z1 : (1 : Int32).toInt = 1 := by decide
  have z2 : (2 : Int32).toInt = 2 := by decide
  have z3 : (3 : Int32).toInt = 3 := by decide
  have z4 : (4 : Int32).toInt = 4 := by decide
  simp only [← Int32.toInt_inj]
  omega
theorem own_cmp (a b : Int32) : ((0 : Int32) < cmpValue (FP.dcmp (FP.i2d a) (FP.i2d b)) .l) ↔ b < a := by
  have e : FP.dcmp (FP.i2d a) (FP.i2d b) = some (compare a.toInt b.toInt) := FP.Core.dcmp_int (FP.Core.i2d_int a) (FP.Core.i2d_int b)
  rw [e, Int32.lt_iff_toInt_lt (x := b)]
  rcases Int.lt_trichotomy a.toInt b.toInt with h | h | h
  · have c : compare a.toInt b.toInt = .lt := by rw [Int.compare_eq_lt]; exact h
    rw [c]; show ((0 : Int32) < (-1 : Int32)) ↔ _; constructor
    · intro q; exact absurd q (by decide)
    · intro q; omega
  · have c : compare a.toInt b.toInt = .eq := by rw [Int.compare_eq_eq]; exact h
    rw [c]; show ((0 : Int32) < (0 : Int32)) ↔ _; constructor
    · intro q; exact absurd q (by decide)
    · intro q; omega
  · have c : compare a.toInt b.toInt = .gt := by rw [Int.compare_eq_gt]; exact h
    rw [c]; show ((0 : Int32) < (1 : Int32)) ↔ _; constructor
    · intro q; exact h
    · intro q; decide
theorem pn_1 : plainName "com/example/interlace/interlace/method/TiesLowestWithinPinLaw" = true := by first | (simp [plainName, overriddenIn]; done) | decide +kernel
theorem ef_rm0 (m : MethodId) (x0 : Int32) (x1 : Int32) (x2 : Int32) (x3 : Int32) (x4 : Int32) (x5 : Int32) : entryFrame m #[(.int x0), (.int x1), (.int x2), (.int x3), (.int x4), (.int x5)] maxLocals = mkF m 0 #[.val (.int x0), .val (.int x1), .val (.int x2), .val (.int x3), .val (.int x4), .val (.int x5), .unset, .unset, .unset, .unset, .unset, .unset, .unset, .unset, .unset] [] := by first | (simp [entryFrame, mkF, argsToLocals, Value.category, maxLocals]; done) | rfl
theorem pd_0 : parseMethodDescriptor "([DD)I" = some ⟨[(.array .double), .double], some .int⟩ := by decide +kernel
theorem own_e0 (x5 : Int32) : (own_low0 (FP.i2d x5) ) = (-1 : Int32) := by
  unfold own_low0
  rfl
theorem own_e1 (x1 x5 : Int32) : (own_low1 (FP.i2d x5) (FP.i2d x1)) = (if x5 < x1 then (-1 : Int32) else (0 : Int32)) := by
  unfold own_low1
  simp only [own_cmp]
  repeat' split
  all_goals first | rfl | (exfalso; simp_all; done)
theorem own_e2 (x1 x2 x5 : Int32) : (own_low2 (FP.i2d x5) (FP.i2d x1) (FP.i2d x2)) = (if x5 < x1 then (if x5 < x2 then (-1 : Int32) else (1 : Int32)) else (0 : Int32)) := by
  unfold own_low2
  simp only [own_cmp]
  repeat' split
  all_goals first | rfl | (exfalso; simp_all; done)
theorem own_e3 (x1 x2 x3 x5 : Int32) : (own_low3 (FP.i2d x5) (FP.i2d x1) (FP.i2d x2) (FP.i2d x3)) = (if x5 < x1 then (if x5 < x2 then (if x5 < x3 then (-1 : Int32) else (2 : Int32)) else (1 : Int32)) else (0 : Int32)) := by
  unfold own_low3
  simp only [own_cmp]
  repeat' split
  all_goals first | rfl | (exfalso; simp_all; done)
theorem own_e4 (x1 x2 x3 x4 x5 : Int32) : (own_low4 (FP.i2d x5) (FP.i2d x1) (FP.i2d x2) (FP.i2d x3) (FP.i2d x4)) = (if x5 < x1 then (if x5 < x2 then (if x5 < x3 then (if x5 < x4 then (-1 : Int32) else (3 : Int32)) else (2 : Int32)) else (1 : Int32)) else (0 : Int32)) := by
  unfold own_low4
  simp only [own_cmp]
  repeat' split
  all_goals first | rfl | (exfalso; simp_all; done)
set_option maxRecDepth 65536 in
set_option maxHeartbeats 40000000 in
theorem rm0 (l : Launch) (Z : State) (a0 : Array Value) (hw : ∀ d ∈ tables_1, d.before a0 Z = true) (ws : List Jvm.Cond) (p0 : Int32) (p1 : Int32) (p2 : Int32) (p3 : Int32) (p4 : Int32) (p5 : Int32) (h0 : Heap) (n0 : Nat) (Z0 : n0 ≤ h0.size) :
    MetFree l x (head1 (Jvm.Cond.code x code maxLocals ret :: ws) room_1) (fun a U => a = #[(.int p0), (.int p1), (.int p2), (.int p3), (.int p4), (.int p5)] ∧ Z.Warmed39 U.vm ∧ U.heap = h0) (fun _ _ _ _ _ => True) (fun _ U o U' => ∃ v L, o = .returned v ∧ own_R (some (.int 1)) n0 v U'.heap L ∧ FrameEnd U o U' L room_1.cells room_1.slots) := by
  refine MetFree.of_bodySF (plainFor_of_name pn_1) hisR ?_
  intro p e s m args below meth c s₁ Bd hml0 hP hK
  obtain ⟨rfl, hZ, hh⟩ := hP
  have hx := Bd.exec
  have hby := Bd.bytes
  have hml : c.maxLocals = 15 := hml0
  have hown : s.vm.findClass "com/example/interlace/interlace/method/TiesLowestWithinPinLaw" = some m.cls := findClass_of_methodNamed Bd.named
  have hnm := (name_of_methodNamed Bd.named Bd.method).1
  have X0 : Stand p l e room_1 s m #[(.int p0), (.int p1), (.int p2), (.int p3), (.int p4), (.int p5)] below meth c s₁ [] 0 0 := Stand.of_body Bd
  have e0 : s₁.heap = h0 := by rw [← hh, Bd.state]; rfl
  have N0 := Fr.nil n0
  have pre0 : ∀ t, Steps p.tables e below (s₁.setTop (mkF m 0 #[.val (.int p0), .val (.int p1), .val (.int p2), .val (.int p3), .val (.int p4), .val (.int p5), .unset, .unset, .unset, .unset, .unset, .unset, .unset, .unset, .unset] [])) t → Steps p.tables e below (s₁.setTop (entryFrame m #[(.int p0), (.int p1), (.int p2), (.int p3), (.int p4), (.int p5)] maxLocals)) t := fun t k => castTop (ef_rm0 m p0 p1 p2 p3 p4 p5) k
  have k1 : ∀ t, Steps p.tables e below (s₁.setTop (mkF m 40 #[.val (.int p0), .val (.int p1), .val (.int p2), .val (.int p3), .val (.int p4), .val (.int p5), .val (.int ((p0 &&& (2147483647 : Int32)) % (5 : Int32))), .val (.int (p1 % (16 : Int32))), .val (.int (p2 % (16 : Int32))), .val (.int (p3 % (16 : Int32))), .val (.int (p4 % (16 : Int32))), .val (.int (p5 % (16 : Int32))), .unset, .unset, .unset] [])) t → Steps p.tables e below (s₁.setTop (entryFrame m #[(.int p0), (.int p1), (.int p2), (.int p3), (.int p4), (.int p5)] maxLocals)) t := by
    intro t k
    refine pre0 _ ?_
    show Steps p.tables e below (s₁.setTop (mkF m 0 #[.val (.int p0), .val (.int p1), .val (.int p2), .val (.int p3), .val (.int p4), .val (.int p5), .unset, .unset, .unset, .unset, .unset, .unset, .unset, .unset, .unset] [])) _
    refine XS.iloadN X0.here hx rfl (hb hby at_0) rfl ?_
    show Steps p.tables e below (s₁.setTop (mkF m 1 #[.val (.int p0), .val (.int p1), .val (.int p2), .val (.int p3), .val (.int p4), .val (.int p5), .unset, .unset, .unset, .unset, .unset, .unset, .unset, .unset, .unset] [(.int p0)])) _
    refine X0.ldcInt hx hown (mvT hZ (hw _ (List.mem_of_getElem? (i := 0) rfl))) (g := (mkF m 1 #[.val (.int p0), .val (.int p1), .val (.int p2), .val (.int p3), .val (.int p4), .val (.int p5), .unset, .unset, .unset, .unset, .unset, .unset, .unset, .unset, .unset] [(.int p0)])) rfl (hb hby at_1) _ ?_
    show Steps p.tables e below (s₁.setTop (mkF m 3 #[.val (.int p0), .val (.int p1), .val (.int p2), .val (.int p3), .val (.int p4), .val (.int p5), .unset, .unset, .unset, .unset, .unset, .unset, .unset, .unset, .unset] [(.int (2147483647 : Int32)), (.int p0)])) _
    refine XS.iand X0.here hx rfl (hb hby at_3) rfl ?_
    show Steps p.tables e below (s₁.setTop (mkF m 4 #[.val (.int p0), .val (.int p1), .val (.int p2), .val (.int p3), .val (.int p4), .val (.int p5), .unset, .unset, .unset, .unset, .unset, .unset, .unset, .unset, .unset] [(.int (p0 &&& (2147483647 : Int32)))])) _
    refine XS.iconst X0.here hx rfl (hb hby at_4) ?_
    show Steps p.tables e below (s₁.setTop (mkF m 5 #[.val (.int p0), .val (.int p1), .val (.int p2), .val (.int p3), .val (.int p4), .val (.int p5), .unset, .unset, .unset, .unset, .unset, .unset, .unset, .unset, .unset] [(.int (5 : Int32)), (.int (p0 &&& (2147483647 : Int32)))])) _
    refine iremM X0 hx rfl (hb hby at_5) rfl (by decide) ?_
    show Steps p.tables e below (s₁.setTop (mkF m 6 #[.val (.int p0), .val (.int p1), .val (.int p2), .val (.int p3), .val (.int p4), .val (.int p5), .unset, .unset, .unset, .unset, .unset, .unset, .unset, .unset, .unset] [(.int ((p0 &&& (2147483647 : Int32)) % (5 : Int32)))])) _
    refine XS.istore X0.here hx rfl (hb hby at_6) rfl (l' := #[.val (.int p0), .val (.int p1), .val (.int p2), .val (.int p3), .val (.int p4), .val (.int p5), .val (.int ((p0 &&& (2147483647 : Int32)) % (5 : Int32))), .unset, .unset, .unset, .unset, .unset, .unset, .unset, .unset]) rfl ?_
    show Steps p.tables e below (s₁.setTop (mkF m 8 #[.val (.int p0), .val (.int p1), .val (.int p2), .val (.int p3), .val (.int p4), .val (.int p5), .val (.int ((p0 &&& (2147483647 : Int32)) % (5 : Int32))), .unset, .unset, .unset, .unset, .unset, .unset, .unset, .unset] [])) _
    refine XS.iloadN X0.here hx rfl (hb hby at_8) rfl ?_
    show Steps p.tables e below (s₁.setTop (mkF m 9 #[.val (.int p0), .val (.int p1), .val (.int p2), .val (.int p3), .val (.int p4), .val (.int p5), .val (.int ((p0 &&& (2147483647 : Int32)) % (5 : Int32))), .unset, .unset, .unset, .unset, .unset, .unset, .unset, .unset] [(.int p1)])) _
    refine XS.bipush X0.here hx rfl (hb hby at_9) ?_
    show Steps p.tables e below (s₁.setTop (mkF m 11 #[.val (.int p0), .val (.int p1), .val (.int p2), .val (.int p3), .val (.int p4), .val (.int p5), .val (.int ((p0 &&& (2147483647 : Int32)) % (5 : Int32))), .unset, .unset, .unset, .unset, .unset, .unset, .unset, .unset] [(.int (16 : Int32)), (.int p1)])) _
    refine iremM X0 hx rfl (hb hby at_11) rfl (by decide) ?_
    show Steps p.tables e below (s₁.setTop (mkF m 12 #[.val (.int p0), .val (.int p1), .val (.int p2), .val (.int p3), .val (.int p4), .val (.int p5), .val (.int ((p0 &&& (2147483647 : Int32)) % (5 : Int32))), .unset, .unset, .unset, .unset, .unset, .unset, .unset, .unset] [(.int (p1 % (16 : Int32)))])) _
    refine XS.istore X0.here hx rfl (hb hby at_12) rfl (l' := #[.val (.int p0), .val (.int p1), .val (.int p2), .val (.int p3), .val (.int p4), .val (.int p5), .val (.int ((p0 &&& (2147483647 : Int32)) % (5 : Int32))), .val (.int (p1 % (16 : Int32))), .unset, .unset, .unset, .unset, .unset, .unset, .unset]) rfl ?_
    show Steps p.tables e below (s₁.setTop (mkF m 14 #[.val (.int p0), .val (.int p1), .val (.int p2), .val (.int p3), .val (.int p4), .val (.int p5), .val (.int ((p0 &&& (2147483647 : Int32)) % (5 : Int32))), .val (.int (p1 % (16 : Int32))), .unset, .unset, .unset, .unset, .unset, .unset, .unset] [])) _
    refine XS.iloadN X0.here hx rfl (hb hby at_14) rfl ?_
    show Steps p.tables e below (s₁.setTop (mkF m 15 #[.val (.int p0), .val (.int p1), .val (.int p2), .val (.int p3), .val (.int p4), .val (.int p5), .val (.int ((p0 &&& (2147483647 : Int32)) % (5 : Int32))), .val (.int (p1 % (16 : Int32))), .unset, .unset, .unset, .unset, .unset, .unset, .unset] [(.int p2)])) _
    refine XS.bipush X0.here hx rfl (hb hby at_15) ?_
    show Steps p.tables e below (s₁.setTop (mkF m 17 #[.val (.int p0), .val (.int p1), .val (.int p2), .val (.int p3), .val (.int p4), .val (.int p5), .val (.int ((p0 &&& (2147483647 : Int32)) % (5 : Int32))), .val (.int (p1 % (16 : Int32))), .unset, .unset, .unset, .unset, .unset, .unset, .unset] [(.int (16 : Int32)), (.int p2)])) _
    refine iremM X0 hx rfl (hb hby at_17) rfl (by decide) ?_
    show Steps p.tables e below (s₁.setTop (mkF m 18 #[.val (.int p0), .val (.int p1), .val (.int p2), .val (.int p3), .val (.int p4), .val (.int p5), .val (.int ((p0 &&& (2147483647 : Int32)) % (5 : Int32))), .val (.int (p1 % (16 : Int32))), .unset, .unset, .unset, .unset, .unset, .unset, .unset] [(.int (p2 % (16 : Int32)))])) _
    refine XS.istore X0.here hx rfl (hb hby at_18) rfl (l' := #[.val (.int p0), .val (.int p1), .val (.int p2), .val (.int p3), .val (.int p4), .val (.int p5), .val (.int ((p0 &&& (2147483647 : Int32)) % (5 : Int32))), .val (.int (p1 % (16 : Int32))), .val (.int (p2 % (16 : Int32))), .unset, .unset, .unset, .unset, .unset, .unset]) rfl ?_
    show Steps p.tables e below (s₁.setTop (mkF m 20 #[.val (.int p0), .val (.int p1), .val (.int p2), .val (.int p3), .val (.int p4), .val (.int p5), .val (.int ((p0 &&& (2147483647 : Int32)) % (5 : Int32))), .val (.int (p1 % (16 : Int32))), .val (.int (p2 % (16 : Int32))), .unset, .unset, .unset, .unset, .unset, .unset] [])) _
    refine XS.iloadN X0.here hx rfl (hb hby at_20) rfl ?_
    show Steps p.tables e below (s₁.setTop (mkF m 21 #[.val (.int p0), .val (.int p1), .val (.int p2), .val (.int p3), .val (.int p4), .val (.int p5), .val (.int ((p0 &&& (2147483647 : Int32)) % (5 : Int32))), .val (.int (p1 % (16 : Int32))), .val (.int (p2 % (16 : Int32))), .unset, .unset, .unset, .unset, .unset, .unset] [(.int p3)])) _
    refine XS.bipush X0.here hx rfl (hb hby at_21) ?_
    show Steps p.tables e below (s₁.setTop (mkF m 23 #[.val (.int p0), .val (.int p1), .val (.int p2), .val (.int p3), .val (.int p4), .val (.int p5), .val (.int ((p0 &&& (2147483647 : Int32)) % (5 : Int32))), .val (.int (p1 % (16 : Int32))), .val (.int (p2 % (16 : Int32))), .unset, .unset, .unset, .unset, .unset, .unset] [(.int (16 : Int32)), (.int p3)])) _
    refine iremM X0 hx rfl (hb hby at_23) rfl (by decide) ?_
    show Steps p.tables e below (s₁.setTop (mkF m 24 #[.val (.int p0), .val (.int p1), .val (.int p2), .val (.int p3), .val (.int p4), .val (.int p5), .val (.int ((p0 &&& (2147483647 : Int32)) % (5 : Int32))), .val (.int (p1 % (16 : Int32))), .val (.int (p2 % (16 : Int32))), .unset, .unset, .unset, .unset, .unset, .unset] [(.int (p3 % (16 : Int32)))])) _
    refine XS.istore X0.here hx rfl (hb hby at_24) rfl (l' := #[.val (.int p0), .val (.int p1), .val (.int p2), .val (.int p3), .val (.int p4), .val (.int p5), .val (.int ((p0 &&& (2147483647 : Int32)) % (5 : Int32))), .val (.int (p1 % (16 : Int32))), .val (.int (p2 % (16 : Int32))), .val (.int (p3 % (16 : Int32))), .unset, .unset, .unset, .unset, .unset]) rfl ?_
    show Steps p.tables e below (s₁.setTop (mkF m 26 #[.val (.int p0), .val (.int p1), .val (.int p2), .val (.int p3), .val (.int p4), .val (.int p5), .val (.int ((p0 &&& (2147483647 : Int32)) % (5 : Int32))), .val (.int (p1 % (16 : Int32))), .val (.int (p2 % (16 : Int32))), .val (.int (p3 % (16 : Int32))), .unset, .unset, .unset, .unset, .unset] [])) _
    refine XS.iload X0.here hx rfl (hb hby at_26) rfl ?_
    show Steps p.tables e below (s₁.setTop (mkF m 28 #[.val (.int p0), .val (.int p1), .val (.int p2), .val (.int p3), .val (.int p4), .val (.int p5), .val (.int ((p0 &&& (2147483647 : Int32)) % (5 : Int32))), .val (.int (p1 % (16 : Int32))), .val (.int (p2 % (16 : Int32))), .val (.int (p3 % (16 : Int32))), .unset, .unset, .unset, .unset, .unset] [(.int p4)])) _
    refine XS.bipush X0.here hx rfl (hb hby at_28) ?_
    show Steps p.tables e below (s₁.setTop (mkF m 30 #[.val (.int p0), .val (.int p1), .val (.int p2), .val (.int p3), .val (.int p4), .val (.int p5), .val (.int ((p0 &&& (2147483647 : Int32)) % (5 : Int32))), .val (.int (p1 % (16 : Int32))), .val (.int (p2 % (16 : Int32))), .val (.int (p3 % (16 : Int32))), .unset, .unset, .unset, .unset, .unset] [(.int (16 : Int32)), (.int p4)])) _
    refine iremM X0 hx rfl (hb hby at_30) rfl (by decide) ?_
    show Steps p.tables e below (s₁.setTop (mkF m 31 #[.val (.int p0), .val (.int p1), .val (.int p2), .val (.int p3), .val (.int p4), .val (.int p5), .val (.int ((p0 &&& (2147483647 : Int32)) % (5 : Int32))), .val (.int (p1 % (16 : Int32))), .val (.int (p2 % (16 : Int32))), .val (.int (p3 % (16 : Int32))), .unset, .unset, .unset, .unset, .unset] [(.int (p4 % (16 : Int32)))])) _
    refine XS.istore X0.here hx rfl (hb hby at_31) rfl (l' := #[.val (.int p0), .val (.int p1), .val (.int p2), .val (.int p3), .val (.int p4), .val (.int p5), .val (.int ((p0 &&& (2147483647 : Int32)) % (5 : Int32))), .val (.int (p1 % (16 : Int32))), .val (.int (p2 % (16 : Int32))), .val (.int (p3 % (16 : Int32))), .val (.int (p4 % (16 : Int32))), .unset, .unset, .unset, .unset]) rfl ?_
    show Steps p.tables e below (s₁.setTop (mkF m 33 #[.val (.int p0), .val (.int p1), .val (.int p2), .val (.int p3), .val (.int p4), .val (.int p5), .val (.int ((p0 &&& (2147483647 : Int32)) % (5 : Int32))), .val (.int (p1 % (16 : Int32))), .val (.int (p2 % (16 : Int32))), .val (.int (p3 % (16 : Int32))), .val (.int (p4 % (16 : Int32))), .unset, .unset, .unset, .unset] [])) _
    refine XS.iload X0.here hx rfl (hb hby at_33) rfl ?_
    show Steps p.tables e below (s₁.setTop (mkF m 35 #[.val (.int p0), .val (.int p1), .val (.int p2), .val (.int p3), .val (.int p4), .val (.int p5), .val (.int ((p0 &&& (2147483647 : Int32)) % (5 : Int32))), .val (.int (p1 % (16 : Int32))), .val (.int (p2 % (16 : Int32))), .val (.int (p3 % (16 : Int32))), .val (.int (p4 % (16 : Int32))), .unset, .unset, .unset, .unset] [(.int p5)])) _
    refine XS.bipush X0.here hx rfl (hb hby at_35) ?_
    show Steps p.tables e below (s₁.setTop (mkF m 37 #[.val (.int p0), .val (.int p1), .val (.int p2), .val (.int p3), .val (.int p4), .val (.int p5), .val (.int ((p0 &&& (2147483647 : Int32)) % (5 : Int32))), .val (.int (p1 % (16 : Int32))), .val (.int (p2 % (16 : Int32))), .val (.int (p3 % (16 : Int32))), .val (.int (p4 % (16 : Int32))), .unset, .unset, .unset, .unset] [(.int (16 : Int32)), (.int p5)])) _
    refine iremM X0 hx rfl (hb hby at_37) rfl (by decide) ?_
    show Steps p.tables e below (s₁.setTop (mkF m 38 #[.val (.int p0), .val (.int p1), .val (.int p2), .val (.int p3), .val (.int p4), .val (.int p5), .val (.int ((p0 &&& (2147483647 : Int32)) % (5 : Int32))), .val (.int (p1 % (16 : Int32))), .val (.int (p2 % (16 : Int32))), .val (.int (p3 % (16 : Int32))), .val (.int (p4 % (16 : Int32))), .unset, .unset, .unset, .unset] [(.int (p5 % (16 : Int32)))])) _
    refine XS.istore X0.here hx rfl (hb hby at_38) rfl (l' := #[.val (.int p0), .val (.int p1), .val (.int p2), .val (.int p3), .val (.int p4), .val (.int p5), .val (.int ((p0 &&& (2147483647 : Int32)) % (5 : Int32))), .val (.int (p1 % (16 : Int32))), .val (.int (p2 % (16 : Int32))), .val (.int (p3 % (16 : Int32))), .val (.int (p4 % (16 : Int32))), .val (.int (p5 % (16 : Int32))), .unset, .unset, .unset]) rfl ?_
    exact k
  rcases own_k p0 with hk | hk | hk | hk | hk
  · have k2 : ∀ t, Steps p.tables e below (s₁.setTop (mkF m 40 #[.val (.int p0), .val (.int p1), .val (.int p2), .val (.int p3), .val (.int p4), .val (.int p5), .val (.int (0 : Int32)), .val (.int (p1 % (16 : Int32))), .val (.int (p2 % (16 : Int32))), .val (.int (p3 % (16 : Int32))), .val (.int (p4 % (16 : Int32))), .val (.int (p5 % (16 : Int32))), .unset, .unset, .unset] [])) t → Steps p.tables e below (s₁.setTop (entryFrame m #[(.int p0), (.int p1), (.int p2), (.int p3), (.int p4), (.int p5)] maxLocals)) t := by
      intro t k
      refine k1 _ ?_
      rw [hk]
      exact k
    obtain ⟨T3, h3, c3, X3, e3, E3, A3, st3⟩ := newP X0 hx hZ (hw _ (List.mem_of_getElem? (i := 1) rfl)) e0 (g := (mkF m 42 #[.val (.int p0), .val (.int p1), .val (.int p2), .val (.int p3), .val (.int p4), .val (.int p5), .val (.int (0 : Int32)), .val (.int (p1 % (16 : Int32))), .val (.int (p2 % (16 : Int32))), .val (.int (p3 % (16 : Int32))), .val (.int (p4 % (16 : Int32))), .val (.int (p5 % (16 : Int32))), .unset, .unset, .unset] [(.int (0 : Int32))])) rfl (hb hby at_42) rfl (by decide) (cap := 0) (by decide) (by decide) (by decide) (by decide)
    obtain ⟨b3, g3⟩ : ∃ z, z = h0.size := ⟨_, rfl⟩
    rw [← g3] at A3 st3
    have gn_b3 : n0 ≤ b3 := Nat.le_trans Z0 (Nat.le_of_eq g3.symm)
    have Zs3 : n0 ≤ h3.size := Nat.le_trans Z0 E3.1
    have V_b3 : Arv Z h3 b3 c3 .double (0 : Int32) [] (.double (0 : UInt64)) := Arv.new A3 (by decide)
    obtain ⟨_, _, ⟨T4, L4, k4_, n4⟩, -, X4, ⟨Lc4, hQ4, l4, y4, z4⟩, st4⟩ := Jvm.LawKit.callS X3 hx (y := (⟨"com/example/interlace/interlace/method/Ties", "lowestWithin", "([DD)I"⟩ : MethodName)) hown (mvT hZ (hw _ (List.mem_of_getElem? (i := 2) rfl))) (mvT hZ (hw _ (List.mem_of_getElem? (i := 3) rfl))) (mvT hZ (hw _ (List.mem_of_getElem? (i := 4) rfl))) (mvT hZ (hw _ (List.mem_of_getElem? (i := 5) rfl))) (by decide) (backOf (W := 0) (rmL0 l Z a0 hw [] b3 (FP.i2d (p5 % (16 : Int32))) c3  h3 n0 V_b3) hZ (hw _ (List.mem_of_getElem? (i := 5) rfl)) (hw _ (List.mem_of_getElem? (i := 4) rfl)) (by decide) (by decide)) (g := (mkF m 102 #[.val (.int p0), .val (.int p1), .val (.int p2), .val (.int p3), .val (.int p4), .val (.int p5), .val (.int (0 : Int32)), .val (.int (p1 % (16 : Int32))), .val (.int (p2 % (16 : Int32))), .val (.int (p3 % (16 : Int32))), .val (.int (p4 % (16 : Int32))), .val (.int (p5 % (16 : Int32))), .val (.ref b3), .unset, .unset] [(.double (FP.i2d (p5 % (16 : Int32)))), (.ref b3)])) rfl (by rw [hml]; rfl) (argsL := [(.ref b3), (.double (FP.i2d (p5 % (16 : Int32))))]) (rest := []) (lenOf pd_0 rfl) rfl (by show 2 * 0 + _ ≤ _; exact Nat.le_of_eq rfl) (hb hby at_102) (fun _ _ => ⟨rfl, e3, (by decide : 1 + 0 ≤ _), (by decide : 0 + 0 ≤ _)⟩)
    dsimp only [Pt.U, Pt.locs, Pt.cells, Pt.slots] at X4 l4 y4 z4 st4 hQ4
    subst l4 y4 z4
    obtain ⟨rfl, Nq4, e4⟩ := hQ4
    have N4 := Fr.app N0 Nq4
    have k5 : ∀ t, Steps p.tables e below (T4.setTop (mkF m 185 #[.val (.int p0), .val (.int p1), .val (.int p2), .val (.int p3), .val (.int p4), .val (.int p5), .val (.int (0 : Int32)), .val (.int (p1 % (16 : Int32))), .val (.int (p2 % (16 : Int32))), .val (.int (p3 % (16 : Int32))), .val (.int (p4 % (16 : Int32))), .val (.int (p5 % (16 : Int32))), .val (.ref b3), .val (.int (own_low0 (FP.i2d (p5 % (16 : Int32))) )), .val (.int (-1 : Int32))] [(.int (1 : Int32))])) t → Steps p.tables e below (s₁.setTop (entryFrame m #[(.int p0), (.int p1), (.int p2), (.int p3), (.int p4), (.int p5)] maxLocals)) t := by
      intro t k
      refine k2 _ ?_
      show Steps p.tables e below (s₁.setTop (mkF m 40 #[.val (.int p0), .val (.int p1), .val (.int p2), .val (.int p3), .val (.int p4), .val (.int p5), .val (.int (0 : Int32)), .val (.int (p1 % (16 : Int32))), .val (.int (p2 % (16 : Int32))), .val (.int (p3 % (16 : Int32))), .val (.int (p4 % (16 : Int32))), .val (.int (p5 % (16 : Int32))), .unset, .unset, .unset] [])) _
      refine XS.iload X0.here hx rfl (hb hby at_40) rfl ?_
      show Steps p.tables e below (s₁.setTop (mkF m 42 #[.val (.int p0), .val (.int p1), .val (.int p2), .val (.int p3), .val (.int p4), .val (.int p5), .val (.int (0 : Int32)), .val (.int (p1 % (16 : Int32))), .val (.int (p2 % (16 : Int32))), .val (.int (p3 % (16 : Int32))), .val (.int (p4 % (16 : Int32))), .val (.int (p5 % (16 : Int32))), .unset, .unset, .unset] [(.int (0 : Int32))])) _
      refine st3 _ ?_
      show Steps p.tables e below (T3.setTop (mkF m 44 #[.val (.int p0), .val (.int p1), .val (.int p2), .val (.int p3), .val (.int p4), .val (.int p5), .val (.int (0 : Int32)), .val (.int (p1 % (16 : Int32))), .val (.int (p2 % (16 : Int32))), .val (.int (p3 % (16 : Int32))), .val (.int (p4 % (16 : Int32))), .val (.int (p5 % (16 : Int32))), .unset, .unset, .unset] [(.ref b3)])) _
      refine XS.astore X3.here hx rfl (hb hby at_44) rfl rfl (l' := #[.val (.int p0), .val (.int p1), .val (.int p2), .val (.int p3), .val (.int p4), .val (.int p5), .val (.int (0 : Int32)), .val (.int (p1 % (16 : Int32))), .val (.int (p2 % (16 : Int32))), .val (.int (p3 % (16 : Int32))), .val (.int (p4 % (16 : Int32))), .val (.int (p5 % (16 : Int32))), .val (.ref b3), .unset, .unset]) rfl ?_
      show Steps p.tables e below (T3.setTop (mkF m 46 #[.val (.int p0), .val (.int p1), .val (.int p2), .val (.int p3), .val (.int p4), .val (.int p5), .val (.int (0 : Int32)), .val (.int (p1 % (16 : Int32))), .val (.int (p2 % (16 : Int32))), .val (.int (p3 % (16 : Int32))), .val (.int (p4 % (16 : Int32))), .val (.int (p5 % (16 : Int32))), .val (.ref b3), .unset, .unset] [])) _
      refine XS.iload X3.here hx rfl (hb hby at_46) rfl ?_
      show Steps p.tables e below (T3.setTop (mkF m 48 #[.val (.int p0), .val (.int p1), .val (.int p2), .val (.int p3), .val (.int p4), .val (.int p5), .val (.int (0 : Int32)), .val (.int (p1 % (16 : Int32))), .val (.int (p2 % (16 : Int32))), .val (.int (p3 % (16 : Int32))), .val (.int (p4 % (16 : Int32))), .val (.int (p5 % (16 : Int32))), .val (.ref b3), .unset, .unset] [(.int (0 : Int32))])) _
      refine XS.ifYes X3.here hx rfl (pc0 := 48) (pc' := 58) rfl (hb hby at_48) rfl ((if0 _ _).trans (flt (by decide)).2.2.2) (by decide) (by decide) ?_
      show Steps p.tables e below (T3.setTop (mkF m 58 #[.val (.int p0), .val (.int p1), .val (.int p2), .val (.int p3), .val (.int p4), .val (.int p5), .val (.int (0 : Int32)), .val (.int (p1 % (16 : Int32))), .val (.int (p2 % (16 : Int32))), .val (.int (p3 % (16 : Int32))), .val (.int (p4 % (16 : Int32))), .val (.int (p5 % (16 : Int32))), .val (.ref b3), .unset, .unset] [])) _
      refine XS.iload X3.here hx rfl (hb hby at_58) rfl ?_
      show Steps p.tables e below (T3.setTop (mkF m 60 #[.val (.int p0), .val (.int p1), .val (.int p2), .val (.int p3), .val (.int p4), .val (.int p5), .val (.int (0 : Int32)), .val (.int (p1 % (16 : Int32))), .val (.int (p2 % (16 : Int32))), .val (.int (p3 % (16 : Int32))), .val (.int (p4 % (16 : Int32))), .val (.int (p5 % (16 : Int32))), .val (.ref b3), .unset, .unset] [(.int (0 : Int32))])) _
      refine XS.iconst X3.here hx rfl (hb hby at_60) ?_
      show Steps p.tables e below (T3.setTop (mkF m 61 #[.val (.int p0), .val (.int p1), .val (.int p2), .val (.int p3), .val (.int p4), .val (.int p5), .val (.int (0 : Int32)), .val (.int (p1 % (16 : Int32))), .val (.int (p2 % (16 : Int32))), .val (.int (p3 % (16 : Int32))), .val (.int (p4 % (16 : Int32))), .val (.int (p5 % (16 : Int32))), .val (.ref b3), .unset, .unset] [(.int (1 : Int32)), (.int (0 : Int32))])) _
      refine XS.icmpYes X3.here hx rfl (pc0 := 61) (pc' := 71) rfl (hb hby at_61) rfl (flt (by decide)).2.2.2 (by decide) (by decide) ?_
      show Steps p.tables e below (T3.setTop (mkF m 71 #[.val (.int p0), .val (.int p1), .val (.int p2), .val (.int p3), .val (.int p4), .val (.int p5), .val (.int (0 : Int32)), .val (.int (p1 % (16 : Int32))), .val (.int (p2 % (16 : Int32))), .val (.int (p3 % (16 : Int32))), .val (.int (p4 % (16 : Int32))), .val (.int (p5 % (16 : Int32))), .val (.ref b3), .unset, .unset] [])) _
      refine XS.iload X3.here hx rfl (hb hby at_71) rfl ?_
      show Steps p.tables e below (T3.setTop (mkF m 73 #[.val (.int p0), .val (.int p1), .val (.int p2), .val (.int p3), .val (.int p4), .val (.int p5), .val (.int (0 : Int32)), .val (.int (p1 % (16 : Int32))), .val (.int (p2 % (16 : Int32))), .val (.int (p3 % (16 : Int32))), .val (.int (p4 % (16 : Int32))), .val (.int (p5 % (16 : Int32))), .val (.ref b3), .unset, .unset] [(.int (0 : Int32))])) _
      refine XS.iconst X3.here hx rfl (hb hby at_73) ?_
      show Steps p.tables e below (T3.setTop (mkF m 74 #[.val (.int p0), .val (.int p1), .val (.int p2), .val (.int p3), .val (.int p4), .val (.int p5), .val (.int (0 : Int32)), .val (.int (p1 % (16 : Int32))), .val (.int (p2 % (16 : Int32))), .val (.int (p3 % (16 : Int32))), .val (.int (p4 % (16 : Int32))), .val (.int (p5 % (16 : Int32))), .val (.ref b3), .unset, .unset] [(.int (2 : Int32)), (.int (0 : Int32))])) _
      refine XS.icmpYes X3.here hx rfl (pc0 := 74) (pc' := 84) rfl (hb hby at_74) rfl (flt (by decide)).2.2.2 (by decide) (by decide) ?_
      show Steps p.tables e below (T3.setTop (mkF m 84 #[.val (.int p0), .val (.int p1), .val (.int p2), .val (.int p3), .val (.int p4), .val (.int p5), .val (.int (0 : Int32)), .val (.int (p1 % (16 : Int32))), .val (.int (p2 % (16 : Int32))), .val (.int (p3 % (16 : Int32))), .val (.int (p4 % (16 : Int32))), .val (.int (p5 % (16 : Int32))), .val (.ref b3), .unset, .unset] [])) _
      refine XS.iload X3.here hx rfl (hb hby at_84) rfl ?_
      show Steps p.tables e below (T3.setTop (mkF m 86 #[.val (.int p0), .val (.int p1), .val (.int p2), .val (.int p3), .val (.int p4), .val (.int p5), .val (.int (0 : Int32)), .val (.int (p1 % (16 : Int32))), .val (.int (p2 % (16 : Int32))), .val (.int (p3 % (16 : Int32))), .val (.int (p4 % (16 : Int32))), .val (.int (p5 % (16 : Int32))), .val (.ref b3), .unset, .unset] [(.int (0 : Int32))])) _
      refine XS.iconst X3.here hx rfl (hb hby at_86) ?_
      show Steps p.tables e below (T3.setTop (mkF m 87 #[.val (.int p0), .val (.int p1), .val (.int p2), .val (.int p3), .val (.int p4), .val (.int p5), .val (.int (0 : Int32)), .val (.int (p1 % (16 : Int32))), .val (.int (p2 % (16 : Int32))), .val (.int (p3 % (16 : Int32))), .val (.int (p4 % (16 : Int32))), .val (.int (p5 % (16 : Int32))), .val (.ref b3), .unset, .unset] [(.int (3 : Int32)), (.int (0 : Int32))])) _
      refine XS.icmpYes X3.here hx rfl (pc0 := 87) (pc' := 97) rfl (hb hby at_87) rfl (flt (by decide)).2.2.2 (by decide) (by decide) ?_
      show Steps p.tables e below (T3.setTop (mkF m 97 #[.val (.int p0), .val (.int p1), .val (.int p2), .val (.int p3), .val (.int p4), .val (.int p5), .val (.int (0 : Int32)), .val (.int (p1 % (16 : Int32))), .val (.int (p2 % (16 : Int32))), .val (.int (p3 % (16 : Int32))), .val (.int (p4 % (16 : Int32))), .val (.int (p5 % (16 : Int32))), .val (.ref b3), .unset, .unset] [])) _
      refine XS.aload X3.here hx rfl (hb hby at_97) rfl rfl ?_
      show Steps p.tables e below (T3.setTop (mkF m 99 #[.val (.int p0), .val (.int p1), .val (.int p2), .val (.int p3), .val (.int p4), .val (.int p5), .val (.int (0 : Int32)), .val (.int (p1 % (16 : Int32))), .val (.int (p2 % (16 : Int32))), .val (.int (p3 % (16 : Int32))), .val (.int (p4 % (16 : Int32))), .val (.int (p5 % (16 : Int32))), .val (.ref b3), .unset, .unset] [(.ref b3)])) _
      refine XS.iload X3.here hx rfl (hb hby at_99) rfl ?_
      show Steps p.tables e below (T3.setTop (mkF m 101 #[.val (.int p0), .val (.int p1), .val (.int p2), .val (.int p3), .val (.int p4), .val (.int p5), .val (.int (0 : Int32)), .val (.int (p1 % (16 : Int32))), .val (.int (p2 % (16 : Int32))), .val (.int (p3 % (16 : Int32))), .val (.int (p4 % (16 : Int32))), .val (.int (p5 % (16 : Int32))), .val (.ref b3), .unset, .unset] [(.int (p5 % (16 : Int32))), (.ref b3)])) _
      refine XS.i2dS X3.here hx rfl (hb hby at_101) rfl rfl ?_
      show Steps p.tables e below (T3.setTop (mkF m 102 #[.val (.int p0), .val (.int p1), .val (.int p2), .val (.int p3), .val (.int p4), .val (.int p5), .val (.int (0 : Int32)), .val (.int (p1 % (16 : Int32))), .val (.int (p2 % (16 : Int32))), .val (.int (p3 % (16 : Int32))), .val (.int (p4 % (16 : Int32))), .val (.int (p5 % (16 : Int32))), .val (.ref b3), .unset, .unset] [(.double (FP.i2d (p5 % (16 : Int32)))), (.ref b3)])) _
      refine st4 _ ?_
      show Steps p.tables e below (T4.setTop (mkF m 105 #[.val (.int p0), .val (.int p1), .val (.int p2), .val (.int p3), .val (.int p4), .val (.int p5), .val (.int (0 : Int32)), .val (.int (p1 % (16 : Int32))), .val (.int (p2 % (16 : Int32))), .val (.int (p3 % (16 : Int32))), .val (.int (p4 % (16 : Int32))), .val (.int (p5 % (16 : Int32))), .val (.ref b3), .unset, .unset] [(.int (own_low0 (FP.i2d (p5 % (16 : Int32))) ))])) _
      refine XS.istore X4.here hx rfl (hb hby at_105) rfl (l' := #[.val (.int p0), .val (.int p1), .val (.int p2), .val (.int p3), .val (.int p4), .val (.int p5), .val (.int (0 : Int32)), .val (.int (p1 % (16 : Int32))), .val (.int (p2 % (16 : Int32))), .val (.int (p3 % (16 : Int32))), .val (.int (p4 % (16 : Int32))), .val (.int (p5 % (16 : Int32))), .val (.ref b3), .val (.int (own_low0 (FP.i2d (p5 % (16 : Int32))) )), .unset]) rfl ?_
      show Steps p.tables e below (T4.setTop (mkF m 107 #[.val (.int p0), .val (.int p1), .val (.int p2), .val (.int p3), .val (.int p4), .val (.int p5), .val (.int (0 : Int32)), .val (.int (p1 % (16 : Int32))), .val (.int (p2 % (16 : Int32))), .val (.int (p3 % (16 : Int32))), .val (.int (p4 % (16 : Int32))), .val (.int (p5 % (16 : Int32))), .val (.ref b3), .val (.int (own_low0 (FP.i2d (p5 % (16 : Int32))) )), .unset] [])) _
      refine XS.iconst X4.here hx rfl (hb hby at_107) ?_
      show Steps p.tables e below (T4.setTop (mkF m 108 #[.val (.int p0), .val (.int p1), .val (.int p2), .val (.int p3), .val (.int p4), .val (.int p5), .val (.int (0 : Int32)), .val (.int (p1 % (16 : Int32))), .val (.int (p2 % (16 : Int32))), .val (.int (p3 % (16 : Int32))), .val (.int (p4 % (16 : Int32))), .val (.int (p5 % (16 : Int32))), .val (.ref b3), .val (.int (own_low0 (FP.i2d (p5 % (16 : Int32))) )), .unset] [(.int (-1 : Int32))])) _
      refine XS.istore X4.here hx rfl (hb hby at_108) rfl (l' := #[.val (.int p0), .val (.int p1), .val (.int p2), .val (.int p3), .val (.int p4), .val (.int p5), .val (.int (0 : Int32)), .val (.int (p1 % (16 : Int32))), .val (.int (p2 % (16 : Int32))), .val (.int (p3 % (16 : Int32))), .val (.int (p4 % (16 : Int32))), .val (.int (p5 % (16 : Int32))), .val (.ref b3), .val (.int (own_low0 (FP.i2d (p5 % (16 : Int32))) )), .val (.int (-1 : Int32))]) rfl ?_
      show Steps p.tables e below (T4.setTop (mkF m 110 #[.val (.int p0), .val (.int p1), .val (.int p2), .val (.int p3), .val (.int p4), .val (.int p5), .val (.int (0 : Int32)), .val (.int (p1 % (16 : Int32))), .val (.int (p2 % (16 : Int32))), .val (.int (p3 % (16 : Int32))), .val (.int (p4 % (16 : Int32))), .val (.int (p5 % (16 : Int32))), .val (.ref b3), .val (.int (own_low0 (FP.i2d (p5 % (16 : Int32))) )), .val (.int (-1 : Int32))] [])) _
      refine XS.iload X4.here hx rfl (hb hby at_110) rfl ?_
      show Steps p.tables e below (T4.setTop (mkF m 112 #[.val (.int p0), .val (.int p1), .val (.int p2), .val (.int p3), .val (.int p4), .val (.int p5), .val (.int (0 : Int32)), .val (.int (p1 % (16 : Int32))), .val (.int (p2 % (16 : Int32))), .val (.int (p3 % (16 : Int32))), .val (.int (p4 % (16 : Int32))), .val (.int (p5 % (16 : Int32))), .val (.ref b3), .val (.int (own_low0 (FP.i2d (p5 % (16 : Int32))) )), .val (.int (-1 : Int32))] [(.int (0 : Int32))])) _
      refine XS.iconst X4.here hx rfl (hb hby at_112) ?_
      show Steps p.tables e below (T4.setTop (mkF m 113 #[.val (.int p0), .val (.int p1), .val (.int p2), .val (.int p3), .val (.int p4), .val (.int p5), .val (.int (0 : Int32)), .val (.int (p1 % (16 : Int32))), .val (.int (p2 % (16 : Int32))), .val (.int (p3 % (16 : Int32))), .val (.int (p4 % (16 : Int32))), .val (.int (p5 % (16 : Int32))), .val (.ref b3), .val (.int (own_low0 (FP.i2d (p5 % (16 : Int32))) )), .val (.int (-1 : Int32))] [(.int (3 : Int32)), (.int (0 : Int32))])) _
      refine XS.icmpYes X4.here hx rfl (pc0 := 113) (pc' := 126) rfl (hb hby at_113) rfl (flt (by decide)).2.2.2 (by decide) (by decide) ?_
      show Steps p.tables e below (T4.setTop (mkF m 126 #[.val (.int p0), .val (.int p1), .val (.int p2), .val (.int p3), .val (.int p4), .val (.int p5), .val (.int (0 : Int32)), .val (.int (p1 % (16 : Int32))), .val (.int (p2 % (16 : Int32))), .val (.int (p3 % (16 : Int32))), .val (.int (p4 % (16 : Int32))), .val (.int (p5 % (16 : Int32))), .val (.ref b3), .val (.int (own_low0 (FP.i2d (p5 % (16 : Int32))) )), .val (.int (-1 : Int32))] [])) _
      refine XS.iload X4.here hx rfl (hb hby at_126) rfl ?_
      show Steps p.tables e below (T4.setTop (mkF m 128 #[.val (.int p0), .val (.int p1), .val (.int p2), .val (.int p3), .val (.int p4), .val (.int p5), .val (.int (0 : Int32)), .val (.int (p1 % (16 : Int32))), .val (.int (p2 % (16 : Int32))), .val (.int (p3 % (16 : Int32))), .val (.int (p4 % (16 : Int32))), .val (.int (p5 % (16 : Int32))), .val (.ref b3), .val (.int (own_low0 (FP.i2d (p5 % (16 : Int32))) )), .val (.int (-1 : Int32))] [(.int (0 : Int32))])) _
      refine XS.iconst X4.here hx rfl (hb hby at_128) ?_
      show Steps p.tables e below (T4.setTop (mkF m 129 #[.val (.int p0), .val (.int p1), .val (.int p2), .val (.int p3), .val (.int p4), .val (.int p5), .val (.int (0 : Int32)), .val (.int (p1 % (16 : Int32))), .val (.int (p2 % (16 : Int32))), .val (.int (p3 % (16 : Int32))), .val (.int (p4 % (16 : Int32))), .val (.int (p5 % (16 : Int32))), .val (.ref b3), .val (.int (own_low0 (FP.i2d (p5 % (16 : Int32))) )), .val (.int (-1 : Int32))] [(.int (2 : Int32)), (.int (0 : Int32))])) _
      refine XS.icmpYes X4.here hx rfl (pc0 := 129) (pc' := 142) rfl (hb hby at_129) rfl (flt (by decide)).2.2.2 (by decide) (by decide) ?_
      show Steps p.tables e below (T4.setTop (mkF m 142 #[.val (.int p0), .val (.int p1), .val (.int p2), .val (.int p3), .val (.int p4), .val (.int p5), .val (.int (0 : Int32)), .val (.int (p1 % (16 : Int32))), .val (.int (p2 % (16 : Int32))), .val (.int (p3 % (16 : Int32))), .val (.int (p4 % (16 : Int32))), .val (.int (p5 % (16 : Int32))), .val (.ref b3), .val (.int (own_low0 (FP.i2d (p5 % (16 : Int32))) )), .val (.int (-1 : Int32))] [])) _
      refine XS.iload X4.here hx rfl (hb hby at_142) rfl ?_
      show Steps p.tables e below (T4.setTop (mkF m 144 #[.val (.int p0), .val (.int p1), .val (.int p2), .val (.int p3), .val (.int p4), .val (.int p5), .val (.int (0 : Int32)), .val (.int (p1 % (16 : Int32))), .val (.int (p2 % (16 : Int32))), .val (.int (p3 % (16 : Int32))), .val (.int (p4 % (16 : Int32))), .val (.int (p5 % (16 : Int32))), .val (.ref b3), .val (.int (own_low0 (FP.i2d (p5 % (16 : Int32))) )), .val (.int (-1 : Int32))] [(.int (0 : Int32))])) _
      refine XS.iconst X4.here hx rfl (hb hby at_144) ?_
      show Steps p.tables e below (T4.setTop (mkF m 145 #[.val (.int p0), .val (.int p1), .val (.int p2), .val (.int p3), .val (.int p4), .val (.int p5), .val (.int (0 : Int32)), .val (.int (p1 % (16 : Int32))), .val (.int (p2 % (16 : Int32))), .val (.int (p3 % (16 : Int32))), .val (.int (p4 % (16 : Int32))), .val (.int (p5 % (16 : Int32))), .val (.ref b3), .val (.int (own_low0 (FP.i2d (p5 % (16 : Int32))) )), .val (.int (-1 : Int32))] [(.int (1 : Int32)), (.int (0 : Int32))])) _
      refine XS.icmpYes X4.here hx rfl (pc0 := 145) (pc' := 158) rfl (hb hby at_145) rfl (flt (by decide)).2.2.2 (by decide) (by decide) ?_
      show Steps p.tables e below (T4.setTop (mkF m 158 #[.val (.int p0), .val (.int p1), .val (.int p2), .val (.int p3), .val (.int p4), .val (.int p5), .val (.int (0 : Int32)), .val (.int (p1 % (16 : Int32))), .val (.int (p2 % (16 : Int32))), .val (.int (p3 % (16 : Int32))), .val (.int (p4 % (16 : Int32))), .val (.int (p5 % (16 : Int32))), .val (.ref b3), .val (.int (own_low0 (FP.i2d (p5 % (16 : Int32))) )), .val (.int (-1 : Int32))] [])) _
      refine XS.iload X4.here hx rfl (hb hby at_158) rfl ?_
      show Steps p.tables e below (T4.setTop (mkF m 160 #[.val (.int p0), .val (.int p1), .val (.int p2), .val (.int p3), .val (.int p4), .val (.int p5), .val (.int (0 : Int32)), .val (.int (p1 % (16 : Int32))), .val (.int (p2 % (16 : Int32))), .val (.int (p3 % (16 : Int32))), .val (.int (p4 % (16 : Int32))), .val (.int (p5 % (16 : Int32))), .val (.ref b3), .val (.int (own_low0 (FP.i2d (p5 % (16 : Int32))) )), .val (.int (-1 : Int32))] [(.int (0 : Int32))])) _
      refine XS.ifYes X4.here hx rfl (pc0 := 160) (pc' := 173) rfl (hb hby at_160) rfl ((if0 _ _).trans (flt (by decide)).2.2.2) (by decide) (by decide) ?_
      show Steps p.tables e below (T4.setTop (mkF m 173 #[.val (.int p0), .val (.int p1), .val (.int p2), .val (.int p3), .val (.int p4), .val (.int p5), .val (.int (0 : Int32)), .val (.int (p1 % (16 : Int32))), .val (.int (p2 % (16 : Int32))), .val (.int (p3 % (16 : Int32))), .val (.int (p4 % (16 : Int32))), .val (.int (p5 % (16 : Int32))), .val (.ref b3), .val (.int (own_low0 (FP.i2d (p5 % (16 : Int32))) )), .val (.int (-1 : Int32))] [])) _
      refine XS.iload X4.here hx rfl (hb hby at_173) rfl ?_
      show Steps p.tables e below (T4.setTop (mkF m 175 #[.val (.int p0), .val (.int p1), .val (.int p2), .val (.int p3), .val (.int p4), .val (.int p5), .val (.int (0 : Int32)), .val (.int (p1 % (16 : Int32))), .val (.int (p2 % (16 : Int32))), .val (.int (p3 % (16 : Int32))), .val (.int (p4 % (16 : Int32))), .val (.int (p5 % (16 : Int32))), .val (.ref b3), .val (.int (own_low0 (FP.i2d (p5 % (16 : Int32))) )), .val (.int (-1 : Int32))] [(.int (own_low0 (FP.i2d (p5 % (16 : Int32))) ))])) _
      refine XS.iload X4.here hx rfl (hb hby at_175) rfl ?_
      show Steps p.tables e below (T4.setTop (mkF m 177 #[.val (.int p0), .val (.int p1), .val (.int p2), .val (.int p3), .val (.int p4), .val (.int p5), .val (.int (0 : Int32)), .val (.int (p1 % (16 : Int32))), .val (.int (p2 % (16 : Int32))), .val (.int (p3 % (16 : Int32))), .val (.int (p4 % (16 : Int32))), .val (.int (p5 % (16 : Int32))), .val (.ref b3), .val (.int (own_low0 (FP.i2d (p5 % (16 : Int32))) )), .val (.int (-1 : Int32))] [(.int (-1 : Int32)), (.int (own_low0 (FP.i2d (p5 % (16 : Int32))) ))])) _
      refine XS.icmpNo X4.here hx rfl (hb hby at_177) rfl (teq (own_e0 _)).2 ?_
      show Steps p.tables e below (T4.setTop (mkF m 180 #[.val (.int p0), .val (.int p1), .val (.int p2), .val (.int p3), .val (.int p4), .val (.int p5), .val (.int (0 : Int32)), .val (.int (p1 % (16 : Int32))), .val (.int (p2 % (16 : Int32))), .val (.int (p3 % (16 : Int32))), .val (.int (p4 % (16 : Int32))), .val (.int (p5 % (16 : Int32))), .val (.ref b3), .val (.int (own_low0 (FP.i2d (p5 % (16 : Int32))) )), .val (.int (-1 : Int32))] [])) _
      refine XS.iconst X4.here hx rfl (hb hby at_180) ?_
      show Steps p.tables e below (T4.setTop (mkF m 181 #[.val (.int p0), .val (.int p1), .val (.int p2), .val (.int p3), .val (.int p4), .val (.int p5), .val (.int (0 : Int32)), .val (.int (p1 % (16 : Int32))), .val (.int (p2 % (16 : Int32))), .val (.int (p3 % (16 : Int32))), .val (.int (p4 % (16 : Int32))), .val (.int (p5 % (16 : Int32))), .val (.ref b3), .val (.int (own_low0 (FP.i2d (p5 % (16 : Int32))) )), .val (.int (-1 : Int32))] [(.int (1 : Int32))])) _
      refine XS.goto X4.here hx rfl (pc0 := 181) (pc' := 185) rfl (hb hby at_181) (by decide) (by decide) ?_
      exact k
    obtain ⟨fs, hr, hrun, hended, hW, hsame⟩ := X4.leave (v := some (.int (1 : Int32))) (fun h => by rw [Bd.returns] at h; cases h)
    refine ⟨_, _, k5 _ ?_, hrun, hended, _, _, rfl, ?_, ⟨_, rfl⟩, hW, hsame.mono (by decide) (by decide)⟩
    · exact retN X4 hx (t := .boolean) Bd.returns (by simp) (hb hby at_185) hr
    · show own_R (some (.int 1)) n0 _ T4.heap _
      rw [e4]
      exact ⟨rfl, N4⟩
  · have k6 : ∀ t, Steps p.tables e below (s₁.setTop (mkF m 40 #[.val (.int p0), .val (.int p1), .val (.int p2), .val (.int p3), .val (.int p4), .val (.int p5), .val (.int (1 : Int32)), .val (.int (p1 % (16 : Int32))), .val (.int (p2 % (16 : Int32))), .val (.int (p3 % (16 : Int32))), .val (.int (p4 % (16 : Int32))), .val (.int (p5 % (16 : Int32))), .unset, .unset, .unset] [])) t → Steps p.tables e below (s₁.setTop (entryFrame m #[(.int p0), (.int p1), (.int p2), (.int p3), (.int p4), (.int p5)] maxLocals)) t := by
      intro t k
      refine k1 _ ?_
      rw [hk]
      exact k
    obtain ⟨T7, h7, c7, X7, e7, E7, A7, st7⟩ := newP X0 hx hZ (hw _ (List.mem_of_getElem? (i := 1) rfl)) e0 (g := (mkF m 42 #[.val (.int p0), .val (.int p1), .val (.int p2), .val (.int p3), .val (.int p4), .val (.int p5), .val (.int (1 : Int32)), .val (.int (p1 % (16 : Int32))), .val (.int (p2 % (16 : Int32))), .val (.int (p3 % (16 : Int32))), .val (.int (p4 % (16 : Int32))), .val (.int (p5 % (16 : Int32))), .unset, .unset, .unset] [(.int (1 : Int32))])) rfl (hb hby at_42) rfl (by decide) (cap := 1) (by decide) (by decide) (by decide) (by decide)
    obtain ⟨b7, g7⟩ : ∃ z, z = h0.size := ⟨_, rfl⟩
    rw [← g7] at A7 st7
    have gn_b7 : n0 ≤ b7 := Nat.le_trans Z0 (Nat.le_of_eq g7.symm)
    have Zs7 : n0 ≤ h7.size := Nat.le_trans Z0 E7.1
    have V_b7 : Arv Z h7 b7 c7 .double (1 : Int32) [(.double (0 : UInt64))] (.double (0 : UInt64)) := (Arv.new A7 (by decide)).pad (pad_rep [] (.double (0 : UInt64)) 1)
    obtain ⟨cl_8, Ar_8, q_8, S_8, N_8, H_8, G_8⟩ := id V_b7
    have hin_8 : ¬ ((0 : Int32) < 0 ∨ cl_8.slots.size ≤ ((0 : Int32)).toNatClampNeg) := inb_of S_8 ⟨by decide, by decide⟩
    obtain ⟨T8, h8, X8, e8, W8, st8⟩ := stD X7 hx hZ e7 Ar_8 (j := (0 : Int32)) hin_8 (g := (mkF m 57 #[.val (.int p0), .val (.int p1), .val (.int p2), .val (.int p3), .val (.int p4), .val (.int p5), .val (.int (1 : Int32)), .val (.int (p1 % (16 : Int32))), .val (.int (p2 % (16 : Int32))), .val (.int (p3 % (16 : Int32))), .val (.int (p4 % (16 : Int32))), .val (.int (p5 % (16 : Int32))), .val (.ref b7), .unset, .unset] [(.double (FP.i2d (p1 % (16 : Int32)))), (.int (0 : Int32)), (.ref b7)])) rfl rfl (hb hby at_57)
    have Vn8 : Arv Z h8 b7 c7 .double (1 : Int32) [(.double (FP.i2d (p1 % (16 : Int32))))] (.double (0 : UInt64)) := Arv.set Ar_8 q_8 S_8 N_8 H_8 G_8 rfl W8 0 rfl (Nat.le_of_ble_eq_true rfl)
    replace V_b7 := Vn8
    have N8 := Fr.snoc X8 N0 gn_b7
    have Zs8 : n0 ≤ h8.size := by rw [W8.size]; exact Zs7
    obtain ⟨_, _, ⟨T9, L9, k9_, n9⟩, -, X9, ⟨Lc9, hQ9, l9, y9, z9⟩, st9⟩ := Jvm.LawKit.callS X8 hx (y := (⟨"com/example/interlace/interlace/method/Ties", "lowestWithin", "([DD)I"⟩ : MethodName)) hown (mvT hZ (hw _ (List.mem_of_getElem? (i := 2) rfl))) (mvT hZ (hw _ (List.mem_of_getElem? (i := 3) rfl))) (mvT hZ (hw _ (List.mem_of_getElem? (i := 4) rfl))) (mvT hZ (hw _ (List.mem_of_getElem? (i := 5) rfl))) (by decide) (backOf (W := 0) (rmL1 l Z a0 hw [] b7 (FP.i2d (p5 % (16 : Int32))) c7 (FP.i2d (p1 % (16 : Int32))) h8 n0 V_b7) hZ (hw _ (List.mem_of_getElem? (i := 5) rfl)) (hw _ (List.mem_of_getElem? (i := 4) rfl)) (by decide) (by decide)) (g := (mkF m 102 #[.val (.int p0), .val (.int p1), .val (.int p2), .val (.int p3), .val (.int p4), .val (.int p5), .val (.int (1 : Int32)), .val (.int (p1 % (16 : Int32))), .val (.int (p2 % (16 : Int32))), .val (.int (p3 % (16 : Int32))), .val (.int (p4 % (16 : Int32))), .val (.int (p5 % (16 : Int32))), .val (.ref b7), .unset, .unset] [(.double (FP.i2d (p5 % (16 : Int32)))), (.ref b7)])) rfl (by rw [hml]; rfl) (argsL := [(.ref b7), (.double (FP.i2d (p5 % (16 : Int32))))]) (rest := []) (lenOf pd_0 rfl) rfl (by show 2 * 0 + _ ≤ _; exact Nat.le_of_eq rfl) (hb hby at_102) (fun _ _ => ⟨rfl, e8, (by decide : 1 + 0 ≤ _), (by decide : 1 + 0 ≤ _)⟩)
    dsimp only [Pt.U, Pt.locs, Pt.cells, Pt.slots] at X9 l9 y9 z9 st9 hQ9
    subst l9 y9 z9
    obtain ⟨rfl, Nq9, e9⟩ := hQ9
    have N9 := Fr.app N8 Nq9
    have k10 : ∀ t, Steps p.tables e below (T9.setTop (mkF m 173 #[.val (.int p0), .val (.int p1), .val (.int p2), .val (.int p3), .val (.int p4), .val (.int p5), .val (.int (1 : Int32)), .val (.int (p1 % (16 : Int32))), .val (.int (p2 % (16 : Int32))), .val (.int (p3 % (16 : Int32))), .val (.int (p4 % (16 : Int32))), .val (.int (p5 % (16 : Int32))), .val (.ref b7), .val (.int (own_low1 (FP.i2d (p5 % (16 : Int32))) (FP.i2d (p1 % (16 : Int32))))), .val (.int (if (p5 % (16 : Int32)) < (p1 % (16 : Int32)) then (-1 : Int32) else (0 : Int32)))] [])) t → Steps p.tables e below (s₁.setTop (entryFrame m #[(.int p0), (.int p1), (.int p2), (.int p3), (.int p4), (.int p5)] maxLocals)) t := by
      intro t k
      refine k6 _ ?_
      show Steps p.tables e below (s₁.setTop (mkF m 40 #[.val (.int p0), .val (.int p1), .val (.int p2), .val (.int p3), .val (.int p4), .val (.int p5), .val (.int (1 : Int32)), .val (.int (p1 % (16 : Int32))), .val (.int (p2 % (16 : Int32))), .val (.int (p3 % (16 : Int32))), .val (.int (p4 % (16 : Int32))), .val (.int (p5 % (16 : Int32))), .unset, .unset, .unset] [])) _
      refine XS.iload X0.here hx rfl (hb hby at_40) rfl ?_
      show Steps p.tables e below (s₁.setTop (mkF m 42 #[.val (.int p0), .val (.int p1), .val (.int p2), .val (.int p3), .val (.int p4), .val (.int p5), .val (.int (1 : Int32)), .val (.int (p1 % (16 : Int32))), .val (.int (p2 % (16 : Int32))), .val (.int (p3 % (16 : Int32))), .val (.int (p4 % (16 : Int32))), .val (.int (p5 % (16 : Int32))), .unset, .unset, .unset] [(.int (1 : Int32))])) _
      refine st7 _ ?_
      show Steps p.tables e below (T7.setTop (mkF m 44 #[.val (.int p0), .val (.int p1), .val (.int p2), .val (.int p3), .val (.int p4), .val (.int p5), .val (.int (1 : Int32)), .val (.int (p1 % (16 : Int32))), .val (.int (p2 % (16 : Int32))), .val (.int (p3 % (16 : Int32))), .val (.int (p4 % (16 : Int32))), .val (.int (p5 % (16 : Int32))), .unset, .unset, .unset] [(.ref b7)])) _
      refine XS.astore X7.here hx rfl (hb hby at_44) rfl rfl (l' := #[.val (.int p0), .val (.int p1), .val (.int p2), .val (.int p3), .val (.int p4), .val (.int p5), .val (.int (1 : Int32)), .val (.int (p1 % (16 : Int32))), .val (.int (p2 % (16 : Int32))), .val (.int (p3 % (16 : Int32))), .val (.int (p4 % (16 : Int32))), .val (.int (p5 % (16 : Int32))), .val (.ref b7), .unset, .unset]) rfl ?_
      show Steps p.tables e below (T7.setTop (mkF m 46 #[.val (.int p0), .val (.int p1), .val (.int p2), .val (.int p3), .val (.int p4), .val (.int p5), .val (.int (1 : Int32)), .val (.int (p1 % (16 : Int32))), .val (.int (p2 % (16 : Int32))), .val (.int (p3 % (16 : Int32))), .val (.int (p4 % (16 : Int32))), .val (.int (p5 % (16 : Int32))), .val (.ref b7), .unset, .unset] [])) _
      refine XS.iload X7.here hx rfl (hb hby at_46) rfl ?_
      show Steps p.tables e below (T7.setTop (mkF m 48 #[.val (.int p0), .val (.int p1), .val (.int p2), .val (.int p3), .val (.int p4), .val (.int p5), .val (.int (1 : Int32)), .val (.int (p1 % (16 : Int32))), .val (.int (p2 % (16 : Int32))), .val (.int (p3 % (16 : Int32))), .val (.int (p4 % (16 : Int32))), .val (.int (p5 % (16 : Int32))), .val (.ref b7), .unset, .unset] [(.int (1 : Int32))])) _
      refine XS.ifNo X7.here hx rfl (hb hby at_48) rfl ((if0 _ _).trans (tlt (by decide)).2.2.2) ?_
      show Steps p.tables e below (T7.setTop (mkF m 51 #[.val (.int p0), .val (.int p1), .val (.int p2), .val (.int p3), .val (.int p4), .val (.int p5), .val (.int (1 : Int32)), .val (.int (p1 % (16 : Int32))), .val (.int (p2 % (16 : Int32))), .val (.int (p3 % (16 : Int32))), .val (.int (p4 % (16 : Int32))), .val (.int (p5 % (16 : Int32))), .val (.ref b7), .unset, .unset] [])) _
      refine XS.aload X7.here hx rfl (hb hby at_51) rfl rfl ?_
      show Steps p.tables e below (T7.setTop (mkF m 53 #[.val (.int p0), .val (.int p1), .val (.int p2), .val (.int p3), .val (.int p4), .val (.int p5), .val (.int (1 : Int32)), .val (.int (p1 % (16 : Int32))), .val (.int (p2 % (16 : Int32))), .val (.int (p3 % (16 : Int32))), .val (.int (p4 % (16 : Int32))), .val (.int (p5 % (16 : Int32))), .val (.ref b7), .unset, .unset] [(.ref b7)])) _
      refine XS.iconst X7.here hx rfl (hb hby at_53) ?_
      show Steps p.tables e below (T7.setTop (mkF m 54 #[.val (.int p0), .val (.int p1), .val (.int p2), .val (.int p3), .val (.int p4), .val (.int p5), .val (.int (1 : Int32)), .val (.int (p1 % (16 : Int32))), .val (.int (p2 % (16 : Int32))), .val (.int (p3 % (16 : Int32))), .val (.int (p4 % (16 : Int32))), .val (.int (p5 % (16 : Int32))), .val (.ref b7), .unset, .unset] [(.int (0 : Int32)), (.ref b7)])) _
      refine XS.iload X7.here hx rfl (hb hby at_54) rfl ?_
      show Steps p.tables e below (T7.setTop (mkF m 56 #[.val (.int p0), .val (.int p1), .val (.int p2), .val (.int p3), .val (.int p4), .val (.int p5), .val (.int (1 : Int32)), .val (.int (p1 % (16 : Int32))), .val (.int (p2 % (16 : Int32))), .val (.int (p3 % (16 : Int32))), .val (.int (p4 % (16 : Int32))), .val (.int (p5 % (16 : Int32))), .val (.ref b7), .unset, .unset] [(.int (p1 % (16 : Int32))), (.int (0 : Int32)), (.ref b7)])) _
      refine XS.i2dS X7.here hx rfl (hb hby at_56) rfl rfl ?_
      show Steps p.tables e below (T7.setTop (mkF m 57 #[.val (.int p0), .val (.int p1), .val (.int p2), .val (.int p3), .val (.int p4), .val (.int p5), .val (.int (1 : Int32)), .val (.int (p1 % (16 : Int32))), .val (.int (p2 % (16 : Int32))), .val (.int (p3 % (16 : Int32))), .val (.int (p4 % (16 : Int32))), .val (.int (p5 % (16 : Int32))), .val (.ref b7), .unset, .unset] [(.double (FP.i2d (p1 % (16 : Int32)))), (.int (0 : Int32)), (.ref b7)])) _
      refine st8 _ ?_
      show Steps p.tables e below (T8.setTop (mkF m 58 #[.val (.int p0), .val (.int p1), .val (.int p2), .val (.int p3), .val (.int p4), .val (.int p5), .val (.int (1 : Int32)), .val (.int (p1 % (16 : Int32))), .val (.int (p2 % (16 : Int32))), .val (.int (p3 % (16 : Int32))), .val (.int (p4 % (16 : Int32))), .val (.int (p5 % (16 : Int32))), .val (.ref b7), .unset, .unset] [])) _
      refine XS.iload X8.here hx rfl (hb hby at_58) rfl ?_
      show Steps p.tables e below (T8.setTop (mkF m 60 #[.val (.int p0), .val (.int p1), .val (.int p2), .val (.int p3), .val (.int p4), .val (.int p5), .val (.int (1 : Int32)), .val (.int (p1 % (16 : Int32))), .val (.int (p2 % (16 : Int32))), .val (.int (p3 % (16 : Int32))), .val (.int (p4 % (16 : Int32))), .val (.int (p5 % (16 : Int32))), .val (.ref b7), .unset, .unset] [(.int (1 : Int32))])) _
      refine XS.iconst X8.here hx rfl (hb hby at_60) ?_
      show Steps p.tables e below (T8.setTop (mkF m 61 #[.val (.int p0), .val (.int p1), .val (.int p2), .val (.int p3), .val (.int p4), .val (.int p5), .val (.int (1 : Int32)), .val (.int (p1 % (16 : Int32))), .val (.int (p2 % (16 : Int32))), .val (.int (p3 % (16 : Int32))), .val (.int (p4 % (16 : Int32))), .val (.int (p5 % (16 : Int32))), .val (.ref b7), .unset, .unset] [(.int (1 : Int32)), (.int (1 : Int32))])) _
      refine XS.icmpYes X8.here hx rfl (pc0 := 61) (pc' := 71) rfl (hb hby at_61) rfl (flt (by decide)).2.2.2 (by decide) (by decide) ?_
      show Steps p.tables e below (T8.setTop (mkF m 71 #[.val (.int p0), .val (.int p1), .val (.int p2), .val (.int p3), .val (.int p4), .val (.int p5), .val (.int (1 : Int32)), .val (.int (p1 % (16 : Int32))), .val (.int (p2 % (16 : Int32))), .val (.int (p3 % (16 : Int32))), .val (.int (p4 % (16 : Int32))), .val (.int (p5 % (16 : Int32))), .val (.ref b7), .unset, .unset] [])) _
      refine XS.iload X8.here hx rfl (hb hby at_71) rfl ?_
      show Steps p.tables e below (T8.setTop (mkF m 73 #[.val (.int p0), .val (.int p1), .val (.int p2), .val (.int p3), .val (.int p4), .val (.int p5), .val (.int (1 : Int32)), .val (.int (p1 % (16 : Int32))), .val (.int (p2 % (16 : Int32))), .val (.int (p3 % (16 : Int32))), .val (.int (p4 % (16 : Int32))), .val (.int (p5 % (16 : Int32))), .val (.ref b7), .unset, .unset] [(.int (1 : Int32))])) _
      refine XS.iconst X8.here hx rfl (hb hby at_73) ?_
      show Steps p.tables e below (T8.setTop (mkF m 74 #[.val (.int p0), .val (.int p1), .val (.int p2), .val (.int p3), .val (.int p4), .val (.int p5), .val (.int (1 : Int32)), .val (.int (p1 % (16 : Int32))), .val (.int (p2 % (16 : Int32))), .val (.int (p3 % (16 : Int32))), .val (.int (p4 % (16 : Int32))), .val (.int (p5 % (16 : Int32))), .val (.ref b7), .unset, .unset] [(.int (2 : Int32)), (.int (1 : Int32))])) _
      refine XS.icmpYes X8.here hx rfl (pc0 := 74) (pc' := 84) rfl (hb hby at_74) rfl (flt (by decide)).2.2.2 (by decide) (by decide) ?_
      show Steps p.tables e below (T8.setTop (mkF m 84 #[.val (.int p0), .val (.int p1), .val (.int p2), .val (.int p3), .val (.int p4), .val (.int p5), .val (.int (1 : Int32)), .val (.int (p1 % (16 : Int32))), .val (.int (p2 % (16 : Int32))), .val (.int (p3 % (16 : Int32))), .val (.int (p4 % (16 : Int32))), .val (.int (p5 % (16 : Int32))), .val (.ref b7), .unset, .unset] [])) _
      refine XS.iload X8.here hx rfl (hb hby at_84) rfl ?_
      show Steps p.tables e below (T8.setTop (mkF m 86 #[.val (.int p0), .val (.int p1), .val (.int p2), .val (.int p3), .val (.int p4), .val (.int p5), .val (.int (1 : Int32)), .val (.int (p1 % (16 : Int32))), .val (.int (p2 % (16 : Int32))), .val (.int (p3 % (16 : Int32))), .val (.int (p4 % (16 : Int32))), .val (.int (p5 % (16 : Int32))), .val (.ref b7), .unset, .unset] [(.int (1 : Int32))])) _
      refine XS.iconst X8.here hx rfl (hb hby at_86) ?_
      show Steps p.tables e below (T8.setTop (mkF m 87 #[.val (.int p0), .val (.int p1), .val (.int p2), .val (.int p3), .val (.int p4), .val (.int p5), .val (.int (1 : Int32)), .val (.int (p1 % (16 : Int32))), .val (.int (p2 % (16 : Int32))), .val (.int (p3 % (16 : Int32))), .val (.int (p4 % (16 : Int32))), .val (.int (p5 % (16 : Int32))), .val (.ref b7), .unset, .unset] [(.int (3 : Int32)), (.int (1 : Int32))])) _
      refine XS.icmpYes X8.here hx rfl (pc0 := 87) (pc' := 97) rfl (hb hby at_87) rfl (flt (by decide)).2.2.2 (by decide) (by decide) ?_
      show Steps p.tables e below (T8.setTop (mkF m 97 #[.val (.int p0), .val (.int p1), .val (.int p2), .val (.int p3), .val (.int p4), .val (.int p5), .val (.int (1 : Int32)), .val (.int (p1 % (16 : Int32))), .val (.int (p2 % (16 : Int32))), .val (.int (p3 % (16 : Int32))), .val (.int (p4 % (16 : Int32))), .val (.int (p5 % (16 : Int32))), .val (.ref b7), .unset, .unset] [])) _
      refine XS.aload X8.here hx rfl (hb hby at_97) rfl rfl ?_
      show Steps p.tables e below (T8.setTop (mkF m 99 #[.val (.int p0), .val (.int p1), .val (.int p2), .val (.int p3), .val (.int p4), .val (.int p5), .val (.int (1 : Int32)), .val (.int (p1 % (16 : Int32))), .val (.int (p2 % (16 : Int32))), .val (.int (p3 % (16 : Int32))), .val (.int (p4 % (16 : Int32))), .val (.int (p5 % (16 : Int32))), .val (.ref b7), .unset, .unset] [(.ref b7)])) _
      refine XS.iload X8.here hx rfl (hb hby at_99) rfl ?_
      show Steps p.tables e below (T8.setTop (mkF m 101 #[.val (.int p0), .val (.int p1), .val (.int p2), .val (.int p3), .val (.int p4), .val (.int p5), .val (.int (1 : Int32)), .val (.int (p1 % (16 : Int32))), .val (.int (p2 % (16 : Int32))), .val (.int (p3 % (16 : Int32))), .val (.int (p4 % (16 : Int32))), .val (.int (p5 % (16 : Int32))), .val (.ref b7), .unset, .unset] [(.int (p5 % (16 : Int32))), (.ref b7)])) _
      refine XS.i2dS X8.here hx rfl (hb hby at_101) rfl rfl ?_
      show Steps p.tables e below (T8.setTop (mkF m 102 #[.val (.int p0), .val (.int p1), .val (.int p2), .val (.int p3), .val (.int p4), .val (.int p5), .val (.int (1 : Int32)), .val (.int (p1 % (16 : Int32))), .val (.int (p2 % (16 : Int32))), .val (.int (p3 % (16 : Int32))), .val (.int (p4 % (16 : Int32))), .val (.int (p5 % (16 : Int32))), .val (.ref b7), .unset, .unset] [(.double (FP.i2d (p5 % (16 : Int32)))), (.ref b7)])) _
      refine st9 _ ?_
      show Steps p.tables e below (T9.setTop (mkF m 105 #[.val (.int p0), .val (.int p1), .val (.int p2), .val (.int p3), .val (.int p4), .val (.int p5), .val (.int (1 : Int32)), .val (.int (p1 % (16 : Int32))), .val (.int (p2 % (16 : Int32))), .val (.int (p3 % (16 : Int32))), .val (.int (p4 % (16 : Int32))), .val (.int (p5 % (16 : Int32))), .val (.ref b7), .unset, .unset] [(.int (own_low1 (FP.i2d (p5 % (16 : Int32))) (FP.i2d (p1 % (16 : Int32)))))])) _
      refine XS.istore X9.here hx rfl (hb hby at_105) rfl (l' := #[.val (.int p0), .val (.int p1), .val (.int p2), .val (.int p3), .val (.int p4), .val (.int p5), .val (.int (1 : Int32)), .val (.int (p1 % (16 : Int32))), .val (.int (p2 % (16 : Int32))), .val (.int (p3 % (16 : Int32))), .val (.int (p4 % (16 : Int32))), .val (.int (p5 % (16 : Int32))), .val (.ref b7), .val (.int (own_low1 (FP.i2d (p5 % (16 : Int32))) (FP.i2d (p1 % (16 : Int32))))), .unset]) rfl ?_
      show Steps p.tables e below (T9.setTop (mkF m 107 #[.val (.int p0), .val (.int p1), .val (.int p2), .val (.int p3), .val (.int p4), .val (.int p5), .val (.int (1 : Int32)), .val (.int (p1 % (16 : Int32))), .val (.int (p2 % (16 : Int32))), .val (.int (p3 % (16 : Int32))), .val (.int (p4 % (16 : Int32))), .val (.int (p5 % (16 : Int32))), .val (.ref b7), .val (.int (own_low1 (FP.i2d (p5 % (16 : Int32))) (FP.i2d (p1 % (16 : Int32))))), .unset] [])) _
      refine XS.iconst X9.here hx rfl (hb hby at_107) ?_
      show Steps p.tables e below (T9.setTop (mkF m 108 #[.val (.int p0), .val (.int p1), .val (.int p2), .val (.int p3), .val (.int p4), .val (.int p5), .val (.int (1 : Int32)), .val (.int (p1 % (16 : Int32))), .val (.int (p2 % (16 : Int32))), .val (.int (p3 % (16 : Int32))), .val (.int (p4 % (16 : Int32))), .val (.int (p5 % (16 : Int32))), .val (.ref b7), .val (.int (own_low1 (FP.i2d (p5 % (16 : Int32))) (FP.i2d (p1 % (16 : Int32))))), .unset] [(.int (-1 : Int32))])) _
      refine XS.istore X9.here hx rfl (hb hby at_108) rfl (l' := #[.val (.int p0), .val (.int p1), .val (.int p2), .val (.int p3), .val (.int p4), .val (.int p5), .val (.int (1 : Int32)), .val (.int (p1 % (16 : Int32))), .val (.int (p2 % (16 : Int32))), .val (.int (p3 % (16 : Int32))), .val (.int (p4 % (16 : Int32))), .val (.int (p5 % (16 : Int32))), .val (.ref b7), .val (.int (own_low1 (FP.i2d (p5 % (16 : Int32))) (FP.i2d (p1 % (16 : Int32))))), .val (.int (-1 : Int32))]) rfl ?_
      show Steps p.tables e below (T9.setTop (mkF m 110 #[.val (.int p0), .val (.int p1), .val (.int p2), .val (.int p3), .val (.int p4), .val (.int p5), .val (.int (1 : Int32)), .val (.int (p1 % (16 : Int32))), .val (.int (p2 % (16 : Int32))), .val (.int (p3 % (16 : Int32))), .val (.int (p4 % (16 : Int32))), .val (.int (p5 % (16 : Int32))), .val (.ref b7), .val (.int (own_low1 (FP.i2d (p5 % (16 : Int32))) (FP.i2d (p1 % (16 : Int32))))), .val (.int (-1 : Int32))] [])) _
      refine XS.iload X9.here hx rfl (hb hby at_110) rfl ?_
      show Steps p.tables e below (T9.setTop (mkF m 112 #[.val (.int p0), .val (.int p1), .val (.int p2), .val (.int p3), .val (.int p4), .val (.int p5), .val (.int (1 : Int32)), .val (.int (p1 % (16 : Int32))), .val (.int (p2 % (16 : Int32))), .val (.int (p3 % (16 : Int32))), .val (.int (p4 % (16 : Int32))), .val (.int (p5 % (16 : Int32))), .val (.ref b7), .val (.int (own_low1 (FP.i2d (p5 % (16 : Int32))) (FP.i2d (p1 % (16 : Int32))))), .val (.int (-1 : Int32))] [(.int (1 : Int32))])) _
      refine XS.iconst X9.here hx rfl (hb hby at_112) ?_
      show Steps p.tables e below (T9.setTop (mkF m 113 #[.val (.int p0), .val (.int p1), .val (.int p2), .val (.int p3), .val (.int p4), .val (.int p5), .val (.int (1 : Int32)), .val (.int (p1 % (16 : Int32))), .val (.int (p2 % (16 : Int32))), .val (.int (p3 % (16 : Int32))), .val (.int (p4 % (16 : Int32))), .val (.int (p5 % (16 : Int32))), .val (.ref b7), .val (.int (own_low1 (FP.i2d (p5 % (16 : Int32))) (FP.i2d (p1 % (16 : Int32))))), .val (.int (-1 : Int32))] [(.int (3 : Int32)), (.int (1 : Int32))])) _
      refine XS.icmpYes X9.here hx rfl (pc0 := 113) (pc' := 126) rfl (hb hby at_113) rfl (flt (by decide)).2.2.2 (by decide) (by decide) ?_
      show Steps p.tables e below (T9.setTop (mkF m 126 #[.val (.int p0), .val (.int p1), .val (.int p2), .val (.int p3), .val (.int p4), .val (.int p5), .val (.int (1 : Int32)), .val (.int (p1 % (16 : Int32))), .val (.int (p2 % (16 : Int32))), .val (.int (p3 % (16 : Int32))), .val (.int (p4 % (16 : Int32))), .val (.int (p5 % (16 : Int32))), .val (.ref b7), .val (.int (own_low1 (FP.i2d (p5 % (16 : Int32))) (FP.i2d (p1 % (16 : Int32))))), .val (.int (-1 : Int32))] [])) _
      refine XS.iload X9.here hx rfl (hb hby at_126) rfl ?_
      show Steps p.tables e below (T9.setTop (mkF m 128 #[.val (.int p0), .val (.int p1), .val (.int p2), .val (.int p3), .val (.int p4), .val (.int p5), .val (.int (1 : Int32)), .val (.int (p1 % (16 : Int32))), .val (.int (p2 % (16 : Int32))), .val (.int (p3 % (16 : Int32))), .val (.int (p4 % (16 : Int32))), .val (.int (p5 % (16 : Int32))), .val (.ref b7), .val (.int (own_low1 (FP.i2d (p5 % (16 : Int32))) (FP.i2d (p1 % (16 : Int32))))), .val (.int (-1 : Int32))] [(.int (1 : Int32))])) _
      refine XS.iconst X9.here hx rfl (hb hby at_128) ?_
      show Steps p.tables e below (T9.setTop (mkF m 129 #[.val (.int p0), .val (.int p1), .val (.int p2), .val (.int p3), .val (.int p4), .val (.int p5), .val (.int (1 : Int32)), .val (.int (p1 % (16 : Int32))), .val (.int (p2 % (16 : Int32))), .val (.int (p3 % (16 : Int32))), .val (.int (p4 % (16 : Int32))), .val (.int (p5 % (16 : Int32))), .val (.ref b7), .val (.int (own_low1 (FP.i2d (p5 % (16 : Int32))) (FP.i2d (p1 % (16 : Int32))))), .val (.int (-1 : Int32))] [(.int (2 : Int32)), (.int (1 : Int32))])) _
      refine XS.icmpYes X9.here hx rfl (pc0 := 129) (pc' := 142) rfl (hb hby at_129) rfl (flt (by decide)).2.2.2 (by decide) (by decide) ?_
      show Steps p.tables e below (T9.setTop (mkF m 142 #[.val (.int p0), .val (.int p1), .val (.int p2), .val (.int p3), .val (.int p4), .val (.int p5), .val (.int (1 : Int32)), .val (.int (p1 % (16 : Int32))), .val (.int (p2 % (16 : Int32))), .val (.int (p3 % (16 : Int32))), .val (.int (p4 % (16 : Int32))), .val (.int (p5 % (16 : Int32))), .val (.ref b7), .val (.int (own_low1 (FP.i2d (p5 % (16 : Int32))) (FP.i2d (p1 % (16 : Int32))))), .val (.int (-1 : Int32))] [])) _
      refine XS.iload X9.here hx rfl (hb hby at_142) rfl ?_
      show Steps p.tables e below (T9.setTop (mkF m 144 #[.val (.int p0), .val (.int p1), .val (.int p2), .val (.int p3), .val (.int p4), .val (.int p5), .val (.int (1 : Int32)), .val (.int (p1 % (16 : Int32))), .val (.int (p2 % (16 : Int32))), .val (.int (p3 % (16 : Int32))), .val (.int (p4 % (16 : Int32))), .val (.int (p5 % (16 : Int32))), .val (.ref b7), .val (.int (own_low1 (FP.i2d (p5 % (16 : Int32))) (FP.i2d (p1 % (16 : Int32))))), .val (.int (-1 : Int32))] [(.int (1 : Int32))])) _
      refine XS.iconst X9.here hx rfl (hb hby at_144) ?_
      show Steps p.tables e below (T9.setTop (mkF m 145 #[.val (.int p0), .val (.int p1), .val (.int p2), .val (.int p3), .val (.int p4), .val (.int p5), .val (.int (1 : Int32)), .val (.int (p1 % (16 : Int32))), .val (.int (p2 % (16 : Int32))), .val (.int (p3 % (16 : Int32))), .val (.int (p4 % (16 : Int32))), .val (.int (p5 % (16 : Int32))), .val (.ref b7), .val (.int (own_low1 (FP.i2d (p5 % (16 : Int32))) (FP.i2d (p1 % (16 : Int32))))), .val (.int (-1 : Int32))] [(.int (1 : Int32)), (.int (1 : Int32))])) _
      refine XS.icmpYes X9.here hx rfl (pc0 := 145) (pc' := 158) rfl (hb hby at_145) rfl (flt (by decide)).2.2.2 (by decide) (by decide) ?_
      show Steps p.tables e below (T9.setTop (mkF m 158 #[.val (.int p0), .val (.int p1), .val (.int p2), .val (.int p3), .val (.int p4), .val (.int p5), .val (.int (1 : Int32)), .val (.int (p1 % (16 : Int32))), .val (.int (p2 % (16 : Int32))), .val (.int (p3 % (16 : Int32))), .val (.int (p4 % (16 : Int32))), .val (.int (p5 % (16 : Int32))), .val (.ref b7), .val (.int (own_low1 (FP.i2d (p5 % (16 : Int32))) (FP.i2d (p1 % (16 : Int32))))), .val (.int (-1 : Int32))] [])) _
      refine XS.iload X9.here hx rfl (hb hby at_158) rfl ?_
      show Steps p.tables e below (T9.setTop (mkF m 160 #[.val (.int p0), .val (.int p1), .val (.int p2), .val (.int p3), .val (.int p4), .val (.int p5), .val (.int (1 : Int32)), .val (.int (p1 % (16 : Int32))), .val (.int (p2 % (16 : Int32))), .val (.int (p3 % (16 : Int32))), .val (.int (p4 % (16 : Int32))), .val (.int (p5 % (16 : Int32))), .val (.ref b7), .val (.int (own_low1 (FP.i2d (p5 % (16 : Int32))) (FP.i2d (p1 % (16 : Int32))))), .val (.int (-1 : Int32))] [(.int (1 : Int32))])) _
      refine XS.ifNo X9.here hx rfl (hb hby at_160) rfl ((if0 _ _).trans (tlt (by decide)).2.2.2) ?_
      show Steps p.tables e below (T9.setTop (mkF m 163 #[.val (.int p0), .val (.int p1), .val (.int p2), .val (.int p3), .val (.int p4), .val (.int p5), .val (.int (1 : Int32)), .val (.int (p1 % (16 : Int32))), .val (.int (p2 % (16 : Int32))), .val (.int (p3 % (16 : Int32))), .val (.int (p4 % (16 : Int32))), .val (.int (p5 % (16 : Int32))), .val (.ref b7), .val (.int (own_low1 (FP.i2d (p5 % (16 : Int32))) (FP.i2d (p1 % (16 : Int32))))), .val (.int (-1 : Int32))] [])) _
      refine XS.iload X9.here hx rfl (hb hby at_163) rfl ?_
      show Steps p.tables e below (T9.setTop (mkF m 165 #[.val (.int p0), .val (.int p1), .val (.int p2), .val (.int p3), .val (.int p4), .val (.int p5), .val (.int (1 : Int32)), .val (.int (p1 % (16 : Int32))), .val (.int (p2 % (16 : Int32))), .val (.int (p3 % (16 : Int32))), .val (.int (p4 % (16 : Int32))), .val (.int (p5 % (16 : Int32))), .val (.ref b7), .val (.int (own_low1 (FP.i2d (p5 % (16 : Int32))) (FP.i2d (p1 % (16 : Int32))))), .val (.int (-1 : Int32))] [(.int (p1 % (16 : Int32)))])) _
      refine XS.iload X9.here hx rfl (hb hby at_165) rfl ?_
      show Steps p.tables e below (T9.setTop (mkF m 167 #[.val (.int p0), .val (.int p1), .val (.int p2), .val (.int p3), .val (.int p4), .val (.int p5), .val (.int (1 : Int32)), .val (.int (p1 % (16 : Int32))), .val (.int (p2 % (16 : Int32))), .val (.int (p3 % (16 : Int32))), .val (.int (p4 % (16 : Int32))), .val (.int (p5 % (16 : Int32))), .val (.ref b7), .val (.int (own_low1 (FP.i2d (p5 % (16 : Int32))) (FP.i2d (p1 % (16 : Int32))))), .val (.int (-1 : Int32))] [(.int (p5 % (16 : Int32))), (.int (p1 % (16 : Int32)))])) _
      by_cases hc167_1 : (p5 % (16 : Int32)) < (p1 % (16 : Int32))
      · refine XS.icmpYes X9.here hx rfl (pc0 := 167) (pc' := 173) rfl (hb hby at_167) rfl (tlt hc167_1).2.2.1 (by decide) (by decide) ?_
        try simp only [if_pos hc167_1] at k
        exact k
      · refine XS.icmpNo X9.here hx rfl (hb hby at_167) rfl (flt hc167_1).2.2.1 ?_
        show Steps p.tables e below (T9.setTop (mkF m 170 #[.val (.int p0), .val (.int p1), .val (.int p2), .val (.int p3), .val (.int p4), .val (.int p5), .val (.int (1 : Int32)), .val (.int (p1 % (16 : Int32))), .val (.int (p2 % (16 : Int32))), .val (.int (p3 % (16 : Int32))), .val (.int (p4 % (16 : Int32))), .val (.int (p5 % (16 : Int32))), .val (.ref b7), .val (.int (own_low1 (FP.i2d (p5 % (16 : Int32))) (FP.i2d (p1 % (16 : Int32))))), .val (.int (-1 : Int32))] [])) _
        refine XS.iconst X9.here hx rfl (hb hby at_170) ?_
        show Steps p.tables e below (T9.setTop (mkF m 171 #[.val (.int p0), .val (.int p1), .val (.int p2), .val (.int p3), .val (.int p4), .val (.int p5), .val (.int (1 : Int32)), .val (.int (p1 % (16 : Int32))), .val (.int (p2 % (16 : Int32))), .val (.int (p3 % (16 : Int32))), .val (.int (p4 % (16 : Int32))), .val (.int (p5 % (16 : Int32))), .val (.ref b7), .val (.int (own_low1 (FP.i2d (p5 % (16 : Int32))) (FP.i2d (p1 % (16 : Int32))))), .val (.int (-1 : Int32))] [(.int (0 : Int32))])) _
        refine XS.istore X9.here hx rfl (hb hby at_171) rfl (l' := #[.val (.int p0), .val (.int p1), .val (.int p2), .val (.int p3), .val (.int p4), .val (.int p5), .val (.int (1 : Int32)), .val (.int (p1 % (16 : Int32))), .val (.int (p2 % (16 : Int32))), .val (.int (p3 % (16 : Int32))), .val (.int (p4 % (16 : Int32))), .val (.int (p5 % (16 : Int32))), .val (.ref b7), .val (.int (own_low1 (FP.i2d (p5 % (16 : Int32))) (FP.i2d (p1 % (16 : Int32))))), .val (.int (0 : Int32))]) rfl ?_
        try simp only [if_neg hc167_1] at k
        exact k
    have k11 : ∀ t, Steps p.tables e below (T9.setTop (mkF m 185 #[.val (.int p0), .val (.int p1), .val (.int p2), .val (.int p3), .val (.int p4), .val (.int p5), .val (.int (1 : Int32)), .val (.int (p1 % (16 : Int32))), .val (.int (p2 % (16 : Int32))), .val (.int (p3 % (16 : Int32))), .val (.int (p4 % (16 : Int32))), .val (.int (p5 % (16 : Int32))), .val (.ref b7), .val (.int (own_low1 (FP.i2d (p5 % (16 : Int32))) (FP.i2d (p1 % (16 : Int32))))), .val (.int (if (p5 % (16 : Int32)) < (p1 % (16 : Int32)) then (-1 : Int32) else (0 : Int32)))] [(.int (1 : Int32))])) t → Steps p.tables e below (s₁.setTop (entryFrame m #[(.int p0), (.int p1), (.int p2), (.int p3), (.int p4), (.int p5)] maxLocals)) t := by
      intro t k
      refine k10 _ ?_
      show Steps p.tables e below (T9.setTop (mkF m 173 #[.val (.int p0), .val (.int p1), .val (.int p2), .val (.int p3), .val (.int p4), .val (.int p5), .val (.int (1 : Int32)), .val (.int (p1 % (16 : Int32))), .val (.int (p2 % (16 : Int32))), .val (.int (p3 % (16 : Int32))), .val (.int (p4 % (16 : Int32))), .val (.int (p5 % (16 : Int32))), .val (.ref b7), .val (.int (own_low1 (FP.i2d (p5 % (16 : Int32))) (FP.i2d (p1 % (16 : Int32))))), .val (.int (if (p5 % (16 : Int32)) < (p1 % (16 : Int32)) then (-1 : Int32) else (0 : Int32)))] [])) _
      refine XS.iload X9.here hx rfl (hb hby at_173) rfl ?_
      show Steps p.tables e below (T9.setTop (mkF m 175 #[.val (.int p0), .val (.int p1), .val (.int p2), .val (.int p3), .val (.int p4), .val (.int p5), .val (.int (1 : Int32)), .val (.int (p1 % (16 : Int32))), .val (.int (p2 % (16 : Int32))), .val (.int (p3 % (16 : Int32))), .val (.int (p4 % (16 : Int32))), .val (.int (p5 % (16 : Int32))), .val (.ref b7), .val (.int (own_low1 (FP.i2d (p5 % (16 : Int32))) (FP.i2d (p1 % (16 : Int32))))), .val (.int (if (p5 % (16 : Int32)) < (p1 % (16 : Int32)) then (-1 : Int32) else (0 : Int32)))] [(.int (own_low1 (FP.i2d (p5 % (16 : Int32))) (FP.i2d (p1 % (16 : Int32)))))])) _
      refine XS.iload X9.here hx rfl (hb hby at_175) rfl ?_
      show Steps p.tables e below (T9.setTop (mkF m 177 #[.val (.int p0), .val (.int p1), .val (.int p2), .val (.int p3), .val (.int p4), .val (.int p5), .val (.int (1 : Int32)), .val (.int (p1 % (16 : Int32))), .val (.int (p2 % (16 : Int32))), .val (.int (p3 % (16 : Int32))), .val (.int (p4 % (16 : Int32))), .val (.int (p5 % (16 : Int32))), .val (.ref b7), .val (.int (own_low1 (FP.i2d (p5 % (16 : Int32))) (FP.i2d (p1 % (16 : Int32))))), .val (.int (if (p5 % (16 : Int32)) < (p1 % (16 : Int32)) then (-1 : Int32) else (0 : Int32)))] [(.int (if (p5 % (16 : Int32)) < (p1 % (16 : Int32)) then (-1 : Int32) else (0 : Int32))), (.int (own_low1 (FP.i2d (p5 % (16 : Int32))) (FP.i2d (p1 % (16 : Int32)))))])) _
      refine XS.icmpNo X9.here hx rfl (hb hby at_177) rfl (teq (own_e1 _ _)).2 ?_
      show Steps p.tables e below (T9.setTop (mkF m 180 #[.val (.int p0), .val (.int p1), .val (.int p2), .val (.int p3), .val (.int p4), .val (.int p5), .val (.int (1 : Int32)), .val (.int (p1 % (16 : Int32))), .val (.int (p2 % (16 : Int32))), .val (.int (p3 % (16 : Int32))), .val (.int (p4 % (16 : Int32))), .val (.int (p5 % (16 : Int32))), .val (.ref b7), .val (.int (own_low1 (FP.i2d (p5 % (16 : Int32))) (FP.i2d (p1 % (16 : Int32))))), .val (.int (if (p5 % (16 : Int32)) < (p1 % (16 : Int32)) then (-1 : Int32) else (0 : Int32)))] [])) _
      refine XS.iconst X9.here hx rfl (hb hby at_180) ?_
      show Steps p.tables e below (T9.setTop (mkF m 181 #[.val (.int p0), .val (.int p1), .val (.int p2), .val (.int p3), .val (.int p4), .val (.int p5), .val (.int (1 : Int32)), .val (.int (p1 % (16 : Int32))), .val (.int (p2 % (16 : Int32))), .val (.int (p3 % (16 : Int32))), .val (.int (p4 % (16 : Int32))), .val (.int (p5 % (16 : Int32))), .val (.ref b7), .val (.int (own_low1 (FP.i2d (p5 % (16 : Int32))) (FP.i2d (p1 % (16 : Int32))))), .val (.int (if (p5 % (16 : Int32)) < (p1 % (16 : Int32)) then (-1 : Int32) else (0 : Int32)))] [(.int (1 : Int32))])) _
      refine XS.goto X9.here hx rfl (pc0 := 181) (pc' := 185) rfl (hb hby at_181) (by decide) (by decide) ?_
      exact k
    obtain ⟨fs, hr, hrun, hended, hW, hsame⟩ := X9.leave (v := some (.int (1 : Int32))) (fun h => by rw [Bd.returns] at h; cases h)
    refine ⟨_, _, k11 _ ?_, hrun, hended, _, _, rfl, ?_, ⟨_, rfl⟩, hW, hsame.mono (by decide) (by decide)⟩
    · exact retN X9 hx (t := .boolean) Bd.returns (by simp) (hb hby at_185) hr
    · show own_R (some (.int 1)) n0 _ T9.heap _
      rw [e9]
      exact ⟨rfl, N9⟩
  · have k12 : ∀ t, Steps p.tables e below (s₁.setTop (mkF m 40 #[.val (.int p0), .val (.int p1), .val (.int p2), .val (.int p3), .val (.int p4), .val (.int p5), .val (.int (2 : Int32)), .val (.int (p1 % (16 : Int32))), .val (.int (p2 % (16 : Int32))), .val (.int (p3 % (16 : Int32))), .val (.int (p4 % (16 : Int32))), .val (.int (p5 % (16 : Int32))), .unset, .unset, .unset] [])) t → Steps p.tables e below (s₁.setTop (entryFrame m #[(.int p0), (.int p1), (.int p2), (.int p3), (.int p4), (.int p5)] maxLocals)) t := by
      intro t k
      refine k1 _ ?_
      rw [hk]
      exact k
    obtain ⟨T13, h13, c13, X13, e13, E13, A13, st13⟩ := newP X0 hx hZ (hw _ (List.mem_of_getElem? (i := 1) rfl)) e0 (g := (mkF m 42 #[.val (.int p0), .val (.int p1), .val (.int p2), .val (.int p3), .val (.int p4), .val (.int p5), .val (.int (2 : Int32)), .val (.int (p1 % (16 : Int32))), .val (.int (p2 % (16 : Int32))), .val (.int (p3 % (16 : Int32))), .val (.int (p4 % (16 : Int32))), .val (.int (p5 % (16 : Int32))), .unset, .unset, .unset] [(.int (2 : Int32))])) rfl (hb hby at_42) rfl (by decide) (cap := 2) (by decide) (by decide) (by decide) (by decide)
    obtain ⟨b13, g13⟩ : ∃ z, z = h0.size := ⟨_, rfl⟩
    rw [← g13] at A13 st13
    have gn_b13 : n0 ≤ b13 := Nat.le_trans Z0 (Nat.le_of_eq g13.symm)
    have Zs13 : n0 ≤ h13.size := Nat.le_trans Z0 E13.1
    have V_b13 : Arv Z h13 b13 c13 .double (2 : Int32) [(.double (0 : UInt64)), (.double (0 : UInt64))] (.double (0 : UInt64)) := (Arv.new A13 (by decide)).pad (pad_rep [] (.double (0 : UInt64)) 2)
    obtain ⟨cl_14, Ar_14, q_14, S_14, N_14, H_14, G_14⟩ := id V_b13
    have hin_14 : ¬ ((0 : Int32) < 0 ∨ cl_14.slots.size ≤ ((0 : Int32)).toNatClampNeg) := inb_of S_14 ⟨by decide, by decide⟩
    obtain ⟨T14, h14, X14, e14, W14, st14⟩ := stD X13 hx hZ e13 Ar_14 (j := (0 : Int32)) hin_14 (g := (mkF m 57 #[.val (.int p0), .val (.int p1), .val (.int p2), .val (.int p3), .val (.int p4), .val (.int p5), .val (.int (2 : Int32)), .val (.int (p1 % (16 : Int32))), .val (.int (p2 % (16 : Int32))), .val (.int (p3 % (16 : Int32))), .val (.int (p4 % (16 : Int32))), .val (.int (p5 % (16 : Int32))), .val (.ref b13), .unset, .unset] [(.double (FP.i2d (p1 % (16 : Int32)))), (.int (0 : Int32)), (.ref b13)])) rfl rfl (hb hby at_57)
    have Vn14 : Arv Z h14 b13 c13 .double (2 : Int32) [(.double (FP.i2d (p1 % (16 : Int32)))), (.double (0 : UInt64))] (.double (0 : UInt64)) := Arv.set Ar_14 q_14 S_14 N_14 H_14 G_14 rfl W14 0 rfl (Nat.le_of_ble_eq_true rfl)
    replace V_b13 := Vn14
    have N14 := Fr.snoc X14 N0 gn_b13
    have Zs14 : n0 ≤ h14.size := by rw [W14.size]; exact Zs13
    obtain ⟨cl_15, Ar_15, q_15, S_15, N_15, H_15, G_15⟩ := id V_b13
    have hin_15 : ¬ ((1 : Int32) < 0 ∨ cl_15.slots.size ≤ ((1 : Int32)).toNatClampNeg) := inb_of S_15 ⟨by decide, by decide⟩
    obtain ⟨T15, h15, X15, e15, W15, st15⟩ := stD X14 hx hZ e14 Ar_15 (j := (1 : Int32)) hin_15 (g := (mkF m 70 #[.val (.int p0), .val (.int p1), .val (.int p2), .val (.int p3), .val (.int p4), .val (.int p5), .val (.int (2 : Int32)), .val (.int (p1 % (16 : Int32))), .val (.int (p2 % (16 : Int32))), .val (.int (p3 % (16 : Int32))), .val (.int (p4 % (16 : Int32))), .val (.int (p5 % (16 : Int32))), .val (.ref b13), .unset, .unset] [(.double (FP.i2d (p2 % (16 : Int32)))), (.int (1 : Int32)), (.ref b13)])) rfl rfl (hb hby at_70)
    have Vn15 : Arv Z h15 b13 c13 .double (2 : Int32) [(.double (FP.i2d (p1 % (16 : Int32)))), (.double (FP.i2d (p2 % (16 : Int32))))] (.double (0 : UInt64)) := Arv.set Ar_15 q_15 S_15 N_15 H_15 G_15 rfl W15 1 rfl (Nat.le_of_ble_eq_true rfl)
    replace V_b13 := Vn15
    have N15 := Fr.snoc X15 N14 gn_b13
    have Zs15 : n0 ≤ h15.size := by rw [W15.size]; exact Zs14
    obtain ⟨_, _, ⟨T16, L16, k16_, n16⟩, -, X16, ⟨Lc16, hQ16, l16, y16, z16⟩, st16⟩ := Jvm.LawKit.callS X15 hx (y := (⟨"com/example/interlace/interlace/method/Ties", "lowestWithin", "([DD)I"⟩ : MethodName)) hown (mvT hZ (hw _ (List.mem_of_getElem? (i := 2) rfl))) (mvT hZ (hw _ (List.mem_of_getElem? (i := 3) rfl))) (mvT hZ (hw _ (List.mem_of_getElem? (i := 4) rfl))) (mvT hZ (hw _ (List.mem_of_getElem? (i := 5) rfl))) (by decide) (backOf (W := 0) (rmL2 l Z a0 hw [] b13 (FP.i2d (p5 % (16 : Int32))) c13 (FP.i2d (p1 % (16 : Int32))) (FP.i2d (p2 % (16 : Int32))) h15 n0 V_b13) hZ (hw _ (List.mem_of_getElem? (i := 5) rfl)) (hw _ (List.mem_of_getElem? (i := 4) rfl)) (by decide) (by decide)) (g := (mkF m 102 #[.val (.int p0), .val (.int p1), .val (.int p2), .val (.int p3), .val (.int p4), .val (.int p5), .val (.int (2 : Int32)), .val (.int (p1 % (16 : Int32))), .val (.int (p2 % (16 : Int32))), .val (.int (p3 % (16 : Int32))), .val (.int (p4 % (16 : Int32))), .val (.int (p5 % (16 : Int32))), .val (.ref b13), .unset, .unset] [(.double (FP.i2d (p5 % (16 : Int32)))), (.ref b13)])) rfl (by rw [hml]; rfl) (argsL := [(.ref b13), (.double (FP.i2d (p5 % (16 : Int32))))]) (rest := []) (lenOf pd_0 rfl) rfl (by show 2 * 0 + _ ≤ _; exact Nat.le_of_eq rfl) (hb hby at_102) (fun _ _ => ⟨rfl, e15, (by decide : 1 + 0 ≤ _), (by decide : 2 + 0 ≤ _)⟩)
    dsimp only [Pt.U, Pt.locs, Pt.cells, Pt.slots] at X16 l16 y16 z16 st16 hQ16
    subst l16 y16 z16
    obtain ⟨rfl, Nq16, e16⟩ := hQ16
    have N16 := Fr.app N15 Nq16
    have k17 : ∀ t, Steps p.tables e below (T16.setTop (mkF m 158 #[.val (.int p0), .val (.int p1), .val (.int p2), .val (.int p3), .val (.int p4), .val (.int p5), .val (.int (2 : Int32)), .val (.int (p1 % (16 : Int32))), .val (.int (p2 % (16 : Int32))), .val (.int (p3 % (16 : Int32))), .val (.int (p4 % (16 : Int32))), .val (.int (p5 % (16 : Int32))), .val (.ref b13), .val (.int (own_low2 (FP.i2d (p5 % (16 : Int32))) (FP.i2d (p1 % (16 : Int32))) (FP.i2d (p2 % (16 : Int32))))), .val (.int (if (p5 % (16 : Int32)) < (p2 % (16 : Int32)) then (-1 : Int32) else (1 : Int32)))] [])) t → Steps p.tables e below (s₁.setTop (entryFrame m #[(.int p0), (.int p1), (.int p2), (.int p3), (.int p4), (.int p5)] maxLocals)) t := by
      intro t k
      refine k12 _ ?_
      show Steps p.tables e below (s₁.setTop (mkF m 40 #[.val (.int p0), .val (.int p1), .val (.int p2), .val (.int p3), .val (.int p4), .val (.int p5), .val (.int (2 : Int32)), .val (.int (p1 % (16 : Int32))), .val (.int (p2 % (16 : Int32))), .val (.int (p3 % (16 : Int32))), .val (.int (p4 % (16 : Int32))), .val (.int (p5 % (16 : Int32))), .unset, .unset, .unset] [])) _
      refine XS.iload X0.here hx rfl (hb hby at_40) rfl ?_
      show Steps p.tables e below (s₁.setTop (mkF m 42 #[.val (.int p0), .val (.int p1), .val (.int p2), .val (.int p3), .val (.int p4), .val (.int p5), .val (.int (2 : Int32)), .val (.int (p1 % (16 : Int32))), .val (.int (p2 % (16 : Int32))), .val (.int (p3 % (16 : Int32))), .val (.int (p4 % (16 : Int32))), .val (.int (p5 % (16 : Int32))), .unset, .unset, .unset] [(.int (2 : Int32))])) _
      refine st13 _ ?_
      show Steps p.tables e below (T13.setTop (mkF m 44 #[.val (.int p0), .val (.int p1), .val (.int p2), .val (.int p3), .val (.int p4), .val (.int p5), .val (.int (2 : Int32)), .val (.int (p1 % (16 : Int32))), .val (.int (p2 % (16 : Int32))), .val (.int (p3 % (16 : Int32))), .val (.int (p4 % (16 : Int32))), .val (.int (p5 % (16 : Int32))), .unset, .unset, .unset] [(.ref b13)])) _
      refine XS.astore X13.here hx rfl (hb hby at_44) rfl rfl (l' := #[.val (.int p0), .val (.int p1), .val (.int p2), .val (.int p3), .val (.int p4), .val (.int p5), .val (.int (2 : Int32)), .val (.int (p1 % (16 : Int32))), .val (.int (p2 % (16 : Int32))), .val (.int (p3 % (16 : Int32))), .val (.int (p4 % (16 : Int32))), .val (.int (p5 % (16 : Int32))), .val (.ref b13), .unset, .unset]) rfl ?_
      show Steps p.tables e below (T13.setTop (mkF m 46 #[.val (.int p0), .val (.int p1), .val (.int p2), .val (.int p3), .val (.int p4), .val (.int p5), .val (.int (2 : Int32)), .val (.int (p1 % (16 : Int32))), .val (.int (p2 % (16 : Int32))), .val (.int (p3 % (16 : Int32))), .val (.int (p4 % (16 : Int32))), .val (.int (p5 % (16 : Int32))), .val (.ref b13), .unset, .unset] [])) _
      refine XS.iload X13.here hx rfl (hb hby at_46) rfl ?_
      show Steps p.tables e below (T13.setTop (mkF m 48 #[.val (.int p0), .val (.int p1), .val (.int p2), .val (.int p3), .val (.int p4), .val (.int p5), .val (.int (2 : Int32)), .val (.int (p1 % (16 : Int32))), .val (.int (p2 % (16 : Int32))), .val (.int (p3 % (16 : Int32))), .val (.int (p4 % (16 : Int32))), .val (.int (p5 % (16 : Int32))), .val (.ref b13), .unset, .unset] [(.int (2 : Int32))])) _
      refine XS.ifNo X13.here hx rfl (hb hby at_48) rfl ((if0 _ _).trans (tlt (by decide)).2.2.2) ?_
      show Steps p.tables e below (T13.setTop (mkF m 51 #[.val (.int p0), .val (.int p1), .val (.int p2), .val (.int p3), .val (.int p4), .val (.int p5), .val (.int (2 : Int32)), .val (.int (p1 % (16 : Int32))), .val (.int (p2 % (16 : Int32))), .val (.int (p3 % (16 : Int32))), .val (.int (p4 % (16 : Int32))), .val (.int (p5 % (16 : Int32))), .val (.ref b13), .unset, .unset] [])) _
      refine XS.aload X13.here hx rfl (hb hby at_51) rfl rfl ?_
      show Steps p.tables e below (T13.setTop (mkF m 53 #[.val (.int p0), .val (.int p1), .val (.int p2), .val (.int p3), .val (.int p4), .val (.int p5), .val (.int (2 : Int32)), .val (.int (p1 % (16 : Int32))), .val (.int (p2 % (16 : Int32))), .val (.int (p3 % (16 : Int32))), .val (.int (p4 % (16 : Int32))), .val (.int (p5 % (16 : Int32))), .val (.ref b13), .unset, .unset] [(.ref b13)])) _
      refine XS.iconst X13.here hx rfl (hb hby at_53) ?_
      show Steps p.tables e below (T13.setTop (mkF m 54 #[.val (.int p0), .val (.int p1), .val (.int p2), .val (.int p3), .val (.int p4), .val (.int p5), .val (.int (2 : Int32)), .val (.int (p1 % (16 : Int32))), .val (.int (p2 % (16 : Int32))), .val (.int (p3 % (16 : Int32))), .val (.int (p4 % (16 : Int32))), .val (.int (p5 % (16 : Int32))), .val (.ref b13), .unset, .unset] [(.int (0 : Int32)), (.ref b13)])) _
      refine XS.iload X13.here hx rfl (hb hby at_54) rfl ?_
      show Steps p.tables e below (T13.setTop (mkF m 56 #[.val (.int p0), .val (.int p1), .val (.int p2), .val (.int p3), .val (.int p4), .val (.int p5), .val (.int (2 : Int32)), .val (.int (p1 % (16 : Int32))), .val (.int (p2 % (16 : Int32))), .val (.int (p3 % (16 : Int32))), .val (.int (p4 % (16 : Int32))), .val (.int (p5 % (16 : Int32))), .val (.ref b13), .unset, .unset] [(.int (p1 % (16 : Int32))), (.int (0 : Int32)), (.ref b13)])) _
      refine XS.i2dS X13.here hx rfl (hb hby at_56) rfl rfl ?_
      show Steps p.tables e below (T13.setTop (mkF m 57 #[.val (.int p0), .val (.int p1), .val (.int p2), .val (.int p3), .val (.int p4), .val (.int p5), .val (.int (2 : Int32)), .val (.int (p1 % (16 : Int32))), .val (.int (p2 % (16 : Int32))), .val (.int (p3 % (16 : Int32))), .val (.int (p4 % (16 : Int32))), .val (.int (p5 % (16 : Int32))), .val (.ref b13), .unset, .unset] [(.double (FP.i2d (p1 % (16 : Int32)))), (.int (0 : Int32)), (.ref b13)])) _
      refine st14 _ ?_
      show Steps p.tables e below (T14.setTop (mkF m 58 #[.val (.int p0), .val (.int p1), .val (.int p2), .val (.int p3), .val (.int p4), .val (.int p5), .val (.int (2 : Int32)), .val (.int (p1 % (16 : Int32))), .val (.int (p2 % (16 : Int32))), .val (.int (p3 % (16 : Int32))), .val (.int (p4 % (16 : Int32))), .val (.int (p5 % (16 : Int32))), .val (.ref b13), .unset, .unset] [])) _
      refine XS.iload X14.here hx rfl (hb hby at_58) rfl ?_
      show Steps p.tables e below (T14.setTop (mkF m 60 #[.val (.int p0), .val (.int p1), .val (.int p2), .val (.int p3), .val (.int p4), .val (.int p5), .val (.int (2 : Int32)), .val (.int (p1 % (16 : Int32))), .val (.int (p2 % (16 : Int32))), .val (.int (p3 % (16 : Int32))), .val (.int (p4 % (16 : Int32))), .val (.int (p5 % (16 : Int32))), .val (.ref b13), .unset, .unset] [(.int (2 : Int32))])) _
      refine XS.iconst X14.here hx rfl (hb hby at_60) ?_
      show Steps p.tables e below (T14.setTop (mkF m 61 #[.val (.int p0), .val (.int p1), .val (.int p2), .val (.int p3), .val (.int p4), .val (.int p5), .val (.int (2 : Int32)), .val (.int (p1 % (16 : Int32))), .val (.int (p2 % (16 : Int32))), .val (.int (p3 % (16 : Int32))), .val (.int (p4 % (16 : Int32))), .val (.int (p5 % (16 : Int32))), .val (.ref b13), .unset, .unset] [(.int (1 : Int32)), (.int (2 : Int32))])) _
      refine XS.icmpNo X14.here hx rfl (hb hby at_61) rfl (tlt (by decide)).2.2.2 ?_
      show Steps p.tables e below (T14.setTop (mkF m 64 #[.val (.int p0), .val (.int p1), .val (.int p2), .val (.int p3), .val (.int p4), .val (.int p5), .val (.int (2 : Int32)), .val (.int (p1 % (16 : Int32))), .val (.int (p2 % (16 : Int32))), .val (.int (p3 % (16 : Int32))), .val (.int (p4 % (16 : Int32))), .val (.int (p5 % (16 : Int32))), .val (.ref b13), .unset, .unset] [])) _
      refine XS.aload X14.here hx rfl (hb hby at_64) rfl rfl ?_
      show Steps p.tables e below (T14.setTop (mkF m 66 #[.val (.int p0), .val (.int p1), .val (.int p2), .val (.int p3), .val (.int p4), .val (.int p5), .val (.int (2 : Int32)), .val (.int (p1 % (16 : Int32))), .val (.int (p2 % (16 : Int32))), .val (.int (p3 % (16 : Int32))), .val (.int (p4 % (16 : Int32))), .val (.int (p5 % (16 : Int32))), .val (.ref b13), .unset, .unset] [(.ref b13)])) _
      refine XS.iconst X14.here hx rfl (hb hby at_66) ?_
      show Steps p.tables e below (T14.setTop (mkF m 67 #[.val (.int p0), .val (.int p1), .val (.int p2), .val (.int p3), .val (.int p4), .val (.int p5), .val (.int (2 : Int32)), .val (.int (p1 % (16 : Int32))), .val (.int (p2 % (16 : Int32))), .val (.int (p3 % (16 : Int32))), .val (.int (p4 % (16 : Int32))), .val (.int (p5 % (16 : Int32))), .val (.ref b13), .unset, .unset] [(.int (1 : Int32)), (.ref b13)])) _
      refine XS.iload X14.here hx rfl (hb hby at_67) rfl ?_
      show Steps p.tables e below (T14.setTop (mkF m 69 #[.val (.int p0), .val (.int p1), .val (.int p2), .val (.int p3), .val (.int p4), .val (.int p5), .val (.int (2 : Int32)), .val (.int (p1 % (16 : Int32))), .val (.int (p2 % (16 : Int32))), .val (.int (p3 % (16 : Int32))), .val (.int (p4 % (16 : Int32))), .val (.int (p5 % (16 : Int32))), .val (.ref b13), .unset, .unset] [(.int (p2 % (16 : Int32))), (.int (1 : Int32)), (.ref b13)])) _
      refine XS.i2dS X14.here hx rfl (hb hby at_69) rfl rfl ?_
      show Steps p.tables e below (T14.setTop (mkF m 70 #[.val (.int p0), .val (.int p1), .val (.int p2), .val (.int p3), .val (.int p4), .val (.int p5), .val (.int (2 : Int32)), .val (.int (p1 % (16 : Int32))), .val (.int (p2 % (16 : Int32))), .val (.int (p3 % (16 : Int32))), .val (.int (p4 % (16 : Int32))), .val (.int (p5 % (16 : Int32))), .val (.ref b13), .unset, .unset] [(.double (FP.i2d (p2 % (16 : Int32)))), (.int (1 : Int32)), (.ref b13)])) _
      refine st15 _ ?_
      show Steps p.tables e below (T15.setTop (mkF m 71 #[.val (.int p0), .val (.int p1), .val (.int p2), .val (.int p3), .val (.int p4), .val (.int p5), .val (.int (2 : Int32)), .val (.int (p1 % (16 : Int32))), .val (.int (p2 % (16 : Int32))), .val (.int (p3 % (16 : Int32))), .val (.int (p4 % (16 : Int32))), .val (.int (p5 % (16 : Int32))), .val (.ref b13), .unset, .unset] [])) _
      refine XS.iload X15.here hx rfl (hb hby at_71) rfl ?_
      show Steps p.tables e below (T15.setTop (mkF m 73 #[.val (.int p0), .val (.int p1), .val (.int p2), .val (.int p3), .val (.int p4), .val (.int p5), .val (.int (2 : Int32)), .val (.int (p1 % (16 : Int32))), .val (.int (p2 % (16 : Int32))), .val (.int (p3 % (16 : Int32))), .val (.int (p4 % (16 : Int32))), .val (.int (p5 % (16 : Int32))), .val (.ref b13), .unset, .unset] [(.int (2 : Int32))])) _
      refine XS.iconst X15.here hx rfl (hb hby at_73) ?_
      show Steps p.tables e below (T15.setTop (mkF m 74 #[.val (.int p0), .val (.int p1), .val (.int p2), .val (.int p3), .val (.int p4), .val (.int p5), .val (.int (2 : Int32)), .val (.int (p1 % (16 : Int32))), .val (.int (p2 % (16 : Int32))), .val (.int (p3 % (16 : Int32))), .val (.int (p4 % (16 : Int32))), .val (.int (p5 % (16 : Int32))), .val (.ref b13), .unset, .unset] [(.int (2 : Int32)), (.int (2 : Int32))])) _
      refine XS.icmpYes X15.here hx rfl (pc0 := 74) (pc' := 84) rfl (hb hby at_74) rfl (flt (by decide)).2.2.2 (by decide) (by decide) ?_
      show Steps p.tables e below (T15.setTop (mkF m 84 #[.val (.int p0), .val (.int p1), .val (.int p2), .val (.int p3), .val (.int p4), .val (.int p5), .val (.int (2 : Int32)), .val (.int (p1 % (16 : Int32))), .val (.int (p2 % (16 : Int32))), .val (.int (p3 % (16 : Int32))), .val (.int (p4 % (16 : Int32))), .val (.int (p5 % (16 : Int32))), .val (.ref b13), .unset, .unset] [])) _
      refine XS.iload X15.here hx rfl (hb hby at_84) rfl ?_
      show Steps p.tables e below (T15.setTop (mkF m 86 #[.val (.int p0), .val (.int p1), .val (.int p2), .val (.int p3), .val (.int p4), .val (.int p5), .val (.int (2 : Int32)), .val (.int (p1 % (16 : Int32))), .val (.int (p2 % (16 : Int32))), .val (.int (p3 % (16 : Int32))), .val (.int (p4 % (16 : Int32))), .val (.int (p5 % (16 : Int32))), .val (.ref b13), .unset, .unset] [(.int (2 : Int32))])) _
      refine XS.iconst X15.here hx rfl (hb hby at_86) ?_
      show Steps p.tables e below (T15.setTop (mkF m 87 #[.val (.int p0), .val (.int p1), .val (.int p2), .val (.int p3), .val (.int p4), .val (.int p5), .val (.int (2 : Int32)), .val (.int (p1 % (16 : Int32))), .val (.int (p2 % (16 : Int32))), .val (.int (p3 % (16 : Int32))), .val (.int (p4 % (16 : Int32))), .val (.int (p5 % (16 : Int32))), .val (.ref b13), .unset, .unset] [(.int (3 : Int32)), (.int (2 : Int32))])) _
      refine XS.icmpYes X15.here hx rfl (pc0 := 87) (pc' := 97) rfl (hb hby at_87) rfl (flt (by decide)).2.2.2 (by decide) (by decide) ?_
      show Steps p.tables e below (T15.setTop (mkF m 97 #[.val (.int p0), .val (.int p1), .val (.int p2), .val (.int p3), .val (.int p4), .val (.int p5), .val (.int (2 : Int32)), .val (.int (p1 % (16 : Int32))), .val (.int (p2 % (16 : Int32))), .val (.int (p3 % (16 : Int32))), .val (.int (p4 % (16 : Int32))), .val (.int (p5 % (16 : Int32))), .val (.ref b13), .unset, .unset] [])) _
      refine XS.aload X15.here hx rfl (hb hby at_97) rfl rfl ?_
      show Steps p.tables e below (T15.setTop (mkF m 99 #[.val (.int p0), .val (.int p1), .val (.int p2), .val (.int p3), .val (.int p4), .val (.int p5), .val (.int (2 : Int32)), .val (.int (p1 % (16 : Int32))), .val (.int (p2 % (16 : Int32))), .val (.int (p3 % (16 : Int32))), .val (.int (p4 % (16 : Int32))), .val (.int (p5 % (16 : Int32))), .val (.ref b13), .unset, .unset] [(.ref b13)])) _
      refine XS.iload X15.here hx rfl (hb hby at_99) rfl ?_
      show Steps p.tables e below (T15.setTop (mkF m 101 #[.val (.int p0), .val (.int p1), .val (.int p2), .val (.int p3), .val (.int p4), .val (.int p5), .val (.int (2 : Int32)), .val (.int (p1 % (16 : Int32))), .val (.int (p2 % (16 : Int32))), .val (.int (p3 % (16 : Int32))), .val (.int (p4 % (16 : Int32))), .val (.int (p5 % (16 : Int32))), .val (.ref b13), .unset, .unset] [(.int (p5 % (16 : Int32))), (.ref b13)])) _
      refine XS.i2dS X15.here hx rfl (hb hby at_101) rfl rfl ?_
      show Steps p.tables e below (T15.setTop (mkF m 102 #[.val (.int p0), .val (.int p1), .val (.int p2), .val (.int p3), .val (.int p4), .val (.int p5), .val (.int (2 : Int32)), .val (.int (p1 % (16 : Int32))), .val (.int (p2 % (16 : Int32))), .val (.int (p3 % (16 : Int32))), .val (.int (p4 % (16 : Int32))), .val (.int (p5 % (16 : Int32))), .val (.ref b13), .unset, .unset] [(.double (FP.i2d (p5 % (16 : Int32)))), (.ref b13)])) _
      refine st16 _ ?_
      show Steps p.tables e below (T16.setTop (mkF m 105 #[.val (.int p0), .val (.int p1), .val (.int p2), .val (.int p3), .val (.int p4), .val (.int p5), .val (.int (2 : Int32)), .val (.int (p1 % (16 : Int32))), .val (.int (p2 % (16 : Int32))), .val (.int (p3 % (16 : Int32))), .val (.int (p4 % (16 : Int32))), .val (.int (p5 % (16 : Int32))), .val (.ref b13), .unset, .unset] [(.int (own_low2 (FP.i2d (p5 % (16 : Int32))) (FP.i2d (p1 % (16 : Int32))) (FP.i2d (p2 % (16 : Int32)))))])) _
      refine XS.istore X16.here hx rfl (hb hby at_105) rfl (l' := #[.val (.int p0), .val (.int p1), .val (.int p2), .val (.int p3), .val (.int p4), .val (.int p5), .val (.int (2 : Int32)), .val (.int (p1 % (16 : Int32))), .val (.int (p2 % (16 : Int32))), .val (.int (p3 % (16 : Int32))), .val (.int (p4 % (16 : Int32))), .val (.int (p5 % (16 : Int32))), .val (.ref b13), .val (.int (own_low2 (FP.i2d (p5 % (16 : Int32))) (FP.i2d (p1 % (16 : Int32))) (FP.i2d (p2 % (16 : Int32))))), .unset]) rfl ?_
      show Steps p.tables e below (T16.setTop (mkF m 107 #[.val (.int p0), .val (.int p1), .val (.int p2), .val (.int p3), .val (.int p4), .val (.int p5), .val (.int (2 : Int32)), .val (.int (p1 % (16 : Int32))), .val (.int (p2 % (16 : Int32))), .val (.int (p3 % (16 : Int32))), .val (.int (p4 % (16 : Int32))), .val (.int (p5 % (16 : Int32))), .val (.ref b13), .val (.int (own_low2 (FP.i2d (p5 % (16 : Int32))) (FP.i2d (p1 % (16 : Int32))) (FP.i2d (p2 % (16 : Int32))))), .unset] [])) _
      refine XS.iconst X16.here hx rfl (hb hby at_107) ?_
      show Steps p.tables e below (T16.setTop (mkF m 108 #[.val (.int p0), .val (.int p1), .val (.int p2), .val (.int p3), .val (.int p4), .val (.int p5), .val (.int (2 : Int32)), .val (.int (p1 % (16 : Int32))), .val (.int (p2 % (16 : Int32))), .val (.int (p3 % (16 : Int32))), .val (.int (p4 % (16 : Int32))), .val (.int (p5 % (16 : Int32))), .val (.ref b13), .val (.int (own_low2 (FP.i2d (p5 % (16 : Int32))) (FP.i2d (p1 % (16 : Int32))) (FP.i2d (p2 % (16 : Int32))))), .unset] [(.int (-1 : Int32))])) _
      refine XS.istore X16.here hx rfl (hb hby at_108) rfl (l' := #[.val (.int p0), .val (.int p1), .val (.int p2), .val (.int p3), .val (.int p4), .val (.int p5), .val (.int (2 : Int32)), .val (.int (p1 % (16 : Int32))), .val (.int (p2 % (16 : Int32))), .val (.int (p3 % (16 : Int32))), .val (.int (p4 % (16 : Int32))), .val (.int (p5 % (16 : Int32))), .val (.ref b13), .val (.int (own_low2 (FP.i2d (p5 % (16 : Int32))) (FP.i2d (p1 % (16 : Int32))) (FP.i2d (p2 % (16 : Int32))))), .val (.int (-1 : Int32))]) rfl ?_
      show Steps p.tables e below (T16.setTop (mkF m 110 #[.val (.int p0), .val (.int p1), .val (.int p2), .val (.int p3), .val (.int p4), .val (.int p5), .val (.int (2 : Int32)), .val (.int (p1 % (16 : Int32))), .val (.int (p2 % (16 : Int32))), .val (.int (p3 % (16 : Int32))), .val (.int (p4 % (16 : Int32))), .val (.int (p5 % (16 : Int32))), .val (.ref b13), .val (.int (own_low2 (FP.i2d (p5 % (16 : Int32))) (FP.i2d (p1 % (16 : Int32))) (FP.i2d (p2 % (16 : Int32))))), .val (.int (-1 : Int32))] [])) _
      refine XS.iload X16.here hx rfl (hb hby at_110) rfl ?_
      show Steps p.tables e below (T16.setTop (mkF m 112 #[.val (.int p0), .val (.int p1), .val (.int p2), .val (.int p3), .val (.int p4), .val (.int p5), .val (.int (2 : Int32)), .val (.int (p1 % (16 : Int32))), .val (.int (p2 % (16 : Int32))), .val (.int (p3 % (16 : Int32))), .val (.int (p4 % (16 : Int32))), .val (.int (p5 % (16 : Int32))), .val (.ref b13), .val (.int (own_low2 (FP.i2d (p5 % (16 : Int32))) (FP.i2d (p1 % (16 : Int32))) (FP.i2d (p2 % (16 : Int32))))), .val (.int (-1 : Int32))] [(.int (2 : Int32))])) _
      refine XS.iconst X16.here hx rfl (hb hby at_112) ?_
      show Steps p.tables e below (T16.setTop (mkF m 113 #[.val (.int p0), .val (.int p1), .val (.int p2), .val (.int p3), .val (.int p4), .val (.int p5), .val (.int (2 : Int32)), .val (.int (p1 % (16 : Int32))), .val (.int (p2 % (16 : Int32))), .val (.int (p3 % (16 : Int32))), .val (.int (p4 % (16 : Int32))), .val (.int (p5 % (16 : Int32))), .val (.ref b13), .val (.int (own_low2 (FP.i2d (p5 % (16 : Int32))) (FP.i2d (p1 % (16 : Int32))) (FP.i2d (p2 % (16 : Int32))))), .val (.int (-1 : Int32))] [(.int (3 : Int32)), (.int (2 : Int32))])) _
      refine XS.icmpYes X16.here hx rfl (pc0 := 113) (pc' := 126) rfl (hb hby at_113) rfl (flt (by decide)).2.2.2 (by decide) (by decide) ?_
      show Steps p.tables e below (T16.setTop (mkF m 126 #[.val (.int p0), .val (.int p1), .val (.int p2), .val (.int p3), .val (.int p4), .val (.int p5), .val (.int (2 : Int32)), .val (.int (p1 % (16 : Int32))), .val (.int (p2 % (16 : Int32))), .val (.int (p3 % (16 : Int32))), .val (.int (p4 % (16 : Int32))), .val (.int (p5 % (16 : Int32))), .val (.ref b13), .val (.int (own_low2 (FP.i2d (p5 % (16 : Int32))) (FP.i2d (p1 % (16 : Int32))) (FP.i2d (p2 % (16 : Int32))))), .val (.int (-1 : Int32))] [])) _
      refine XS.iload X16.here hx rfl (hb hby at_126) rfl ?_
      show Steps p.tables e below (T16.setTop (mkF m 128 #[.val (.int p0), .val (.int p1), .val (.int p2), .val (.int p3), .val (.int p4), .val (.int p5), .val (.int (2 : Int32)), .val (.int (p1 % (16 : Int32))), .val (.int (p2 % (16 : Int32))), .val (.int (p3 % (16 : Int32))), .val (.int (p4 % (16 : Int32))), .val (.int (p5 % (16 : Int32))), .val (.ref b13), .val (.int (own_low2 (FP.i2d (p5 % (16 : Int32))) (FP.i2d (p1 % (16 : Int32))) (FP.i2d (p2 % (16 : Int32))))), .val (.int (-1 : Int32))] [(.int (2 : Int32))])) _
      refine XS.iconst X16.here hx rfl (hb hby at_128) ?_
      show Steps p.tables e below (T16.setTop (mkF m 129 #[.val (.int p0), .val (.int p1), .val (.int p2), .val (.int p3), .val (.int p4), .val (.int p5), .val (.int (2 : Int32)), .val (.int (p1 % (16 : Int32))), .val (.int (p2 % (16 : Int32))), .val (.int (p3 % (16 : Int32))), .val (.int (p4 % (16 : Int32))), .val (.int (p5 % (16 : Int32))), .val (.ref b13), .val (.int (own_low2 (FP.i2d (p5 % (16 : Int32))) (FP.i2d (p1 % (16 : Int32))) (FP.i2d (p2 % (16 : Int32))))), .val (.int (-1 : Int32))] [(.int (2 : Int32)), (.int (2 : Int32))])) _
      refine XS.icmpYes X16.here hx rfl (pc0 := 129) (pc' := 142) rfl (hb hby at_129) rfl (flt (by decide)).2.2.2 (by decide) (by decide) ?_
      show Steps p.tables e below (T16.setTop (mkF m 142 #[.val (.int p0), .val (.int p1), .val (.int p2), .val (.int p3), .val (.int p4), .val (.int p5), .val (.int (2 : Int32)), .val (.int (p1 % (16 : Int32))), .val (.int (p2 % (16 : Int32))), .val (.int (p3 % (16 : Int32))), .val (.int (p4 % (16 : Int32))), .val (.int (p5 % (16 : Int32))), .val (.ref b13), .val (.int (own_low2 (FP.i2d (p5 % (16 : Int32))) (FP.i2d (p1 % (16 : Int32))) (FP.i2d (p2 % (16 : Int32))))), .val (.int (-1 : Int32))] [])) _
      refine XS.iload X16.here hx rfl (hb hby at_142) rfl ?_
      show Steps p.tables e below (T16.setTop (mkF m 144 #[.val (.int p0), .val (.int p1), .val (.int p2), .val (.int p3), .val (.int p4), .val (.int p5), .val (.int (2 : Int32)), .val (.int (p1 % (16 : Int32))), .val (.int (p2 % (16 : Int32))), .val (.int (p3 % (16 : Int32))), .val (.int (p4 % (16 : Int32))), .val (.int (p5 % (16 : Int32))), .val (.ref b13), .val (.int (own_low2 (FP.i2d (p5 % (16 : Int32))) (FP.i2d (p1 % (16 : Int32))) (FP.i2d (p2 % (16 : Int32))))), .val (.int (-1 : Int32))] [(.int (2 : Int32))])) _
      refine XS.iconst X16.here hx rfl (hb hby at_144) ?_
      show Steps p.tables e below (T16.setTop (mkF m 145 #[.val (.int p0), .val (.int p1), .val (.int p2), .val (.int p3), .val (.int p4), .val (.int p5), .val (.int (2 : Int32)), .val (.int (p1 % (16 : Int32))), .val (.int (p2 % (16 : Int32))), .val (.int (p3 % (16 : Int32))), .val (.int (p4 % (16 : Int32))), .val (.int (p5 % (16 : Int32))), .val (.ref b13), .val (.int (own_low2 (FP.i2d (p5 % (16 : Int32))) (FP.i2d (p1 % (16 : Int32))) (FP.i2d (p2 % (16 : Int32))))), .val (.int (-1 : Int32))] [(.int (1 : Int32)), (.int (2 : Int32))])) _
      refine XS.icmpNo X16.here hx rfl (hb hby at_145) rfl (tlt (by decide)).2.2.2 ?_
      show Steps p.tables e below (T16.setTop (mkF m 148 #[.val (.int p0), .val (.int p1), .val (.int p2), .val (.int p3), .val (.int p4), .val (.int p5), .val (.int (2 : Int32)), .val (.int (p1 % (16 : Int32))), .val (.int (p2 % (16 : Int32))), .val (.int (p3 % (16 : Int32))), .val (.int (p4 % (16 : Int32))), .val (.int (p5 % (16 : Int32))), .val (.ref b13), .val (.int (own_low2 (FP.i2d (p5 % (16 : Int32))) (FP.i2d (p1 % (16 : Int32))) (FP.i2d (p2 % (16 : Int32))))), .val (.int (-1 : Int32))] [])) _
      refine XS.iload X16.here hx rfl (hb hby at_148) rfl ?_
      show Steps p.tables e below (T16.setTop (mkF m 150 #[.val (.int p0), .val (.int p1), .val (.int p2), .val (.int p3), .val (.int p4), .val (.int p5), .val (.int (2 : Int32)), .val (.int (p1 % (16 : Int32))), .val (.int (p2 % (16 : Int32))), .val (.int (p3 % (16 : Int32))), .val (.int (p4 % (16 : Int32))), .val (.int (p5 % (16 : Int32))), .val (.ref b13), .val (.int (own_low2 (FP.i2d (p5 % (16 : Int32))) (FP.i2d (p1 % (16 : Int32))) (FP.i2d (p2 % (16 : Int32))))), .val (.int (-1 : Int32))] [(.int (p2 % (16 : Int32)))])) _
      refine XS.iload X16.here hx rfl (hb hby at_150) rfl ?_
      show Steps p.tables e below (T16.setTop (mkF m 152 #[.val (.int p0), .val (.int p1), .val (.int p2), .val (.int p3), .val (.int p4), .val (.int p5), .val (.int (2 : Int32)), .val (.int (p1 % (16 : Int32))), .val (.int (p2 % (16 : Int32))), .val (.int (p3 % (16 : Int32))), .val (.int (p4 % (16 : Int32))), .val (.int (p5 % (16 : Int32))), .val (.ref b13), .val (.int (own_low2 (FP.i2d (p5 % (16 : Int32))) (FP.i2d (p1 % (16 : Int32))) (FP.i2d (p2 % (16 : Int32))))), .val (.int (-1 : Int32))] [(.int (p5 % (16 : Int32))), (.int (p2 % (16 : Int32)))])) _
      by_cases hc152_2 : (p5 % (16 : Int32)) < (p2 % (16 : Int32))
      · refine XS.icmpYes X16.here hx rfl (pc0 := 152) (pc' := 158) rfl (hb hby at_152) rfl (tlt hc152_2).2.2.1 (by decide) (by decide) ?_
        try simp only [if_pos hc152_2] at k
        exact k
      · refine XS.icmpNo X16.here hx rfl (hb hby at_152) rfl (flt hc152_2).2.2.1 ?_
        show Steps p.tables e below (T16.setTop (mkF m 155 #[.val (.int p0), .val (.int p1), .val (.int p2), .val (.int p3), .val (.int p4), .val (.int p5), .val (.int (2 : Int32)), .val (.int (p1 % (16 : Int32))), .val (.int (p2 % (16 : Int32))), .val (.int (p3 % (16 : Int32))), .val (.int (p4 % (16 : Int32))), .val (.int (p5 % (16 : Int32))), .val (.ref b13), .val (.int (own_low2 (FP.i2d (p5 % (16 : Int32))) (FP.i2d (p1 % (16 : Int32))) (FP.i2d (p2 % (16 : Int32))))), .val (.int (-1 : Int32))] [])) _
        refine XS.iconst X16.here hx rfl (hb hby at_155) ?_
        show Steps p.tables e below (T16.setTop (mkF m 156 #[.val (.int p0), .val (.int p1), .val (.int p2), .val (.int p3), .val (.int p4), .val (.int p5), .val (.int (2 : Int32)), .val (.int (p1 % (16 : Int32))), .val (.int (p2 % (16 : Int32))), .val (.int (p3 % (16 : Int32))), .val (.int (p4 % (16 : Int32))), .val (.int (p5 % (16 : Int32))), .val (.ref b13), .val (.int (own_low2 (FP.i2d (p5 % (16 : Int32))) (FP.i2d (p1 % (16 : Int32))) (FP.i2d (p2 % (16 : Int32))))), .val (.int (-1 : Int32))] [(.int (1 : Int32))])) _
        refine XS.istore X16.here hx rfl (hb hby at_156) rfl (l' := #[.val (.int p0), .val (.int p1), .val (.int p2), .val (.int p3), .val (.int p4), .val (.int p5), .val (.int (2 : Int32)), .val (.int (p1 % (16 : Int32))), .val (.int (p2 % (16 : Int32))), .val (.int (p3 % (16 : Int32))), .val (.int (p4 % (16 : Int32))), .val (.int (p5 % (16 : Int32))), .val (.ref b13), .val (.int (own_low2 (FP.i2d (p5 % (16 : Int32))) (FP.i2d (p1 % (16 : Int32))) (FP.i2d (p2 % (16 : Int32))))), .val (.int (1 : Int32))]) rfl ?_
        try simp only [if_neg hc152_2] at k
        exact k
    have k18 : ∀ t, Steps p.tables e below (T16.setTop (mkF m 173 #[.val (.int p0), .val (.int p1), .val (.int p2), .val (.int p3), .val (.int p4), .val (.int p5), .val (.int (2 : Int32)), .val (.int (p1 % (16 : Int32))), .val (.int (p2 % (16 : Int32))), .val (.int (p3 % (16 : Int32))), .val (.int (p4 % (16 : Int32))), .val (.int (p5 % (16 : Int32))), .val (.ref b13), .val (.int (own_low2 (FP.i2d (p5 % (16 : Int32))) (FP.i2d (p1 % (16 : Int32))) (FP.i2d (p2 % (16 : Int32))))), .val (.int (if (p5 % (16 : Int32)) < (p1 % (16 : Int32)) then (if (p5 % (16 : Int32)) < (p2 % (16 : Int32)) then (-1 : Int32) else (1 : Int32)) else (0 : Int32)))] [])) t → Steps p.tables e below (s₁.setTop (entryFrame m #[(.int p0), (.int p1), (.int p2), (.int p3), (.int p4), (.int p5)] maxLocals)) t := by
      intro t k
      refine k17 _ ?_
      show Steps p.tables e below (T16.setTop (mkF m 158 #[.val (.int p0), .val (.int p1), .val (.int p2), .val (.int p3), .val (.int p4), .val (.int p5), .val (.int (2 : Int32)), .val (.int (p1 % (16 : Int32))), .val (.int (p2 % (16 : Int32))), .val (.int (p3 % (16 : Int32))), .val (.int (p4 % (16 : Int32))), .val (.int (p5 % (16 : Int32))), .val (.ref b13), .val (.int (own_low2 (FP.i2d (p5 % (16 : Int32))) (FP.i2d (p1 % (16 : Int32))) (FP.i2d (p2 % (16 : Int32))))), .val (.int (if (p5 % (16 : Int32)) < (p2 % (16 : Int32)) then (-1 : Int32) else (1 : Int32)))] [])) _
      refine XS.iload X16.here hx rfl (hb hby at_158) rfl ?_
      show Steps p.tables e below (T16.setTop (mkF m 160 #[.val (.int p0), .val (.int p1), .val (.int p2), .val (.int p3), .val (.int p4), .val (.int p5), .val (.int (2 : Int32)), .val (.int (p1 % (16 : Int32))), .val (.int (p2 % (16 : Int32))), .val (.int (p3 % (16 : Int32))), .val (.int (p4 % (16 : Int32))), .val (.int (p5 % (16 : Int32))), .val (.ref b13), .val (.int (own_low2 (FP.i2d (p5 % (16 : Int32))) (FP.i2d (p1 % (16 : Int32))) (FP.i2d (p2 % (16 : Int32))))), .val (.int (if (p5 % (16 : Int32)) < (p2 % (16 : Int32)) then (-1 : Int32) else (1 : Int32)))] [(.int (2 : Int32))])) _
      refine XS.ifNo X16.here hx rfl (hb hby at_160) rfl ((if0 _ _).trans (tlt (by decide)).2.2.2) ?_
      show Steps p.tables e below (T16.setTop (mkF m 163 #[.val (.int p0), .val (.int p1), .val (.int p2), .val (.int p3), .val (.int p4), .val (.int p5), .val (.int (2 : Int32)), .val (.int (p1 % (16 : Int32))), .val (.int (p2 % (16 : Int32))), .val (.int (p3 % (16 : Int32))), .val (.int (p4 % (16 : Int32))), .val (.int (p5 % (16 : Int32))), .val (.ref b13), .val (.int (own_low2 (FP.i2d (p5 % (16 : Int32))) (FP.i2d (p1 % (16 : Int32))) (FP.i2d (p2 % (16 : Int32))))), .val (.int (if (p5 % (16 : Int32)) < (p2 % (16 : Int32)) then (-1 : Int32) else (1 : Int32)))] [])) _
      refine XS.iload X16.here hx rfl (hb hby at_163) rfl ?_
      show Steps p.tables e below (T16.setTop (mkF m 165 #[.val (.int p0), .val (.int p1), .val (.int p2), .val (.int p3), .val (.int p4), .val (.int p5), .val (.int (2 : Int32)), .val (.int (p1 % (16 : Int32))), .val (.int (p2 % (16 : Int32))), .val (.int (p3 % (16 : Int32))), .val (.int (p4 % (16 : Int32))), .val (.int (p5 % (16 : Int32))), .val (.ref b13), .val (.int (own_low2 (FP.i2d (p5 % (16 : Int32))) (FP.i2d (p1 % (16 : Int32))) (FP.i2d (p2 % (16 : Int32))))), .val (.int (if (p5 % (16 : Int32)) < (p2 % (16 : Int32)) then (-1 : Int32) else (1 : Int32)))] [(.int (p1 % (16 : Int32)))])) _
      refine XS.iload X16.here hx rfl (hb hby at_165) rfl ?_
      show Steps p.tables e below (T16.setTop (mkF m 167 #[.val (.int p0), .val (.int p1), .val (.int p2), .val (.int p3), .val (.int p4), .val (.int p5), .val (.int (2 : Int32)), .val (.int (p1 % (16 : Int32))), .val (.int (p2 % (16 : Int32))), .val (.int (p3 % (16 : Int32))), .val (.int (p4 % (16 : Int32))), .val (.int (p5 % (16 : Int32))), .val (.ref b13), .val (.int (own_low2 (FP.i2d (p5 % (16 : Int32))) (FP.i2d (p1 % (16 : Int32))) (FP.i2d (p2 % (16 : Int32))))), .val (.int (if (p5 % (16 : Int32)) < (p2 % (16 : Int32)) then (-1 : Int32) else (1 : Int32)))] [(.int (p5 % (16 : Int32))), (.int (p1 % (16 : Int32)))])) _
      by_cases hc167_3 : (p5 % (16 : Int32)) < (p1 % (16 : Int32))
      · refine XS.icmpYes X16.here hx rfl (pc0 := 167) (pc' := 173) rfl (hb hby at_167) rfl (tlt hc167_3).2.2.1 (by decide) (by decide) ?_
        try simp only [if_pos hc167_3] at k
        exact k
      · refine XS.icmpNo X16.here hx rfl (hb hby at_167) rfl (flt hc167_3).2.2.1 ?_
        show Steps p.tables e below (T16.setTop (mkF m 170 #[.val (.int p0), .val (.int p1), .val (.int p2), .val (.int p3), .val (.int p4), .val (.int p5), .val (.int (2 : Int32)), .val (.int (p1 % (16 : Int32))), .val (.int (p2 % (16 : Int32))), .val (.int (p3 % (16 : Int32))), .val (.int (p4 % (16 : Int32))), .val (.int (p5 % (16 : Int32))), .val (.ref b13), .val (.int (own_low2 (FP.i2d (p5 % (16 : Int32))) (FP.i2d (p1 % (16 : Int32))) (FP.i2d (p2 % (16 : Int32))))), .val (.int (if (p5 % (16 : Int32)) < (p2 % (16 : Int32)) then (-1 : Int32) else (1 : Int32)))] [])) _
        refine XS.iconst X16.here hx rfl (hb hby at_170) ?_
        show Steps p.tables e below (T16.setTop (mkF m 171 #[.val (.int p0), .val (.int p1), .val (.int p2), .val (.int p3), .val (.int p4), .val (.int p5), .val (.int (2 : Int32)), .val (.int (p1 % (16 : Int32))), .val (.int (p2 % (16 : Int32))), .val (.int (p3 % (16 : Int32))), .val (.int (p4 % (16 : Int32))), .val (.int (p5 % (16 : Int32))), .val (.ref b13), .val (.int (own_low2 (FP.i2d (p5 % (16 : Int32))) (FP.i2d (p1 % (16 : Int32))) (FP.i2d (p2 % (16 : Int32))))), .val (.int (if (p5 % (16 : Int32)) < (p2 % (16 : Int32)) then (-1 : Int32) else (1 : Int32)))] [(.int (0 : Int32))])) _
        refine XS.istore X16.here hx rfl (hb hby at_171) rfl (l' := #[.val (.int p0), .val (.int p1), .val (.int p2), .val (.int p3), .val (.int p4), .val (.int p5), .val (.int (2 : Int32)), .val (.int (p1 % (16 : Int32))), .val (.int (p2 % (16 : Int32))), .val (.int (p3 % (16 : Int32))), .val (.int (p4 % (16 : Int32))), .val (.int (p5 % (16 : Int32))), .val (.ref b13), .val (.int (own_low2 (FP.i2d (p5 % (16 : Int32))) (FP.i2d (p1 % (16 : Int32))) (FP.i2d (p2 % (16 : Int32))))), .val (.int (0 : Int32))]) rfl ?_
        try simp only [if_neg hc167_3] at k
        exact k
    have k19 : ∀ t, Steps p.tables e below (T16.setTop (mkF m 185 #[.val (.int p0), .val (.int p1), .val (.int p2), .val (.int p3), .val (.int p4), .val (.int p5), .val (.int (2 : Int32)), .val (.int (p1 % (16 : Int32))), .val (.int (p2 % (16 : Int32))), .val (.int (p3 % (16 : Int32))), .val (.int (p4 % (16 : Int32))), .val (.int (p5 % (16 : Int32))), .val (.ref b13), .val (.int (own_low2 (FP.i2d (p5 % (16 : Int32))) (FP.i2d (p1 % (16 : Int32))) (FP.i2d (p2 % (16 : Int32))))), .val (.int (if (p5 % (16 : Int32)) < (p1 % (16 : Int32)) then (if (p5 % (16 : Int32)) < (p2 % (16 : Int32)) then (-1 : Int32) else (1 : Int32)) else (0 : Int32)))] [(.int (1 : Int32))])) t → Steps p.tables e below (s₁.setTop (entryFrame m #[(.int p0), (.int p1), (.int p2), (.int p3), (.int p4), (.int p5)] maxLocals)) t := by
      intro t k
      refine k18 _ ?_
      show Steps p.tables e below (T16.setTop (mkF m 173 #[.val (.int p0), .val (.int p1), .val (.int p2), .val (.int p3), .val (.int p4), .val (.int p5), .val (.int (2 : Int32)), .val (.int (p1 % (16 : Int32))), .val (.int (p2 % (16 : Int32))), .val (.int (p3 % (16 : Int32))), .val (.int (p4 % (16 : Int32))), .val (.int (p5 % (16 : Int32))), .val (.ref b13), .val (.int (own_low2 (FP.i2d (p5 % (16 : Int32))) (FP.i2d (p1 % (16 : Int32))) (FP.i2d (p2 % (16 : Int32))))), .val (.int (if (p5 % (16 : Int32)) < (p1 % (16 : Int32)) then (if (p5 % (16 : Int32)) < (p2 % (16 : Int32)) then (-1 : Int32) else (1 : Int32)) else (0 : Int32)))] [])) _
      refine XS.iload X16.here hx rfl (hb hby at_173) rfl ?_
      show Steps p.tables e below (T16.setTop (mkF m 175 #[.val (.int p0), .val (.int p1), .val (.int p2), .val (.int p3), .val (.int p4), .val (.int p5), .val (.int (2 : Int32)), .val (.int (p1 % (16 : Int32))), .val (.int (p2 % (16 : Int32))), .val (.int (p3 % (16 : Int32))), .val (.int (p4 % (16 : Int32))), .val (.int (p5 % (16 : Int32))), .val (.ref b13), .val (.int (own_low2 (FP.i2d (p5 % (16 : Int32))) (FP.i2d (p1 % (16 : Int32))) (FP.i2d (p2 % (16 : Int32))))), .val (.int (if (p5 % (16 : Int32)) < (p1 % (16 : Int32)) then (if (p5 % (16 : Int32)) < (p2 % (16 : Int32)) then (-1 : Int32) else (1 : Int32)) else (0 : Int32)))] [(.int (own_low2 (FP.i2d (p5 % (16 : Int32))) (FP.i2d (p1 % (16 : Int32))) (FP.i2d (p2 % (16 : Int32)))))])) _
      refine XS.iload X16.here hx rfl (hb hby at_175) rfl ?_
      show Steps p.tables e below (T16.setTop (mkF m 177 #[.val (.int p0), .val (.int p1), .val (.int p2), .val (.int p3), .val (.int p4), .val (.int p5), .val (.int (2 : Int32)), .val (.int (p1 % (16 : Int32))), .val (.int (p2 % (16 : Int32))), .val (.int (p3 % (16 : Int32))), .val (.int (p4 % (16 : Int32))), .val (.int (p5 % (16 : Int32))), .val (.ref b13), .val (.int (own_low2 (FP.i2d (p5 % (16 : Int32))) (FP.i2d (p1 % (16 : Int32))) (FP.i2d (p2 % (16 : Int32))))), .val (.int (if (p5 % (16 : Int32)) < (p1 % (16 : Int32)) then (if (p5 % (16 : Int32)) < (p2 % (16 : Int32)) then (-1 : Int32) else (1 : Int32)) else (0 : Int32)))] [(.int (if (p5 % (16 : Int32)) < (p1 % (16 : Int32)) then (if (p5 % (16 : Int32)) < (p2 % (16 : Int32)) then (-1 : Int32) else (1 : Int32)) else (0 : Int32))), (.int (own_low2 (FP.i2d (p5 % (16 : Int32))) (FP.i2d (p1 % (16 : Int32))) (FP.i2d (p2 % (16 : Int32)))))])) _
      refine XS.icmpNo X16.here hx rfl (hb hby at_177) rfl (teq (own_e2 _ _ _)).2 ?_
      show Steps p.tables e below (T16.setTop (mkF m 180 #[.val (.int p0), .val (.int p1), .val (.int p2), .val (.int p3), .val (.int p4), .val (.int p5), .val (.int (2 : Int32)), .val (.int (p1 % (16 : Int32))), .val (.int (p2 % (16 : Int32))), .val (.int (p3 % (16 : Int32))), .val (.int (p4 % (16 : Int32))), .val (.int (p5 % (16 : Int32))), .val (.ref b13), .val (.int (own_low2 (FP.i2d (p5 % (16 : Int32))) (FP.i2d (p1 % (16 : Int32))) (FP.i2d (p2 % (16 : Int32))))), .val (.int (if (p5 % (16 : Int32)) < (p1 % (16 : Int32)) then (if (p5 % (16 : Int32)) < (p2 % (16 : Int32)) then (-1 : Int32) else (1 : Int32)) else (0 : Int32)))] [])) _
      refine XS.iconst X16.here hx rfl (hb hby at_180) ?_
      show Steps p.tables e below (T16.setTop (mkF m 181 #[.val (.int p0), .val (.int p1), .val (.int p2), .val (.int p3), .val (.int p4), .val (.int p5), .val (.int (2 : Int32)), .val (.int (p1 % (16 : Int32))), .val (.int (p2 % (16 : Int32))), .val (.int (p3 % (16 : Int32))), .val (.int (p4 % (16 : Int32))), .val (.int (p5 % (16 : Int32))), .val (.ref b13), .val (.int (own_low2 (FP.i2d (p5 % (16 : Int32))) (FP.i2d (p1 % (16 : Int32))) (FP.i2d (p2 % (16 : Int32))))), .val (.int (if (p5 % (16 : Int32)) < (p1 % (16 : Int32)) then (if (p5 % (16 : Int32)) < (p2 % (16 : Int32)) then (-1 : Int32) else (1 : Int32)) else (0 : Int32)))] [(.int (1 : Int32))])) _
      refine XS.goto X16.here hx rfl (pc0 := 181) (pc' := 185) rfl (hb hby at_181) (by decide) (by decide) ?_
      exact k
    obtain ⟨fs, hr, hrun, hended, hW, hsame⟩ := X16.leave (v := some (.int (1 : Int32))) (fun h => by rw [Bd.returns] at h; cases h)
    refine ⟨_, _, k19 _ ?_, hrun, hended, _, _, rfl, ?_, ⟨_, rfl⟩, hW, hsame.mono (by decide) (by decide)⟩
    · exact retN X16 hx (t := .boolean) Bd.returns (by simp) (hb hby at_185) hr
    · show own_R (some (.int 1)) n0 _ T16.heap _
      rw [e16]
      exact ⟨rfl, N16⟩
  · have k20 : ∀ t, Steps p.tables e below (s₁.setTop (mkF m 40 #[.val (.int p0), .val (.int p1), .val (.int p2), .val (.int p3), .val (.int p4), .val (.int p5), .val (.int (3 : Int32)), .val (.int (p1 % (16 : Int32))), .val (.int (p2 % (16 : Int32))), .val (.int (p3 % (16 : Int32))), .val (.int (p4 % (16 : Int32))), .val (.int (p5 % (16 : Int32))), .unset, .unset, .unset] [])) t → Steps p.tables e below (s₁.setTop (entryFrame m #[(.int p0), (.int p1), (.int p2), (.int p3), (.int p4), (.int p5)] maxLocals)) t := by
      intro t k
      refine k1 _ ?_
      rw [hk]
      exact k
    obtain ⟨T21, h21, c21, X21, e21, E21, A21, st21⟩ := newP X0 hx hZ (hw _ (List.mem_of_getElem? (i := 1) rfl)) e0 (g := (mkF m 42 #[.val (.int p0), .val (.int p1), .val (.int p2), .val (.int p3), .val (.int p4), .val (.int p5), .val (.int (3 : Int32)), .val (.int (p1 % (16 : Int32))), .val (.int (p2 % (16 : Int32))), .val (.int (p3 % (16 : Int32))), .val (.int (p4 % (16 : Int32))), .val (.int (p5 % (16 : Int32))), .unset, .unset, .unset] [(.int (3 : Int32))])) rfl (hb hby at_42) rfl (by decide) (cap := 3) (by decide) (by decide) (by decide) (by decide)
    obtain ⟨b21, g21⟩ : ∃ z, z = h0.size := ⟨_, rfl⟩
    rw [← g21] at A21 st21
    have gn_b21 : n0 ≤ b21 := Nat.le_trans Z0 (Nat.le_of_eq g21.symm)
    have Zs21 : n0 ≤ h21.size := Nat.le_trans Z0 E21.1
    have V_b21 : Arv Z h21 b21 c21 .double (3 : Int32) [(.double (0 : UInt64)), (.double (0 : UInt64)), (.double (0 : UInt64))] (.double (0 : UInt64)) := (Arv.new A21 (by decide)).pad (pad_rep [] (.double (0 : UInt64)) 3)
    obtain ⟨cl_22, Ar_22, q_22, S_22, N_22, H_22, G_22⟩ := id V_b21
    have hin_22 : ¬ ((0 : Int32) < 0 ∨ cl_22.slots.size ≤ ((0 : Int32)).toNatClampNeg) := inb_of S_22 ⟨by decide, by decide⟩
    obtain ⟨T22, h22, X22, e22, W22, st22⟩ := stD X21 hx hZ e21 Ar_22 (j := (0 : Int32)) hin_22 (g := (mkF m 57 #[.val (.int p0), .val (.int p1), .val (.int p2), .val (.int p3), .val (.int p4), .val (.int p5), .val (.int (3 : Int32)), .val (.int (p1 % (16 : Int32))), .val (.int (p2 % (16 : Int32))), .val (.int (p3 % (16 : Int32))), .val (.int (p4 % (16 : Int32))), .val (.int (p5 % (16 : Int32))), .val (.ref b21), .unset, .unset] [(.double (FP.i2d (p1 % (16 : Int32)))), (.int (0 : Int32)), (.ref b21)])) rfl rfl (hb hby at_57)
    have Vn22 : Arv Z h22 b21 c21 .double (3 : Int32) [(.double (FP.i2d (p1 % (16 : Int32)))), (.double (0 : UInt64)), (.double (0 : UInt64))] (.double (0 : UInt64)) := Arv.set Ar_22 q_22 S_22 N_22 H_22 G_22 rfl W22 0 rfl (Nat.le_of_ble_eq_true rfl)
    replace V_b21 := Vn22
    have N22 := Fr.snoc X22 N0 gn_b21
    have Zs22 : n0 ≤ h22.size := by rw [W22.size]; exact Zs21
    obtain ⟨cl_23, Ar_23, q_23, S_23, N_23, H_23, G_23⟩ := id V_b21
    have hin_23 : ¬ ((1 : Int32) < 0 ∨ cl_23.slots.size ≤ ((1 : Int32)).toNatClampNeg) := inb_of S_23 ⟨by decide, by decide⟩
    obtain ⟨T23, h23, X23, e23, W23, st23⟩ := stD X22 hx hZ e22 Ar_23 (j := (1 : Int32)) hin_23 (g := (mkF m 70 #[.val (.int p0), .val (.int p1), .val (.int p2), .val (.int p3), .val (.int p4), .val (.int p5), .val (.int (3 : Int32)), .val (.int (p1 % (16 : Int32))), .val (.int (p2 % (16 : Int32))), .val (.int (p3 % (16 : Int32))), .val (.int (p4 % (16 : Int32))), .val (.int (p5 % (16 : Int32))), .val (.ref b21), .unset, .unset] [(.double (FP.i2d (p2 % (16 : Int32)))), (.int (1 : Int32)), (.ref b21)])) rfl rfl (hb hby at_70)
    have Vn23 : Arv Z h23 b21 c21 .double (3 : Int32) [(.double (FP.i2d (p1 % (16 : Int32)))), (.double (FP.i2d (p2 % (16 : Int32)))), (.double (0 : UInt64))] (.double (0 : UInt64)) := Arv.set Ar_23 q_23 S_23 N_23 H_23 G_23 rfl W23 1 rfl (Nat.le_of_ble_eq_true rfl)
    replace V_b21 := Vn23
    have N23 := Fr.snoc X23 N22 gn_b21
    have Zs23 : n0 ≤ h23.size := by rw [W23.size]; exact Zs22
    obtain ⟨cl_24, Ar_24, q_24, S_24, N_24, H_24, G_24⟩ := id V_b21
    have hin_24 : ¬ ((2 : Int32) < 0 ∨ cl_24.slots.size ≤ ((2 : Int32)).toNatClampNeg) := inb_of S_24 ⟨by decide, by decide⟩
    obtain ⟨T24, h24, X24, e24, W24, st24⟩ := stD X23 hx hZ e23 Ar_24 (j := (2 : Int32)) hin_24 (g := (mkF m 83 #[.val (.int p0), .val (.int p1), .val (.int p2), .val (.int p3), .val (.int p4), .val (.int p5), .val (.int (3 : Int32)), .val (.int (p1 % (16 : Int32))), .val (.int (p2 % (16 : Int32))), .val (.int (p3 % (16 : Int32))), .val (.int (p4 % (16 : Int32))), .val (.int (p5 % (16 : Int32))), .val (.ref b21), .unset, .unset] [(.double (FP.i2d (p3 % (16 : Int32)))), (.int (2 : Int32)), (.ref b21)])) rfl rfl (hb hby at_83)
    have Vn24 : Arv Z h24 b21 c21 .double (3 : Int32) [(.double (FP.i2d (p1 % (16 : Int32)))), (.double (FP.i2d (p2 % (16 : Int32)))), (.double (FP.i2d (p3 % (16 : Int32))))] (.double (0 : UInt64)) := Arv.set Ar_24 q_24 S_24 N_24 H_24 G_24 rfl W24 2 rfl (Nat.le_of_ble_eq_true rfl)
    replace V_b21 := Vn24
    have N24 := Fr.snoc X24 N23 gn_b21
    have Zs24 : n0 ≤ h24.size := by rw [W24.size]; exact Zs23
    obtain ⟨_, _, ⟨T25, L25, k25_, n25⟩, -, X25, ⟨Lc25, hQ25, l25, y25, z25⟩, st25⟩ := Jvm.LawKit.callS X24 hx (y := (⟨"com/example/interlace/interlace/method/Ties", "lowestWithin", "([DD)I"⟩ : MethodName)) hown (mvT hZ (hw _ (List.mem_of_getElem? (i := 2) rfl))) (mvT hZ (hw _ (List.mem_of_getElem? (i := 3) rfl))) (mvT hZ (hw _ (List.mem_of_getElem? (i := 4) rfl))) (mvT hZ (hw _ (List.mem_of_getElem? (i := 5) rfl))) (by decide) (backOf (W := 0) (rmL3 l Z a0 hw [] b21 (FP.i2d (p5 % (16 : Int32))) c21 (FP.i2d (p1 % (16 : Int32))) (FP.i2d (p2 % (16 : Int32))) (FP.i2d (p3 % (16 : Int32))) h24 n0 V_b21) hZ (hw _ (List.mem_of_getElem? (i := 5) rfl)) (hw _ (List.mem_of_getElem? (i := 4) rfl)) (by decide) (by decide)) (g := (mkF m 102 #[.val (.int p0), .val (.int p1), .val (.int p2), .val (.int p3), .val (.int p4), .val (.int p5), .val (.int (3 : Int32)), .val (.int (p1 % (16 : Int32))), .val (.int (p2 % (16 : Int32))), .val (.int (p3 % (16 : Int32))), .val (.int (p4 % (16 : Int32))), .val (.int (p5 % (16 : Int32))), .val (.ref b21), .unset, .unset] [(.double (FP.i2d (p5 % (16 : Int32)))), (.ref b21)])) rfl (by rw [hml]; rfl) (argsL := [(.ref b21), (.double (FP.i2d (p5 % (16 : Int32))))]) (rest := []) (lenOf pd_0 rfl) rfl (by show 2 * 0 + _ ≤ _; exact Nat.le_of_eq rfl) (hb hby at_102) (fun _ _ => ⟨rfl, e24, (by decide : 1 + 0 ≤ _), (by decide : 3 + 0 ≤ _)⟩)
    dsimp only [Pt.U, Pt.locs, Pt.cells, Pt.slots] at X25 l25 y25 z25 st25 hQ25
    subst l25 y25 z25
    obtain ⟨rfl, Nq25, e25⟩ := hQ25
    have N25 := Fr.app N24 Nq25
    have k26 : ∀ t, Steps p.tables e below (T25.setTop (mkF m 142 #[.val (.int p0), .val (.int p1), .val (.int p2), .val (.int p3), .val (.int p4), .val (.int p5), .val (.int (3 : Int32)), .val (.int (p1 % (16 : Int32))), .val (.int (p2 % (16 : Int32))), .val (.int (p3 % (16 : Int32))), .val (.int (p4 % (16 : Int32))), .val (.int (p5 % (16 : Int32))), .val (.ref b21), .val (.int (own_low3 (FP.i2d (p5 % (16 : Int32))) (FP.i2d (p1 % (16 : Int32))) (FP.i2d (p2 % (16 : Int32))) (FP.i2d (p3 % (16 : Int32))))), .val (.int (if (p5 % (16 : Int32)) < (p3 % (16 : Int32)) then (-1 : Int32) else (2 : Int32)))] [])) t → Steps p.tables e below (s₁.setTop (entryFrame m #[(.int p0), (.int p1), (.int p2), (.int p3), (.int p4), (.int p5)] maxLocals)) t := by
      intro t k
      refine k20 _ ?_
      show Steps p.tables e below (s₁.setTop (mkF m 40 #[.val (.int p0), .val (.int p1), .val (.int p2), .val (.int p3), .val (.int p4), .val (.int p5), .val (.int (3 : Int32)), .val (.int (p1 % (16 : Int32))), .val (.int (p2 % (16 : Int32))), .val (.int (p3 % (16 : Int32))), .val (.int (p4 % (16 : Int32))), .val (.int (p5 % (16 : Int32))), .unset, .unset, .unset] [])) _
      refine XS.iload X0.here hx rfl (hb hby at_40) rfl ?_
      show Steps p.tables e below (s₁.setTop (mkF m 42 #[.val (.int p0), .val (.int p1), .val (.int p2), .val (.int p3), .val (.int p4), .val (.int p5), .val (.int (3 : Int32)), .val (.int (p1 % (16 : Int32))), .val (.int (p2 % (16 : Int32))), .val (.int (p3 % (16 : Int32))), .val (.int (p4 % (16 : Int32))), .val (.int (p5 % (16 : Int32))), .unset, .unset, .unset] [(.int (3 : Int32))])) _
      refine st21 _ ?_
      show Steps p.tables e below (T21.setTop (mkF m 44 #[.val (.int p0), .val (.int p1), .val (.int p2), .val (.int p3), .val (.int p4), .val (.int p5), .val (.int (3 : Int32)), .val (.int (p1 % (16 : Int32))), .val (.int (p2 % (16 : Int32))), .val (.int (p3 % (16 : Int32))), .val (.int (p4 % (16 : Int32))), .val (.int (p5 % (16 : Int32))), .unset, .unset, .unset] [(.ref b21)])) _
      refine XS.astore X21.here hx rfl (hb hby at_44) rfl rfl (l' := #[.val (.int p0), .val (.int p1), .val (.int p2), .val (.int p3), .val (.int p4), .val (.int p5), .val (.int (3 : Int32)), .val (.int (p1 % (16 : Int32))), .val (.int (p2 % (16 : Int32))), .val (.int (p3 % (16 : Int32))), .val (.int (p4 % (16 : Int32))), .val (.int (p5 % (16 : Int32))), .val (.ref b21), .unset, .unset]) rfl ?_
      show Steps p.tables e below (T21.setTop (mkF m 46 #[.val (.int p0), .val (.int p1), .val (.int p2), .val (.int p3), .val (.int p4), .val (.int p5), .val (.int (3 : Int32)), .val (.int (p1 % (16 : Int32))), .val (.int (p2 % (16 : Int32))), .val (.int (p3 % (16 : Int32))), .val (.int (p4 % (16 : Int32))), .val (.int (p5 % (16 : Int32))), .val (.ref b21), .unset, .unset] [])) _
      refine XS.iload X21.here hx rfl (hb hby at_46) rfl ?_
      show Steps p.tables e below (T21.setTop (mkF m 48 #[.val (.int p0), .val (.int p1), .val (.int p2), .val (.int p3), .val (.int p4), .val (.int p5), .val (.int (3 : Int32)), .val (.int (p1 % (16 : Int32))), .val (.int (p2 % (16 : Int32))), .val (.int (p3 % (16 : Int32))), .val (.int (p4 % (16 : Int32))), .val (.int (p5 % (16 : Int32))), .val (.ref b21), .unset, .unset] [(.int (3 : Int32))])) _
      refine XS.ifNo X21.here hx rfl (hb hby at_48) rfl ((if0 _ _).trans (tlt (by decide)).2.2.2) ?_
      show Steps p.tables e below (T21.setTop (mkF m 51 #[.val (.int p0), .val (.int p1), .val (.int p2), .val (.int p3), .val (.int p4), .val (.int p5), .val (.int (3 : Int32)), .val (.int (p1 % (16 : Int32))), .val (.int (p2 % (16 : Int32))), .val (.int (p3 % (16 : Int32))), .val (.int (p4 % (16 : Int32))), .val (.int (p5 % (16 : Int32))), .val (.ref b21), .unset, .unset] [])) _
      refine XS.aload X21.here hx rfl (hb hby at_51) rfl rfl ?_
      show Steps p.tables e below (T21.setTop (mkF m 53 #[.val (.int p0), .val (.int p1), .val (.int p2), .val (.int p3), .val (.int p4), .val (.int p5), .val (.int (3 : Int32)), .val (.int (p1 % (16 : Int32))), .val (.int (p2 % (16 : Int32))), .val (.int (p3 % (16 : Int32))), .val (.int (p4 % (16 : Int32))), .val (.int (p5 % (16 : Int32))), .val (.ref b21), .unset, .unset] [(.ref b21)])) _
      refine XS.iconst X21.here hx rfl (hb hby at_53) ?_
      show Steps p.tables e below (T21.setTop (mkF m 54 #[.val (.int p0), .val (.int p1), .val (.int p2), .val (.int p3), .val (.int p4), .val (.int p5), .val (.int (3 : Int32)), .val (.int (p1 % (16 : Int32))), .val (.int (p2 % (16 : Int32))), .val (.int (p3 % (16 : Int32))), .val (.int (p4 % (16 : Int32))), .val (.int (p5 % (16 : Int32))), .val (.ref b21), .unset, .unset] [(.int (0 : Int32)), (.ref b21)])) _
      refine XS.iload X21.here hx rfl (hb hby at_54) rfl ?_
      show Steps p.tables e below (T21.setTop (mkF m 56 #[.val (.int p0), .val (.int p1), .val (.int p2), .val (.int p3), .val (.int p4), .val (.int p5), .val (.int (3 : Int32)), .val (.int (p1 % (16 : Int32))), .val (.int (p2 % (16 : Int32))), .val (.int (p3 % (16 : Int32))), .val (.int (p4 % (16 : Int32))), .val (.int (p5 % (16 : Int32))), .val (.ref b21), .unset, .unset] [(.int (p1 % (16 : Int32))), (.int (0 : Int32)), (.ref b21)])) _
      refine XS.i2dS X21.here hx rfl (hb hby at_56) rfl rfl ?_
      show Steps p.tables e below (T21.setTop (mkF m 57 #[.val (.int p0), .val (.int p1), .val (.int p2), .val (.int p3), .val (.int p4), .val (.int p5), .val (.int (3 : Int32)), .val (.int (p1 % (16 : Int32))), .val (.int (p2 % (16 : Int32))), .val (.int (p3 % (16 : Int32))), .val (.int (p4 % (16 : Int32))), .val (.int (p5 % (16 : Int32))), .val (.ref b21), .unset, .unset] [(.double (FP.i2d (p1 % (16 : Int32)))), (.int (0 : Int32)), (.ref b21)])) _
      refine st22 _ ?_
      show Steps p.tables e below (T22.setTop (mkF m 58 #[.val (.int p0), .val (.int p1), .val (.int p2), .val (.int p3), .val (.int p4), .val (.int p5), .val (.int (3 : Int32)), .val (.int (p1 % (16 : Int32))), .val (.int (p2 % (16 : Int32))), .val (.int (p3 % (16 : Int32))), .val (.int (p4 % (16 : Int32))), .val (.int (p5 % (16 : Int32))), .val (.ref b21), .unset, .unset] [])) _
      refine XS.iload X22.here hx rfl (hb hby at_58) rfl ?_
      show Steps p.tables e below (T22.setTop (mkF m 60 #[.val (.int p0), .val (.int p1), .val (.int p2), .val (.int p3), .val (.int p4), .val (.int p5), .val (.int (3 : Int32)), .val (.int (p1 % (16 : Int32))), .val (.int (p2 % (16 : Int32))), .val (.int (p3 % (16 : Int32))), .val (.int (p4 % (16 : Int32))), .val (.int (p5 % (16 : Int32))), .val (.ref b21), .unset, .unset] [(.int (3 : Int32))])) _
      refine XS.iconst X22.here hx rfl (hb hby at_60) ?_
      show Steps p.tables e below (T22.setTop (mkF m 61 #[.val (.int p0), .val (.int p1), .val (.int p2), .val (.int p3), .val (.int p4), .val (.int p5), .val (.int (3 : Int32)), .val (.int (p1 % (16 : Int32))), .val (.int (p2 % (16 : Int32))), .val (.int (p3 % (16 : Int32))), .val (.int (p4 % (16 : Int32))), .val (.int (p5 % (16 : Int32))), .val (.ref b21), .unset, .unset] [(.int (1 : Int32)), (.int (3 : Int32))])) _
      refine XS.icmpNo X22.here hx rfl (hb hby at_61) rfl (tlt (by decide)).2.2.2 ?_
      show Steps p.tables e below (T22.setTop (mkF m 64 #[.val (.int p0), .val (.int p1), .val (.int p2), .val (.int p3), .val (.int p4), .val (.int p5), .val (.int (3 : Int32)), .val (.int (p1 % (16 : Int32))), .val (.int (p2 % (16 : Int32))), .val (.int (p3 % (16 : Int32))), .val (.int (p4 % (16 : Int32))), .val (.int (p5 % (16 : Int32))), .val (.ref b21), .unset, .unset] [])) _
      refine XS.aload X22.here hx rfl (hb hby at_64) rfl rfl ?_
      show Steps p.tables e below (T22.setTop (mkF m 66 #[.val (.int p0), .val (.int p1), .val (.int p2), .val (.int p3), .val (.int p4), .val (.int p5), .val (.int (3 : Int32)), .val (.int (p1 % (16 : Int32))), .val (.int (p2 % (16 : Int32))), .val (.int (p3 % (16 : Int32))), .val (.int (p4 % (16 : Int32))), .val (.int (p5 % (16 : Int32))), .val (.ref b21), .unset, .unset] [(.ref b21)])) _
      refine XS.iconst X22.here hx rfl (hb hby at_66) ?_
      show Steps p.tables e below (T22.setTop (mkF m 67 #[.val (.int p0), .val (.int p1), .val (.int p2), .val (.int p3), .val (.int p4), .val (.int p5), .val (.int (3 : Int32)), .val (.int (p1 % (16 : Int32))), .val (.int (p2 % (16 : Int32))), .val (.int (p3 % (16 : Int32))), .val (.int (p4 % (16 : Int32))), .val (.int (p5 % (16 : Int32))), .val (.ref b21), .unset, .unset] [(.int (1 : Int32)), (.ref b21)])) _
      refine XS.iload X22.here hx rfl (hb hby at_67) rfl ?_
      show Steps p.tables e below (T22.setTop (mkF m 69 #[.val (.int p0), .val (.int p1), .val (.int p2), .val (.int p3), .val (.int p4), .val (.int p5), .val (.int (3 : Int32)), .val (.int (p1 % (16 : Int32))), .val (.int (p2 % (16 : Int32))), .val (.int (p3 % (16 : Int32))), .val (.int (p4 % (16 : Int32))), .val (.int (p5 % (16 : Int32))), .val (.ref b21), .unset, .unset] [(.int (p2 % (16 : Int32))), (.int (1 : Int32)), (.ref b21)])) _
      refine XS.i2dS X22.here hx rfl (hb hby at_69) rfl rfl ?_
      show Steps p.tables e below (T22.setTop (mkF m 70 #[.val (.int p0), .val (.int p1), .val (.int p2), .val (.int p3), .val (.int p4), .val (.int p5), .val (.int (3 : Int32)), .val (.int (p1 % (16 : Int32))), .val (.int (p2 % (16 : Int32))), .val (.int (p3 % (16 : Int32))), .val (.int (p4 % (16 : Int32))), .val (.int (p5 % (16 : Int32))), .val (.ref b21), .unset, .unset] [(.double (FP.i2d (p2 % (16 : Int32)))), (.int (1 : Int32)), (.ref b21)])) _
      refine st23 _ ?_
      show Steps p.tables e below (T23.setTop (mkF m 71 #[.val (.int p0), .val (.int p1), .val (.int p2), .val (.int p3), .val (.int p4), .val (.int p5), .val (.int (3 : Int32)), .val (.int (p1 % (16 : Int32))), .val (.int (p2 % (16 : Int32))), .val (.int (p3 % (16 : Int32))), .val (.int (p4 % (16 : Int32))), .val (.int (p5 % (16 : Int32))), .val (.ref b21), .unset, .unset] [])) _
      refine XS.iload X23.here hx rfl (hb hby at_71) rfl ?_
      show Steps p.tables e below (T23.setTop (mkF m 73 #[.val (.int p0), .val (.int p1), .val (.int p2), .val (.int p3), .val (.int p4), .val (.int p5), .val (.int (3 : Int32)), .val (.int (p1 % (16 : Int32))), .val (.int (p2 % (16 : Int32))), .val (.int (p3 % (16 : Int32))), .val (.int (p4 % (16 : Int32))), .val (.int (p5 % (16 : Int32))), .val (.ref b21), .unset, .unset] [(.int (3 : Int32))])) _
      refine XS.iconst X23.here hx rfl (hb hby at_73) ?_
      show Steps p.tables e below (T23.setTop (mkF m 74 #[.val (.int p0), .val (.int p1), .val (.int p2), .val (.int p3), .val (.int p4), .val (.int p5), .val (.int (3 : Int32)), .val (.int (p1 % (16 : Int32))), .val (.int (p2 % (16 : Int32))), .val (.int (p3 % (16 : Int32))), .val (.int (p4 % (16 : Int32))), .val (.int (p5 % (16 : Int32))), .val (.ref b21), .unset, .unset] [(.int (2 : Int32)), (.int (3 : Int32))])) _
      refine XS.icmpNo X23.here hx rfl (hb hby at_74) rfl (tlt (by decide)).2.2.2 ?_
      show Steps p.tables e below (T23.setTop (mkF m 77 #[.val (.int p0), .val (.int p1), .val (.int p2), .val (.int p3), .val (.int p4), .val (.int p5), .val (.int (3 : Int32)), .val (.int (p1 % (16 : Int32))), .val (.int (p2 % (16 : Int32))), .val (.int (p3 % (16 : Int32))), .val (.int (p4 % (16 : Int32))), .val (.int (p5 % (16 : Int32))), .val (.ref b21), .unset, .unset] [])) _
      refine XS.aload X23.here hx rfl (hb hby at_77) rfl rfl ?_
      show Steps p.tables e below (T23.setTop (mkF m 79 #[.val (.int p0), .val (.int p1), .val (.int p2), .val (.int p3), .val (.int p4), .val (.int p5), .val (.int (3 : Int32)), .val (.int (p1 % (16 : Int32))), .val (.int (p2 % (16 : Int32))), .val (.int (p3 % (16 : Int32))), .val (.int (p4 % (16 : Int32))), .val (.int (p5 % (16 : Int32))), .val (.ref b21), .unset, .unset] [(.ref b21)])) _
      refine XS.iconst X23.here hx rfl (hb hby at_79) ?_
      show Steps p.tables e below (T23.setTop (mkF m 80 #[.val (.int p0), .val (.int p1), .val (.int p2), .val (.int p3), .val (.int p4), .val (.int p5), .val (.int (3 : Int32)), .val (.int (p1 % (16 : Int32))), .val (.int (p2 % (16 : Int32))), .val (.int (p3 % (16 : Int32))), .val (.int (p4 % (16 : Int32))), .val (.int (p5 % (16 : Int32))), .val (.ref b21), .unset, .unset] [(.int (2 : Int32)), (.ref b21)])) _
      refine XS.iload X23.here hx rfl (hb hby at_80) rfl ?_
      show Steps p.tables e below (T23.setTop (mkF m 82 #[.val (.int p0), .val (.int p1), .val (.int p2), .val (.int p3), .val (.int p4), .val (.int p5), .val (.int (3 : Int32)), .val (.int (p1 % (16 : Int32))), .val (.int (p2 % (16 : Int32))), .val (.int (p3 % (16 : Int32))), .val (.int (p4 % (16 : Int32))), .val (.int (p5 % (16 : Int32))), .val (.ref b21), .unset, .unset] [(.int (p3 % (16 : Int32))), (.int (2 : Int32)), (.ref b21)])) _
      refine XS.i2dS X23.here hx rfl (hb hby at_82) rfl rfl ?_
      show Steps p.tables e below (T23.setTop (mkF m 83 #[.val (.int p0), .val (.int p1), .val (.int p2), .val (.int p3), .val (.int p4), .val (.int p5), .val (.int (3 : Int32)), .val (.int (p1 % (16 : Int32))), .val (.int (p2 % (16 : Int32))), .val (.int (p3 % (16 : Int32))), .val (.int (p4 % (16 : Int32))), .val (.int (p5 % (16 : Int32))), .val (.ref b21), .unset, .unset] [(.double (FP.i2d (p3 % (16 : Int32)))), (.int (2 : Int32)), (.ref b21)])) _
      refine st24 _ ?_
      show Steps p.tables e below (T24.setTop (mkF m 84 #[.val (.int p0), .val (.int p1), .val (.int p2), .val (.int p3), .val (.int p4), .val (.int p5), .val (.int (3 : Int32)), .val (.int (p1 % (16 : Int32))), .val (.int (p2 % (16 : Int32))), .val (.int (p3 % (16 : Int32))), .val (.int (p4 % (16 : Int32))), .val (.int (p5 % (16 : Int32))), .val (.ref b21), .unset, .unset] [])) _
      refine XS.iload X24.here hx rfl (hb hby at_84) rfl ?_
      show Steps p.tables e below (T24.setTop (mkF m 86 #[.val (.int p0), .val (.int p1), .val (.int p2), .val (.int p3), .val (.int p4), .val (.int p5), .val (.int (3 : Int32)), .val (.int (p1 % (16 : Int32))), .val (.int (p2 % (16 : Int32))), .val (.int (p3 % (16 : Int32))), .val (.int (p4 % (16 : Int32))), .val (.int (p5 % (16 : Int32))), .val (.ref b21), .unset, .unset] [(.int (3 : Int32))])) _
      refine XS.iconst X24.here hx rfl (hb hby at_86) ?_
      show Steps p.tables e below (T24.setTop (mkF m 87 #[.val (.int p0), .val (.int p1), .val (.int p2), .val (.int p3), .val (.int p4), .val (.int p5), .val (.int (3 : Int32)), .val (.int (p1 % (16 : Int32))), .val (.int (p2 % (16 : Int32))), .val (.int (p3 % (16 : Int32))), .val (.int (p4 % (16 : Int32))), .val (.int (p5 % (16 : Int32))), .val (.ref b21), .unset, .unset] [(.int (3 : Int32)), (.int (3 : Int32))])) _
      refine XS.icmpYes X24.here hx rfl (pc0 := 87) (pc' := 97) rfl (hb hby at_87) rfl (flt (by decide)).2.2.2 (by decide) (by decide) ?_
      show Steps p.tables e below (T24.setTop (mkF m 97 #[.val (.int p0), .val (.int p1), .val (.int p2), .val (.int p3), .val (.int p4), .val (.int p5), .val (.int (3 : Int32)), .val (.int (p1 % (16 : Int32))), .val (.int (p2 % (16 : Int32))), .val (.int (p3 % (16 : Int32))), .val (.int (p4 % (16 : Int32))), .val (.int (p5 % (16 : Int32))), .val (.ref b21), .unset, .unset] [])) _
      refine XS.aload X24.here hx rfl (hb hby at_97) rfl rfl ?_
      show Steps p.tables e below (T24.setTop (mkF m 99 #[.val (.int p0), .val (.int p1), .val (.int p2), .val (.int p3), .val (.int p4), .val (.int p5), .val (.int (3 : Int32)), .val (.int (p1 % (16 : Int32))), .val (.int (p2 % (16 : Int32))), .val (.int (p3 % (16 : Int32))), .val (.int (p4 % (16 : Int32))), .val (.int (p5 % (16 : Int32))), .val (.ref b21), .unset, .unset] [(.ref b21)])) _
      refine XS.iload X24.here hx rfl (hb hby at_99) rfl ?_
      show Steps p.tables e below (T24.setTop (mkF m 101 #[.val (.int p0), .val (.int p1), .val (.int p2), .val (.int p3), .val (.int p4), .val (.int p5), .val (.int (3 : Int32)), .val (.int (p1 % (16 : Int32))), .val (.int (p2 % (16 : Int32))), .val (.int (p3 % (16 : Int32))), .val (.int (p4 % (16 : Int32))), .val (.int (p5 % (16 : Int32))), .val (.ref b21), .unset, .unset] [(.int (p5 % (16 : Int32))), (.ref b21)])) _
      refine XS.i2dS X24.here hx rfl (hb hby at_101) rfl rfl ?_
      show Steps p.tables e below (T24.setTop (mkF m 102 #[.val (.int p0), .val (.int p1), .val (.int p2), .val (.int p3), .val (.int p4), .val (.int p5), .val (.int (3 : Int32)), .val (.int (p1 % (16 : Int32))), .val (.int (p2 % (16 : Int32))), .val (.int (p3 % (16 : Int32))), .val (.int (p4 % (16 : Int32))), .val (.int (p5 % (16 : Int32))), .val (.ref b21), .unset, .unset] [(.double (FP.i2d (p5 % (16 : Int32)))), (.ref b21)])) _
      refine st25 _ ?_
      show Steps p.tables e below (T25.setTop (mkF m 105 #[.val (.int p0), .val (.int p1), .val (.int p2), .val (.int p3), .val (.int p4), .val (.int p5), .val (.int (3 : Int32)), .val (.int (p1 % (16 : Int32))), .val (.int (p2 % (16 : Int32))), .val (.int (p3 % (16 : Int32))), .val (.int (p4 % (16 : Int32))), .val (.int (p5 % (16 : Int32))), .val (.ref b21), .unset, .unset] [(.int (own_low3 (FP.i2d (p5 % (16 : Int32))) (FP.i2d (p1 % (16 : Int32))) (FP.i2d (p2 % (16 : Int32))) (FP.i2d (p3 % (16 : Int32)))))])) _
      refine XS.istore X25.here hx rfl (hb hby at_105) rfl (l' := #[.val (.int p0), .val (.int p1), .val (.int p2), .val (.int p3), .val (.int p4), .val (.int p5), .val (.int (3 : Int32)), .val (.int (p1 % (16 : Int32))), .val (.int (p2 % (16 : Int32))), .val (.int (p3 % (16 : Int32))), .val (.int (p4 % (16 : Int32))), .val (.int (p5 % (16 : Int32))), .val (.ref b21), .val (.int (own_low3 (FP.i2d (p5 % (16 : Int32))) (FP.i2d (p1 % (16 : Int32))) (FP.i2d (p2 % (16 : Int32))) (FP.i2d (p3 % (16 : Int32))))), .unset]) rfl ?_
      show Steps p.tables e below (T25.setTop (mkF m 107 #[.val (.int p0), .val (.int p1), .val (.int p2), .val (.int p3), .val (.int p4), .val (.int p5), .val (.int (3 : Int32)), .val (.int (p1 % (16 : Int32))), .val (.int (p2 % (16 : Int32))), .val (.int (p3 % (16 : Int32))), .val (.int (p4 % (16 : Int32))), .val (.int (p5 % (16 : Int32))), .val (.ref b21), .val (.int (own_low3 (FP.i2d (p5 % (16 : Int32))) (FP.i2d (p1 % (16 : Int32))) (FP.i2d (p2 % (16 : Int32))) (FP.i2d (p3 % (16 : Int32))))), .unset] [])) _
      refine XS.iconst X25.here hx rfl (hb hby at_107) ?_
      show Steps p.tables e below (T25.setTop (mkF m 108 #[.val (.int p0), .val (.int p1), .val (.int p2), .val (.int p3), .val (.int p4), .val (.int p5), .val (.int (3 : Int32)), .val (.int (p1 % (16 : Int32))), .val (.int (p2 % (16 : Int32))), .val (.int (p3 % (16 : Int32))), .val (.int (p4 % (16 : Int32))), .val (.int (p5 % (16 : Int32))), .val (.ref b21), .val (.int (own_low3 (FP.i2d (p5 % (16 : Int32))) (FP.i2d (p1 % (16 : Int32))) (FP.i2d (p2 % (16 : Int32))) (FP.i2d (p3 % (16 : Int32))))), .unset] [(.int (-1 : Int32))])) _
      refine XS.istore X25.here hx rfl (hb hby at_108) rfl (l' := #[.val (.int p0), .val (.int p1), .val (.int p2), .val (.int p3), .val (.int p4), .val (.int p5), .val (.int (3 : Int32)), .val (.int (p1 % (16 : Int32))), .val (.int (p2 % (16 : Int32))), .val (.int (p3 % (16 : Int32))), .val (.int (p4 % (16 : Int32))), .val (.int (p5 % (16 : Int32))), .val (.ref b21), .val (.int (own_low3 (FP.i2d (p5 % (16 : Int32))) (FP.i2d (p1 % (16 : Int32))) (FP.i2d (p2 % (16 : Int32))) (FP.i2d (p3 % (16 : Int32))))), .val (.int (-1 : Int32))]) rfl ?_
      show Steps p.tables e below (T25.setTop (mkF m 110 #[.val (.int p0), .val (.int p1), .val (.int p2), .val (.int p3), .val (.int p4), .val (.int p5), .val (.int (3 : Int32)), .val (.int (p1 % (16 : Int32))), .val (.int (p2 % (16 : Int32))), .val (.int (p3 % (16 : Int32))), .val (.int (p4 % (16 : Int32))), .val (.int (p5 % (16 : Int32))), .val (.ref b21), .val (.int (own_low3 (FP.i2d (p5 % (16 : Int32))) (FP.i2d (p1 % (16 : Int32))) (FP.i2d (p2 % (16 : Int32))) (FP.i2d (p3 % (16 : Int32))))), .val (.int (-1 : Int32))] [])) _
      refine XS.iload X25.here hx rfl (hb hby at_110) rfl ?_
      show Steps p.tables e below (T25.setTop (mkF m 112 #[.val (.int p0), .val (.int p1), .val (.int p2), .val (.int p3), .val (.int p4), .val (.int p5), .val (.int (3 : Int32)), .val (.int (p1 % (16 : Int32))), .val (.int (p2 % (16 : Int32))), .val (.int (p3 % (16 : Int32))), .val (.int (p4 % (16 : Int32))), .val (.int (p5 % (16 : Int32))), .val (.ref b21), .val (.int (own_low3 (FP.i2d (p5 % (16 : Int32))) (FP.i2d (p1 % (16 : Int32))) (FP.i2d (p2 % (16 : Int32))) (FP.i2d (p3 % (16 : Int32))))), .val (.int (-1 : Int32))] [(.int (3 : Int32))])) _
      refine XS.iconst X25.here hx rfl (hb hby at_112) ?_
      show Steps p.tables e below (T25.setTop (mkF m 113 #[.val (.int p0), .val (.int p1), .val (.int p2), .val (.int p3), .val (.int p4), .val (.int p5), .val (.int (3 : Int32)), .val (.int (p1 % (16 : Int32))), .val (.int (p2 % (16 : Int32))), .val (.int (p3 % (16 : Int32))), .val (.int (p4 % (16 : Int32))), .val (.int (p5 % (16 : Int32))), .val (.ref b21), .val (.int (own_low3 (FP.i2d (p5 % (16 : Int32))) (FP.i2d (p1 % (16 : Int32))) (FP.i2d (p2 % (16 : Int32))) (FP.i2d (p3 % (16 : Int32))))), .val (.int (-1 : Int32))] [(.int (3 : Int32)), (.int (3 : Int32))])) _
      refine XS.icmpYes X25.here hx rfl (pc0 := 113) (pc' := 126) rfl (hb hby at_113) rfl (flt (by decide)).2.2.2 (by decide) (by decide) ?_
      show Steps p.tables e below (T25.setTop (mkF m 126 #[.val (.int p0), .val (.int p1), .val (.int p2), .val (.int p3), .val (.int p4), .val (.int p5), .val (.int (3 : Int32)), .val (.int (p1 % (16 : Int32))), .val (.int (p2 % (16 : Int32))), .val (.int (p3 % (16 : Int32))), .val (.int (p4 % (16 : Int32))), .val (.int (p5 % (16 : Int32))), .val (.ref b21), .val (.int (own_low3 (FP.i2d (p5 % (16 : Int32))) (FP.i2d (p1 % (16 : Int32))) (FP.i2d (p2 % (16 : Int32))) (FP.i2d (p3 % (16 : Int32))))), .val (.int (-1 : Int32))] [])) _
      refine XS.iload X25.here hx rfl (hb hby at_126) rfl ?_
      show Steps p.tables e below (T25.setTop (mkF m 128 #[.val (.int p0), .val (.int p1), .val (.int p2), .val (.int p3), .val (.int p4), .val (.int p5), .val (.int (3 : Int32)), .val (.int (p1 % (16 : Int32))), .val (.int (p2 % (16 : Int32))), .val (.int (p3 % (16 : Int32))), .val (.int (p4 % (16 : Int32))), .val (.int (p5 % (16 : Int32))), .val (.ref b21), .val (.int (own_low3 (FP.i2d (p5 % (16 : Int32))) (FP.i2d (p1 % (16 : Int32))) (FP.i2d (p2 % (16 : Int32))) (FP.i2d (p3 % (16 : Int32))))), .val (.int (-1 : Int32))] [(.int (3 : Int32))])) _
      refine XS.iconst X25.here hx rfl (hb hby at_128) ?_
      show Steps p.tables e below (T25.setTop (mkF m 129 #[.val (.int p0), .val (.int p1), .val (.int p2), .val (.int p3), .val (.int p4), .val (.int p5), .val (.int (3 : Int32)), .val (.int (p1 % (16 : Int32))), .val (.int (p2 % (16 : Int32))), .val (.int (p3 % (16 : Int32))), .val (.int (p4 % (16 : Int32))), .val (.int (p5 % (16 : Int32))), .val (.ref b21), .val (.int (own_low3 (FP.i2d (p5 % (16 : Int32))) (FP.i2d (p1 % (16 : Int32))) (FP.i2d (p2 % (16 : Int32))) (FP.i2d (p3 % (16 : Int32))))), .val (.int (-1 : Int32))] [(.int (2 : Int32)), (.int (3 : Int32))])) _
      refine XS.icmpNo X25.here hx rfl (hb hby at_129) rfl (tlt (by decide)).2.2.2 ?_
      show Steps p.tables e below (T25.setTop (mkF m 132 #[.val (.int p0), .val (.int p1), .val (.int p2), .val (.int p3), .val (.int p4), .val (.int p5), .val (.int (3 : Int32)), .val (.int (p1 % (16 : Int32))), .val (.int (p2 % (16 : Int32))), .val (.int (p3 % (16 : Int32))), .val (.int (p4 % (16 : Int32))), .val (.int (p5 % (16 : Int32))), .val (.ref b21), .val (.int (own_low3 (FP.i2d (p5 % (16 : Int32))) (FP.i2d (p1 % (16 : Int32))) (FP.i2d (p2 % (16 : Int32))) (FP.i2d (p3 % (16 : Int32))))), .val (.int (-1 : Int32))] [])) _
      refine XS.iload X25.here hx rfl (hb hby at_132) rfl ?_
      show Steps p.tables e below (T25.setTop (mkF m 134 #[.val (.int p0), .val (.int p1), .val (.int p2), .val (.int p3), .val (.int p4), .val (.int p5), .val (.int (3 : Int32)), .val (.int (p1 % (16 : Int32))), .val (.int (p2 % (16 : Int32))), .val (.int (p3 % (16 : Int32))), .val (.int (p4 % (16 : Int32))), .val (.int (p5 % (16 : Int32))), .val (.ref b21), .val (.int (own_low3 (FP.i2d (p5 % (16 : Int32))) (FP.i2d (p1 % (16 : Int32))) (FP.i2d (p2 % (16 : Int32))) (FP.i2d (p3 % (16 : Int32))))), .val (.int (-1 : Int32))] [(.int (p3 % (16 : Int32)))])) _
      refine XS.iload X25.here hx rfl (hb hby at_134) rfl ?_
      show Steps p.tables e below (T25.setTop (mkF m 136 #[.val (.int p0), .val (.int p1), .val (.int p2), .val (.int p3), .val (.int p4), .val (.int p5), .val (.int (3 : Int32)), .val (.int (p1 % (16 : Int32))), .val (.int (p2 % (16 : Int32))), .val (.int (p3 % (16 : Int32))), .val (.int (p4 % (16 : Int32))), .val (.int (p5 % (16 : Int32))), .val (.ref b21), .val (.int (own_low3 (FP.i2d (p5 % (16 : Int32))) (FP.i2d (p1 % (16 : Int32))) (FP.i2d (p2 % (16 : Int32))) (FP.i2d (p3 % (16 : Int32))))), .val (.int (-1 : Int32))] [(.int (p5 % (16 : Int32))), (.int (p3 % (16 : Int32)))])) _
      by_cases hc136_4 : (p5 % (16 : Int32)) < (p3 % (16 : Int32))
      · refine XS.icmpYes X25.here hx rfl (pc0 := 136) (pc' := 142) rfl (hb hby at_136) rfl (tlt hc136_4).2.2.1 (by decide) (by decide) ?_
        try simp only [if_pos hc136_4] at k
        exact k
      · refine XS.icmpNo X25.here hx rfl (hb hby at_136) rfl (flt hc136_4).2.2.1 ?_
        show Steps p.tables e below (T25.setTop (mkF m 139 #[.val (.int p0), .val (.int p1), .val (.int p2), .val (.int p3), .val (.int p4), .val (.int p5), .val (.int (3 : Int32)), .val (.int (p1 % (16 : Int32))), .val (.int (p2 % (16 : Int32))), .val (.int (p3 % (16 : Int32))), .val (.int (p4 % (16 : Int32))), .val (.int (p5 % (16 : Int32))), .val (.ref b21), .val (.int (own_low3 (FP.i2d (p5 % (16 : Int32))) (FP.i2d (p1 % (16 : Int32))) (FP.i2d (p2 % (16 : Int32))) (FP.i2d (p3 % (16 : Int32))))), .val (.int (-1 : Int32))] [])) _
        refine XS.iconst X25.here hx rfl (hb hby at_139) ?_
        show Steps p.tables e below (T25.setTop (mkF m 140 #[.val (.int p0), .val (.int p1), .val (.int p2), .val (.int p3), .val (.int p4), .val (.int p5), .val (.int (3 : Int32)), .val (.int (p1 % (16 : Int32))), .val (.int (p2 % (16 : Int32))), .val (.int (p3 % (16 : Int32))), .val (.int (p4 % (16 : Int32))), .val (.int (p5 % (16 : Int32))), .val (.ref b21), .val (.int (own_low3 (FP.i2d (p5 % (16 : Int32))) (FP.i2d (p1 % (16 : Int32))) (FP.i2d (p2 % (16 : Int32))) (FP.i2d (p3 % (16 : Int32))))), .val (.int (-1 : Int32))] [(.int (2 : Int32))])) _
        refine XS.istore X25.here hx rfl (hb hby at_140) rfl (l' := #[.val (.int p0), .val (.int p1), .val (.int p2), .val (.int p3), .val (.int p4), .val (.int p5), .val (.int (3 : Int32)), .val (.int (p1 % (16 : Int32))), .val (.int (p2 % (16 : Int32))), .val (.int (p3 % (16 : Int32))), .val (.int (p4 % (16 : Int32))), .val (.int (p5 % (16 : Int32))), .val (.ref b21), .val (.int (own_low3 (FP.i2d (p5 % (16 : Int32))) (FP.i2d (p1 % (16 : Int32))) (FP.i2d (p2 % (16 : Int32))) (FP.i2d (p3 % (16 : Int32))))), .val (.int (2 : Int32))]) rfl ?_
        try simp only [if_neg hc136_4] at k
        exact k
    have k27 : ∀ t, Steps p.tables e below (T25.setTop (mkF m 158 #[.val (.int p0), .val (.int p1), .val (.int p2), .val (.int p3), .val (.int p4), .val (.int p5), .val (.int (3 : Int32)), .val (.int (p1 % (16 : Int32))), .val (.int (p2 % (16 : Int32))), .val (.int (p3 % (16 : Int32))), .val (.int (p4 % (16 : Int32))), .val (.int (p5 % (16 : Int32))), .val (.ref b21), .val (.int (own_low3 (FP.i2d (p5 % (16 : Int32))) (FP.i2d (p1 % (16 : Int32))) (FP.i2d (p2 % (16 : Int32))) (FP.i2d (p3 % (16 : Int32))))), .val (.int (if (p5 % (16 : Int32)) < (p2 % (16 : Int32)) then (if (p5 % (16 : Int32)) < (p3 % (16 : Int32)) then (-1 : Int32) else (2 : Int32)) else (1 : Int32)))] [])) t → Steps p.tables e below (s₁.setTop (entryFrame m #[(.int p0), (.int p1), (.int p2), (.int p3), (.int p4), (.int p5)] maxLocals)) t := by
      intro t k
      refine k26 _ ?_
      show Steps p.tables e below (T25.setTop (mkF m 142 #[.val (.int p0), .val (.int p1), .val (.int p2), .val (.int p3), .val (.int p4), .val (.int p5), .val (.int (3 : Int32)), .val (.int (p1 % (16 : Int32))), .val (.int (p2 % (16 : Int32))), .val (.int (p3 % (16 : Int32))), .val (.int (p4 % (16 : Int32))), .val (.int (p5 % (16 : Int32))), .val (.ref b21), .val (.int (own_low3 (FP.i2d (p5 % (16 : Int32))) (FP.i2d (p1 % (16 : Int32))) (FP.i2d (p2 % (16 : Int32))) (FP.i2d (p3 % (16 : Int32))))), .val (.int (if (p5 % (16 : Int32)) < (p3 % (16 : Int32)) then (-1 : Int32) else (2 : Int32)))] [])) _
      refine XS.iload X25.here hx rfl (hb hby at_142) rfl ?_
      show Steps p.tables e below (T25.setTop (mkF m 144 #[.val (.int p0), .val (.int p1), .val (.int p2), .val (.int p3), .val (.int p4), .val (.int p5), .val (.int (3 : Int32)), .val (.int (p1 % (16 : Int32))), .val (.int (p2 % (16 : Int32))), .val (.int (p3 % (16 : Int32))), .val (.int (p4 % (16 : Int32))), .val (.int (p5 % (16 : Int32))), .val (.ref b21), .val (.int (own_low3 (FP.i2d (p5 % (16 : Int32))) (FP.i2d (p1 % (16 : Int32))) (FP.i2d (p2 % (16 : Int32))) (FP.i2d (p3 % (16 : Int32))))), .val (.int (if (p5 % (16 : Int32)) < (p3 % (16 : Int32)) then (-1 : Int32) else (2 : Int32)))] [(.int (3 : Int32))])) _
      refine XS.iconst X25.here hx rfl (hb hby at_144) ?_
      show Steps p.tables e below (T25.setTop (mkF m 145 #[.val (.int p0), .val (.int p1), .val (.int p2), .val (.int p3), .val (.int p4), .val (.int p5), .val (.int (3 : Int32)), .val (.int (p1 % (16 : Int32))), .val (.int (p2 % (16 : Int32))), .val (.int (p3 % (16 : Int32))), .val (.int (p4 % (16 : Int32))), .val (.int (p5 % (16 : Int32))), .val (.ref b21), .val (.int (own_low3 (FP.i2d (p5 % (16 : Int32))) (FP.i2d (p1 % (16 : Int32))) (FP.i2d (p2 % (16 : Int32))) (FP.i2d (p3 % (16 : Int32))))), .val (.int (if (p5 % (16 : Int32)) < (p3 % (16 : Int32)) then (-1 : Int32) else (2 : Int32)))] [(.int (1 : Int32)), (.int (3 : Int32))])) _
      refine XS.icmpNo X25.here hx rfl (hb hby at_145) rfl (tlt (by decide)).2.2.2 ?_
      show Steps p.tables e below (T25.setTop (mkF m 148 #[.val (.int p0), .val (.int p1), .val (.int p2), .val (.int p3), .val (.int p4), .val (.int p5), .val (.int (3 : Int32)), .val (.int (p1 % (16 : Int32))), .val (.int (p2 % (16 : Int32))), .val (.int (p3 % (16 : Int32))), .val (.int (p4 % (16 : Int32))), .val (.int (p5 % (16 : Int32))), .val (.ref b21), .val (.int (own_low3 (FP.i2d (p5 % (16 : Int32))) (FP.i2d (p1 % (16 : Int32))) (FP.i2d (p2 % (16 : Int32))) (FP.i2d (p3 % (16 : Int32))))), .val (.int (if (p5 % (16 : Int32)) < (p3 % (16 : Int32)) then (-1 : Int32) else (2 : Int32)))] [])) _
      refine XS.iload X25.here hx rfl (hb hby at_148) rfl ?_
      show Steps p.tables e below (T25.setTop (mkF m 150 #[.val (.int p0), .val (.int p1), .val (.int p2), .val (.int p3), .val (.int p4), .val (.int p5), .val (.int (3 : Int32)), .val (.int (p1 % (16 : Int32))), .val (.int (p2 % (16 : Int32))), .val (.int (p3 % (16 : Int32))), .val (.int (p4 % (16 : Int32))), .val (.int (p5 % (16 : Int32))), .val (.ref b21), .val (.int (own_low3 (FP.i2d (p5 % (16 : Int32))) (FP.i2d (p1 % (16 : Int32))) (FP.i2d (p2 % (16 : Int32))) (FP.i2d (p3 % (16 : Int32))))), .val (.int (if (p5 % (16 : Int32)) < (p3 % (16 : Int32)) then (-1 : Int32) else (2 : Int32)))] [(.int (p2 % (16 : Int32)))])) _
      refine XS.iload X25.here hx rfl (hb hby at_150) rfl ?_
      show Steps p.tables e below (T25.setTop (mkF m 152 #[.val (.int p0), .val (.int p1), .val (.int p2), .val (.int p3), .val (.int p4), .val (.int p5), .val (.int (3 : Int32)), .val (.int (p1 % (16 : Int32))), .val (.int (p2 % (16 : Int32))), .val (.int (p3 % (16 : Int32))), .val (.int (p4 % (16 : Int32))), .val (.int (p5 % (16 : Int32))), .val (.ref b21), .val (.int (own_low3 (FP.i2d (p5 % (16 : Int32))) (FP.i2d (p1 % (16 : Int32))) (FP.i2d (p2 % (16 : Int32))) (FP.i2d (p3 % (16 : Int32))))), .val (.int (if (p5 % (16 : Int32)) < (p3 % (16 : Int32)) then (-1 : Int32) else (2 : Int32)))] [(.int (p5 % (16 : Int32))), (.int (p2 % (16 : Int32)))])) _
      by_cases hc152_5 : (p5 % (16 : Int32)) < (p2 % (16 : Int32))
      · refine XS.icmpYes X25.here hx rfl (pc0 := 152) (pc' := 158) rfl (hb hby at_152) rfl (tlt hc152_5).2.2.1 (by decide) (by decide) ?_
        try simp only [if_pos hc152_5] at k
        exact k
      · refine XS.icmpNo X25.here hx rfl (hb hby at_152) rfl (flt hc152_5).2.2.1 ?_
        show Steps p.tables e below (T25.setTop (mkF m 155 #[.val (.int p0), .val (.int p1), .val (.int p2), .val (.int p3), .val (.int p4), .val (.int p5), .val (.int (3 : Int32)), .val (.int (p1 % (16 : Int32))), .val (.int (p2 % (16 : Int32))), .val (.int (p3 % (16 : Int32))), .val (.int (p4 % (16 : Int32))), .val (.int (p5 % (16 : Int32))), .val (.ref b21), .val (.int (own_low3 (FP.i2d (p5 % (16 : Int32))) (FP.i2d (p1 % (16 : Int32))) (FP.i2d (p2 % (16 : Int32))) (FP.i2d (p3 % (16 : Int32))))), .val (.int (if (p5 % (16 : Int32)) < (p3 % (16 : Int32)) then (-1 : Int32) else (2 : Int32)))] [])) _
        refine XS.iconst X25.here hx rfl (hb hby at_155) ?_
        show Steps p.tables e below (T25.setTop (mkF m 156 #[.val (.int p0), .val (.int p1), .val (.int p2), .val (.int p3), .val (.int p4), .val (.int p5), .val (.int (3 : Int32)), .val (.int (p1 % (16 : Int32))), .val (.int (p2 % (16 : Int32))), .val (.int (p3 % (16 : Int32))), .val (.int (p4 % (16 : Int32))), .val (.int (p5 % (16 : Int32))), .val (.ref b21), .val (.int (own_low3 (FP.i2d (p5 % (16 : Int32))) (FP.i2d (p1 % (16 : Int32))) (FP.i2d (p2 % (16 : Int32))) (FP.i2d (p3 % (16 : Int32))))), .val (.int (if (p5 % (16 : Int32)) < (p3 % (16 : Int32)) then (-1 : Int32) else (2 : Int32)))] [(.int (1 : Int32))])) _
        refine XS.istore X25.here hx rfl (hb hby at_156) rfl (l' := #[.val (.int p0), .val (.int p1), .val (.int p2), .val (.int p3), .val (.int p4), .val (.int p5), .val (.int (3 : Int32)), .val (.int (p1 % (16 : Int32))), .val (.int (p2 % (16 : Int32))), .val (.int (p3 % (16 : Int32))), .val (.int (p4 % (16 : Int32))), .val (.int (p5 % (16 : Int32))), .val (.ref b21), .val (.int (own_low3 (FP.i2d (p5 % (16 : Int32))) (FP.i2d (p1 % (16 : Int32))) (FP.i2d (p2 % (16 : Int32))) (FP.i2d (p3 % (16 : Int32))))), .val (.int (1 : Int32))]) rfl ?_
        try simp only [if_neg hc152_5] at k
        exact k
    have k28 : ∀ t, Steps p.tables e below (T25.setTop (mkF m 173 #[.val (.int p0), .val (.int p1), .val (.int p2), .val (.int p3), .val (.int p4), .val (.int p5), .val (.int (3 : Int32)), .val (.int (p1 % (16 : Int32))), .val (.int (p2 % (16 : Int32))), .val (.int (p3 % (16 : Int32))), .val (.int (p4 % (16 : Int32))), .val (.int (p5 % (16 : Int32))), .val (.ref b21), .val (.int (own_low3 (FP.i2d (p5 % (16 : Int32))) (FP.i2d (p1 % (16 : Int32))) (FP.i2d (p2 % (16 : Int32))) (FP.i2d (p3 % (16 : Int32))))), .val (.int (if (p5 % (16 : Int32)) < (p1 % (16 : Int32)) then (if (p5 % (16 : Int32)) < (p2 % (16 : Int32)) then (if (p5 % (16 : Int32)) < (p3 % (16 : Int32)) then (-1 : Int32) else (2 : Int32)) else (1 : Int32)) else (0 : Int32)))] [])) t → Steps p.tables e below (s₁.setTop (entryFrame m #[(.int p0), (.int p1), (.int p2), (.int p3), (.int p4), (.int p5)] maxLocals)) t := by
      intro t k
      refine k27 _ ?_
      show Steps p.tables e below (T25.setTop (mkF m 158 #[.val (.int p0), .val (.int p1), .val (.int p2), .val (.int p3), .val (.int p4), .val (.int p5), .val (.int (3 : Int32)), .val (.int (p1 % (16 : Int32))), .val (.int (p2 % (16 : Int32))), .val (.int (p3 % (16 : Int32))), .val (.int (p4 % (16 : Int32))), .val (.int (p5 % (16 : Int32))), .val (.ref b21), .val (.int (own_low3 (FP.i2d (p5 % (16 : Int32))) (FP.i2d (p1 % (16 : Int32))) (FP.i2d (p2 % (16 : Int32))) (FP.i2d (p3 % (16 : Int32))))), .val (.int (if (p5 % (16 : Int32)) < (p2 % (16 : Int32)) then (if (p5 % (16 : Int32)) < (p3 % (16 : Int32)) then (-1 : Int32) else (2 : Int32)) else (1 : Int32)))] [])) _
      refine XS.iload X25.here hx rfl (hb hby at_158) rfl ?_
      show Steps p.tables e below (T25.setTop (mkF m 160 #[.val (.int p0), .val (.int p1), .val (.int p2), .val (.int p3), .val (.int p4), .val (.int p5), .val (.int (3 : Int32)), .val (.int (p1 % (16 : Int32))), .val (.int (p2 % (16 : Int32))), .val (.int (p3 % (16 : Int32))), .val (.int (p4 % (16 : Int32))), .val (.int (p5 % (16 : Int32))), .val (.ref b21), .val (.int (own_low3 (FP.i2d (p5 % (16 : Int32))) (FP.i2d (p1 % (16 : Int32))) (FP.i2d (p2 % (16 : Int32))) (FP.i2d (p3 % (16 : Int32))))), .val (.int (if (p5 % (16 : Int32)) < (p2 % (16 : Int32)) then (if (p5 % (16 : Int32)) < (p3 % (16 : Int32)) then (-1 : Int32) else (2 : Int32)) else (1 : Int32)))] [(.int (3 : Int32))])) _
      refine XS.ifNo X25.here hx rfl (hb hby at_160) rfl ((if0 _ _).trans (tlt (by decide)).2.2.2) ?_
      show Steps p.tables e below (T25.setTop (mkF m 163 #[.val (.int p0), .val (.int p1), .val (.int p2), .val (.int p3), .val (.int p4), .val (.int p5), .val (.int (3 : Int32)), .val (.int (p1 % (16 : Int32))), .val (.int (p2 % (16 : Int32))), .val (.int (p3 % (16 : Int32))), .val (.int (p4 % (16 : Int32))), .val (.int (p5 % (16 : Int32))), .val (.ref b21), .val (.int (own_low3 (FP.i2d (p5 % (16 : Int32))) (FP.i2d (p1 % (16 : Int32))) (FP.i2d (p2 % (16 : Int32))) (FP.i2d (p3 % (16 : Int32))))), .val (.int (if (p5 % (16 : Int32)) < (p2 % (16 : Int32)) then (if (p5 % (16 : Int32)) < (p3 % (16 : Int32)) then (-1 : Int32) else (2 : Int32)) else (1 : Int32)))] [])) _
      refine XS.iload X25.here hx rfl (hb hby at_163) rfl ?_
      show Steps p.tables e below (T25.setTop (mkF m 165 #[.val (.int p0), .val (.int p1), .val (.int p2), .val (.int p3), .val (.int p4), .val (.int p5), .val (.int (3 : Int32)), .val (.int (p1 % (16 : Int32))), .val (.int (p2 % (16 : Int32))), .val (.int (p3 % (16 : Int32))), .val (.int (p4 % (16 : Int32))), .val (.int (p5 % (16 : Int32))), .val (.ref b21), .val (.int (own_low3 (FP.i2d (p5 % (16 : Int32))) (FP.i2d (p1 % (16 : Int32))) (FP.i2d (p2 % (16 : Int32))) (FP.i2d (p3 % (16 : Int32))))), .val (.int (if (p5 % (16 : Int32)) < (p2 % (16 : Int32)) then (if (p5 % (16 : Int32)) < (p3 % (16 : Int32)) then (-1 : Int32) else (2 : Int32)) else (1 : Int32)))] [(.int (p1 % (16 : Int32)))])) _
      refine XS.iload X25.here hx rfl (hb hby at_165) rfl ?_
      show Steps p.tables e below (T25.setTop (mkF m 167 #[.val (.int p0), .val (.int p1), .val (.int p2), .val (.int p3), .val (.int p4), .val (.int p5), .val (.int (3 : Int32)), .val (.int (p1 % (16 : Int32))), .val (.int (p2 % (16 : Int32))), .val (.int (p3 % (16 : Int32))), .val (.int (p4 % (16 : Int32))), .val (.int (p5 % (16 : Int32))), .val (.ref b21), .val (.int (own_low3 (FP.i2d (p5 % (16 : Int32))) (FP.i2d (p1 % (16 : Int32))) (FP.i2d (p2 % (16 : Int32))) (FP.i2d (p3 % (16 : Int32))))), .val (.int (if (p5 % (16 : Int32)) < (p2 % (16 : Int32)) then (if (p5 % (16 : Int32)) < (p3 % (16 : Int32)) then (-1 : Int32) else (2 : Int32)) else (1 : Int32)))] [(.int (p5 % (16 : Int32))), (.int (p1 % (16 : Int32)))])) _
      by_cases hc167_6 : (p5 % (16 : Int32)) < (p1 % (16 : Int32))
      · refine XS.icmpYes X25.here hx rfl (pc0 := 167) (pc' := 173) rfl (hb hby at_167) rfl (tlt hc167_6).2.2.1 (by decide) (by decide) ?_
        try simp only [if_pos hc167_6] at k
        exact k
      · refine XS.icmpNo X25.here hx rfl (hb hby at_167) rfl (flt hc167_6).2.2.1 ?_
        show Steps p.tables e below (T25.setTop (mkF m 170 #[.val (.int p0), .val (.int p1), .val (.int p2), .val (.int p3), .val (.int p4), .val (.int p5), .val (.int (3 : Int32)), .val (.int (p1 % (16 : Int32))), .val (.int (p2 % (16 : Int32))), .val (.int (p3 % (16 : Int32))), .val (.int (p4 % (16 : Int32))), .val (.int (p5 % (16 : Int32))), .val (.ref b21), .val (.int (own_low3 (FP.i2d (p5 % (16 : Int32))) (FP.i2d (p1 % (16 : Int32))) (FP.i2d (p2 % (16 : Int32))) (FP.i2d (p3 % (16 : Int32))))), .val (.int (if (p5 % (16 : Int32)) < (p2 % (16 : Int32)) then (if (p5 % (16 : Int32)) < (p3 % (16 : Int32)) then (-1 : Int32) else (2 : Int32)) else (1 : Int32)))] [])) _
        refine XS.iconst X25.here hx rfl (hb hby at_170) ?_
        show Steps p.tables e below (T25.setTop (mkF m 171 #[.val (.int p0), .val (.int p1), .val (.int p2), .val (.int p3), .val (.int p4), .val (.int p5), .val (.int (3 : Int32)), .val (.int (p1 % (16 : Int32))), .val (.int (p2 % (16 : Int32))), .val (.int (p3 % (16 : Int32))), .val (.int (p4 % (16 : Int32))), .val (.int (p5 % (16 : Int32))), .val (.ref b21), .val (.int (own_low3 (FP.i2d (p5 % (16 : Int32))) (FP.i2d (p1 % (16 : Int32))) (FP.i2d (p2 % (16 : Int32))) (FP.i2d (p3 % (16 : Int32))))), .val (.int (if (p5 % (16 : Int32)) < (p2 % (16 : Int32)) then (if (p5 % (16 : Int32)) < (p3 % (16 : Int32)) then (-1 : Int32) else (2 : Int32)) else (1 : Int32)))] [(.int (0 : Int32))])) _
        refine XS.istore X25.here hx rfl (hb hby at_171) rfl (l' := #[.val (.int p0), .val (.int p1), .val (.int p2), .val (.int p3), .val (.int p4), .val (.int p5), .val (.int (3 : Int32)), .val (.int (p1 % (16 : Int32))), .val (.int (p2 % (16 : Int32))), .val (.int (p3 % (16 : Int32))), .val (.int (p4 % (16 : Int32))), .val (.int (p5 % (16 : Int32))), .val (.ref b21), .val (.int (own_low3 (FP.i2d (p5 % (16 : Int32))) (FP.i2d (p1 % (16 : Int32))) (FP.i2d (p2 % (16 : Int32))) (FP.i2d (p3 % (16 : Int32))))), .val (.int (0 : Int32))]) rfl ?_
        try simp only [if_neg hc167_6] at k
        exact k
    have k29 : ∀ t, Steps p.tables e below (T25.setTop (mkF m 185 #[.val (.int p0), .val (.int p1), .val (.int p2), .val (.int p3), .val (.int p4), .val (.int p5), .val (.int (3 : Int32)), .val (.int (p1 % (16 : Int32))), .val (.int (p2 % (16 : Int32))), .val (.int (p3 % (16 : Int32))), .val (.int (p4 % (16 : Int32))), .val (.int (p5 % (16 : Int32))), .val (.ref b21), .val (.int (own_low3 (FP.i2d (p5 % (16 : Int32))) (FP.i2d (p1 % (16 : Int32))) (FP.i2d (p2 % (16 : Int32))) (FP.i2d (p3 % (16 : Int32))))), .val (.int (if (p5 % (16 : Int32)) < (p1 % (16 : Int32)) then (if (p5 % (16 : Int32)) < (p2 % (16 : Int32)) then (if (p5 % (16 : Int32)) < (p3 % (16 : Int32)) then (-1 : Int32) else (2 : Int32)) else (1 : Int32)) else (0 : Int32)))] [(.int (1 : Int32))])) t → Steps p.tables e below (s₁.setTop (entryFrame m #[(.int p0), (.int p1), (.int p2), (.int p3), (.int p4), (.int p5)] maxLocals)) t := by
      intro t k
      refine k28 _ ?_
      show Steps p.tables e below (T25.setTop (mkF m 173 #[.val (.int p0), .val (.int p1), .val (.int p2), .val (.int p3), .val (.int p4), .val (.int p5), .val (.int (3 : Int32)), .val (.int (p1 % (16 : Int32))), .val (.int (p2 % (16 : Int32))), .val (.int (p3 % (16 : Int32))), .val (.int (p4 % (16 : Int32))), .val (.int (p5 % (16 : Int32))), .val (.ref b21), .val (.int (own_low3 (FP.i2d (p5 % (16 : Int32))) (FP.i2d (p1 % (16 : Int32))) (FP.i2d (p2 % (16 : Int32))) (FP.i2d (p3 % (16 : Int32))))), .val (.int (if (p5 % (16 : Int32)) < (p1 % (16 : Int32)) then (if (p5 % (16 : Int32)) < (p2 % (16 : Int32)) then (if (p5 % (16 : Int32)) < (p3 % (16 : Int32)) then (-1 : Int32) else (2 : Int32)) else (1 : Int32)) else (0 : Int32)))] [])) _
      refine XS.iload X25.here hx rfl (hb hby at_173) rfl ?_
      show Steps p.tables e below (T25.setTop (mkF m 175 #[.val (.int p0), .val (.int p1), .val (.int p2), .val (.int p3), .val (.int p4), .val (.int p5), .val (.int (3 : Int32)), .val (.int (p1 % (16 : Int32))), .val (.int (p2 % (16 : Int32))), .val (.int (p3 % (16 : Int32))), .val (.int (p4 % (16 : Int32))), .val (.int (p5 % (16 : Int32))), .val (.ref b21), .val (.int (own_low3 (FP.i2d (p5 % (16 : Int32))) (FP.i2d (p1 % (16 : Int32))) (FP.i2d (p2 % (16 : Int32))) (FP.i2d (p3 % (16 : Int32))))), .val (.int (if (p5 % (16 : Int32)) < (p1 % (16 : Int32)) then (if (p5 % (16 : Int32)) < (p2 % (16 : Int32)) then (if (p5 % (16 : Int32)) < (p3 % (16 : Int32)) then (-1 : Int32) else (2 : Int32)) else (1 : Int32)) else (0 : Int32)))] [(.int (own_low3 (FP.i2d (p5 % (16 : Int32))) (FP.i2d (p1 % (16 : Int32))) (FP.i2d (p2 % (16 : Int32))) (FP.i2d (p3 % (16 : Int32)))))])) _
      refine XS.iload X25.here hx rfl (hb hby at_175) rfl ?_
      show Steps p.tables e below (T25.setTop (mkF m 177 #[.val (.int p0), .val (.int p1), .val (.int p2), .val (.int p3), .val (.int p4), .val (.int p5), .val (.int (3 : Int32)), .val (.int (p1 % (16 : Int32))), .val (.int (p2 % (16 : Int32))), .val (.int (p3 % (16 : Int32))), .val (.int (p4 % (16 : Int32))), .val (.int (p5 % (16 : Int32))), .val (.ref b21), .val (.int (own_low3 (FP.i2d (p5 % (16 : Int32))) (FP.i2d (p1 % (16 : Int32))) (FP.i2d (p2 % (16 : Int32))) (FP.i2d (p3 % (16 : Int32))))), .val (.int (if (p5 % (16 : Int32)) < (p1 % (16 : Int32)) then (if (p5 % (16 : Int32)) < (p2 % (16 : Int32)) then (if (p5 % (16 : Int32)) < (p3 % (16 : Int32)) then (-1 : Int32) else (2 : Int32)) else (1 : Int32)) else (0 : Int32)))] [(.int (if (p5 % (16 : Int32)) < (p1 % (16 : Int32)) then (if (p5 % (16 : Int32)) < (p2 % (16 : Int32)) then (if (p5 % (16 : Int32)) < (p3 % (16 : Int32)) then (-1 : Int32) else (2 : Int32)) else (1 : Int32)) else (0 : Int32))), (.int (own_low3 (FP.i2d (p5 % (16 : Int32))) (FP.i2d (p1 % (16 : Int32))) (FP.i2d (p2 % (16 : Int32))) (FP.i2d (p3 % (16 : Int32)))))])) _
      refine XS.icmpNo X25.here hx rfl (hb hby at_177) rfl (teq (own_e3 _ _ _ _)).2 ?_
      show Steps p.tables e below (T25.setTop (mkF m 180 #[.val (.int p0), .val (.int p1), .val (.int p2), .val (.int p3), .val (.int p4), .val (.int p5), .val (.int (3 : Int32)), .val (.int (p1 % (16 : Int32))), .val (.int (p2 % (16 : Int32))), .val (.int (p3 % (16 : Int32))), .val (.int (p4 % (16 : Int32))), .val (.int (p5 % (16 : Int32))), .val (.ref b21), .val (.int (own_low3 (FP.i2d (p5 % (16 : Int32))) (FP.i2d (p1 % (16 : Int32))) (FP.i2d (p2 % (16 : Int32))) (FP.i2d (p3 % (16 : Int32))))), .val (.int (if (p5 % (16 : Int32)) < (p1 % (16 : Int32)) then (if (p5 % (16 : Int32)) < (p2 % (16 : Int32)) then (if (p5 % (16 : Int32)) < (p3 % (16 : Int32)) then (-1 : Int32) else (2 : Int32)) else (1 : Int32)) else (0 : Int32)))] [])) _
      refine XS.iconst X25.here hx rfl (hb hby at_180) ?_
      show Steps p.tables e below (T25.setTop (mkF m 181 #[.val (.int p0), .val (.int p1), .val (.int p2), .val (.int p3), .val (.int p4), .val (.int p5), .val (.int (3 : Int32)), .val (.int (p1 % (16 : Int32))), .val (.int (p2 % (16 : Int32))), .val (.int (p3 % (16 : Int32))), .val (.int (p4 % (16 : Int32))), .val (.int (p5 % (16 : Int32))), .val (.ref b21), .val (.int (own_low3 (FP.i2d (p5 % (16 : Int32))) (FP.i2d (p1 % (16 : Int32))) (FP.i2d (p2 % (16 : Int32))) (FP.i2d (p3 % (16 : Int32))))), .val (.int (if (p5 % (16 : Int32)) < (p1 % (16 : Int32)) then (if (p5 % (16 : Int32)) < (p2 % (16 : Int32)) then (if (p5 % (16 : Int32)) < (p3 % (16 : Int32)) then (-1 : Int32) else (2 : Int32)) else (1 : Int32)) else (0 : Int32)))] [(.int (1 : Int32))])) _
      refine XS.goto X25.here hx rfl (pc0 := 181) (pc' := 185) rfl (hb hby at_181) (by decide) (by decide) ?_
      exact k
    obtain ⟨fs, hr, hrun, hended, hW, hsame⟩ := X25.leave (v := some (.int (1 : Int32))) (fun h => by rw [Bd.returns] at h; cases h)
    refine ⟨_, _, k29 _ ?_, hrun, hended, _, _, rfl, ?_, ⟨_, rfl⟩, hW, hsame.mono (by decide) (by decide)⟩
    · exact retN X25 hx (t := .boolean) Bd.returns (by simp) (hb hby at_185) hr
    · show own_R (some (.int 1)) n0 _ T25.heap _
      rw [e25]
      exact ⟨rfl, N25⟩
  · have k30 : ∀ t, Steps p.tables e below (s₁.setTop (mkF m 40 #[.val (.int p0), .val (.int p1), .val (.int p2), .val (.int p3), .val (.int p4), .val (.int p5), .val (.int (4 : Int32)), .val (.int (p1 % (16 : Int32))), .val (.int (p2 % (16 : Int32))), .val (.int (p3 % (16 : Int32))), .val (.int (p4 % (16 : Int32))), .val (.int (p5 % (16 : Int32))), .unset, .unset, .unset] [])) t → Steps p.tables e below (s₁.setTop (entryFrame m #[(.int p0), (.int p1), (.int p2), (.int p3), (.int p4), (.int p5)] maxLocals)) t := by
      intro t k
      refine k1 _ ?_
      rw [hk]
      exact k
    obtain ⟨T31, h31, c31, X31, e31, E31, A31, st31⟩ := newP X0 hx hZ (hw _ (List.mem_of_getElem? (i := 1) rfl)) e0 (g := (mkF m 42 #[.val (.int p0), .val (.int p1), .val (.int p2), .val (.int p3), .val (.int p4), .val (.int p5), .val (.int (4 : Int32)), .val (.int (p1 % (16 : Int32))), .val (.int (p2 % (16 : Int32))), .val (.int (p3 % (16 : Int32))), .val (.int (p4 % (16 : Int32))), .val (.int (p5 % (16 : Int32))), .unset, .unset, .unset] [(.int (4 : Int32))])) rfl (hb hby at_42) rfl (by decide) (cap := 4) (by decide) (by decide) (by decide) (by decide)
    obtain ⟨b31, g31⟩ : ∃ z, z = h0.size := ⟨_, rfl⟩
    rw [← g31] at A31 st31
    have gn_b31 : n0 ≤ b31 := Nat.le_trans Z0 (Nat.le_of_eq g31.symm)
    have Zs31 : n0 ≤ h31.size := Nat.le_trans Z0 E31.1
    have V_b31 : Arv Z h31 b31 c31 .double (4 : Int32) [(.double (0 : UInt64)), (.double (0 : UInt64)), (.double (0 : UInt64)), (.double (0 : UInt64))] (.double (0 : UInt64)) := (Arv.new A31 (by decide)).pad (pad_rep [] (.double (0 : UInt64)) 4)
    obtain ⟨cl_32, Ar_32, q_32, S_32, N_32, H_32, G_32⟩ := id V_b31
    have hin_32 : ¬ ((0 : Int32) < 0 ∨ cl_32.slots.size ≤ ((0 : Int32)).toNatClampNeg) := inb_of S_32 ⟨by decide, by decide⟩
    obtain ⟨T32, h32, X32, e32, W32, st32⟩ := stD X31 hx hZ e31 Ar_32 (j := (0 : Int32)) hin_32 (g := (mkF m 57 #[.val (.int p0), .val (.int p1), .val (.int p2), .val (.int p3), .val (.int p4), .val (.int p5), .val (.int (4 : Int32)), .val (.int (p1 % (16 : Int32))), .val (.int (p2 % (16 : Int32))), .val (.int (p3 % (16 : Int32))), .val (.int (p4 % (16 : Int32))), .val (.int (p5 % (16 : Int32))), .val (.ref b31), .unset, .unset] [(.double (FP.i2d (p1 % (16 : Int32)))), (.int (0 : Int32)), (.ref b31)])) rfl rfl (hb hby at_57)
    have Vn32 : Arv Z h32 b31 c31 .double (4 : Int32) [(.double (FP.i2d (p1 % (16 : Int32)))), (.double (0 : UInt64)), (.double (0 : UInt64)), (.double (0 : UInt64))] (.double (0 : UInt64)) := Arv.set Ar_32 q_32 S_32 N_32 H_32 G_32 rfl W32 0 rfl (Nat.le_of_ble_eq_true rfl)
    replace V_b31 := Vn32
    have N32 := Fr.snoc X32 N0 gn_b31
    have Zs32 : n0 ≤ h32.size := by rw [W32.size]; exact Zs31
    obtain ⟨cl_33, Ar_33, q_33, S_33, N_33, H_33, G_33⟩ := id V_b31
    have hin_33 : ¬ ((1 : Int32) < 0 ∨ cl_33.slots.size ≤ ((1 : Int32)).toNatClampNeg) := inb_of S_33 ⟨by decide, by decide⟩
    obtain ⟨T33, h33, X33, e33, W33, st33⟩ := stD X32 hx hZ e32 Ar_33 (j := (1 : Int32)) hin_33 (g := (mkF m 70 #[.val (.int p0), .val (.int p1), .val (.int p2), .val (.int p3), .val (.int p4), .val (.int p5), .val (.int (4 : Int32)), .val (.int (p1 % (16 : Int32))), .val (.int (p2 % (16 : Int32))), .val (.int (p3 % (16 : Int32))), .val (.int (p4 % (16 : Int32))), .val (.int (p5 % (16 : Int32))), .val (.ref b31), .unset, .unset] [(.double (FP.i2d (p2 % (16 : Int32)))), (.int (1 : Int32)), (.ref b31)])) rfl rfl (hb hby at_70)
    have Vn33 : Arv Z h33 b31 c31 .double (4 : Int32) [(.double (FP.i2d (p1 % (16 : Int32)))), (.double (FP.i2d (p2 % (16 : Int32)))), (.double (0 : UInt64)), (.double (0 : UInt64))] (.double (0 : UInt64)) := Arv.set Ar_33 q_33 S_33 N_33 H_33 G_33 rfl W33 1 rfl (Nat.le_of_ble_eq_true rfl)
    replace V_b31 := Vn33
    have N33 := Fr.snoc X33 N32 gn_b31
    have Zs33 : n0 ≤ h33.size := by rw [W33.size]; exact Zs32
    obtain ⟨cl_34, Ar_34, q_34, S_34, N_34, H_34, G_34⟩ := id V_b31
    have hin_34 : ¬ ((2 : Int32) < 0 ∨ cl_34.slots.size ≤ ((2 : Int32)).toNatClampNeg) := inb_of S_34 ⟨by decide, by decide⟩
    obtain ⟨T34, h34, X34, e34, W34, st34⟩ := stD X33 hx hZ e33 Ar_34 (j := (2 : Int32)) hin_34 (g := (mkF m 83 #[.val (.int p0), .val (.int p1), .val (.int p2), .val (.int p3), .val (.int p4), .val (.int p5), .val (.int (4 : Int32)), .val (.int (p1 % (16 : Int32))), .val (.int (p2 % (16 : Int32))), .val (.int (p3 % (16 : Int32))), .val (.int (p4 % (16 : Int32))), .val (.int (p5 % (16 : Int32))), .val (.ref b31), .unset, .unset] [(.double (FP.i2d (p3 % (16 : Int32)))), (.int (2 : Int32)), (.ref b31)])) rfl rfl (hb hby at_83)
    have Vn34 : Arv Z h34 b31 c31 .double (4 : Int32) [(.double (FP.i2d (p1 % (16 : Int32)))), (.double (FP.i2d (p2 % (16 : Int32)))), (.double (FP.i2d (p3 % (16 : Int32)))), (.double (0 : UInt64))] (.double (0 : UInt64)) := Arv.set Ar_34 q_34 S_34 N_34 H_34 G_34 rfl W34 2 rfl (Nat.le_of_ble_eq_true rfl)
    replace V_b31 := Vn34
    have N34 := Fr.snoc X34 N33 gn_b31
    have Zs34 : n0 ≤ h34.size := by rw [W34.size]; exact Zs33
    obtain ⟨cl_35, Ar_35, q_35, S_35, N_35, H_35, G_35⟩ := id V_b31
    have hin_35 : ¬ ((3 : Int32) < 0 ∨ cl_35.slots.size ≤ ((3 : Int32)).toNatClampNeg) := inb_of S_35 ⟨by decide, by decide⟩
    obtain ⟨T35, h35, X35, e35, W35, st35⟩ := stD X34 hx hZ e34 Ar_35 (j := (3 : Int32)) hin_35 (g := (mkF m 96 #[.val (.int p0), .val (.int p1), .val (.int p2), .val (.int p3), .val (.int p4), .val (.int p5), .val (.int (4 : Int32)), .val (.int (p1 % (16 : Int32))), .val (.int (p2 % (16 : Int32))), .val (.int (p3 % (16 : Int32))), .val (.int (p4 % (16 : Int32))), .val (.int (p5 % (16 : Int32))), .val (.ref b31), .unset, .unset] [(.double (FP.i2d (p4 % (16 : Int32)))), (.int (3 : Int32)), (.ref b31)])) rfl rfl (hb hby at_96)
    have Vn35 : Arv Z h35 b31 c31 .double (4 : Int32) [(.double (FP.i2d (p1 % (16 : Int32)))), (.double (FP.i2d (p2 % (16 : Int32)))), (.double (FP.i2d (p3 % (16 : Int32)))), (.double (FP.i2d (p4 % (16 : Int32))))] (.double (0 : UInt64)) := Arv.set Ar_35 q_35 S_35 N_35 H_35 G_35 rfl W35 3 rfl (Nat.le_of_ble_eq_true rfl)
    replace V_b31 := Vn35
    have N35 := Fr.snoc X35 N34 gn_b31
    have Zs35 : n0 ≤ h35.size := by rw [W35.size]; exact Zs34
    obtain ⟨_, _, ⟨T36, L36, k36_, n36⟩, -, X36, ⟨Lc36, hQ36, l36, y36, z36⟩, st36⟩ := Jvm.LawKit.callS X35 hx (y := (⟨"com/example/interlace/interlace/method/Ties", "lowestWithin", "([DD)I"⟩ : MethodName)) hown (mvT hZ (hw _ (List.mem_of_getElem? (i := 2) rfl))) (mvT hZ (hw _ (List.mem_of_getElem? (i := 3) rfl))) (mvT hZ (hw _ (List.mem_of_getElem? (i := 4) rfl))) (mvT hZ (hw _ (List.mem_of_getElem? (i := 5) rfl))) (by decide) (backOf (W := 0) (rmL4 l Z a0 hw [] b31 (FP.i2d (p5 % (16 : Int32))) c31 (FP.i2d (p1 % (16 : Int32))) (FP.i2d (p2 % (16 : Int32))) (FP.i2d (p3 % (16 : Int32))) (FP.i2d (p4 % (16 : Int32))) h35 n0 V_b31) hZ (hw _ (List.mem_of_getElem? (i := 5) rfl)) (hw _ (List.mem_of_getElem? (i := 4) rfl)) (by decide) (by decide)) (g := (mkF m 102 #[.val (.int p0), .val (.int p1), .val (.int p2), .val (.int p3), .val (.int p4), .val (.int p5), .val (.int (4 : Int32)), .val (.int (p1 % (16 : Int32))), .val (.int (p2 % (16 : Int32))), .val (.int (p3 % (16 : Int32))), .val (.int (p4 % (16 : Int32))), .val (.int (p5 % (16 : Int32))), .val (.ref b31), .unset, .unset] [(.double (FP.i2d (p5 % (16 : Int32)))), (.ref b31)])) rfl (by rw [hml]; rfl) (argsL := [(.ref b31), (.double (FP.i2d (p5 % (16 : Int32))))]) (rest := []) (lenOf pd_0 rfl) rfl (by show 2 * 0 + _ ≤ _; exact Nat.le_of_eq rfl) (hb hby at_102) (fun _ _ => ⟨rfl, e35, (by decide : 1 + 0 ≤ _), (by decide : 4 + 0 ≤ _)⟩)
    dsimp only [Pt.U, Pt.locs, Pt.cells, Pt.slots] at X36 l36 y36 z36 st36 hQ36
    subst l36 y36 z36
    obtain ⟨rfl, Nq36, e36⟩ := hQ36
    have N36 := Fr.app N35 Nq36
    have k37 : ∀ t, Steps p.tables e below (T36.setTop (mkF m 126 #[.val (.int p0), .val (.int p1), .val (.int p2), .val (.int p3), .val (.int p4), .val (.int p5), .val (.int (4 : Int32)), .val (.int (p1 % (16 : Int32))), .val (.int (p2 % (16 : Int32))), .val (.int (p3 % (16 : Int32))), .val (.int (p4 % (16 : Int32))), .val (.int (p5 % (16 : Int32))), .val (.ref b31), .val (.int (own_low4 (FP.i2d (p5 % (16 : Int32))) (FP.i2d (p1 % (16 : Int32))) (FP.i2d (p2 % (16 : Int32))) (FP.i2d (p3 % (16 : Int32))) (FP.i2d (p4 % (16 : Int32))))), .val (.int (if (p5 % (16 : Int32)) < (p4 % (16 : Int32)) then (-1 : Int32) else (3 : Int32)))] [])) t → Steps p.tables e below (s₁.setTop (entryFrame m #[(.int p0), (.int p1), (.int p2), (.int p3), (.int p4), (.int p5)] maxLocals)) t := by
      intro t k
      refine k30 _ ?_
      show Steps p.tables e below (s₁.setTop (mkF m 40 #[.val (.int p0), .val (.int p1), .val (.int p2), .val (.int p3), .val (.int p4), .val (.int p5), .val (.int (4 : Int32)), .val (.int (p1 % (16 : Int32))), .val (.int (p2 % (16 : Int32))), .val (.int (p3 % (16 : Int32))), .val (.int (p4 % (16 : Int32))), .val (.int (p5 % (16 : Int32))), .unset, .unset, .unset] [])) _
      refine XS.iload X0.here hx rfl (hb hby at_40) rfl ?_
      show Steps p.tables e below (s₁.setTop (mkF m 42 #[.val (.int p0), .val (.int p1), .val (.int p2), .val (.int p3), .val (.int p4), .val (.int p5), .val (.int (4 : Int32)), .val (.int (p1 % (16 : Int32))), .val (.int (p2 % (16 : Int32))), .val (.int (p3 % (16 : Int32))), .val (.int (p4 % (16 : Int32))), .val (.int (p5 % (16 : Int32))), .unset, .unset, .unset] [(.int (4 : Int32))])) _
      refine st31 _ ?_
      show Steps p.tables e below (T31.setTop (mkF m 44 #[.val (.int p0), .val (.int p1), .val (.int p2), .val (.int p3), .val (.int p4), .val (.int p5), .val (.int (4 : Int32)), .val (.int (p1 % (16 : Int32))), .val (.int (p2 % (16 : Int32))), .val (.int (p3 % (16 : Int32))), .val (.int (p4 % (16 : Int32))), .val (.int (p5 % (16 : Int32))), .unset, .unset, .unset] [(.ref b31)])) _
      refine XS.astore X31.here hx rfl (hb hby at_44) rfl rfl (l' := #[.val (.int p0), .val (.int p1), .val (.int p2), .val (.int p3), .val (.int p4), .val (.int p5), .val (.int (4 : Int32)), .val (.int (p1 % (16 : Int32))), .val (.int (p2 % (16 : Int32))), .val (.int (p3 % (16 : Int32))), .val (.int (p4 % (16 : Int32))), .val (.int (p5 % (16 : Int32))), .val (.ref b31), .unset, .unset]) rfl ?_
      show Steps p.tables e below (T31.setTop (mkF m 46 #[.val (.int p0), .val (.int p1), .val (.int p2), .val (.int p3), .val (.int p4), .val (.int p5), .val (.int (4 : Int32)), .val (.int (p1 % (16 : Int32))), .val (.int (p2 % (16 : Int32))), .val (.int (p3 % (16 : Int32))), .val (.int (p4 % (16 : Int32))), .val (.int (p5 % (16 : Int32))), .val (.ref b31), .unset, .unset] [])) _
      refine XS.iload X31.here hx rfl (hb hby at_46) rfl ?_
      show Steps p.tables e below (T31.setTop (mkF m 48 #[.val (.int p0), .val (.int p1), .val (.int p2), .val (.int p3), .val (.int p4), .val (.int p5), .val (.int (4 : Int32)), .val (.int (p1 % (16 : Int32))), .val (.int (p2 % (16 : Int32))), .val (.int (p3 % (16 : Int32))), .val (.int (p4 % (16 : Int32))), .val (.int (p5 % (16 : Int32))), .val (.ref b31), .unset, .unset] [(.int (4 : Int32))])) _
      refine XS.ifNo X31.here hx rfl (hb hby at_48) rfl ((if0 _ _).trans (tlt (by decide)).2.2.2) ?_
      show Steps p.tables e below (T31.setTop (mkF m 51 #[.val (.int p0), .val (.int p1), .val (.int p2), .val (.int p3), .val (.int p4), .val (.int p5), .val (.int (4 : Int32)), .val (.int (p1 % (16 : Int32))), .val (.int (p2 % (16 : Int32))), .val (.int (p3 % (16 : Int32))), .val (.int (p4 % (16 : Int32))), .val (.int (p5 % (16 : Int32))), .val (.ref b31), .unset, .unset] [])) _
      refine XS.aload X31.here hx rfl (hb hby at_51) rfl rfl ?_
      show Steps p.tables e below (T31.setTop (mkF m 53 #[.val (.int p0), .val (.int p1), .val (.int p2), .val (.int p3), .val (.int p4), .val (.int p5), .val (.int (4 : Int32)), .val (.int (p1 % (16 : Int32))), .val (.int (p2 % (16 : Int32))), .val (.int (p3 % (16 : Int32))), .val (.int (p4 % (16 : Int32))), .val (.int (p5 % (16 : Int32))), .val (.ref b31), .unset, .unset] [(.ref b31)])) _
      refine XS.iconst X31.here hx rfl (hb hby at_53) ?_
      show Steps p.tables e below (T31.setTop (mkF m 54 #[.val (.int p0), .val (.int p1), .val (.int p2), .val (.int p3), .val (.int p4), .val (.int p5), .val (.int (4 : Int32)), .val (.int (p1 % (16 : Int32))), .val (.int (p2 % (16 : Int32))), .val (.int (p3 % (16 : Int32))), .val (.int (p4 % (16 : Int32))), .val (.int (p5 % (16 : Int32))), .val (.ref b31), .unset, .unset] [(.int (0 : Int32)), (.ref b31)])) _
      refine XS.iload X31.here hx rfl (hb hby at_54) rfl ?_
      show Steps p.tables e below (T31.setTop (mkF m 56 #[.val (.int p0), .val (.int p1), .val (.int p2), .val (.int p3), .val (.int p4), .val (.int p5), .val (.int (4 : Int32)), .val (.int (p1 % (16 : Int32))), .val (.int (p2 % (16 : Int32))), .val (.int (p3 % (16 : Int32))), .val (.int (p4 % (16 : Int32))), .val (.int (p5 % (16 : Int32))), .val (.ref b31), .unset, .unset] [(.int (p1 % (16 : Int32))), (.int (0 : Int32)), (.ref b31)])) _
      refine XS.i2dS X31.here hx rfl (hb hby at_56) rfl rfl ?_
      show Steps p.tables e below (T31.setTop (mkF m 57 #[.val (.int p0), .val (.int p1), .val (.int p2), .val (.int p3), .val (.int p4), .val (.int p5), .val (.int (4 : Int32)), .val (.int (p1 % (16 : Int32))), .val (.int (p2 % (16 : Int32))), .val (.int (p3 % (16 : Int32))), .val (.int (p4 % (16 : Int32))), .val (.int (p5 % (16 : Int32))), .val (.ref b31), .unset, .unset] [(.double (FP.i2d (p1 % (16 : Int32)))), (.int (0 : Int32)), (.ref b31)])) _
      refine st32 _ ?_
      show Steps p.tables e below (T32.setTop (mkF m 58 #[.val (.int p0), .val (.int p1), .val (.int p2), .val (.int p3), .val (.int p4), .val (.int p5), .val (.int (4 : Int32)), .val (.int (p1 % (16 : Int32))), .val (.int (p2 % (16 : Int32))), .val (.int (p3 % (16 : Int32))), .val (.int (p4 % (16 : Int32))), .val (.int (p5 % (16 : Int32))), .val (.ref b31), .unset, .unset] [])) _
      refine XS.iload X32.here hx rfl (hb hby at_58) rfl ?_
      show Steps p.tables e below (T32.setTop (mkF m 60 #[.val (.int p0), .val (.int p1), .val (.int p2), .val (.int p3), .val (.int p4), .val (.int p5), .val (.int (4 : Int32)), .val (.int (p1 % (16 : Int32))), .val (.int (p2 % (16 : Int32))), .val (.int (p3 % (16 : Int32))), .val (.int (p4 % (16 : Int32))), .val (.int (p5 % (16 : Int32))), .val (.ref b31), .unset, .unset] [(.int (4 : Int32))])) _
      refine XS.iconst X32.here hx rfl (hb hby at_60) ?_
      show Steps p.tables e below (T32.setTop (mkF m 61 #[.val (.int p0), .val (.int p1), .val (.int p2), .val (.int p3), .val (.int p4), .val (.int p5), .val (.int (4 : Int32)), .val (.int (p1 % (16 : Int32))), .val (.int (p2 % (16 : Int32))), .val (.int (p3 % (16 : Int32))), .val (.int (p4 % (16 : Int32))), .val (.int (p5 % (16 : Int32))), .val (.ref b31), .unset, .unset] [(.int (1 : Int32)), (.int (4 : Int32))])) _
      refine XS.icmpNo X32.here hx rfl (hb hby at_61) rfl (tlt (by decide)).2.2.2 ?_
      show Steps p.tables e below (T32.setTop (mkF m 64 #[.val (.int p0), .val (.int p1), .val (.int p2), .val (.int p3), .val (.int p4), .val (.int p5), .val (.int (4 : Int32)), .val (.int (p1 % (16 : Int32))), .val (.int (p2 % (16 : Int32))), .val (.int (p3 % (16 : Int32))), .val (.int (p4 % (16 : Int32))), .val (.int (p5 % (16 : Int32))), .val (.ref b31), .unset, .unset] [])) _
      refine XS.aload X32.here hx rfl (hb hby at_64) rfl rfl ?_
      show Steps p.tables e below (T32.setTop (mkF m 66 #[.val (.int p0), .val (.int p1), .val (.int p2), .val (.int p3), .val (.int p4), .val (.int p5), .val (.int (4 : Int32)), .val (.int (p1 % (16 : Int32))), .val (.int (p2 % (16 : Int32))), .val (.int (p3 % (16 : Int32))), .val (.int (p4 % (16 : Int32))), .val (.int (p5 % (16 : Int32))), .val (.ref b31), .unset, .unset] [(.ref b31)])) _
      refine XS.iconst X32.here hx rfl (hb hby at_66) ?_
      show Steps p.tables e below (T32.setTop (mkF m 67 #[.val (.int p0), .val (.int p1), .val (.int p2), .val (.int p3), .val (.int p4), .val (.int p5), .val (.int (4 : Int32)), .val (.int (p1 % (16 : Int32))), .val (.int (p2 % (16 : Int32))), .val (.int (p3 % (16 : Int32))), .val (.int (p4 % (16 : Int32))), .val (.int (p5 % (16 : Int32))), .val (.ref b31), .unset, .unset] [(.int (1 : Int32)), (.ref b31)])) _
      refine XS.iload X32.here hx rfl (hb hby at_67) rfl ?_
      show Steps p.tables e below (T32.setTop (mkF m 69 #[.val (.int p0), .val (.int p1), .val (.int p2), .val (.int p3), .val (.int p4), .val (.int p5), .val (.int (4 : Int32)), .val (.int (p1 % (16 : Int32))), .val (.int (p2 % (16 : Int32))), .val (.int (p3 % (16 : Int32))), .val (.int (p4 % (16 : Int32))), .val (.int (p5 % (16 : Int32))), .val (.ref b31), .unset, .unset] [(.int (p2 % (16 : Int32))), (.int (1 : Int32)), (.ref b31)])) _
      refine XS.i2dS X32.here hx rfl (hb hby at_69) rfl rfl ?_
      show Steps p.tables e below (T32.setTop (mkF m 70 #[.val (.int p0), .val (.int p1), .val (.int p2), .val (.int p3), .val (.int p4), .val (.int p5), .val (.int (4 : Int32)), .val (.int (p1 % (16 : Int32))), .val (.int (p2 % (16 : Int32))), .val (.int (p3 % (16 : Int32))), .val (.int (p4 % (16 : Int32))), .val (.int (p5 % (16 : Int32))), .val (.ref b31), .unset, .unset] [(.double (FP.i2d (p2 % (16 : Int32)))), (.int (1 : Int32)), (.ref b31)])) _
      refine st33 _ ?_
      show Steps p.tables e below (T33.setTop (mkF m 71 #[.val (.int p0), .val (.int p1), .val (.int p2), .val (.int p3), .val (.int p4), .val (.int p5), .val (.int (4 : Int32)), .val (.int (p1 % (16 : Int32))), .val (.int (p2 % (16 : Int32))), .val (.int (p3 % (16 : Int32))), .val (.int (p4 % (16 : Int32))), .val (.int (p5 % (16 : Int32))), .val (.ref b31), .unset, .unset] [])) _
      refine XS.iload X33.here hx rfl (hb hby at_71) rfl ?_
      show Steps p.tables e below (T33.setTop (mkF m 73 #[.val (.int p0), .val (.int p1), .val (.int p2), .val (.int p3), .val (.int p4), .val (.int p5), .val (.int (4 : Int32)), .val (.int (p1 % (16 : Int32))), .val (.int (p2 % (16 : Int32))), .val (.int (p3 % (16 : Int32))), .val (.int (p4 % (16 : Int32))), .val (.int (p5 % (16 : Int32))), .val (.ref b31), .unset, .unset] [(.int (4 : Int32))])) _
      refine XS.iconst X33.here hx rfl (hb hby at_73) ?_
      show Steps p.tables e below (T33.setTop (mkF m 74 #[.val (.int p0), .val (.int p1), .val (.int p2), .val (.int p3), .val (.int p4), .val (.int p5), .val (.int (4 : Int32)), .val (.int (p1 % (16 : Int32))), .val (.int (p2 % (16 : Int32))), .val (.int (p3 % (16 : Int32))), .val (.int (p4 % (16 : Int32))), .val (.int (p5 % (16 : Int32))), .val (.ref b31), .unset, .unset] [(.int (2 : Int32)), (.int (4 : Int32))])) _
      refine XS.icmpNo X33.here hx rfl (hb hby at_74) rfl (tlt (by decide)).2.2.2 ?_
      show Steps p.tables e below (T33.setTop (mkF m 77 #[.val (.int p0), .val (.int p1), .val (.int p2), .val (.int p3), .val (.int p4), .val (.int p5), .val (.int (4 : Int32)), .val (.int (p1 % (16 : Int32))), .val (.int (p2 % (16 : Int32))), .val (.int (p3 % (16 : Int32))), .val (.int (p4 % (16 : Int32))), .val (.int (p5 % (16 : Int32))), .val (.ref b31), .unset, .unset] [])) _
      refine XS.aload X33.here hx rfl (hb hby at_77) rfl rfl ?_
      show Steps p.tables e below (T33.setTop (mkF m 79 #[.val (.int p0), .val (.int p1), .val (.int p2), .val (.int p3), .val (.int p4), .val (.int p5), .val (.int (4 : Int32)), .val (.int (p1 % (16 : Int32))), .val (.int (p2 % (16 : Int32))), .val (.int (p3 % (16 : Int32))), .val (.int (p4 % (16 : Int32))), .val (.int (p5 % (16 : Int32))), .val (.ref b31), .unset, .unset] [(.ref b31)])) _
      refine XS.iconst X33.here hx rfl (hb hby at_79) ?_
      show Steps p.tables e below (T33.setTop (mkF m 80 #[.val (.int p0), .val (.int p1), .val (.int p2), .val (.int p3), .val (.int p4), .val (.int p5), .val (.int (4 : Int32)), .val (.int (p1 % (16 : Int32))), .val (.int (p2 % (16 : Int32))), .val (.int (p3 % (16 : Int32))), .val (.int (p4 % (16 : Int32))), .val (.int (p5 % (16 : Int32))), .val (.ref b31), .unset, .unset] [(.int (2 : Int32)), (.ref b31)])) _
      refine XS.iload X33.here hx rfl (hb hby at_80) rfl ?_
      show Steps p.tables e below (T33.setTop (mkF m 82 #[.val (.int p0), .val (.int p1), .val (.int p2), .val (.int p3), .val (.int p4), .val (.int p5), .val (.int (4 : Int32)), .val (.int (p1 % (16 : Int32))), .val (.int (p2 % (16 : Int32))), .val (.int (p3 % (16 : Int32))), .val (.int (p4 % (16 : Int32))), .val (.int (p5 % (16 : Int32))), .val (.ref b31), .unset, .unset] [(.int (p3 % (16 : Int32))), (.int (2 : Int32)), (.ref b31)])) _
      refine XS.i2dS X33.here hx rfl (hb hby at_82) rfl rfl ?_
      show Steps p.tables e below (T33.setTop (mkF m 83 #[.val (.int p0), .val (.int p1), .val (.int p2), .val (.int p3), .val (.int p4), .val (.int p5), .val (.int (4 : Int32)), .val (.int (p1 % (16 : Int32))), .val (.int (p2 % (16 : Int32))), .val (.int (p3 % (16 : Int32))), .val (.int (p4 % (16 : Int32))), .val (.int (p5 % (16 : Int32))), .val (.ref b31), .unset, .unset] [(.double (FP.i2d (p3 % (16 : Int32)))), (.int (2 : Int32)), (.ref b31)])) _
      refine st34 _ ?_
      show Steps p.tables e below (T34.setTop (mkF m 84 #[.val (.int p0), .val (.int p1), .val (.int p2), .val (.int p3), .val (.int p4), .val (.int p5), .val (.int (4 : Int32)), .val (.int (p1 % (16 : Int32))), .val (.int (p2 % (16 : Int32))), .val (.int (p3 % (16 : Int32))), .val (.int (p4 % (16 : Int32))), .val (.int (p5 % (16 : Int32))), .val (.ref b31), .unset, .unset] [])) _
      refine XS.iload X34.here hx rfl (hb hby at_84) rfl ?_
      show Steps p.tables e below (T34.setTop (mkF m 86 #[.val (.int p0), .val (.int p1), .val (.int p2), .val (.int p3), .val (.int p4), .val (.int p5), .val (.int (4 : Int32)), .val (.int (p1 % (16 : Int32))), .val (.int (p2 % (16 : Int32))), .val (.int (p3 % (16 : Int32))), .val (.int (p4 % (16 : Int32))), .val (.int (p5 % (16 : Int32))), .val (.ref b31), .unset, .unset] [(.int (4 : Int32))])) _
      refine XS.iconst X34.here hx rfl (hb hby at_86) ?_
      show Steps p.tables e below (T34.setTop (mkF m 87 #[.val (.int p0), .val (.int p1), .val (.int p2), .val (.int p3), .val (.int p4), .val (.int p5), .val (.int (4 : Int32)), .val (.int (p1 % (16 : Int32))), .val (.int (p2 % (16 : Int32))), .val (.int (p3 % (16 : Int32))), .val (.int (p4 % (16 : Int32))), .val (.int (p5 % (16 : Int32))), .val (.ref b31), .unset, .unset] [(.int (3 : Int32)), (.int (4 : Int32))])) _
      refine XS.icmpNo X34.here hx rfl (hb hby at_87) rfl (tlt (by decide)).2.2.2 ?_
      show Steps p.tables e below (T34.setTop (mkF m 90 #[.val (.int p0), .val (.int p1), .val (.int p2), .val (.int p3), .val (.int p4), .val (.int p5), .val (.int (4 : Int32)), .val (.int (p1 % (16 : Int32))), .val (.int (p2 % (16 : Int32))), .val (.int (p3 % (16 : Int32))), .val (.int (p4 % (16 : Int32))), .val (.int (p5 % (16 : Int32))), .val (.ref b31), .unset, .unset] [])) _
      refine XS.aload X34.here hx rfl (hb hby at_90) rfl rfl ?_
      show Steps p.tables e below (T34.setTop (mkF m 92 #[.val (.int p0), .val (.int p1), .val (.int p2), .val (.int p3), .val (.int p4), .val (.int p5), .val (.int (4 : Int32)), .val (.int (p1 % (16 : Int32))), .val (.int (p2 % (16 : Int32))), .val (.int (p3 % (16 : Int32))), .val (.int (p4 % (16 : Int32))), .val (.int (p5 % (16 : Int32))), .val (.ref b31), .unset, .unset] [(.ref b31)])) _
      refine XS.iconst X34.here hx rfl (hb hby at_92) ?_
      show Steps p.tables e below (T34.setTop (mkF m 93 #[.val (.int p0), .val (.int p1), .val (.int p2), .val (.int p3), .val (.int p4), .val (.int p5), .val (.int (4 : Int32)), .val (.int (p1 % (16 : Int32))), .val (.int (p2 % (16 : Int32))), .val (.int (p3 % (16 : Int32))), .val (.int (p4 % (16 : Int32))), .val (.int (p5 % (16 : Int32))), .val (.ref b31), .unset, .unset] [(.int (3 : Int32)), (.ref b31)])) _
      refine XS.iload X34.here hx rfl (hb hby at_93) rfl ?_
      show Steps p.tables e below (T34.setTop (mkF m 95 #[.val (.int p0), .val (.int p1), .val (.int p2), .val (.int p3), .val (.int p4), .val (.int p5), .val (.int (4 : Int32)), .val (.int (p1 % (16 : Int32))), .val (.int (p2 % (16 : Int32))), .val (.int (p3 % (16 : Int32))), .val (.int (p4 % (16 : Int32))), .val (.int (p5 % (16 : Int32))), .val (.ref b31), .unset, .unset] [(.int (p4 % (16 : Int32))), (.int (3 : Int32)), (.ref b31)])) _
      refine XS.i2dS X34.here hx rfl (hb hby at_95) rfl rfl ?_
      show Steps p.tables e below (T34.setTop (mkF m 96 #[.val (.int p0), .val (.int p1), .val (.int p2), .val (.int p3), .val (.int p4), .val (.int p5), .val (.int (4 : Int32)), .val (.int (p1 % (16 : Int32))), .val (.int (p2 % (16 : Int32))), .val (.int (p3 % (16 : Int32))), .val (.int (p4 % (16 : Int32))), .val (.int (p5 % (16 : Int32))), .val (.ref b31), .unset, .unset] [(.double (FP.i2d (p4 % (16 : Int32)))), (.int (3 : Int32)), (.ref b31)])) _
      refine st35 _ ?_
      show Steps p.tables e below (T35.setTop (mkF m 97 #[.val (.int p0), .val (.int p1), .val (.int p2), .val (.int p3), .val (.int p4), .val (.int p5), .val (.int (4 : Int32)), .val (.int (p1 % (16 : Int32))), .val (.int (p2 % (16 : Int32))), .val (.int (p3 % (16 : Int32))), .val (.int (p4 % (16 : Int32))), .val (.int (p5 % (16 : Int32))), .val (.ref b31), .unset, .unset] [])) _
      refine XS.aload X35.here hx rfl (hb hby at_97) rfl rfl ?_
      show Steps p.tables e below (T35.setTop (mkF m 99 #[.val (.int p0), .val (.int p1), .val (.int p2), .val (.int p3), .val (.int p4), .val (.int p5), .val (.int (4 : Int32)), .val (.int (p1 % (16 : Int32))), .val (.int (p2 % (16 : Int32))), .val (.int (p3 % (16 : Int32))), .val (.int (p4 % (16 : Int32))), .val (.int (p5 % (16 : Int32))), .val (.ref b31), .unset, .unset] [(.ref b31)])) _
      refine XS.iload X35.here hx rfl (hb hby at_99) rfl ?_
      show Steps p.tables e below (T35.setTop (mkF m 101 #[.val (.int p0), .val (.int p1), .val (.int p2), .val (.int p3), .val (.int p4), .val (.int p5), .val (.int (4 : Int32)), .val (.int (p1 % (16 : Int32))), .val (.int (p2 % (16 : Int32))), .val (.int (p3 % (16 : Int32))), .val (.int (p4 % (16 : Int32))), .val (.int (p5 % (16 : Int32))), .val (.ref b31), .unset, .unset] [(.int (p5 % (16 : Int32))), (.ref b31)])) _
      refine XS.i2dS X35.here hx rfl (hb hby at_101) rfl rfl ?_
      show Steps p.tables e below (T35.setTop (mkF m 102 #[.val (.int p0), .val (.int p1), .val (.int p2), .val (.int p3), .val (.int p4), .val (.int p5), .val (.int (4 : Int32)), .val (.int (p1 % (16 : Int32))), .val (.int (p2 % (16 : Int32))), .val (.int (p3 % (16 : Int32))), .val (.int (p4 % (16 : Int32))), .val (.int (p5 % (16 : Int32))), .val (.ref b31), .unset, .unset] [(.double (FP.i2d (p5 % (16 : Int32)))), (.ref b31)])) _
      refine st36 _ ?_
      show Steps p.tables e below (T36.setTop (mkF m 105 #[.val (.int p0), .val (.int p1), .val (.int p2), .val (.int p3), .val (.int p4), .val (.int p5), .val (.int (4 : Int32)), .val (.int (p1 % (16 : Int32))), .val (.int (p2 % (16 : Int32))), .val (.int (p3 % (16 : Int32))), .val (.int (p4 % (16 : Int32))), .val (.int (p5 % (16 : Int32))), .val (.ref b31), .unset, .unset] [(.int (own_low4 (FP.i2d (p5 % (16 : Int32))) (FP.i2d (p1 % (16 : Int32))) (FP.i2d (p2 % (16 : Int32))) (FP.i2d (p3 % (16 : Int32))) (FP.i2d (p4 % (16 : Int32)))))])) _
      refine XS.istore X36.here hx rfl (hb hby at_105) rfl (l' := #[.val (.int p0), .val (.int p1), .val (.int p2), .val (.int p3), .val (.int p4), .val (.int p5), .val (.int (4 : Int32)), .val (.int (p1 % (16 : Int32))), .val (.int (p2 % (16 : Int32))), .val (.int (p3 % (16 : Int32))), .val (.int (p4 % (16 : Int32))), .val (.int (p5 % (16 : Int32))), .val (.ref b31), .val (.int (own_low4 (FP.i2d (p5 % (16 : Int32))) (FP.i2d (p1 % (16 : Int32))) (FP.i2d (p2 % (16 : Int32))) (FP.i2d (p3 % (16 : Int32))) (FP.i2d (p4 % (16 : Int32))))), .unset]) rfl ?_
      show Steps p.tables e below (T36.setTop (mkF m 107 #[.val (.int p0), .val (.int p1), .val (.int p2), .val (.int p3), .val (.int p4), .val (.int p5), .val (.int (4 : Int32)), .val (.int (p1 % (16 : Int32))), .val (.int (p2 % (16 : Int32))), .val (.int (p3 % (16 : Int32))), .val (.int (p4 % (16 : Int32))), .val (.int (p5 % (16 : Int32))), .val (.ref b31), .val (.int (own_low4 (FP.i2d (p5 % (16 : Int32))) (FP.i2d (p1 % (16 : Int32))) (FP.i2d (p2 % (16 : Int32))) (FP.i2d (p3 % (16 : Int32))) (FP.i2d (p4 % (16 : Int32))))), .unset] [])) _
      refine XS.iconst X36.here hx rfl (hb hby at_107) ?_
      show Steps p.tables e below (T36.setTop (mkF m 108 #[.val (.int p0), .val (.int p1), .val (.int p2), .val (.int p3), .val (.int p4), .val (.int p5), .val (.int (4 : Int32)), .val (.int (p1 % (16 : Int32))), .val (.int (p2 % (16 : Int32))), .val (.int (p3 % (16 : Int32))), .val (.int (p4 % (16 : Int32))), .val (.int (p5 % (16 : Int32))), .val (.ref b31), .val (.int (own_low4 (FP.i2d (p5 % (16 : Int32))) (FP.i2d (p1 % (16 : Int32))) (FP.i2d (p2 % (16 : Int32))) (FP.i2d (p3 % (16 : Int32))) (FP.i2d (p4 % (16 : Int32))))), .unset] [(.int (-1 : Int32))])) _
      refine XS.istore X36.here hx rfl (hb hby at_108) rfl (l' := #[.val (.int p0), .val (.int p1), .val (.int p2), .val (.int p3), .val (.int p4), .val (.int p5), .val (.int (4 : Int32)), .val (.int (p1 % (16 : Int32))), .val (.int (p2 % (16 : Int32))), .val (.int (p3 % (16 : Int32))), .val (.int (p4 % (16 : Int32))), .val (.int (p5 % (16 : Int32))), .val (.ref b31), .val (.int (own_low4 (FP.i2d (p5 % (16 : Int32))) (FP.i2d (p1 % (16 : Int32))) (FP.i2d (p2 % (16 : Int32))) (FP.i2d (p3 % (16 : Int32))) (FP.i2d (p4 % (16 : Int32))))), .val (.int (-1 : Int32))]) rfl ?_
      show Steps p.tables e below (T36.setTop (mkF m 110 #[.val (.int p0), .val (.int p1), .val (.int p2), .val (.int p3), .val (.int p4), .val (.int p5), .val (.int (4 : Int32)), .val (.int (p1 % (16 : Int32))), .val (.int (p2 % (16 : Int32))), .val (.int (p3 % (16 : Int32))), .val (.int (p4 % (16 : Int32))), .val (.int (p5 % (16 : Int32))), .val (.ref b31), .val (.int (own_low4 (FP.i2d (p5 % (16 : Int32))) (FP.i2d (p1 % (16 : Int32))) (FP.i2d (p2 % (16 : Int32))) (FP.i2d (p3 % (16 : Int32))) (FP.i2d (p4 % (16 : Int32))))), .val (.int (-1 : Int32))] [])) _
      refine XS.iload X36.here hx rfl (hb hby at_110) rfl ?_
      show Steps p.tables e below (T36.setTop (mkF m 112 #[.val (.int p0), .val (.int p1), .val (.int p2), .val (.int p3), .val (.int p4), .val (.int p5), .val (.int (4 : Int32)), .val (.int (p1 % (16 : Int32))), .val (.int (p2 % (16 : Int32))), .val (.int (p3 % (16 : Int32))), .val (.int (p4 % (16 : Int32))), .val (.int (p5 % (16 : Int32))), .val (.ref b31), .val (.int (own_low4 (FP.i2d (p5 % (16 : Int32))) (FP.i2d (p1 % (16 : Int32))) (FP.i2d (p2 % (16 : Int32))) (FP.i2d (p3 % (16 : Int32))) (FP.i2d (p4 % (16 : Int32))))), .val (.int (-1 : Int32))] [(.int (4 : Int32))])) _
      refine XS.iconst X36.here hx rfl (hb hby at_112) ?_
      show Steps p.tables e below (T36.setTop (mkF m 113 #[.val (.int p0), .val (.int p1), .val (.int p2), .val (.int p3), .val (.int p4), .val (.int p5), .val (.int (4 : Int32)), .val (.int (p1 % (16 : Int32))), .val (.int (p2 % (16 : Int32))), .val (.int (p3 % (16 : Int32))), .val (.int (p4 % (16 : Int32))), .val (.int (p5 % (16 : Int32))), .val (.ref b31), .val (.int (own_low4 (FP.i2d (p5 % (16 : Int32))) (FP.i2d (p1 % (16 : Int32))) (FP.i2d (p2 % (16 : Int32))) (FP.i2d (p3 % (16 : Int32))) (FP.i2d (p4 % (16 : Int32))))), .val (.int (-1 : Int32))] [(.int (3 : Int32)), (.int (4 : Int32))])) _
      refine XS.icmpNo X36.here hx rfl (hb hby at_113) rfl (tlt (by decide)).2.2.2 ?_
      show Steps p.tables e below (T36.setTop (mkF m 116 #[.val (.int p0), .val (.int p1), .val (.int p2), .val (.int p3), .val (.int p4), .val (.int p5), .val (.int (4 : Int32)), .val (.int (p1 % (16 : Int32))), .val (.int (p2 % (16 : Int32))), .val (.int (p3 % (16 : Int32))), .val (.int (p4 % (16 : Int32))), .val (.int (p5 % (16 : Int32))), .val (.ref b31), .val (.int (own_low4 (FP.i2d (p5 % (16 : Int32))) (FP.i2d (p1 % (16 : Int32))) (FP.i2d (p2 % (16 : Int32))) (FP.i2d (p3 % (16 : Int32))) (FP.i2d (p4 % (16 : Int32))))), .val (.int (-1 : Int32))] [])) _
      refine XS.iload X36.here hx rfl (hb hby at_116) rfl ?_
      show Steps p.tables e below (T36.setTop (mkF m 118 #[.val (.int p0), .val (.int p1), .val (.int p2), .val (.int p3), .val (.int p4), .val (.int p5), .val (.int (4 : Int32)), .val (.int (p1 % (16 : Int32))), .val (.int (p2 % (16 : Int32))), .val (.int (p3 % (16 : Int32))), .val (.int (p4 % (16 : Int32))), .val (.int (p5 % (16 : Int32))), .val (.ref b31), .val (.int (own_low4 (FP.i2d (p5 % (16 : Int32))) (FP.i2d (p1 % (16 : Int32))) (FP.i2d (p2 % (16 : Int32))) (FP.i2d (p3 % (16 : Int32))) (FP.i2d (p4 % (16 : Int32))))), .val (.int (-1 : Int32))] [(.int (p4 % (16 : Int32)))])) _
      refine XS.iload X36.here hx rfl (hb hby at_118) rfl ?_
      show Steps p.tables e below (T36.setTop (mkF m 120 #[.val (.int p0), .val (.int p1), .val (.int p2), .val (.int p3), .val (.int p4), .val (.int p5), .val (.int (4 : Int32)), .val (.int (p1 % (16 : Int32))), .val (.int (p2 % (16 : Int32))), .val (.int (p3 % (16 : Int32))), .val (.int (p4 % (16 : Int32))), .val (.int (p5 % (16 : Int32))), .val (.ref b31), .val (.int (own_low4 (FP.i2d (p5 % (16 : Int32))) (FP.i2d (p1 % (16 : Int32))) (FP.i2d (p2 % (16 : Int32))) (FP.i2d (p3 % (16 : Int32))) (FP.i2d (p4 % (16 : Int32))))), .val (.int (-1 : Int32))] [(.int (p5 % (16 : Int32))), (.int (p4 % (16 : Int32)))])) _
      by_cases hc120_7 : (p5 % (16 : Int32)) < (p4 % (16 : Int32))
      · refine XS.icmpYes X36.here hx rfl (pc0 := 120) (pc' := 126) rfl (hb hby at_120) rfl (tlt hc120_7).2.2.1 (by decide) (by decide) ?_
        try simp only [if_pos hc120_7] at k
        exact k
      · refine XS.icmpNo X36.here hx rfl (hb hby at_120) rfl (flt hc120_7).2.2.1 ?_
        show Steps p.tables e below (T36.setTop (mkF m 123 #[.val (.int p0), .val (.int p1), .val (.int p2), .val (.int p3), .val (.int p4), .val (.int p5), .val (.int (4 : Int32)), .val (.int (p1 % (16 : Int32))), .val (.int (p2 % (16 : Int32))), .val (.int (p3 % (16 : Int32))), .val (.int (p4 % (16 : Int32))), .val (.int (p5 % (16 : Int32))), .val (.ref b31), .val (.int (own_low4 (FP.i2d (p5 % (16 : Int32))) (FP.i2d (p1 % (16 : Int32))) (FP.i2d (p2 % (16 : Int32))) (FP.i2d (p3 % (16 : Int32))) (FP.i2d (p4 % (16 : Int32))))), .val (.int (-1 : Int32))] [])) _
        refine XS.iconst X36.here hx rfl (hb hby at_123) ?_
        show Steps p.tables e below (T36.setTop (mkF m 124 #[.val (.int p0), .val (.int p1), .val (.int p2), .val (.int p3), .val (.int p4), .val (.int p5), .val (.int (4 : Int32)), .val (.int (p1 % (16 : Int32))), .val (.int (p2 % (16 : Int32))), .val (.int (p3 % (16 : Int32))), .val (.int (p4 % (16 : Int32))), .val (.int (p5 % (16 : Int32))), .val (.ref b31), .val (.int (own_low4 (FP.i2d (p5 % (16 : Int32))) (FP.i2d (p1 % (16 : Int32))) (FP.i2d (p2 % (16 : Int32))) (FP.i2d (p3 % (16 : Int32))) (FP.i2d (p4 % (16 : Int32))))), .val (.int (-1 : Int32))] [(.int (3 : Int32))])) _
        refine XS.istore X36.here hx rfl (hb hby at_124) rfl (l' := #[.val (.int p0), .val (.int p1), .val (.int p2), .val (.int p3), .val (.int p4), .val (.int p5), .val (.int (4 : Int32)), .val (.int (p1 % (16 : Int32))), .val (.int (p2 % (16 : Int32))), .val (.int (p3 % (16 : Int32))), .val (.int (p4 % (16 : Int32))), .val (.int (p5 % (16 : Int32))), .val (.ref b31), .val (.int (own_low4 (FP.i2d (p5 % (16 : Int32))) (FP.i2d (p1 % (16 : Int32))) (FP.i2d (p2 % (16 : Int32))) (FP.i2d (p3 % (16 : Int32))) (FP.i2d (p4 % (16 : Int32))))), .val (.int (3 : Int32))]) rfl ?_
        try simp only [if_neg hc120_7] at k
        exact k
    have k38 : ∀ t, Steps p.tables e below (T36.setTop (mkF m 142 #[.val (.int p0), .val (.int p1), .val (.int p2), .val (.int p3), .val (.int p4), .val (.int p5), .val (.int (4 : Int32)), .val (.int (p1 % (16 : Int32))), .val (.int (p2 % (16 : Int32))), .val (.int (p3 % (16 : Int32))), .val (.int (p4 % (16 : Int32))), .val (.int (p5 % (16 : Int32))), .val (.ref b31), .val (.int (own_low4 (FP.i2d (p5 % (16 : Int32))) (FP.i2d (p1 % (16 : Int32))) (FP.i2d (p2 % (16 : Int32))) (FP.i2d (p3 % (16 : Int32))) (FP.i2d (p4 % (16 : Int32))))), .val (.int (if (p5 % (16 : Int32)) < (p3 % (16 : Int32)) then (if (p5 % (16 : Int32)) < (p4 % (16 : Int32)) then (-1 : Int32) else (3 : Int32)) else (2 : Int32)))] [])) t → Steps p.tables e below (s₁.setTop (entryFrame m #[(.int p0), (.int p1), (.int p2), (.int p3), (.int p4), (.int p5)] maxLocals)) t := by
      intro t k
      refine k37 _ ?_
      show Steps p.tables e below (T36.setTop (mkF m 126 #[.val (.int p0), .val (.int p1), .val (.int p2), .val (.int p3), .val (.int p4), .val (.int p5), .val (.int (4 : Int32)), .val (.int (p1 % (16 : Int32))), .val (.int (p2 % (16 : Int32))), .val (.int (p3 % (16 : Int32))), .val (.int (p4 % (16 : Int32))), .val (.int (p5 % (16 : Int32))), .val (.ref b31), .val (.int (own_low4 (FP.i2d (p5 % (16 : Int32))) (FP.i2d (p1 % (16 : Int32))) (FP.i2d (p2 % (16 : Int32))) (FP.i2d (p3 % (16 : Int32))) (FP.i2d (p4 % (16 : Int32))))), .val (.int (if (p5 % (16 : Int32)) < (p4 % (16 : Int32)) then (-1 : Int32) else (3 : Int32)))] [])) _
      refine XS.iload X36.here hx rfl (hb hby at_126) rfl ?_
      show Steps p.tables e below (T36.setTop (mkF m 128 #[.val (.int p0), .val (.int p1), .val (.int p2), .val (.int p3), .val (.int p4), .val (.int p5), .val (.int (4 : Int32)), .val (.int (p1 % (16 : Int32))), .val (.int (p2 % (16 : Int32))), .val (.int (p3 % (16 : Int32))), .val (.int (p4 % (16 : Int32))), .val (.int (p5 % (16 : Int32))), .val (.ref b31), .val (.int (own_low4 (FP.i2d (p5 % (16 : Int32))) (FP.i2d (p1 % (16 : Int32))) (FP.i2d (p2 % (16 : Int32))) (FP.i2d (p3 % (16 : Int32))) (FP.i2d (p4 % (16 : Int32))))), .val (.int (if (p5 % (16 : Int32)) < (p4 % (16 : Int32)) then (-1 : Int32) else (3 : Int32)))] [(.int (4 : Int32))])) _
      refine XS.iconst X36.here hx rfl (hb hby at_128) ?_
      show Steps p.tables e below (T36.setTop (mkF m 129 #[.val (.int p0), .val (.int p1), .val (.int p2), .val (.int p3), .val (.int p4), .val (.int p5), .val (.int (4 : Int32)), .val (.int (p1 % (16 : Int32))), .val (.int (p2 % (16 : Int32))), .val (.int (p3 % (16 : Int32))), .val (.int (p4 % (16 : Int32))), .val (.int (p5 % (16 : Int32))), .val (.ref b31), .val (.int (own_low4 (FP.i2d (p5 % (16 : Int32))) (FP.i2d (p1 % (16 : Int32))) (FP.i2d (p2 % (16 : Int32))) (FP.i2d (p3 % (16 : Int32))) (FP.i2d (p4 % (16 : Int32))))), .val (.int (if (p5 % (16 : Int32)) < (p4 % (16 : Int32)) then (-1 : Int32) else (3 : Int32)))] [(.int (2 : Int32)), (.int (4 : Int32))])) _
      refine XS.icmpNo X36.here hx rfl (hb hby at_129) rfl (tlt (by decide)).2.2.2 ?_
      show Steps p.tables e below (T36.setTop (mkF m 132 #[.val (.int p0), .val (.int p1), .val (.int p2), .val (.int p3), .val (.int p4), .val (.int p5), .val (.int (4 : Int32)), .val (.int (p1 % (16 : Int32))), .val (.int (p2 % (16 : Int32))), .val (.int (p3 % (16 : Int32))), .val (.int (p4 % (16 : Int32))), .val (.int (p5 % (16 : Int32))), .val (.ref b31), .val (.int (own_low4 (FP.i2d (p5 % (16 : Int32))) (FP.i2d (p1 % (16 : Int32))) (FP.i2d (p2 % (16 : Int32))) (FP.i2d (p3 % (16 : Int32))) (FP.i2d (p4 % (16 : Int32))))), .val (.int (if (p5 % (16 : Int32)) < (p4 % (16 : Int32)) then (-1 : Int32) else (3 : Int32)))] [])) _
      refine XS.iload X36.here hx rfl (hb hby at_132) rfl ?_
      show Steps p.tables e below (T36.setTop (mkF m 134 #[.val (.int p0), .val (.int p1), .val (.int p2), .val (.int p3), .val (.int p4), .val (.int p5), .val (.int (4 : Int32)), .val (.int (p1 % (16 : Int32))), .val (.int (p2 % (16 : Int32))), .val (.int (p3 % (16 : Int32))), .val (.int (p4 % (16 : Int32))), .val (.int (p5 % (16 : Int32))), .val (.ref b31), .val (.int (own_low4 (FP.i2d (p5 % (16 : Int32))) (FP.i2d (p1 % (16 : Int32))) (FP.i2d (p2 % (16 : Int32))) (FP.i2d (p3 % (16 : Int32))) (FP.i2d (p4 % (16 : Int32))))), .val (.int (if (p5 % (16 : Int32)) < (p4 % (16 : Int32)) then (-1 : Int32) else (3 : Int32)))] [(.int (p3 % (16 : Int32)))])) _
      refine XS.iload X36.here hx rfl (hb hby at_134) rfl ?_
      show Steps p.tables e below (T36.setTop (mkF m 136 #[.val (.int p0), .val (.int p1), .val (.int p2), .val (.int p3), .val (.int p4), .val (.int p5), .val (.int (4 : Int32)), .val (.int (p1 % (16 : Int32))), .val (.int (p2 % (16 : Int32))), .val (.int (p3 % (16 : Int32))), .val (.int (p4 % (16 : Int32))), .val (.int (p5 % (16 : Int32))), .val (.ref b31), .val (.int (own_low4 (FP.i2d (p5 % (16 : Int32))) (FP.i2d (p1 % (16 : Int32))) (FP.i2d (p2 % (16 : Int32))) (FP.i2d (p3 % (16 : Int32))) (FP.i2d (p4 % (16 : Int32))))), .val (.int (if (p5 % (16 : Int32)) < (p4 % (16 : Int32)) then (-1 : Int32) else (3 : Int32)))] [(.int (p5 % (16 : Int32))), (.int (p3 % (16 : Int32)))])) _
      by_cases hc136_8 : (p5 % (16 : Int32)) < (p3 % (16 : Int32))
      · refine XS.icmpYes X36.here hx rfl (pc0 := 136) (pc' := 142) rfl (hb hby at_136) rfl (tlt hc136_8).2.2.1 (by decide) (by decide) ?_
        try simp only [if_pos hc136_8] at k
        exact k
      · refine XS.icmpNo X36.here hx rfl (hb hby at_136) rfl (flt hc136_8).2.2.1 ?_
        show Steps p.tables e below (T36.setTop (mkF m 139 #[.val (.int p0), .val (.int p1), .val (.int p2), .val (.int p3), .val (.int p4), .val (.int p5), .val (.int (4 : Int32)), .val (.int (p1 % (16 : Int32))), .val (.int (p2 % (16 : Int32))), .val (.int (p3 % (16 : Int32))), .val (.int (p4 % (16 : Int32))), .val (.int (p5 % (16 : Int32))), .val (.ref b31), .val (.int (own_low4 (FP.i2d (p5 % (16 : Int32))) (FP.i2d (p1 % (16 : Int32))) (FP.i2d (p2 % (16 : Int32))) (FP.i2d (p3 % (16 : Int32))) (FP.i2d (p4 % (16 : Int32))))), .val (.int (if (p5 % (16 : Int32)) < (p4 % (16 : Int32)) then (-1 : Int32) else (3 : Int32)))] [])) _
        refine XS.iconst X36.here hx rfl (hb hby at_139) ?_
        show Steps p.tables e below (T36.setTop (mkF m 140 #[.val (.int p0), .val (.int p1), .val (.int p2), .val (.int p3), .val (.int p4), .val (.int p5), .val (.int (4 : Int32)), .val (.int (p1 % (16 : Int32))), .val (.int (p2 % (16 : Int32))), .val (.int (p3 % (16 : Int32))), .val (.int (p4 % (16 : Int32))), .val (.int (p5 % (16 : Int32))), .val (.ref b31), .val (.int (own_low4 (FP.i2d (p5 % (16 : Int32))) (FP.i2d (p1 % (16 : Int32))) (FP.i2d (p2 % (16 : Int32))) (FP.i2d (p3 % (16 : Int32))) (FP.i2d (p4 % (16 : Int32))))), .val (.int (if (p5 % (16 : Int32)) < (p4 % (16 : Int32)) then (-1 : Int32) else (3 : Int32)))] [(.int (2 : Int32))])) _
        refine XS.istore X36.here hx rfl (hb hby at_140) rfl (l' := #[.val (.int p0), .val (.int p1), .val (.int p2), .val (.int p3), .val (.int p4), .val (.int p5), .val (.int (4 : Int32)), .val (.int (p1 % (16 : Int32))), .val (.int (p2 % (16 : Int32))), .val (.int (p3 % (16 : Int32))), .val (.int (p4 % (16 : Int32))), .val (.int (p5 % (16 : Int32))), .val (.ref b31), .val (.int (own_low4 (FP.i2d (p5 % (16 : Int32))) (FP.i2d (p1 % (16 : Int32))) (FP.i2d (p2 % (16 : Int32))) (FP.i2d (p3 % (16 : Int32))) (FP.i2d (p4 % (16 : Int32))))), .val (.int (2 : Int32))]) rfl ?_
        try simp only [if_neg hc136_8] at k
        exact k
    have k39 : ∀ t, Steps p.tables e below (T36.setTop (mkF m 158 #[.val (.int p0), .val (.int p1), .val (.int p2), .val (.int p3), .val (.int p4), .val (.int p5), .val (.int (4 : Int32)), .val (.int (p1 % (16 : Int32))), .val (.int (p2 % (16 : Int32))), .val (.int (p3 % (16 : Int32))), .val (.int (p4 % (16 : Int32))), .val (.int (p5 % (16 : Int32))), .val (.ref b31), .val (.int (own_low4 (FP.i2d (p5 % (16 : Int32))) (FP.i2d (p1 % (16 : Int32))) (FP.i2d (p2 % (16 : Int32))) (FP.i2d (p3 % (16 : Int32))) (FP.i2d (p4 % (16 : Int32))))), .val (.int (if (p5 % (16 : Int32)) < (p2 % (16 : Int32)) then (if (p5 % (16 : Int32)) < (p3 % (16 : Int32)) then (if (p5 % (16 : Int32)) < (p4 % (16 : Int32)) then (-1 : Int32) else (3 : Int32)) else (2 : Int32)) else (1 : Int32)))] [])) t → Steps p.tables e below (s₁.setTop (entryFrame m #[(.int p0), (.int p1), (.int p2), (.int p3), (.int p4), (.int p5)] maxLocals)) t := by
      intro t k
      refine k38 _ ?_
      show Steps p.tables e below (T36.setTop (mkF m 142 #[.val (.int p0), .val (.int p1), .val (.int p2), .val (.int p3), .val (.int p4), .val (.int p5), .val (.int (4 : Int32)), .val (.int (p1 % (16 : Int32))), .val (.int (p2 % (16 : Int32))), .val (.int (p3 % (16 : Int32))), .val (.int (p4 % (16 : Int32))), .val (.int (p5 % (16 : Int32))), .val (.ref b31), .val (.int (own_low4 (FP.i2d (p5 % (16 : Int32))) (FP.i2d (p1 % (16 : Int32))) (FP.i2d (p2 % (16 : Int32))) (FP.i2d (p3 % (16 : Int32))) (FP.i2d (p4 % (16 : Int32))))), .val (.int (if (p5 % (16 : Int32)) < (p3 % (16 : Int32)) then (if (p5 % (16 : Int32)) < (p4 % (16 : Int32)) then (-1 : Int32) else (3 : Int32)) else (2 : Int32)))] [])) _
      refine XS.iload X36.here hx rfl (hb hby at_142) rfl ?_
      show Steps p.tables e below (T36.setTop (mkF m 144 #[.val (.int p0), .val (.int p1), .val (.int p2), .val (.int p3), .val (.int p4), .val (.int p5), .val (.int (4 : Int32)), .val (.int (p1 % (16 : Int32))), .val (.int (p2 % (16 : Int32))), .val (.int (p3 % (16 : Int32))), .val (.int (p4 % (16 : Int32))), .val (.int (p5 % (16 : Int32))), .val (.ref b31), .val (.int (own_low4 (FP.i2d (p5 % (16 : Int32))) (FP.i2d (p1 % (16 : Int32))) (FP.i2d (p2 % (16 : Int32))) (FP.i2d (p3 % (16 : Int32))) (FP.i2d (p4 % (16 : Int32))))), .val (.int (if (p5 % (16 : Int32)) < (p3 % (16 : Int32)) then (if (p5 % (16 : Int32)) < (p4 % (16 : Int32)) then (-1 : Int32) else (3 : Int32)) else (2 : Int32)))] [(.int (4 : Int32))])) _
      refine XS.iconst X36.here hx rfl (hb hby at_144) ?_
      show Steps p.tables e below (T36.setTop (mkF m 145 #[.val (.int p0), .val (.int p1), .val (.int p2), .val (.int p3), .val (.int p4), .val (.int p5), .val (.int (4 : Int32)), .val (.int (p1 % (16 : Int32))), .val (.int (p2 % (16 : Int32))), .val (.int (p3 % (16 : Int32))), .val (.int (p4 % (16 : Int32))), .val (.int (p5 % (16 : Int32))), .val (.ref b31), .val (.int (own_low4 (FP.i2d (p5 % (16 : Int32))) (FP.i2d (p1 % (16 : Int32))) (FP.i2d (p2 % (16 : Int32))) (FP.i2d (p3 % (16 : Int32))) (FP.i2d (p4 % (16 : Int32))))), .val (.int (if (p5 % (16 : Int32)) < (p3 % (16 : Int32)) then (if (p5 % (16 : Int32)) < (p4 % (16 : Int32)) then (-1 : Int32) else (3 : Int32)) else (2 : Int32)))] [(.int (1 : Int32)), (.int (4 : Int32))])) _
      refine XS.icmpNo X36.here hx rfl (hb hby at_145) rfl (tlt (by decide)).2.2.2 ?_
      show Steps p.tables e below (T36.setTop (mkF m 148 #[.val (.int p0), .val (.int p1), .val (.int p2), .val (.int p3), .val (.int p4), .val (.int p5), .val (.int (4 : Int32)), .val (.int (p1 % (16 : Int32))), .val (.int (p2 % (16 : Int32))), .val (.int (p3 % (16 : Int32))), .val (.int (p4 % (16 : Int32))), .val (.int (p5 % (16 : Int32))), .val (.ref b31), .val (.int (own_low4 (FP.i2d (p5 % (16 : Int32))) (FP.i2d (p1 % (16 : Int32))) (FP.i2d (p2 % (16 : Int32))) (FP.i2d (p3 % (16 : Int32))) (FP.i2d (p4 % (16 : Int32))))), .val (.int (if (p5 % (16 : Int32)) < (p3 % (16 : Int32)) then (if (p5 % (16 : Int32)) < (p4 % (16 : Int32)) then (-1 : Int32) else (3 : Int32)) else (2 : Int32)))] [])) _
      refine XS.iload X36.here hx rfl (hb hby at_148) rfl ?_
      show Steps p.tables e below (T36.setTop (mkF m 150 #[.val (.int p0), .val (.int p1), .val (.int p2), .val (.int p3), .val (.int p4), .val (.int p5), .val (.int (4 : Int32)), .val (.int (p1 % (16 : Int32))), .val (.int (p2 % (16 : Int32))), .val (.int (p3 % (16 : Int32))), .val (.int (p4 % (16 : Int32))), .val (.int (p5 % (16 : Int32))), .val (.ref b31), .val (.int (own_low4 (FP.i2d (p5 % (16 : Int32))) (FP.i2d (p1 % (16 : Int32))) (FP.i2d (p2 % (16 : Int32))) (FP.i2d (p3 % (16 : Int32))) (FP.i2d (p4 % (16 : Int32))))), .val (.int (if (p5 % (16 : Int32)) < (p3 % (16 : Int32)) then (if (p5 % (16 : Int32)) < (p4 % (16 : Int32)) then (-1 : Int32) else (3 : Int32)) else (2 : Int32)))] [(.int (p2 % (16 : Int32)))])) _
      refine XS.iload X36.here hx rfl (hb hby at_150) rfl ?_
      show Steps p.tables e below (T36.setTop (mkF m 152 #[.val (.int p0), .val (.int p1), .val (.int p2), .val (.int p3), .val (.int p4), .val (.int p5), .val (.int (4 : Int32)), .val (.int (p1 % (16 : Int32))), .val (.int (p2 % (16 : Int32))), .val (.int (p3 % (16 : Int32))), .val (.int (p4 % (16 : Int32))), .val (.int (p5 % (16 : Int32))), .val (.ref b31), .val (.int (own_low4 (FP.i2d (p5 % (16 : Int32))) (FP.i2d (p1 % (16 : Int32))) (FP.i2d (p2 % (16 : Int32))) (FP.i2d (p3 % (16 : Int32))) (FP.i2d (p4 % (16 : Int32))))), .val (.int (if (p5 % (16 : Int32)) < (p3 % (16 : Int32)) then (if (p5 % (16 : Int32)) < (p4 % (16 : Int32)) then (-1 : Int32) else (3 : Int32)) else (2 : Int32)))] [(.int (p5 % (16 : Int32))), (.int (p2 % (16 : Int32)))])) _
      by_cases hc152_9 : (p5 % (16 : Int32)) < (p2 % (16 : Int32))
      · refine XS.icmpYes X36.here hx rfl (pc0 := 152) (pc' := 158) rfl (hb hby at_152) rfl (tlt hc152_9).2.2.1 (by decide) (by decide) ?_
        try simp only [if_pos hc152_9] at k
        exact k
      · refine XS.icmpNo X36.here hx rfl (hb hby at_152) rfl (flt hc152_9).2.2.1 ?_
        show Steps p.tables e below (T36.setTop (mkF m 155 #[.val (.int p0), .val (.int p1), .val (.int p2), .val (.int p3), .val (.int p4), .val (.int p5), .val (.int (4 : Int32)), .val (.int (p1 % (16 : Int32))), .val (.int (p2 % (16 : Int32))), .val (.int (p3 % (16 : Int32))), .val (.int (p4 % (16 : Int32))), .val (.int (p5 % (16 : Int32))), .val (.ref b31), .val (.int (own_low4 (FP.i2d (p5 % (16 : Int32))) (FP.i2d (p1 % (16 : Int32))) (FP.i2d (p2 % (16 : Int32))) (FP.i2d (p3 % (16 : Int32))) (FP.i2d (p4 % (16 : Int32))))), .val (.int (if (p5 % (16 : Int32)) < (p3 % (16 : Int32)) then (if (p5 % (16 : Int32)) < (p4 % (16 : Int32)) then (-1 : Int32) else (3 : Int32)) else (2 : Int32)))] [])) _
        refine XS.iconst X36.here hx rfl (hb hby at_155) ?_
        show Steps p.tables e below (T36.setTop (mkF m 156 #[.val (.int p0), .val (.int p1), .val (.int p2), .val (.int p3), .val (.int p4), .val (.int p5), .val (.int (4 : Int32)), .val (.int (p1 % (16 : Int32))), .val (.int (p2 % (16 : Int32))), .val (.int (p3 % (16 : Int32))), .val (.int (p4 % (16 : Int32))), .val (.int (p5 % (16 : Int32))), .val (.ref b31), .val (.int (own_low4 (FP.i2d (p5 % (16 : Int32))) (FP.i2d (p1 % (16 : Int32))) (FP.i2d (p2 % (16 : Int32))) (FP.i2d (p3 % (16 : Int32))) (FP.i2d (p4 % (16 : Int32))))), .val (.int (if (p5 % (16 : Int32)) < (p3 % (16 : Int32)) then (if (p5 % (16 : Int32)) < (p4 % (16 : Int32)) then (-1 : Int32) else (3 : Int32)) else (2 : Int32)))] [(.int (1 : Int32))])) _
        refine XS.istore X36.here hx rfl (hb hby at_156) rfl (l' := #[.val (.int p0), .val (.int p1), .val (.int p2), .val (.int p3), .val (.int p4), .val (.int p5), .val (.int (4 : Int32)), .val (.int (p1 % (16 : Int32))), .val (.int (p2 % (16 : Int32))), .val (.int (p3 % (16 : Int32))), .val (.int (p4 % (16 : Int32))), .val (.int (p5 % (16 : Int32))), .val (.ref b31), .val (.int (own_low4 (FP.i2d (p5 % (16 : Int32))) (FP.i2d (p1 % (16 : Int32))) (FP.i2d (p2 % (16 : Int32))) (FP.i2d (p3 % (16 : Int32))) (FP.i2d (p4 % (16 : Int32))))), .val (.int (1 : Int32))]) rfl ?_
        try simp only [if_neg hc152_9] at k
        exact k
    have k40 : ∀ t, Steps p.tables e below (T36.setTop (mkF m 173 #[.val (.int p0), .val (.int p1), .val (.int p2), .val (.int p3), .val (.int p4), .val (.int p5), .val (.int (4 : Int32)), .val (.int (p1 % (16 : Int32))), .val (.int (p2 % (16 : Int32))), .val (.int (p3 % (16 : Int32))), .val (.int (p4 % (16 : Int32))), .val (.int (p5 % (16 : Int32))), .val (.ref b31), .val (.int (own_low4 (FP.i2d (p5 % (16 : Int32))) (FP.i2d (p1 % (16 : Int32))) (FP.i2d (p2 % (16 : Int32))) (FP.i2d (p3 % (16 : Int32))) (FP.i2d (p4 % (16 : Int32))))), .val (.int (if (p5 % (16 : Int32)) < (p1 % (16 : Int32)) then (if (p5 % (16 : Int32)) < (p2 % (16 : Int32)) then (if (p5 % (16 : Int32)) < (p3 % (16 : Int32)) then (if (p5 % (16 : Int32)) < (p4 % (16 : Int32)) then (-1 : Int32) else (3 : Int32)) else (2 : Int32)) else (1 : Int32)) else (0 : Int32)))] [])) t → Steps p.tables e below (s₁.setTop (entryFrame m #[(.int p0), (.int p1), (.int p2), (.int p3), (.int p4), (.int p5)] maxLocals)) t := by
      intro t k
      refine k39 _ ?_
      show Steps p.tables e below (T36.setTop (mkF m 158 #[.val (.int p0), .val (.int p1), .val (.int p2), .val (.int p3), .val (.int p4), .val (.int p5), .val (.int (4 : Int32)), .val (.int (p1 % (16 : Int32))), .val (.int (p2 % (16 : Int32))), .val (.int (p3 % (16 : Int32))), .val (.int (p4 % (16 : Int32))), .val (.int (p5 % (16 : Int32))), .val (.ref b31), .val (.int (own_low4 (FP.i2d (p5 % (16 : Int32))) (FP.i2d (p1 % (16 : Int32))) (FP.i2d (p2 % (16 : Int32))) (FP.i2d (p3 % (16 : Int32))) (FP.i2d (p4 % (16 : Int32))))), .val (.int (if (p5 % (16 : Int32)) < (p2 % (16 : Int32)) then (if (p5 % (16 : Int32)) < (p3 % (16 : Int32)) then (if (p5 % (16 : Int32)) < (p4 % (16 : Int32)) then (-1 : Int32) else (3 : Int32)) else (2 : Int32)) else (1 : Int32)))] [])) _
      refine XS.iload X36.here hx rfl (hb hby at_158) rfl ?_
      show Steps p.tables e below (T36.setTop (mkF m 160 #[.val (.int p0), .val (.int p1), .val (.int p2), .val (.int p3), .val (.int p4), .val (.int p5), .val (.int (4 : Int32)), .val (.int (p1 % (16 : Int32))), .val (.int (p2 % (16 : Int32))), .val (.int (p3 % (16 : Int32))), .val (.int (p4 % (16 : Int32))), .val (.int (p5 % (16 : Int32))), .val (.ref b31), .val (.int (own_low4 (FP.i2d (p5 % (16 : Int32))) (FP.i2d (p1 % (16 : Int32))) (FP.i2d (p2 % (16 : Int32))) (FP.i2d (p3 % (16 : Int32))) (FP.i2d (p4 % (16 : Int32))))), .val (.int (if (p5 % (16 : Int32)) < (p2 % (16 : Int32)) then (if (p5 % (16 : Int32)) < (p3 % (16 : Int32)) then (if (p5 % (16 : Int32)) < (p4 % (16 : Int32)) then (-1 : Int32) else (3 : Int32)) else (2 : Int32)) else (1 : Int32)))] [(.int (4 : Int32))])) _
      refine XS.ifNo X36.here hx rfl (hb hby at_160) rfl ((if0 _ _).trans (tlt (by decide)).2.2.2) ?_
      show Steps p.tables e below (T36.setTop (mkF m 163 #[.val (.int p0), .val (.int p1), .val (.int p2), .val (.int p3), .val (.int p4), .val (.int p5), .val (.int (4 : Int32)), .val (.int (p1 % (16 : Int32))), .val (.int (p2 % (16 : Int32))), .val (.int (p3 % (16 : Int32))), .val (.int (p4 % (16 : Int32))), .val (.int (p5 % (16 : Int32))), .val (.ref b31), .val (.int (own_low4 (FP.i2d (p5 % (16 : Int32))) (FP.i2d (p1 % (16 : Int32))) (FP.i2d (p2 % (16 : Int32))) (FP.i2d (p3 % (16 : Int32))) (FP.i2d (p4 % (16 : Int32))))), .val (.int (if (p5 % (16 : Int32)) < (p2 % (16 : Int32)) then (if (p5 % (16 : Int32)) < (p3 % (16 : Int32)) then (if (p5 % (16 : Int32)) < (p4 % (16 : Int32)) then (-1 : Int32) else (3 : Int32)) else (2 : Int32)) else (1 : Int32)))] [])) _
      refine XS.iload X36.here hx rfl (hb hby at_163) rfl ?_
      show Steps p.tables e below (T36.setTop (mkF m 165 #[.val (.int p0), .val (.int p1), .val (.int p2), .val (.int p3), .val (.int p4), .val (.int p5), .val (.int (4 : Int32)), .val (.int (p1 % (16 : Int32))), .val (.int (p2 % (16 : Int32))), .val (.int (p3 % (16 : Int32))), .val (.int (p4 % (16 : Int32))), .val (.int (p5 % (16 : Int32))), .val (.ref b31), .val (.int (own_low4 (FP.i2d (p5 % (16 : Int32))) (FP.i2d (p1 % (16 : Int32))) (FP.i2d (p2 % (16 : Int32))) (FP.i2d (p3 % (16 : Int32))) (FP.i2d (p4 % (16 : Int32))))), .val (.int (if (p5 % (16 : Int32)) < (p2 % (16 : Int32)) then (if (p5 % (16 : Int32)) < (p3 % (16 : Int32)) then (if (p5 % (16 : Int32)) < (p4 % (16 : Int32)) then (-1 : Int32) else (3 : Int32)) else (2 : Int32)) else (1 : Int32)))] [(.int (p1 % (16 : Int32)))])) _
      refine XS.iload X36.here hx rfl (hb hby at_165) rfl ?_
      show Steps p.tables e below (T36.setTop (mkF m 167 #[.val (.int p0), .val (.int p1), .val (.int p2), .val (.int p3), .val (.int p4), .val (.int p5), .val (.int (4 : Int32)), .val (.int (p1 % (16 : Int32))), .val (.int (p2 % (16 : Int32))), .val (.int (p3 % (16 : Int32))), .val (.int (p4 % (16 : Int32))), .val (.int (p5 % (16 : Int32))), .val (.ref b31), .val (.int (own_low4 (FP.i2d (p5 % (16 : Int32))) (FP.i2d (p1 % (16 : Int32))) (FP.i2d (p2 % (16 : Int32))) (FP.i2d (p3 % (16 : Int32))) (FP.i2d (p4 % (16 : Int32))))), .val (.int (if (p5 % (16 : Int32)) < (p2 % (16 : Int32)) then (if (p5 % (16 : Int32)) < (p3 % (16 : Int32)) then (if (p5 % (16 : Int32)) < (p4 % (16 : Int32)) then (-1 : Int32) else (3 : Int32)) else (2 : Int32)) else (1 : Int32)))] [(.int (p5 % (16 : Int32))), (.int (p1 % (16 : Int32)))])) _
      by_cases hc167_10 : (p5 % (16 : Int32)) < (p1 % (16 : Int32))
      · refine XS.icmpYes X36.here hx rfl (pc0 := 167) (pc' := 173) rfl (hb hby at_167) rfl (tlt hc167_10).2.2.1 (by decide) (by decide) ?_
        try simp only [if_pos hc167_10] at k
        exact k
      · refine XS.icmpNo X36.here hx rfl (hb hby at_167) rfl (flt hc167_10).2.2.1 ?_
        show Steps p.tables e below (T36.setTop (mkF m 170 #[.val (.int p0), .val (.int p1), .val (.int p2), .val (.int p3), .val (.int p4), .val (.int p5), .val (.int (4 : Int32)), .val (.int (p1 % (16 : Int32))), .val (.int (p2 % (16 : Int32))), .val (.int (p3 % (16 : Int32))), .val (.int (p4 % (16 : Int32))), .val (.int (p5 % (16 : Int32))), .val (.ref b31), .val (.int (own_low4 (FP.i2d (p5 % (16 : Int32))) (FP.i2d (p1 % (16 : Int32))) (FP.i2d (p2 % (16 : Int32))) (FP.i2d (p3 % (16 : Int32))) (FP.i2d (p4 % (16 : Int32))))), .val (.int (if (p5 % (16 : Int32)) < (p2 % (16 : Int32)) then (if (p5 % (16 : Int32)) < (p3 % (16 : Int32)) then (if (p5 % (16 : Int32)) < (p4 % (16 : Int32)) then (-1 : Int32) else (3 : Int32)) else (2 : Int32)) else (1 : Int32)))] [])) _
        refine XS.iconst X36.here hx rfl (hb hby at_170) ?_
        show Steps p.tables e below (T36.setTop (mkF m 171 #[.val (.int p0), .val (.int p1), .val (.int p2), .val (.int p3), .val (.int p4), .val (.int p5), .val (.int (4 : Int32)), .val (.int (p1 % (16 : Int32))), .val (.int (p2 % (16 : Int32))), .val (.int (p3 % (16 : Int32))), .val (.int (p4 % (16 : Int32))), .val (.int (p5 % (16 : Int32))), .val (.ref b31), .val (.int (own_low4 (FP.i2d (p5 % (16 : Int32))) (FP.i2d (p1 % (16 : Int32))) (FP.i2d (p2 % (16 : Int32))) (FP.i2d (p3 % (16 : Int32))) (FP.i2d (p4 % (16 : Int32))))), .val (.int (if (p5 % (16 : Int32)) < (p2 % (16 : Int32)) then (if (p5 % (16 : Int32)) < (p3 % (16 : Int32)) then (if (p5 % (16 : Int32)) < (p4 % (16 : Int32)) then (-1 : Int32) else (3 : Int32)) else (2 : Int32)) else (1 : Int32)))] [(.int (0 : Int32))])) _
        refine XS.istore X36.here hx rfl (hb hby at_171) rfl (l' := #[.val (.int p0), .val (.int p1), .val (.int p2), .val (.int p3), .val (.int p4), .val (.int p5), .val (.int (4 : Int32)), .val (.int (p1 % (16 : Int32))), .val (.int (p2 % (16 : Int32))), .val (.int (p3 % (16 : Int32))), .val (.int (p4 % (16 : Int32))), .val (.int (p5 % (16 : Int32))), .val (.ref b31), .val (.int (own_low4 (FP.i2d (p5 % (16 : Int32))) (FP.i2d (p1 % (16 : Int32))) (FP.i2d (p2 % (16 : Int32))) (FP.i2d (p3 % (16 : Int32))) (FP.i2d (p4 % (16 : Int32))))), .val (.int (0 : Int32))]) rfl ?_
        try simp only [if_neg hc167_10] at k
        exact k
    have k41 : ∀ t, Steps p.tables e below (T36.setTop (mkF m 185 #[.val (.int p0), .val (.int p1), .val (.int p2), .val (.int p3), .val (.int p4), .val (.int p5), .val (.int (4 : Int32)), .val (.int (p1 % (16 : Int32))), .val (.int (p2 % (16 : Int32))), .val (.int (p3 % (16 : Int32))), .val (.int (p4 % (16 : Int32))), .val (.int (p5 % (16 : Int32))), .val (.ref b31), .val (.int (own_low4 (FP.i2d (p5 % (16 : Int32))) (FP.i2d (p1 % (16 : Int32))) (FP.i2d (p2 % (16 : Int32))) (FP.i2d (p3 % (16 : Int32))) (FP.i2d (p4 % (16 : Int32))))), .val (.int (if (p5 % (16 : Int32)) < (p1 % (16 : Int32)) then (if (p5 % (16 : Int32)) < (p2 % (16 : Int32)) then (if (p5 % (16 : Int32)) < (p3 % (16 : Int32)) then (if (p5 % (16 : Int32)) < (p4 % (16 : Int32)) then (-1 : Int32) else (3 : Int32)) else (2 : Int32)) else (1 : Int32)) else (0 : Int32)))] [(.int (1 : Int32))])) t → Steps p.tables e below (s₁.setTop (entryFrame m #[(.int p0), (.int p1), (.int p2), (.int p3), (.int p4), (.int p5)] maxLocals)) t := by
      intro t k
      refine k40 _ ?_
      show Steps p.tables e below (T36.setTop (mkF m 173 #[.val (.int p0), .val (.int p1), .val (.int p2), .val (.int p3), .val (.int p4), .val (.int p5), .val (.int (4 : Int32)), .val (.int (p1 % (16 : Int32))), .val (.int (p2 % (16 : Int32))), .val (.int (p3 % (16 : Int32))), .val (.int (p4 % (16 : Int32))), .val (.int (p5 % (16 : Int32))), .val (.ref b31), .val (.int (own_low4 (FP.i2d (p5 % (16 : Int32))) (FP.i2d (p1 % (16 : Int32))) (FP.i2d (p2 % (16 : Int32))) (FP.i2d (p3 % (16 : Int32))) (FP.i2d (p4 % (16 : Int32))))), .val (.int (if (p5 % (16 : Int32)) < (p1 % (16 : Int32)) then (if (p5 % (16 : Int32)) < (p2 % (16 : Int32)) then (if (p5 % (16 : Int32)) < (p3 % (16 : Int32)) then (if (p5 % (16 : Int32)) < (p4 % (16 : Int32)) then (-1 : Int32) else (3 : Int32)) else (2 : Int32)) else (1 : Int32)) else (0 : Int32)))] [])) _
      refine XS.iload X36.here hx rfl (hb hby at_173) rfl ?_
      show Steps p.tables e below (T36.setTop (mkF m 175 #[.val (.int p0), .val (.int p1), .val (.int p2), .val (.int p3), .val (.int p4), .val (.int p5), .val (.int (4 : Int32)), .val (.int (p1 % (16 : Int32))), .val (.int (p2 % (16 : Int32))), .val (.int (p3 % (16 : Int32))), .val (.int (p4 % (16 : Int32))), .val (.int (p5 % (16 : Int32))), .val (.ref b31), .val (.int (own_low4 (FP.i2d (p5 % (16 : Int32))) (FP.i2d (p1 % (16 : Int32))) (FP.i2d (p2 % (16 : Int32))) (FP.i2d (p3 % (16 : Int32))) (FP.i2d (p4 % (16 : Int32))))), .val (.int (if (p5 % (16 : Int32)) < (p1 % (16 : Int32)) then (if (p5 % (16 : Int32)) < (p2 % (16 : Int32)) then (if (p5 % (16 : Int32)) < (p3 % (16 : Int32)) then (if (p5 % (16 : Int32)) < (p4 % (16 : Int32)) then (-1 : Int32) else (3 : Int32)) else (2 : Int32)) else (1 : Int32)) else (0 : Int32)))] [(.int (own_low4 (FP.i2d (p5 % (16 : Int32))) (FP.i2d (p1 % (16 : Int32))) (FP.i2d (p2 % (16 : Int32))) (FP.i2d (p3 % (16 : Int32))) (FP.i2d (p4 % (16 : Int32)))))])) _
      refine XS.iload X36.here hx rfl (hb hby at_175) rfl ?_
      show Steps p.tables e below (T36.setTop (mkF m 177 #[.val (.int p0), .val (.int p1), .val (.int p2), .val (.int p3), .val (.int p4), .val (.int p5), .val (.int (4 : Int32)), .val (.int (p1 % (16 : Int32))), .val (.int (p2 % (16 : Int32))), .val (.int (p3 % (16 : Int32))), .val (.int (p4 % (16 : Int32))), .val (.int (p5 % (16 : Int32))), .val (.ref b31), .val (.int (own_low4 (FP.i2d (p5 % (16 : Int32))) (FP.i2d (p1 % (16 : Int32))) (FP.i2d (p2 % (16 : Int32))) (FP.i2d (p3 % (16 : Int32))) (FP.i2d (p4 % (16 : Int32))))), .val (.int (if (p5 % (16 : Int32)) < (p1 % (16 : Int32)) then (if (p5 % (16 : Int32)) < (p2 % (16 : Int32)) then (if (p5 % (16 : Int32)) < (p3 % (16 : Int32)) then (if (p5 % (16 : Int32)) < (p4 % (16 : Int32)) then (-1 : Int32) else (3 : Int32)) else (2 : Int32)) else (1 : Int32)) else (0 : Int32)))] [(.int (if (p5 % (16 : Int32)) < (p1 % (16 : Int32)) then (if (p5 % (16 : Int32)) < (p2 % (16 : Int32)) then (if (p5 % (16 : Int32)) < (p3 % (16 : Int32)) then (if (p5 % (16 : Int32)) < (p4 % (16 : Int32)) then (-1 : Int32) else (3 : Int32)) else (2 : Int32)) else (1 : Int32)) else (0 : Int32))), (.int (own_low4 (FP.i2d (p5 % (16 : Int32))) (FP.i2d (p1 % (16 : Int32))) (FP.i2d (p2 % (16 : Int32))) (FP.i2d (p3 % (16 : Int32))) (FP.i2d (p4 % (16 : Int32)))))])) _
      refine XS.icmpNo X36.here hx rfl (hb hby at_177) rfl (teq (own_e4 _ _ _ _ _)).2 ?_
      show Steps p.tables e below (T36.setTop (mkF m 180 #[.val (.int p0), .val (.int p1), .val (.int p2), .val (.int p3), .val (.int p4), .val (.int p5), .val (.int (4 : Int32)), .val (.int (p1 % (16 : Int32))), .val (.int (p2 % (16 : Int32))), .val (.int (p3 % (16 : Int32))), .val (.int (p4 % (16 : Int32))), .val (.int (p5 % (16 : Int32))), .val (.ref b31), .val (.int (own_low4 (FP.i2d (p5 % (16 : Int32))) (FP.i2d (p1 % (16 : Int32))) (FP.i2d (p2 % (16 : Int32))) (FP.i2d (p3 % (16 : Int32))) (FP.i2d (p4 % (16 : Int32))))), .val (.int (if (p5 % (16 : Int32)) < (p1 % (16 : Int32)) then (if (p5 % (16 : Int32)) < (p2 % (16 : Int32)) then (if (p5 % (16 : Int32)) < (p3 % (16 : Int32)) then (if (p5 % (16 : Int32)) < (p4 % (16 : Int32)) then (-1 : Int32) else (3 : Int32)) else (2 : Int32)) else (1 : Int32)) else (0 : Int32)))] [])) _
      refine XS.iconst X36.here hx rfl (hb hby at_180) ?_
      show Steps p.tables e below (T36.setTop (mkF m 181 #[.val (.int p0), .val (.int p1), .val (.int p2), .val (.int p3), .val (.int p4), .val (.int p5), .val (.int (4 : Int32)), .val (.int (p1 % (16 : Int32))), .val (.int (p2 % (16 : Int32))), .val (.int (p3 % (16 : Int32))), .val (.int (p4 % (16 : Int32))), .val (.int (p5 % (16 : Int32))), .val (.ref b31), .val (.int (own_low4 (FP.i2d (p5 % (16 : Int32))) (FP.i2d (p1 % (16 : Int32))) (FP.i2d (p2 % (16 : Int32))) (FP.i2d (p3 % (16 : Int32))) (FP.i2d (p4 % (16 : Int32))))), .val (.int (if (p5 % (16 : Int32)) < (p1 % (16 : Int32)) then (if (p5 % (16 : Int32)) < (p2 % (16 : Int32)) then (if (p5 % (16 : Int32)) < (p3 % (16 : Int32)) then (if (p5 % (16 : Int32)) < (p4 % (16 : Int32)) then (-1 : Int32) else (3 : Int32)) else (2 : Int32)) else (1 : Int32)) else (0 : Int32)))] [(.int (1 : Int32))])) _
      refine XS.goto X36.here hx rfl (pc0 := 181) (pc' := 185) rfl (hb hby at_181) (by decide) (by decide) ?_
      exact k
    obtain ⟨fs, hr, hrun, hended, hW, hsame⟩ := X36.leave (v := some (.int (1 : Int32))) (fun h => by rw [Bd.returns] at h; cases h)
    refine ⟨_, _, k41 _ ?_, hrun, hended, _, _, rfl, ?_, ⟨_, rfl⟩, hW, hsame.mono (by decide) (by decide)⟩
    · exact retN X36 hx (t := .boolean) Bd.returns (by simp) (hb hby at_185) hr
    · show own_R (some (.int 1)) n0 _ T36.heap _
      rw [e36]
      exact ⟨rfl, N36⟩
set_option maxRecDepth 65536 in
set_option maxHeartbeats 40000000 in
theorem comes_1 {Post : Tables → Env → Array Value → State → Outcome → State → Prop} (hpost : ∀ tb e args s v u, (limb_1_1.after args s (.returned v) u = true ∧ limb_1_2.after args s (.returned v) u = true ∧ True) → FrameEnd s (.returned v) u (Jvm.fieldLocs frame_1_writes args s ++ Jvm.arrayLocs frame_1_arrays args s ++ Jvm.staticLocs frame_1_statics s) 16 128 → Post tb e args s (.returned v) u) :
    ArmFor flags0 classFile x code maxLocals ret World_1 tables_1 room_1 Calls_1 rest_1 Pre_1 Post := by
  intro l hfl _ _ p e ha hc hk s m args below hf hA hF happ hP
  obtain ⟨hcalls, hrest, hpre⟩ := hP
  obtain ⟨-, -, -, hnamed, -, -, -, hat⟩ := (Spec.applies_iff hf).mp happ
  obtain ⟨hg, hn⟩ := and_e (Cond.before_iff.mp (show (Jvm.Cond.and given_1 narrow_1).before args s = true from hpre))
  obtain ⟨g0a, g0b⟩ := and_e hg
  obtain ⟨g1a, g1b⟩ := and_e g0b
  obtain ⟨g2a, g2b⟩ := and_e g1b
  obtain ⟨g3a, g3b⟩ := and_e g2b
  obtain ⟨g4a, g4b⟩ := and_e g3b
  obtain ⟨g5a, g5b⟩ := and_e g4b
  obtain ⟨w0, w1, w2, w3, w4, w5, rfl⟩ : ∃ w0 w1 w2 w3 w4 w5 : Value, args = #[w0, w1, w2, w3, w4, w5] := by
    have hs : args.size = 6 := by simpa [Cond.value, given_1] using g0a
    obtain ⟨L⟩ := args
    match L, hs with
    | [w0, w1, w2, w3, w4, w5], _ => exact ⟨w0, w1, w2, w3, w4, w5, rfl⟩
  have hw := fun d (hd : d ∈ tables_1) => atoms_spec (ws := Jvm.Cond.code x code maxLocals ret :: tables_1) hat d (List.mem_cons_of_mem _ hd)
  have hfit : Fit s := fun {y c} hc i hi => by
    obtain ⟨ha, rfl⟩ := Array.getElem?_eq_some_iff.mp hc
    have q := List.all_eq_true.mp ((Array.all_eq_true_iff_forall_mem.mp hF) _ (Array.getElem_mem ha)) i (List.mem_range.mpr hi)
    simpa [Array.getElem?_eq_getElem hi] using q
  obtain ⟨i0, ei0⟩ := is_v g1a
  obtain rfl : w0 = (.int i0) := Option.some.inj ei0
  obtain ⟨i1, ei1⟩ := is_v g2a
  obtain rfl : w1 = (.int i1) := Option.some.inj ei1
  obtain ⟨i2, ei2⟩ := is_v g3a
  obtain rfl : w2 = (.int i2) := Option.some.inj ei2
  obtain ⟨i3, ei3⟩ := is_v g4a
  obtain rfl : w3 = (.int i3) := Option.some.inj ei3
  obtain ⟨i4, ei4⟩ := is_v g5a
  obtain rfl : w4 = (.int i4) := Option.some.inj ei4
  obtain ⟨i5, ei5⟩ := is_v g5b
  obtain rfl : w5 = (.int i5) := Option.some.inj ei5
  obtain ⟨n, o, h1, h2, h3, _, L, rfl, ⟨rfl, N⟩, hq⟩ := rm0 l s _ hw tables_1 i0 i1 i2 i3 i4 i5 s.heap s.heap.size (Nat.le_refl _) p e ha hc hk s m _ below hf ((Spec.applies_iff_loose hf).mp happ).1 ⟨rfl, State.Warmed39.refl s, rfl⟩ trivial
  refine ⟨n, _, h1, h2, h3, hpost _ _ _ _ _ _ ⟨Cond.after_iff.mpr rfl, Cond.after_iff.mpr (eq_i res_at (Term.int_eval (1)) rfl), trivial⟩ ⟨hq.1, hq.2.1, (hq.2.2.sift fun y hy => Or.inr (N y hy)).mono (by decide) (by decide)⟩⟩
theorem main_1_1 : Claimed_1_1 := comes_1 fun _ _ _ _ _ _ h hF => ⟨h.1, hF⟩
theorem main_1_2 : Claimed_1_2 := comes_1 fun _ _ _ _ _ _ h hF => ⟨h.2.1, hF⟩
end Jvm.Pilot.@@N@@
namespace Jvm.Pilot.@@N@@
open Jvm Jvm.ClassFile Sem Op Lib Jvm.Free Jvm.Stand Jvm.Pilot.@@N@@.Jvm.D
/-! MADE BY PROGRAM (witnessworld.py) out of the Statement's table words and the real class files: 11 classes; the members and pool entries that the words name. The judged class is class 1, her method 1. -/
namespace start1
open Jvm.ClassFile
def u (s : String) : CpInfo := .utf8 (stringToUtf16 s)
/-- a pool by its gaps: so many unusable entries, then the entry; so many at the end -/
def gap : Nat → List CpInfo → List CpInfo
  | 0, r => r
  | n + 1, r => .unusable :: gap n r
def poolList (es : List (Nat × CpInfo)) (last : Nat) : List CpInfo := es.foldr (fun e r => gap e.1 (e.2 :: r)) (gap last [])
def pool (es : List (Nat × CpInfo)) (last : Nat) : Array CpInfo := ⟨poolList es last⟩
def fileOf (pool : Array CpInfo) (this : Nat) (attrs : Array Attribute := #[]) (ms : Array MethodInfo := #[]) (fl : Nat := 33) (sup : Nat := 0) (ifs : Array Nat := #[]) (fds : Array FieldInfo := #[]) : ClassFile where
  minorVersion := 0
  majorVersion := 65
  constantPool := pool
  accessFlags := fl
  thisClass := this
  superClass := sup
  interfaces := ifs
  fields := fds
  methods := ms
  attributes := attrs
def plain (name : String) (sup : Option ClassId) : Class where
  name := name
  kind := .ordinary
  loader := none
  accessFlags := 33
  super := sup
  interfaces := #[]
  cf := none
  fields := #[]
  methods := #[]
  instanceTypes := #[]
  staticTypes := #[]
  resolved := #[]
  callSites := []
  init := .initialized
  statics := none
  mirror := none

def pool0 : Array CpInfo := pool [(5, u "<init>"), (0, u "()V"), (1, .class_ 10), (1, u "java/lang/Object")] 113

def k0m0 : Method := { name := "<init>", desc := "()V", sig := { parameters := [], returnType := none }, accessFlags := 1, code := none }
/-- java/lang/Object -/
def k0 : Class := { plain "java/lang/Object" none with
  accessFlags := 33
  interfaces := #[]
  cf := some (fileOf pool0 8 #[] #[{ accessFlags := 1, nameIndex := 5, descriptorIndex := 6, attributes := #[] }] 33 0 #[] #[])
  fields := #[]
  methods := #[k0m0]
  instanceTypes := #[]
  staticTypes := #[]
  resolved := Array.replicate 124 none
  statics := none }

def pool1 : Array CpInfo := pool [(2, .class_ 4), (1, u "java/lang/Object"), (0, u "<init>"), (0, u "()V"), (0, .integer 2147483647), (0, .methodref 9 10), (0, .class_ 11), (0, .nameAndType 12 13), (0, u "com/example/interlace/interlace/method/Ties"), (0, u "lowestWithin"), (0, u "([DD)I"), (0, .class_ 15), (0, u "com/example/interlace/interlace/method/TiesLowestWithinPinLaw"), (2, u "law"), (0, u "(IIIIII)Z")] 5

def k1m0 : Method := { name := "<init>", desc := "()V", sig := { parameters := [], returnType := none }, accessFlags := 1, code := none }
def k1c1 : Code := { maxStack := 4, maxLocals := 15, code := code, exceptionTable := #[], attributes := #[] }
def k1m1 : Method := { name := "law", desc := "(IIIIII)Z", sig := { parameters := [.int, .int, .int, .int, .int, .int], returnType := some .boolean }, accessFlags := 9, code := some k1c1 }
/-- com/example/interlace/interlace/method/TiesLowestWithinPinLaw -/
def k1 : Class := { plain "com/example/interlace/interlace/method/TiesLowestWithinPinLaw" (some 0) with
  accessFlags := 49
  interfaces := #[]
  cf := some (fileOf pool1 14 #[] #[{ accessFlags := 1, nameIndex := 5, descriptorIndex := 6, attributes := #[] }, { accessFlags := 9, nameIndex := 18, descriptorIndex := 19, attributes := #[] }] 49 2 #[] #[])
  fields := #[]
  methods := #[k1m0, k1m1]
  instanceTypes := #[]
  staticTypes := #[]
  resolved := Array.replicate 25 none
  statics := none }

def pool2 : Array CpInfo := pool [(2, .class_ 4), (1, u "java/lang/Object"), (0, u "<init>"), (0, u "()V"), (1, .class_ 10), (1, u "com/example/interlace/interlace/method/Ties"), (8, u "lowestWithin"), (0, u "([DD)I"), (12, u "TOLERANCE"), (0, u "D")] 11

def k2m0 : Method := { name := "<init>", desc := "()V", sig := { parameters := [], returnType := none }, accessFlags := 2, code := none }
def k2c1 : Code := { maxStack := 4, maxLocals := 4, code := prog_57_method_6_code, exceptionTable := #[], attributes := #[] }
def k2m1 : Method := { name := "lowestWithin", desc := "([DD)I", sig := { parameters := [(.array .double), .double], returnType := some .int }, accessFlags := 8, code := some k2c1 }
/-- com/example/interlace/interlace/method/Ties -/
def k2 : Class := { plain "com/example/interlace/interlace/method/Ties" (some 0) with
  accessFlags := 48
  interfaces := #[]
  cf := some (fileOf pool2 8 #[] #[{ accessFlags := 2, nameIndex := 5, descriptorIndex := 6, attributes := #[] }, { accessFlags := 8, nameIndex := 19, descriptorIndex := 20, attributes := #[] }] 48 2 #[] #[{ accessFlags := 24, nameIndex := 33, descriptorIndex := 34, attributes := #[] }])
  fields := #[{ name := "TOLERANCE", type := .double, accessFlags := 24, slot := 0, constantValue := 0 }]
  methods := #[k2m0, k2m1]
  instanceTypes := #[]
  staticTypes := #[.double]
  resolved := Array.replicate 46 none
  statics := none }

def pool3 : Array CpInfo := pool [(1, u "java/lang/Cloneable"), (0, .class_ 1), (0, u "java/lang/Object"), (0, .class_ 3)] 3

/-- java/lang/Cloneable -/
def k3 : Class := { plain "java/lang/Cloneable" (some 0) with
  accessFlags := 1537
  interfaces := #[]
  cf := some (fileOf pool3 2 #[] #[] 1537 4 #[] #[])
  fields := #[]
  methods := #[]
  instanceTypes := #[]
  staticTypes := #[]
  resolved := Array.replicate 8 none
  statics := none }

def pool4 : Array CpInfo := pool [(1, u "java/io/Serializable"), (0, .class_ 1), (0, u "java/lang/Object"), (0, .class_ 3)] 3

/-- java/io/Serializable -/
def k4 : Class := { plain "java/io/Serializable" (some 0) with
  accessFlags := 1537
  interfaces := #[]
  cf := some (fileOf pool4 2 #[] #[] 1537 4 #[] #[])
  fields := #[]
  methods := #[]
  instanceTypes := #[]
  staticTypes := #[]
  resolved := Array.replicate 8 none
  statics := none }

/-- the primitive byte -/
def k5 : Class := { plain "byte" none with kind := .primitive 'B', accessFlags := 0x411 }
/-- [B -/
def k6 : Class := { plain "[B" (some 0) with kind := .array 5 .byte, interfaces := #[3, 4], accessFlags := 1041 }

/-- the primitive double -/
def k7 : Class := { plain "double" none with kind := .primitive 'D', accessFlags := 0x411 }
/-- [D -/
def k8 : Class := { plain "[D" (some 0) with kind := .array 7 .double, interfaces := #[3, 4], accessFlags := 1041 }

/-- the primitive int -/
def k9 : Class := { plain "int" none with kind := .primitive 'I', accessFlags := 0x411 }
/-- [I -/
def k10 : Class := { plain "[I" (some 0) with kind := .array 9 .int, interfaces := #[3, 4], accessFlags := 1041 }

def heap : Heap := #[]
def classes : Array Class := #[k0, k1, k2, k3, k4, k5, k6, k7, k8, k9, k10]
def interned : List (Array UInt16 × Addr) := []
def slotsUsed : Nat := 0
def theMethod : MethodId := ⟨1, 1⟩
def args0 : Array Value := #[.int 5, .int 5, .int 5, .int 5, .int 5, .int 5]
def aboutOver (below : List Frame) : State where
  vm := { classes := classes, interned := interned.toArray }
  heap := heap
  slotsUsed := slotsUsed
  threads := #[{ frames := .invoking theMethod args0 :: below }]
def below0 : List Frame := [.native { method := ⟨0, 0⟩, args := #[] }]
def about1 : State := aboutOver below0
def p0 : Program := .bare "" "" ""
def e0 : Env := launch0.env 0 0 0
theorem w_frames : about1.frames = Frame.invoking theMethod args0 :: below0 := rfl
set_option maxRecDepth 65536 in
theorem w_args : argsFit about1.vm theMethod args0 = true := by decide +kernel
set_option maxRecDepth 65536 in
theorem w_heap : heapFits about1 = true := by decide +kernel
set_option maxRecDepth 65536 in
theorem w_runnable : about1.curStatus? = some .runnable := by decide +kernel
set_option maxRecDepth 65536 in
theorem w_alone : about1.alone = true := by decide +kernel
set_option maxRecDepth 65536 in
theorem w_named : about1.methodNamed? x = some theMethod := by decide +kernel
set_option maxRecDepth 65536 in
theorem w_hears : about1.hears theMethod below0 = true := by decide +kernel
set_option maxRecDepth 65536 in
theorem w_ripe : about1.ripe theMethod args0 below0 = true := by decide +kernel
theorem w_running : about1.status = .running := rfl
set_option maxRecDepth 65536 in
theorem w_room : about1.hasRoom e0.platform room_1 = true :=
  launch0.hasRoom_least _ room_1 (by decide +kernel) (by decide +kernel) (by decide +kernel) (by decide +kernel) (by decide +kernel) (by decide +kernel)
theorem allAtoms_all (ts : List Jvm.Cond) (a : Array Jvm.Value) (st : Jvm.State) : (allAtoms ts).before a st = ts.all (fun c => c.before a st) := by
  induction ts with
  | nil => rfl
  | cons c t ih =>
    show (Jvm.Cond.and c (allAtoms t)).before a st = _
    rw [Jvm.Cond.before_and, ih, List.all_cons]
def words1 : List Jvm.Cond := Jvm.Cond.code x code maxLocals ret :: tables_1
/-- a 'code' word, met by the world's own term for the bytes: nothing is compared byte by byte -/
theorem code_word {y : MethodName} {bytes : ByteArray} {mx : Nat} {rt : Option FieldType} {a : Array Value} {s : State} {m : MethodId} {meth : Method} {c : Code} (h1 : s.methodNamed? y = some m) (h2 : s.vm.method? m = some meth) (h3 : meth.code = some c) (h4 : c.code = bytes)
    (h5 : (c.maxLocals == mx && c.exceptionTable.isEmpty && decide (c.maxStack ≤ mostOperands) && decide (meth.sig.returnType = rt) && !meth.locks && decide (parseMethodDescriptor y.desc = some meth.sig)) = true) : (Jvm.Cond.code y bytes mx rt).before a s = true := by
  simp only [Bool.and_eq_true, beq_iff_eq, Bool.not_eq_true', decide_eq_true_eq] at h5
  obtain ⟨⟨⟨⟨⟨g1, g2⟩, g3⟩, g4⟩, g5⟩, g6⟩ := h5
  simp [Cond.before, Cond.holds, Cond.value, h1, h2, h3, h4, g1, g2, g3, g4, g5, g6]
def isCode : Jvm.Cond → Bool
  | .code _ _ _ _ => true
  | _ => false
theorem all_split {L : List Jvm.Cond} {P : Jvm.Cond → Bool} (h1 : L.all (fun c => isCode c || P c) = true) (h2 : ∀ c ∈ L.filter isCode, P c = true) : L.all P = true := by
  refine List.all_eq_true.mpr fun c hc => ?_
  have h := List.all_eq_true.mp h1 c hc
  rcases Bool.eq_false_or_eq_true (isCode c) with hi | hi
  · exact h2 c (List.mem_filter.mpr ⟨hc, hi⟩)
  · simpa [hi] using h
set_option maxRecDepth 65536 in
theorem w_c0 : (Jvm.Cond.code x code maxLocals ret).before args0 about1 = true := code_word (m := ⟨1, 1⟩) (meth := k1m1) (c := k1c1) (by decide +kernel) rfl rfl rfl (by decide +kernel)
set_option maxRecDepth 65536 in
theorem w_c1 : (Jvm.Cond.code ({ cls := "com/example/interlace/interlace/method/Ties", name := "lowestWithin", desc := "([DD)I" } : Jvm.MethodName) prog_57_method_6_code (4 : Nat) (Option.some Jvm.ClassFile.FieldType.int)).before args0 about1 = true := code_word (m := ⟨2, 1⟩) (meth := k2m1) (c := k2c1) (by decide +kernel) rfl rfl rfl (by decide +kernel)
def codes1 : List Jvm.Cond := [Jvm.Cond.code x code maxLocals ret, Jvm.Cond.code ({ cls := "com/example/interlace/interlace/method/Ties", name := "lowestWithin", desc := "([DD)I" } : Jvm.MethodName) prog_57_method_6_code (4 : Nat) (Option.some Jvm.ClassFile.FieldType.int)]
set_option maxRecDepth 65536 in
theorem codes_eq : words1.filter isCode = codes1 := rfl
theorem w_codes : ∀ c ∈ words1.filter isCode, c.before args0 about1 = true := by
  rw [codes_eq]
  intro c hc
  simp only [codes1, List.mem_cons, List.not_mem_nil, or_false] at hc
  rcases hc with rfl | rfl
  · exact w_c0
  · exact w_c1
set_option maxRecDepth 65536 in
theorem w_t1 : words1.all (fun c => isCode c || c.before args0 about1) = true := by decide +kernel
theorem w_tables : (allAtoms (Jvm.Cond.code x code maxLocals ret :: tables_1)).before args0 about1 = true := by
  rw [allAtoms_all]
  show words1.all (fun c => c.before args0 about1) = true
  refine all_split ?_ w_codes
  rw [w_t1]
set_option maxRecDepth 65536 in
theorem w_case : (Jvm.Cond.and given_1 narrow_1).before args0 about1 = true := by decide +kernel
theorem w_applies : (headSpec (Jvm.Cond.code x code maxLocals ret :: tables_1) room_1).applies x e0.platform about1 = true :=
  (Spec.applies_iff w_frames).mpr ⟨w_running, w_runnable, w_alone, w_named, w_hears, w_ripe, w_room, w_tables⟩
theorem atStart : AtStart classFile x code maxLocals ret World_1 tables_1 room_1 Calls_1 rest_1 Pre_1 launch0 p0 e0 about1 theMethod args0 below0 :=
  ⟨lists_1, trivial, launch0.admits_env _ _ _, launch0.least_env, fairChoices_fair.cas, fairChoices_fair.clock, w_frames, w_args, w_heap, w_applies, trivial, trivial, w_case⟩
end start1
theorem witness_1 : WitnessClaimed_1 := ⟨start1.p0, start1.e0, start1.about1, start1.theMethod, start1.args0, start1.below0, start1.atStart⟩
end Jvm.Pilot.@@N@@
