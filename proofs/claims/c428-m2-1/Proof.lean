import JvmDerived
import JvmDerived.Pilot.@@N@@Statement
import JvmDerived.Pilot.@@N@@Code
set_option linter.unusedVariables false
set_option linter.unusedSimpArgs false
namespace Jvm.Pilot.@@N@@
open Jvm Jvm.ClassFile Sem Op Lib Jvm.Free Jvm.Stand Jvm.LawKit Jvm.RoadKit Bundle Jvm.Pilot.@@N@@.Jvm.D
def own_Q (r : Option Value) (h0 : Heap) (n0 : Nat) (v : Option Value) (h : Heap) (L : List Loc) : Prop := v = r ∧ Fr n0 L ∧ h = h0
def own_R (r : Option Value) (n0 : Nat) (v : Option Value) (h : Heap) (L : List Loc) : Prop := v = r ∧ Fr n0 L
def own_F (Z : State) (z : Int32) (h0 : Heap) (n0 : Nat) (v : Option Value) (h : Heap) (L : List Loc) : Prop := v = some (.ref h0.size) ∧ Fr n0 L ∧ Keep h0 h [] ∧ ∃ k, Arv Z h h0.size k .byte (1 : Int32) [.int z] (.int (0 : Int32))
theorem pn_0 : plainName "com/example/valentia/valentia/protocol/Frames" = true := by first | (simp [plainName, overriddenIn]; done) | decide +kernel
theorem ef_rm1_0 (m : MethodId) (x0 : Int32) : entryFrame m #[(.int x0)] 1 = mkF m 0 #[.val (.int x0)] [] := by first | (simp [entryFrame, mkF, argsToLocals, Value.category]; done) | rfl
theorem d1_0 : decode prog_18_method_17_code 0 = .ok (.iconst 1, 1) := by decide +kernel
theorem d1_1 : decode prog_18_method_17_code 1 = .ok (.newarray .byte, 2) := by decide +kernel
theorem d1_3 : decode prog_18_method_17_code 3 = .ok (.dup, 1) := by decide +kernel
theorem d1_4 : decode prog_18_method_17_code 4 = .ok (.iconst 0, 1) := by decide +kernel
theorem d1_5 : decode prog_18_method_17_code 5 = .ok (.iload_n 0, 1) := by decide +kernel
theorem d1_6 : decode prog_18_method_17_code 6 = .ok (.ifCond .eq 7, 3) := by decide +kernel
theorem d1_13 : decode prog_18_method_17_code 13 = .ok (.iconst 0, 1) := by decide +kernel
theorem d1_14 : decode prog_18_method_17_code 14 = .ok (.i2b, 1) := by decide +kernel
theorem d1_15 : decode prog_18_method_17_code 15 = .ok (.bastore, 1) := by decide +kernel
theorem d1_16 : decode prog_18_method_17_code 16 = .ok (.areturn, 1) := by decide +kernel
set_option maxRecDepth 65536 in
set_option maxHeartbeats 40000000 in
theorem rm1_0 (l : Launch) (Z : State) (a0 : Array Value) (hw : ∀ d ∈ tables_1, d.before a0 Z = true) (ws : List Jvm.Cond)  (h0 : Heap) (n0 : Nat) (Z0 : n0 ≤ h0.size) :
    MetFree l (⟨"com/example/valentia/valentia/protocol/Frames", "flag", "(Z)[B"⟩ : MethodName) (head1 (Jvm.Cond.code (⟨"com/example/valentia/valentia/protocol/Frames", "flag", "(Z)[B"⟩ : MethodName) prog_18_method_17_code 1 (some (.array .byte)) :: ws) ({ frames := 0, cells := 1, slots := 1, locals := 0 } : Room)) (fun a U => a = #[(.int (0 : Int32))] ∧ Z.Warmed39 U.vm ∧ U.heap = h0) (fun _ _ _ _ _ => True) (fun _ U o U' => ∃ v L, o = .returned v ∧ own_F Z (0 : Int32) h0 n0 v U'.heap L ∧ FrameEnd U o U' L ({ frames := 0, cells := 1, slots := 1, locals := 0 } : Room).cells ({ frames := 0, cells := 1, slots := 1, locals := 0 } : Room).slots) := by
  refine MetFree.of_bodySF (plainFor_of_name pn_0) hisR ?_
  intro p e s m args below meth c s₁ Bd hml0 hP hK
  obtain ⟨rfl, hZ, hh⟩ := hP
  have hx := Bd.exec
  have hby := Bd.bytes
  have hml : c.maxLocals = 1 := hml0
  have hown : s.vm.findClass "com/example/valentia/valentia/protocol/Frames" = some m.cls := findClass_of_methodNamed Bd.named
  have hnm := (name_of_methodNamed Bd.named Bd.method).1
  have X0 : Stand p l e ({ frames := 0, cells := 1, slots := 1, locals := 0 } : Room) s m #[(.int (0 : Int32))] below meth c s₁ [] 0 0 := Stand.of_body Bd
  have e0 : s₁.heap = h0 := by rw [← hh, Bd.state]; rfl
  have N0 := Fr.nil n0
  have pre0 : ∀ t, Steps p.tables e below (s₁.setTop (mkF m 0 #[.val (.int (0 : Int32))] [])) t → Steps p.tables e below (s₁.setTop (entryFrame m #[(.int (0 : Int32))] 1)) t := fun t k => castTop (ef_rm1_0 m (0 : Int32)) k
  have K0 : Keep h0 h0 [] := Keep.refl _ _
  obtain ⟨T1, h1, c1, X1, e1, E1, A1, st1⟩ := newP X0 hx hZ (hw _ (List.mem_of_getElem? (i := 4) rfl)) e0 (g := (mkF m 1 #[.val (.int (0 : Int32))] [(.int (1 : Int32))])) rfl (hb hby d1_1) rfl (by decide) (cap := 1) (by decide) (by decide) (by decide) (by decide)
  obtain ⟨b1, g1⟩ : ∃ z, z = h0.size := ⟨_, rfl⟩
  rw [← g1] at A1 st1
  have gn_b1 : n0 ≤ b1 := Nat.le_trans Z0 (Nat.le_of_eq g1.symm)
  have sz_b1_K0 : h0.size ≤ b1 := Nat.le_trans K0.1 (Nat.le_of_eq g1.symm)
  replace K0 := K0.ext E1
  have Zs1 : n0 ≤ h1.size := Nat.le_trans Z0 E1.1
  have V_b1 : Arv Z h1 b1 c1 .byte (1 : Int32) [(.int (0 : Int32))] (.int (0 : Int32)) := (Arv.new A1 (by decide)).pad (pad_rep [] (.int (0 : Int32)) 1)
  obtain ⟨cl_2, Ar_2, q_2, S_2, N_2, H_2, G_2⟩ := id V_b1
  have hin_2 : ¬ ((0 : Int32) < 0 ∨ cl_2.slots.size ≤ ((0 : Int32)).toNatClampNeg) := inb_of S_2 ⟨by decide, by decide⟩
  obtain ⟨T2, h2, X2, e2, W2, st2⟩ := stB X1 hx hZ e1 Ar_2 (j := (0 : Int32)) hin_2 (g := (mkF m 15 #[.val (.int (0 : Int32))] [(.int (0 : Int32)), (.int (0 : Int32)), (.ref b1), (.ref b1)])) rfl rfl (hb hby d1_15)
  have Vn2 : Arv Z h2 b1 c1 .byte (1 : Int32) [(.int ((0 : Int32).toInt8.toInt32))] (.int (0 : Int32)) := Arv.set Ar_2 q_2 S_2 N_2 H_2 G_2 (fits_nar_byte _) W2 0 rfl (Nat.le_of_ble_eq_true rfl)
  rw [show ((0 : Int32).toInt8.toInt32) = (0 : Int32) from by decide] at Vn2
  replace K0 := K0.wr W2 (Or.inr sz_b1_K0)
  replace V_b1 := Vn2
  have N2 := Fr.snoc X2 N0 gn_b1
  have Zs2 : n0 ≤ h2.size := by rw [W2.size]; exact Zs1
  have k3 : ∀ t, Steps p.tables e below (T2.setTop (mkF m 16 #[.val (.int (0 : Int32))] [(.ref b1)])) t → Steps p.tables e below (s₁.setTop (entryFrame m #[(.int (0 : Int32))] 1)) t := by
    intro t k
    refine pre0 _ ?_
    show Steps p.tables e below (s₁.setTop (mkF m 0 #[.val (.int (0 : Int32))] [])) _
    refine XS.iconst X0.here hx rfl (hb hby d1_0) ?_
    show Steps p.tables e below (s₁.setTop (mkF m 1 #[.val (.int (0 : Int32))] [(.int (1 : Int32))])) _
    refine st1 _ ?_
    show Steps p.tables e below (T1.setTop (mkF m 3 #[.val (.int (0 : Int32))] [(.ref b1)])) _
    refine XS.dup X1.here hx rfl (hb hby d1_3) rfl rfl ?_
    show Steps p.tables e below (T1.setTop (mkF m 4 #[.val (.int (0 : Int32))] [(.ref b1), (.ref b1)])) _
    refine XS.iconst X1.here hx rfl (hb hby d1_4) ?_
    show Steps p.tables e below (T1.setTop (mkF m 5 #[.val (.int (0 : Int32))] [(.int (0 : Int32)), (.ref b1), (.ref b1)])) _
    refine XS.iloadN X1.here hx rfl (hb hby d1_5) rfl ?_
    show Steps p.tables e below (T1.setTop (mkF m 6 #[.val (.int (0 : Int32))] [(.int (0 : Int32)), (.int (0 : Int32)), (.ref b1), (.ref b1)])) _
    refine XS.ifYes X1.here hx rfl (pc0 := 6) (pc' := 13) rfl (hb hby d1_6) rfl ((if0 _ _).trans (teq (by decide)).1) (by decide) (by decide) ?_
    show Steps p.tables e below (T1.setTop (mkF m 13 #[.val (.int (0 : Int32))] [(.int (0 : Int32)), (.ref b1), (.ref b1)])) _
    refine XS.iconst X1.here hx rfl (hb hby d1_13) ?_
    show Steps p.tables e below (T1.setTop (mkF m 14 #[.val (.int (0 : Int32))] [(.int (0 : Int32)), (.int (0 : Int32)), (.ref b1), (.ref b1)])) _
    refine XS.i2b X1.here hx rfl (hb hby d1_14) rfl ?_
    show Steps p.tables e below (T1.setTop (mkF m 15 #[.val (.int (0 : Int32))] [(.int (0 : Int32)), (.int (0 : Int32)), (.ref b1), (.ref b1)])) _
    refine st2 _ ?_
    exact k
  obtain ⟨fs, hr, hrun, hended, hW, hsame⟩ := X2.leave (v := some (.ref b1)) (fun h => by rw [Bd.returns] at h; cases h)
  refine ⟨_, _, k3 _ ?_, hrun, hended, _, _, rfl, ?_, ⟨_, rfl⟩, hW, hsame.mono (by decide) (by decide)⟩
  · exact retOut X2 hx Bd.returns rfl (Or.inr (Or.inr (Or.inr (Or.inr ⟨rfl, rfl, rfl⟩)))) (hb hby d1_16) hr
  · show own_F Z (0 : Int32) h0 n0 _ T2.heap _
    rw [e2]
    exact ⟨by rw [g1], N2, K0, c1, g1 ▸ V_b1⟩
theorem ef_rm1_1 (m : MethodId) (x0 : Int32) : entryFrame m #[(.int x0)] 1 = mkF m 0 #[.val (.int x0)] [] := by first | (simp [entryFrame, mkF, argsToLocals, Value.category]; done) | rfl
theorem d1_9 : decode prog_18_method_17_code 9 = .ok (.iconst 1, 1) := by decide +kernel
theorem d1_10 : decode prog_18_method_17_code 10 = .ok (.goto 4, 3) := by decide +kernel
set_option maxRecDepth 65536 in
set_option maxHeartbeats 40000000 in
theorem rm1_1 (l : Launch) (Z : State) (a0 : Array Value) (hw : ∀ d ∈ tables_1, d.before a0 Z = true) (ws : List Jvm.Cond)  (h0 : Heap) (n0 : Nat) (Z0 : n0 ≤ h0.size) :
    MetFree l (⟨"com/example/valentia/valentia/protocol/Frames", "flag", "(Z)[B"⟩ : MethodName) (head1 (Jvm.Cond.code (⟨"com/example/valentia/valentia/protocol/Frames", "flag", "(Z)[B"⟩ : MethodName) prog_18_method_17_code 1 (some (.array .byte)) :: ws) ({ frames := 0, cells := 1, slots := 1, locals := 0 } : Room)) (fun a U => a = #[(.int (1 : Int32))] ∧ Z.Warmed39 U.vm ∧ U.heap = h0) (fun _ _ _ _ _ => True) (fun _ U o U' => ∃ v L, o = .returned v ∧ own_F Z (1 : Int32) h0 n0 v U'.heap L ∧ FrameEnd U o U' L ({ frames := 0, cells := 1, slots := 1, locals := 0 } : Room).cells ({ frames := 0, cells := 1, slots := 1, locals := 0 } : Room).slots) := by
  refine MetFree.of_bodySF (plainFor_of_name pn_0) hisR ?_
  intro p e s m args below meth c s₁ Bd hml0 hP hK
  obtain ⟨rfl, hZ, hh⟩ := hP
  have hx := Bd.exec
  have hby := Bd.bytes
  have hml : c.maxLocals = 1 := hml0
  have hown : s.vm.findClass "com/example/valentia/valentia/protocol/Frames" = some m.cls := findClass_of_methodNamed Bd.named
  have hnm := (name_of_methodNamed Bd.named Bd.method).1
  have X0 : Stand p l e ({ frames := 0, cells := 1, slots := 1, locals := 0 } : Room) s m #[(.int (1 : Int32))] below meth c s₁ [] 0 0 := Stand.of_body Bd
  have e0 : s₁.heap = h0 := by rw [← hh, Bd.state]; rfl
  have N0 := Fr.nil n0
  have pre0 : ∀ t, Steps p.tables e below (s₁.setTop (mkF m 0 #[.val (.int (1 : Int32))] [])) t → Steps p.tables e below (s₁.setTop (entryFrame m #[(.int (1 : Int32))] 1)) t := fun t k => castTop (ef_rm1_1 m (1 : Int32)) k
  have K0 : Keep h0 h0 [] := Keep.refl _ _
  obtain ⟨T1, h1, c1, X1, e1, E1, A1, st1⟩ := newP X0 hx hZ (hw _ (List.mem_of_getElem? (i := 4) rfl)) e0 (g := (mkF m 1 #[.val (.int (1 : Int32))] [(.int (1 : Int32))])) rfl (hb hby d1_1) rfl (by decide) (cap := 1) (by decide) (by decide) (by decide) (by decide)
  obtain ⟨b1, g1⟩ : ∃ z, z = h0.size := ⟨_, rfl⟩
  rw [← g1] at A1 st1
  have gn_b1 : n0 ≤ b1 := Nat.le_trans Z0 (Nat.le_of_eq g1.symm)
  have sz_b1_K0 : h0.size ≤ b1 := Nat.le_trans K0.1 (Nat.le_of_eq g1.symm)
  replace K0 := K0.ext E1
  have Zs1 : n0 ≤ h1.size := Nat.le_trans Z0 E1.1
  have V_b1 : Arv Z h1 b1 c1 .byte (1 : Int32) [(.int (0 : Int32))] (.int (0 : Int32)) := (Arv.new A1 (by decide)).pad (pad_rep [] (.int (0 : Int32)) 1)
  obtain ⟨cl_2, Ar_2, q_2, S_2, N_2, H_2, G_2⟩ := id V_b1
  have hin_2 : ¬ ((0 : Int32) < 0 ∨ cl_2.slots.size ≤ ((0 : Int32)).toNatClampNeg) := inb_of S_2 ⟨by decide, by decide⟩
  obtain ⟨T2, h2, X2, e2, W2, st2⟩ := stB X1 hx hZ e1 Ar_2 (j := (0 : Int32)) hin_2 (g := (mkF m 15 #[.val (.int (1 : Int32))] [(.int (1 : Int32)), (.int (0 : Int32)), (.ref b1), (.ref b1)])) rfl rfl (hb hby d1_15)
  have Vn2 : Arv Z h2 b1 c1 .byte (1 : Int32) [(.int ((1 : Int32).toInt8.toInt32))] (.int (0 : Int32)) := Arv.set Ar_2 q_2 S_2 N_2 H_2 G_2 (fits_nar_byte _) W2 0 rfl (Nat.le_of_ble_eq_true rfl)
  rw [show ((1 : Int32).toInt8.toInt32) = (1 : Int32) from by decide] at Vn2
  replace K0 := K0.wr W2 (Or.inr sz_b1_K0)
  replace V_b1 := Vn2
  have N2 := Fr.snoc X2 N0 gn_b1
  have Zs2 : n0 ≤ h2.size := by rw [W2.size]; exact Zs1
  have k3 : ∀ t, Steps p.tables e below (T2.setTop (mkF m 16 #[.val (.int (1 : Int32))] [(.ref b1)])) t → Steps p.tables e below (s₁.setTop (entryFrame m #[(.int (1 : Int32))] 1)) t := by
    intro t k
    refine pre0 _ ?_
    show Steps p.tables e below (s₁.setTop (mkF m 0 #[.val (.int (1 : Int32))] [])) _
    refine XS.iconst X0.here hx rfl (hb hby d1_0) ?_
    show Steps p.tables e below (s₁.setTop (mkF m 1 #[.val (.int (1 : Int32))] [(.int (1 : Int32))])) _
    refine st1 _ ?_
    show Steps p.tables e below (T1.setTop (mkF m 3 #[.val (.int (1 : Int32))] [(.ref b1)])) _
    refine XS.dup X1.here hx rfl (hb hby d1_3) rfl rfl ?_
    show Steps p.tables e below (T1.setTop (mkF m 4 #[.val (.int (1 : Int32))] [(.ref b1), (.ref b1)])) _
    refine XS.iconst X1.here hx rfl (hb hby d1_4) ?_
    show Steps p.tables e below (T1.setTop (mkF m 5 #[.val (.int (1 : Int32))] [(.int (0 : Int32)), (.ref b1), (.ref b1)])) _
    refine XS.iloadN X1.here hx rfl (hb hby d1_5) rfl ?_
    show Steps p.tables e below (T1.setTop (mkF m 6 #[.val (.int (1 : Int32))] [(.int (1 : Int32)), (.int (0 : Int32)), (.ref b1), (.ref b1)])) _
    refine XS.ifNo X1.here hx rfl (hb hby d1_6) rfl ((if0 _ _).trans (feq (by decide)).1) ?_
    show Steps p.tables e below (T1.setTop (mkF m 9 #[.val (.int (1 : Int32))] [(.int (0 : Int32)), (.ref b1), (.ref b1)])) _
    refine XS.iconst X1.here hx rfl (hb hby d1_9) ?_
    show Steps p.tables e below (T1.setTop (mkF m 10 #[.val (.int (1 : Int32))] [(.int (1 : Int32)), (.int (0 : Int32)), (.ref b1), (.ref b1)])) _
    refine XS.goto X1.here hx rfl (pc0 := 10) (pc' := 14) rfl (hb hby d1_10) (by decide) (by decide) ?_
    show Steps p.tables e below (T1.setTop (mkF m 14 #[.val (.int (1 : Int32))] [(.int (1 : Int32)), (.int (0 : Int32)), (.ref b1), (.ref b1)])) _
    refine XS.i2b X1.here hx rfl (hb hby d1_14) rfl ?_
    show Steps p.tables e below (T1.setTop (mkF m 15 #[.val (.int (1 : Int32))] [(.int (1 : Int32)), (.int (0 : Int32)), (.ref b1), (.ref b1)])) _
    refine st2 _ ?_
    exact k
  obtain ⟨fs, hr, hrun, hended, hW, hsame⟩ := X2.leave (v := some (.ref b1)) (fun h => by rw [Bd.returns] at h; cases h)
  refine ⟨_, _, k3 _ ?_, hrun, hended, _, _, rfl, ?_, ⟨_, rfl⟩, hW, hsame.mono (by decide) (by decide)⟩
  · exact retOut X2 hx Bd.returns rfl (Or.inr (Or.inr (Or.inr (Or.inr ⟨rfl, rfl, rfl⟩)))) (hb hby d1_16) hr
  · show own_F Z (1 : Int32) h0 n0 _ T2.heap _
    rw [e2]
    exact ⟨by rw [g1], N2, K0, c1, g1 ▸ V_b1⟩
theorem pn_1 : plainName "com/example/valentia/valentia/protocol/FramesFlagPinLaw" = true := by first | (simp [plainName, overriddenIn]; done) | decide +kernel
theorem ef_rm0 (m : MethodId) (x0 : Int32) : entryFrame m #[(.int x0)] maxLocals = mkF m 0 #[.val (.int x0), .unset, .unset, .unset, .unset] [] := by first | (simp [entryFrame, mkF, argsToLocals, Value.category, maxLocals]; done) | rfl
theorem pd_0 : parseMethodDescriptor "(Z)[B" = some ⟨[.boolean], some (.array .byte)⟩ := by decide +kernel
set_option maxRecDepth 65536 in
set_option maxHeartbeats 40000000 in
theorem rm0 (l : Launch) (Z : State) (a0 : Array Value) (hw : ∀ d ∈ tables_1, d.before a0 Z = true) (ws : List Jvm.Cond) (p0 : Int32) (h0 : Heap) (n0 : Nat) (Z0 : n0 ≤ h0.size) :
    MetFree l x (head1 (Jvm.Cond.code x code maxLocals ret :: ws) room_1) (fun a U => a = #[(.int p0)] ∧ Z.Warmed39 U.vm ∧ U.heap = h0) (fun _ _ _ _ _ => True) (fun _ U o U' => ∃ v L, o = .returned v ∧ own_R (some (.int 1)) n0 v U'.heap L ∧ FrameEnd U o U' L room_1.cells room_1.slots) := by
  refine MetFree.of_bodySF (plainFor_of_name pn_1) hisR ?_
  intro p e s m args below meth c s₁ Bd hml0 hP hK
  obtain ⟨rfl, hZ, hh⟩ := hP
  have hx := Bd.exec
  have hby := Bd.bytes
  have hml : c.maxLocals = 5 := hml0
  have hown : s.vm.findClass "com/example/valentia/valentia/protocol/FramesFlagPinLaw" = some m.cls := findClass_of_methodNamed Bd.named
  have hnm := (name_of_methodNamed Bd.named Bd.method).1
  have X0 : Stand p l e room_1 s m #[(.int p0)] below meth c s₁ [] 0 0 := Stand.of_body Bd
  have e0 : s₁.heap = h0 := by rw [← hh, Bd.state]; rfl
  have N0 := Fr.nil n0
  have pre0 : ∀ t, Steps p.tables e below (s₁.setTop (mkF m 0 #[.val (.int p0), .unset, .unset, .unset, .unset] [])) t → Steps p.tables e below (s₁.setTop (entryFrame m #[(.int p0)] maxLocals)) t := fun t k => castTop (ef_rm0 m p0) k
  have k1 : ∀ t, Steps p.tables e below (s₁.setTop (mkF m 3 #[.val (.int p0), .unset, .unset, .unset, .unset] [(.int (p0 &&& (1 : Int32)))])) t → Steps p.tables e below (s₁.setTop (entryFrame m #[(.int p0)] maxLocals)) t := by
    intro t k
    refine pre0 _ ?_
    show Steps p.tables e below (s₁.setTop (mkF m 0 #[.val (.int p0), .unset, .unset, .unset, .unset] [])) _
    refine XS.iloadN X0.here hx rfl (hb hby at_0) rfl ?_
    show Steps p.tables e below (s₁.setTop (mkF m 1 #[.val (.int p0), .unset, .unset, .unset, .unset] [(.int p0)])) _
    refine XS.iconst X0.here hx rfl (hb hby at_1) ?_
    show Steps p.tables e below (s₁.setTop (mkF m 2 #[.val (.int p0), .unset, .unset, .unset, .unset] [(.int (1 : Int32)), (.int p0)])) _
    refine XS.iand X0.here hx rfl (hb hby at_2) rfl ?_
    exact k
  by_cases hc3_1 : (p0 &&& (1 : Int32)) = (0 : Int32)
  · obtain ⟨_, _, ⟨T2, L2, k2_, n2⟩, -, X2, ⟨Lc2, hQ2, l2, y2, z2⟩, st2⟩ := Jvm.LawKit.callS X0 hx (y := (⟨"com/example/valentia/valentia/protocol/Frames", "flag", "(Z)[B"⟩ : MethodName)) hown (mvT hZ (hw _ (List.mem_of_getElem? (i := 0) rfl))) (mvT hZ (hw _ (List.mem_of_getElem? (i := 1) rfl))) (mvT hZ (hw _ (List.mem_of_getElem? (i := 2) rfl))) (mvT hZ (hw _ (List.mem_of_getElem? (i := 3) rfl))) (by decide) (backOf (W := 0) (rm1_0 l Z a0 hw [] h0 n0 Z0) hZ (hw _ (List.mem_of_getElem? (i := 3) rfl)) (hw _ (List.mem_of_getElem? (i := 2) rfl)) (by decide) (by decide)) (g := (mkF m 23 #[.val (.int p0), .val (.int (0 : Int32)), .val (.int (0 : Int32)), .unset, .unset] [(.int (0 : Int32))])) rfl (by rw [hml]; rfl) (argsL := [(.int (0 : Int32))]) (rest := []) (lenOf pd_0 rfl) rfl (by show 2 * 0 + _ ≤ _; exact Nat.le_of_eq rfl) (hb hby at_23) (fun _ _ => ⟨rfl, e0, (by decide : 0 + 1 ≤ _), (by decide : 0 + 1 ≤ _)⟩)
    dsimp only [Pt.U, Pt.locs, Pt.cells, Pt.slots] at X2 l2 y2 z2 st2 hQ2
    subst l2 y2 z2
    obtain ⟨rfl, Nq2, Kq2, kq2, Vq2⟩ := hQ2
    have N2 := Fr.app N0 Nq2
    obtain ⟨b2, g2⟩ : ∃ z, z = h0.size := ⟨_, rfl⟩
    rw [← g2] at Vq2 st2
    have gn_b2 : n0 ≤ b2 := Nat.le_trans Z0 (Nat.le_of_eq g2.symm)
    have Zs2 : n0 ≤ T2.heap.size := Nat.le_trans Z0 Kq2.1
    have k5 : ∀ t, Steps p.tables e below (T2.setTop (mkF m 54 #[.val (.int p0), .val (.int (0 : Int32)), .val (.int (0 : Int32)), .val (.ref b2), .unset] [(.int ((p0 >>> ((1 : Int32) &&& 31)).toInt8.toInt32)), (.int (0 : Int32)), (.ref b2)])) t → Steps p.tables e below (s₁.setTop (entryFrame m #[(.int p0)] maxLocals)) t := by
      intro t k
      refine k1 _ ?_
      show Steps p.tables e below (s₁.setTop (mkF m 3 #[.val (.int p0), .unset, .unset, .unset, .unset] [(.int (p0 &&& (1 : Int32)))])) _
      refine XS.ifYes X0.here hx rfl (pc0 := 3) (pc' := 10) rfl (hb hby at_3) rfl ((if0 _ _).trans (teq hc3_1).1) (by decide) (by decide) ?_
      show Steps p.tables e below (s₁.setTop (mkF m 10 #[.val (.int p0), .unset, .unset, .unset, .unset] [])) _
      refine XS.iconst X0.here hx rfl (hb hby at_10) ?_
      show Steps p.tables e below (s₁.setTop (mkF m 11 #[.val (.int p0), .unset, .unset, .unset, .unset] [(.int (0 : Int32))])) _
      refine XS.istoreN X0.here hx rfl (hb hby at_11) rfl (l' := #[.val (.int p0), .val (.int (0 : Int32)), .unset, .unset, .unset]) rfl ?_
      show Steps p.tables e below (s₁.setTop (mkF m 12 #[.val (.int p0), .val (.int (0 : Int32)), .unset, .unset, .unset] [])) _
      refine XS.iloadN X0.here hx rfl (hb hby at_12) rfl ?_
      show Steps p.tables e below (s₁.setTop (mkF m 13 #[.val (.int p0), .val (.int (0 : Int32)), .unset, .unset, .unset] [(.int (0 : Int32))])) _
      refine XS.ifYes X0.here hx rfl (pc0 := 13) (pc' := 20) rfl (hb hby at_13) rfl ((if0 _ _).trans (teq (by decide)).1) (by decide) (by decide) ?_
      show Steps p.tables e below (s₁.setTop (mkF m 20 #[.val (.int p0), .val (.int (0 : Int32)), .unset, .unset, .unset] [])) _
      refine XS.iconst X0.here hx rfl (hb hby at_20) ?_
      show Steps p.tables e below (s₁.setTop (mkF m 21 #[.val (.int p0), .val (.int (0 : Int32)), .unset, .unset, .unset] [(.int (0 : Int32))])) _
      refine XS.istoreN X0.here hx rfl (hb hby at_21) rfl (l' := #[.val (.int p0), .val (.int (0 : Int32)), .val (.int (0 : Int32)), .unset, .unset]) rfl ?_
      show Steps p.tables e below (s₁.setTop (mkF m 22 #[.val (.int p0), .val (.int (0 : Int32)), .val (.int (0 : Int32)), .unset, .unset] [])) _
      refine XS.iloadN X0.here hx rfl (hb hby at_22) rfl ?_
      show Steps p.tables e below (s₁.setTop (mkF m 23 #[.val (.int p0), .val (.int (0 : Int32)), .val (.int (0 : Int32)), .unset, .unset] [(.int (0 : Int32))])) _
      refine st2 _ ?_
      show Steps p.tables e below (T2.setTop (mkF m 26 #[.val (.int p0), .val (.int (0 : Int32)), .val (.int (0 : Int32)), .unset, .unset] [(.ref b2)])) _
      refine XS.astoreN X2.here hx rfl (hb hby at_26) rfl rfl (l' := #[.val (.int p0), .val (.int (0 : Int32)), .val (.int (0 : Int32)), .val (.ref b2), .unset]) rfl ?_
      show Steps p.tables e below (T2.setTop (mkF m 27 #[.val (.int p0), .val (.int (0 : Int32)), .val (.int (0 : Int32)), .val (.ref b2), .unset] [])) _
      refine XS.aloadN X2.here hx rfl (hb hby at_27) rfl rfl ?_
      show Steps p.tables e below (T2.setTop (mkF m 28 #[.val (.int p0), .val (.int (0 : Int32)), .val (.int (0 : Int32)), .val (.ref b2), .unset] [(.ref b2)])) _
      refine XS.ifnullNo X2.here hx rfl (hb hby at_28) rfl ?_
      show Steps p.tables e below (T2.setTop (mkF m 31 #[.val (.int p0), .val (.int (0 : Int32)), .val (.int (0 : Int32)), .val (.ref b2), .unset] [])) _
      refine XS.aloadN X2.here hx rfl (hb hby at_31) rfl rfl ?_
      show Steps p.tables e below (T2.setTop (mkF m 32 #[.val (.int p0), .val (.int (0 : Int32)), .val (.int (0 : Int32)), .val (.ref b2), .unset] [(.ref b2)])) _
      obtain ⟨cl_3, Ar_3, -, S_3, N_3, -, -⟩ := id Vq2
      refine X2.arraylength hx Ar_3.1 (State.isArrayOf_alike hZ.alike Ar_3.2.1) (g := (mkF m 32 #[.val (.int p0), .val (.int (0 : Int32)), .val (.int (0 : Int32)), .val (.ref b2), .unset] [(.ref b2)])) rfl rfl (hb hby at_32) _ ?_
      rw [len_of S_3 N_3]
      show Steps p.tables e below (T2.setTop (mkF m 33 #[.val (.int p0), .val (.int (0 : Int32)), .val (.int (0 : Int32)), .val (.ref b2), .unset] [(.int (1 : Int32))])) _
      refine XS.iconst X2.here hx rfl (hb hby at_33) ?_
      show Steps p.tables e below (T2.setTop (mkF m 34 #[.val (.int p0), .val (.int (0 : Int32)), .val (.int (0 : Int32)), .val (.ref b2), .unset] [(.int (1 : Int32)), (.int (1 : Int32))])) _
      refine XS.icmpYes X2.here hx rfl (pc0 := 34) (pc' := 39) rfl (hb hby at_34) rfl (teq (by decide)).1 (by decide) (by decide) ?_
      show Steps p.tables e below (T2.setTop (mkF m 39 #[.val (.int p0), .val (.int (0 : Int32)), .val (.int (0 : Int32)), .val (.ref b2), .unset] [])) _
      refine XS.aloadN X2.here hx rfl (hb hby at_39) rfl rfl ?_
      show Steps p.tables e below (T2.setTop (mkF m 40 #[.val (.int p0), .val (.int (0 : Int32)), .val (.int (0 : Int32)), .val (.ref b2), .unset] [(.ref b2)])) _
      refine XS.iconst X2.here hx rfl (hb hby at_40) ?_
      show Steps p.tables e below (T2.setTop (mkF m 41 #[.val (.int p0), .val (.int (0 : Int32)), .val (.int (0 : Int32)), .val (.ref b2), .unset] [(.int (0 : Int32)), (.ref b2)])) _
      obtain ⟨cl_4, Ar_4, q_4, S_4, N_4, H_4, G_4⟩ := id Vq2
      have hin_4 : ¬ ((0 : Int32) < 0 ∨ cl_4.slots.size ≤ ((0 : Int32)).toNatClampNeg) := inb_of S_4 ⟨by decide, by decide⟩
      refine X2.baloadBytes hx (j := (0 : Int32)) (v := (.int (0 : Int32))) Ar_4.1 (State.isArrayOf_alike hZ.alike Ar_4.2.1) Ar_4.2.2 hin_4 (Has.at H_4 hin_4 rfl) (g := (mkF m 41 #[.val (.int p0), .val (.int (0 : Int32)), .val (.int (0 : Int32)), .val (.ref b2), .unset] [(.int (0 : Int32)), (.ref b2)])) rfl rfl (hb hby at_41) _ ?_
      show Steps p.tables e below (T2.setTop (mkF m 42 #[.val (.int p0), .val (.int (0 : Int32)), .val (.int (0 : Int32)), .val (.ref b2), .unset] [(.int (0 : Int32))])) _
      refine XS.iloadN X2.here hx rfl (hb hby at_42) rfl ?_
      show Steps p.tables e below (T2.setTop (mkF m 43 #[.val (.int p0), .val (.int (0 : Int32)), .val (.int (0 : Int32)), .val (.ref b2), .unset] [(.int (0 : Int32)), (.int (0 : Int32))])) _
      refine XS.icmpYes X2.here hx rfl (pc0 := 43) (pc' := 48) rfl (hb hby at_43) rfl (teq (by decide)).1 (by decide) (by decide) ?_
      show Steps p.tables e below (T2.setTop (mkF m 48 #[.val (.int p0), .val (.int (0 : Int32)), .val (.int (0 : Int32)), .val (.ref b2), .unset] [])) _
      refine XS.aloadN X2.here hx rfl (hb hby at_48) rfl rfl ?_
      show Steps p.tables e below (T2.setTop (mkF m 49 #[.val (.int p0), .val (.int (0 : Int32)), .val (.int (0 : Int32)), .val (.ref b2), .unset] [(.ref b2)])) _
      refine XS.iconst X2.here hx rfl (hb hby at_49) ?_
      show Steps p.tables e below (T2.setTop (mkF m 50 #[.val (.int p0), .val (.int (0 : Int32)), .val (.int (0 : Int32)), .val (.ref b2), .unset] [(.int (0 : Int32)), (.ref b2)])) _
      refine XS.iloadN X2.here hx rfl (hb hby at_50) rfl ?_
      show Steps p.tables e below (T2.setTop (mkF m 51 #[.val (.int p0), .val (.int (0 : Int32)), .val (.int (0 : Int32)), .val (.ref b2), .unset] [(.int p0), (.int (0 : Int32)), (.ref b2)])) _
      refine XS.iconst X2.here hx rfl (hb hby at_51) ?_
      show Steps p.tables e below (T2.setTop (mkF m 52 #[.val (.int p0), .val (.int (0 : Int32)), .val (.int (0 : Int32)), .val (.ref b2), .unset] [(.int (1 : Int32)), (.int p0), (.int (0 : Int32)), (.ref b2)])) _
      refine XS.ishr X2.here hx rfl (hb hby at_52) rfl ?_
      show Steps p.tables e below (T2.setTop (mkF m 53 #[.val (.int p0), .val (.int (0 : Int32)), .val (.int (0 : Int32)), .val (.ref b2), .unset] [(.int (p0 >>> ((1 : Int32) &&& 31))), (.int (0 : Int32)), (.ref b2)])) _
      refine XS.i2b X2.here hx rfl (hb hby at_53) rfl ?_
      exact k
    obtain ⟨cl_6, Ar_6, q_6, S_6, N_6, H_6, G_6⟩ := id Vq2
    have hin_6 : ¬ ((0 : Int32) < 0 ∨ cl_6.slots.size ≤ ((0 : Int32)).toNatClampNeg) := inb_of S_6 ⟨by decide, by decide⟩
    obtain ⟨T6, h6, X6, e6, W6, st6⟩ := stB X2 hx hZ rfl Ar_6 (j := (0 : Int32)) hin_6 (g := (mkF m 54 #[.val (.int p0), .val (.int (0 : Int32)), .val (.int (0 : Int32)), .val (.ref b2), .unset] [(.int ((p0 >>> ((1 : Int32) &&& 31)).toInt8.toInt32)), (.int (0 : Int32)), (.ref b2)])) rfl rfl (hb hby at_54)
    have Vn6 : Arv Z h6 b2 kq2 .byte (1 : Int32) [(.int (((p0 >>> ((1 : Int32) &&& 31)).toInt8.toInt32).toInt8.toInt32))] (.int (0 : Int32)) := Arv.set Ar_6 q_6 S_6 N_6 H_6 G_6 (fits_nar_byte _) W6 0 rfl (Nat.le_of_ble_eq_true rfl)
    replace Vq2 := Vn6
    have N6 := Fr.snoc X6 N2 gn_b2
    have Zs6 : n0 ≤ h6.size := by rw [W6.size]; exact Zs2
    obtain ⟨_, _, ⟨T7, L7, k7_, n7⟩, -, X7, ⟨Lc7, hQ7, l7, y7, z7⟩, st7⟩ := Jvm.LawKit.callS X6 hx (y := (⟨"com/example/valentia/valentia/protocol/Frames", "flag", "(Z)[B"⟩ : MethodName)) hown (mvT hZ (hw _ (List.mem_of_getElem? (i := 0) rfl))) (mvT hZ (hw _ (List.mem_of_getElem? (i := 1) rfl))) (mvT hZ (hw _ (List.mem_of_getElem? (i := 2) rfl))) (mvT hZ (hw _ (List.mem_of_getElem? (i := 3) rfl))) (by decide) (backOf (W := 0) (rm1_0 l Z a0 hw [] h6 n0 Zs6) hZ (hw _ (List.mem_of_getElem? (i := 3) rfl)) (hw _ (List.mem_of_getElem? (i := 2) rfl)) (by decide) (by decide)) (g := (mkF m 56 #[.val (.int p0), .val (.int (0 : Int32)), .val (.int (0 : Int32)), .val (.ref b2), .unset] [(.int (0 : Int32))])) rfl (by rw [hml]; rfl) (argsL := [(.int (0 : Int32))]) (rest := []) (lenOf pd_0 rfl) rfl (by show 2 * 0 + _ ≤ _; exact Nat.le_of_eq rfl) (hb hby at_56) (fun _ _ => ⟨rfl, e6, (by decide : 1 + 1 ≤ _), (by decide : 1 + 1 ≤ _)⟩)
    dsimp only [Pt.U, Pt.locs, Pt.cells, Pt.slots] at X7 l7 y7 z7 st7 hQ7
    subst l7 y7 z7
    obtain ⟨rfl, Nq7, Kq7, kq7, Vq7⟩ := hQ7
    have N7 := Fr.app N6 Nq7
    obtain ⟨b7, g7⟩ : ∃ z, z = h6.size := ⟨_, rfl⟩
    rw [← g7] at Vq7 st7
    have ne_b2_b7 : b2 ≠ b7 := Nat.ne_of_lt (Nat.lt_of_lt_of_le Vq2.lt (Nat.le_of_eq g7.symm))
    have gn_b7 : n0 ≤ b7 := Nat.le_trans Zs6 (Nat.le_of_eq g7.symm)
    have Zs7 : n0 ≤ T7.heap.size := Nat.le_trans Zs6 Kq7.1
    replace Vq2 := Vq2.keep Kq7 List.not_mem_nil
    have k10 : ∀ t, Steps p.tables e below (T7.setTop (mkF m 94 #[.val (.int p0), .val (.int (0 : Int32)), .val (.int (0 : Int32)), .val (.ref b2), .val (.ref b7)] [(.int (1 : Int32))])) t → Steps p.tables e below (s₁.setTop (entryFrame m #[(.int p0)] maxLocals)) t := by
      intro t k
      refine k5 _ ?_
      show Steps p.tables e below (T2.setTop (mkF m 54 #[.val (.int p0), .val (.int (0 : Int32)), .val (.int (0 : Int32)), .val (.ref b2), .unset] [(.int ((p0 >>> ((1 : Int32) &&& 31)).toInt8.toInt32)), (.int (0 : Int32)), (.ref b2)])) _
      refine st6 _ ?_
      show Steps p.tables e below (T6.setTop (mkF m 55 #[.val (.int p0), .val (.int (0 : Int32)), .val (.int (0 : Int32)), .val (.ref b2), .unset] [])) _
      refine XS.iloadN X6.here hx rfl (hb hby at_55) rfl ?_
      show Steps p.tables e below (T6.setTop (mkF m 56 #[.val (.int p0), .val (.int (0 : Int32)), .val (.int (0 : Int32)), .val (.ref b2), .unset] [(.int (0 : Int32))])) _
      refine st7 _ ?_
      show Steps p.tables e below (T7.setTop (mkF m 59 #[.val (.int p0), .val (.int (0 : Int32)), .val (.int (0 : Int32)), .val (.ref b2), .unset] [(.ref b7)])) _
      refine XS.astore X7.here hx rfl (hb hby at_59) rfl rfl (l' := #[.val (.int p0), .val (.int (0 : Int32)), .val (.int (0 : Int32)), .val (.ref b2), .val (.ref b7)]) rfl ?_
      show Steps p.tables e below (T7.setTop (mkF m 61 #[.val (.int p0), .val (.int (0 : Int32)), .val (.int (0 : Int32)), .val (.ref b2), .val (.ref b7)] [])) _
      refine XS.aload X7.here hx rfl (hb hby at_61) rfl rfl ?_
      show Steps p.tables e below (T7.setTop (mkF m 63 #[.val (.int p0), .val (.int (0 : Int32)), .val (.int (0 : Int32)), .val (.ref b2), .val (.ref b7)] [(.ref b7)])) _
      refine XS.ifnullNo X7.here hx rfl (hb hby at_63) rfl ?_
      show Steps p.tables e below (T7.setTop (mkF m 66 #[.val (.int p0), .val (.int (0 : Int32)), .val (.int (0 : Int32)), .val (.ref b2), .val (.ref b7)] [])) _
      refine XS.aload X7.here hx rfl (hb hby at_66) rfl rfl ?_
      show Steps p.tables e below (T7.setTop (mkF m 68 #[.val (.int p0), .val (.int (0 : Int32)), .val (.int (0 : Int32)), .val (.ref b2), .val (.ref b7)] [(.ref b7)])) _
      obtain ⟨cl_8, Ar_8, -, S_8, N_8, -, -⟩ := id Vq7
      refine X7.arraylength hx Ar_8.1 (State.isArrayOf_alike hZ.alike Ar_8.2.1) (g := (mkF m 68 #[.val (.int p0), .val (.int (0 : Int32)), .val (.int (0 : Int32)), .val (.ref b2), .val (.ref b7)] [(.ref b7)])) rfl rfl (hb hby at_68) _ ?_
      rw [len_of S_8 N_8]
      show Steps p.tables e below (T7.setTop (mkF m 69 #[.val (.int p0), .val (.int (0 : Int32)), .val (.int (0 : Int32)), .val (.ref b2), .val (.ref b7)] [(.int (1 : Int32))])) _
      refine XS.iconst X7.here hx rfl (hb hby at_69) ?_
      show Steps p.tables e below (T7.setTop (mkF m 70 #[.val (.int p0), .val (.int (0 : Int32)), .val (.int (0 : Int32)), .val (.ref b2), .val (.ref b7)] [(.int (1 : Int32)), (.int (1 : Int32))])) _
      refine XS.icmpYes X7.here hx rfl (pc0 := 70) (pc' := 75) rfl (hb hby at_70) rfl (teq (by decide)).1 (by decide) (by decide) ?_
      show Steps p.tables e below (T7.setTop (mkF m 75 #[.val (.int p0), .val (.int (0 : Int32)), .val (.int (0 : Int32)), .val (.ref b2), .val (.ref b7)] [])) _
      refine XS.aload X7.here hx rfl (hb hby at_75) rfl rfl ?_
      show Steps p.tables e below (T7.setTop (mkF m 77 #[.val (.int p0), .val (.int (0 : Int32)), .val (.int (0 : Int32)), .val (.ref b2), .val (.ref b7)] [(.ref b7)])) _
      refine XS.aloadN X7.here hx rfl (hb hby at_77) rfl rfl ?_
      show Steps p.tables e below (T7.setTop (mkF m 78 #[.val (.int p0), .val (.int (0 : Int32)), .val (.int (0 : Int32)), .val (.ref b2), .val (.ref b7)] [(.ref b2), (.ref b7)])) _
      refine Jvm.RoadKit.acmp (g := (mkF m 78 #[.val (.int p0), .val (.int (0 : Int32)), .val (.int (0 : Int32)), .val (.ref b2), .val (.ref b7)] [(.ref b2), (.ref b7)])) X7 hx rfl rfl rfl (pc0 := 78) (pc' := 81) (same := false) rfl (hb hby at_78) rfl (decide_eq_false fun q => (Ne.symm ne_b2_b7) (Value.ref.inj q)) (by decide) (by decide) ?_
      show Steps p.tables e below (T7.setTop (mkF m 81 #[.val (.int p0), .val (.int (0 : Int32)), .val (.int (0 : Int32)), .val (.ref b2), .val (.ref b7)] [])) _
      refine XS.aload X7.here hx rfl (hb hby at_81) rfl rfl ?_
      show Steps p.tables e below (T7.setTop (mkF m 83 #[.val (.int p0), .val (.int (0 : Int32)), .val (.int (0 : Int32)), .val (.ref b2), .val (.ref b7)] [(.ref b7)])) _
      refine XS.iconst X7.here hx rfl (hb hby at_83) ?_
      show Steps p.tables e below (T7.setTop (mkF m 84 #[.val (.int p0), .val (.int (0 : Int32)), .val (.int (0 : Int32)), .val (.ref b2), .val (.ref b7)] [(.int (0 : Int32)), (.ref b7)])) _
      obtain ⟨cl_9, Ar_9, q_9, S_9, N_9, H_9, G_9⟩ := id Vq7
      have hin_9 : ¬ ((0 : Int32) < 0 ∨ cl_9.slots.size ≤ ((0 : Int32)).toNatClampNeg) := inb_of S_9 ⟨by decide, by decide⟩
      refine X7.baloadBytes hx (j := (0 : Int32)) (v := (.int (0 : Int32))) Ar_9.1 (State.isArrayOf_alike hZ.alike Ar_9.2.1) Ar_9.2.2 hin_9 (Has.at H_9 hin_9 rfl) (g := (mkF m 84 #[.val (.int p0), .val (.int (0 : Int32)), .val (.int (0 : Int32)), .val (.ref b2), .val (.ref b7)] [(.int (0 : Int32)), (.ref b7)])) rfl rfl (hb hby at_84) _ ?_
      show Steps p.tables e below (T7.setTop (mkF m 85 #[.val (.int p0), .val (.int (0 : Int32)), .val (.int (0 : Int32)), .val (.ref b2), .val (.ref b7)] [(.int (0 : Int32))])) _
      refine XS.iloadN X7.here hx rfl (hb hby at_85) rfl ?_
      show Steps p.tables e below (T7.setTop (mkF m 86 #[.val (.int p0), .val (.int (0 : Int32)), .val (.int (0 : Int32)), .val (.ref b2), .val (.ref b7)] [(.int (0 : Int32)), (.int (0 : Int32))])) _
      refine XS.icmpNo X7.here hx rfl (hb hby at_86) rfl (teq (by decide)).2 ?_
      show Steps p.tables e below (T7.setTop (mkF m 89 #[.val (.int p0), .val (.int (0 : Int32)), .val (.int (0 : Int32)), .val (.ref b2), .val (.ref b7)] [])) _
      refine XS.iconst X7.here hx rfl (hb hby at_89) ?_
      show Steps p.tables e below (T7.setTop (mkF m 90 #[.val (.int p0), .val (.int (0 : Int32)), .val (.int (0 : Int32)), .val (.ref b2), .val (.ref b7)] [(.int (1 : Int32))])) _
      refine XS.goto X7.here hx rfl (pc0 := 90) (pc' := 94) rfl (hb hby at_90) (by decide) (by decide) ?_
      exact k
    obtain ⟨fs, hr, hrun, hended, hW, hsame⟩ := X7.leave (v := some (.int (1 : Int32))) (fun h => by rw [Bd.returns] at h; cases h)
    refine ⟨_, _, k10 _ ?_, hrun, hended, _, _, rfl, ?_, ⟨_, rfl⟩, hW, hsame.mono (by decide) (by decide)⟩
    · exact retN X7 hx (t := .boolean) Bd.returns (by simp) (hb hby at_94) hr
    · show own_R (some (.int 1)) n0 _ T7.heap _
      exact ⟨rfl, N7⟩
  · obtain ⟨_, _, ⟨T11, L11, k11_, n11⟩, -, X11, ⟨Lc11, hQ11, l11, y11, z11⟩, st11⟩ := Jvm.LawKit.callS X0 hx (y := (⟨"com/example/valentia/valentia/protocol/Frames", "flag", "(Z)[B"⟩ : MethodName)) hown (mvT hZ (hw _ (List.mem_of_getElem? (i := 0) rfl))) (mvT hZ (hw _ (List.mem_of_getElem? (i := 1) rfl))) (mvT hZ (hw _ (List.mem_of_getElem? (i := 2) rfl))) (mvT hZ (hw _ (List.mem_of_getElem? (i := 3) rfl))) (by decide) (backOf (W := 0) (rm1_1 l Z a0 hw [] h0 n0 Z0) hZ (hw _ (List.mem_of_getElem? (i := 3) rfl)) (hw _ (List.mem_of_getElem? (i := 2) rfl)) (by decide) (by decide)) (g := (mkF m 23 #[.val (.int p0), .val (.int (1 : Int32)), .val (.int (1 : Int32)), .unset, .unset] [(.int (1 : Int32))])) rfl (by rw [hml]; rfl) (argsL := [(.int (1 : Int32))]) (rest := []) (lenOf pd_0 rfl) rfl (by show 2 * 0 + _ ≤ _; exact Nat.le_of_eq rfl) (hb hby at_23) (fun _ _ => ⟨rfl, e0, (by decide : 0 + 1 ≤ _), (by decide : 0 + 1 ≤ _)⟩)
    dsimp only [Pt.U, Pt.locs, Pt.cells, Pt.slots] at X11 l11 y11 z11 st11 hQ11
    subst l11 y11 z11
    obtain ⟨rfl, Nq11, Kq11, kq11, Vq11⟩ := hQ11
    have N11 := Fr.app N0 Nq11
    obtain ⟨b11, g11⟩ : ∃ z, z = h0.size := ⟨_, rfl⟩
    rw [← g11] at Vq11 st11
    have gn_b11 : n0 ≤ b11 := Nat.le_trans Z0 (Nat.le_of_eq g11.symm)
    have Zs11 : n0 ≤ T11.heap.size := Nat.le_trans Z0 Kq11.1
    have k14 : ∀ t, Steps p.tables e below (T11.setTop (mkF m 54 #[.val (.int p0), .val (.int (1 : Int32)), .val (.int (1 : Int32)), .val (.ref b11), .unset] [(.int ((p0 >>> ((1 : Int32) &&& 31)).toInt8.toInt32)), (.int (0 : Int32)), (.ref b11)])) t → Steps p.tables e below (s₁.setTop (entryFrame m #[(.int p0)] maxLocals)) t := by
      intro t k
      refine k1 _ ?_
      show Steps p.tables e below (s₁.setTop (mkF m 3 #[.val (.int p0), .unset, .unset, .unset, .unset] [(.int (p0 &&& (1 : Int32)))])) _
      refine XS.ifNo X0.here hx rfl (hb hby at_3) rfl ((if0 _ _).trans (feq hc3_1).1) ?_
      show Steps p.tables e below (s₁.setTop (mkF m 6 #[.val (.int p0), .unset, .unset, .unset, .unset] [])) _
      refine XS.iconst X0.here hx rfl (hb hby at_6) ?_
      show Steps p.tables e below (s₁.setTop (mkF m 7 #[.val (.int p0), .unset, .unset, .unset, .unset] [(.int (1 : Int32))])) _
      refine XS.goto X0.here hx rfl (pc0 := 7) (pc' := 11) rfl (hb hby at_7) (by decide) (by decide) ?_
      show Steps p.tables e below (s₁.setTop (mkF m 11 #[.val (.int p0), .unset, .unset, .unset, .unset] [(.int (1 : Int32))])) _
      refine XS.istoreN X0.here hx rfl (hb hby at_11) rfl (l' := #[.val (.int p0), .val (.int (1 : Int32)), .unset, .unset, .unset]) rfl ?_
      show Steps p.tables e below (s₁.setTop (mkF m 12 #[.val (.int p0), .val (.int (1 : Int32)), .unset, .unset, .unset] [])) _
      refine XS.iloadN X0.here hx rfl (hb hby at_12) rfl ?_
      show Steps p.tables e below (s₁.setTop (mkF m 13 #[.val (.int p0), .val (.int (1 : Int32)), .unset, .unset, .unset] [(.int (1 : Int32))])) _
      refine XS.ifNo X0.here hx rfl (hb hby at_13) rfl ((if0 _ _).trans (feq (by decide)).1) ?_
      show Steps p.tables e below (s₁.setTop (mkF m 16 #[.val (.int p0), .val (.int (1 : Int32)), .unset, .unset, .unset] [])) _
      refine XS.iconst X0.here hx rfl (hb hby at_16) ?_
      show Steps p.tables e below (s₁.setTop (mkF m 17 #[.val (.int p0), .val (.int (1 : Int32)), .unset, .unset, .unset] [(.int (1 : Int32))])) _
      refine XS.goto X0.here hx rfl (pc0 := 17) (pc' := 21) rfl (hb hby at_17) (by decide) (by decide) ?_
      show Steps p.tables e below (s₁.setTop (mkF m 21 #[.val (.int p0), .val (.int (1 : Int32)), .unset, .unset, .unset] [(.int (1 : Int32))])) _
      refine XS.istoreN X0.here hx rfl (hb hby at_21) rfl (l' := #[.val (.int p0), .val (.int (1 : Int32)), .val (.int (1 : Int32)), .unset, .unset]) rfl ?_
      show Steps p.tables e below (s₁.setTop (mkF m 22 #[.val (.int p0), .val (.int (1 : Int32)), .val (.int (1 : Int32)), .unset, .unset] [])) _
      refine XS.iloadN X0.here hx rfl (hb hby at_22) rfl ?_
      show Steps p.tables e below (s₁.setTop (mkF m 23 #[.val (.int p0), .val (.int (1 : Int32)), .val (.int (1 : Int32)), .unset, .unset] [(.int (1 : Int32))])) _
      refine st11 _ ?_
      show Steps p.tables e below (T11.setTop (mkF m 26 #[.val (.int p0), .val (.int (1 : Int32)), .val (.int (1 : Int32)), .unset, .unset] [(.ref b11)])) _
      refine XS.astoreN X11.here hx rfl (hb hby at_26) rfl rfl (l' := #[.val (.int p0), .val (.int (1 : Int32)), .val (.int (1 : Int32)), .val (.ref b11), .unset]) rfl ?_
      show Steps p.tables e below (T11.setTop (mkF m 27 #[.val (.int p0), .val (.int (1 : Int32)), .val (.int (1 : Int32)), .val (.ref b11), .unset] [])) _
      refine XS.aloadN X11.here hx rfl (hb hby at_27) rfl rfl ?_
      show Steps p.tables e below (T11.setTop (mkF m 28 #[.val (.int p0), .val (.int (1 : Int32)), .val (.int (1 : Int32)), .val (.ref b11), .unset] [(.ref b11)])) _
      refine XS.ifnullNo X11.here hx rfl (hb hby at_28) rfl ?_
      show Steps p.tables e below (T11.setTop (mkF m 31 #[.val (.int p0), .val (.int (1 : Int32)), .val (.int (1 : Int32)), .val (.ref b11), .unset] [])) _
      refine XS.aloadN X11.here hx rfl (hb hby at_31) rfl rfl ?_
      show Steps p.tables e below (T11.setTop (mkF m 32 #[.val (.int p0), .val (.int (1 : Int32)), .val (.int (1 : Int32)), .val (.ref b11), .unset] [(.ref b11)])) _
      obtain ⟨cl_12, Ar_12, -, S_12, N_12, -, -⟩ := id Vq11
      refine X11.arraylength hx Ar_12.1 (State.isArrayOf_alike hZ.alike Ar_12.2.1) (g := (mkF m 32 #[.val (.int p0), .val (.int (1 : Int32)), .val (.int (1 : Int32)), .val (.ref b11), .unset] [(.ref b11)])) rfl rfl (hb hby at_32) _ ?_
      rw [len_of S_12 N_12]
      show Steps p.tables e below (T11.setTop (mkF m 33 #[.val (.int p0), .val (.int (1 : Int32)), .val (.int (1 : Int32)), .val (.ref b11), .unset] [(.int (1 : Int32))])) _
      refine XS.iconst X11.here hx rfl (hb hby at_33) ?_
      show Steps p.tables e below (T11.setTop (mkF m 34 #[.val (.int p0), .val (.int (1 : Int32)), .val (.int (1 : Int32)), .val (.ref b11), .unset] [(.int (1 : Int32)), (.int (1 : Int32))])) _
      refine XS.icmpYes X11.here hx rfl (pc0 := 34) (pc' := 39) rfl (hb hby at_34) rfl (teq (by decide)).1 (by decide) (by decide) ?_
      show Steps p.tables e below (T11.setTop (mkF m 39 #[.val (.int p0), .val (.int (1 : Int32)), .val (.int (1 : Int32)), .val (.ref b11), .unset] [])) _
      refine XS.aloadN X11.here hx rfl (hb hby at_39) rfl rfl ?_
      show Steps p.tables e below (T11.setTop (mkF m 40 #[.val (.int p0), .val (.int (1 : Int32)), .val (.int (1 : Int32)), .val (.ref b11), .unset] [(.ref b11)])) _
      refine XS.iconst X11.here hx rfl (hb hby at_40) ?_
      show Steps p.tables e below (T11.setTop (mkF m 41 #[.val (.int p0), .val (.int (1 : Int32)), .val (.int (1 : Int32)), .val (.ref b11), .unset] [(.int (0 : Int32)), (.ref b11)])) _
      obtain ⟨cl_13, Ar_13, q_13, S_13, N_13, H_13, G_13⟩ := id Vq11
      have hin_13 : ¬ ((0 : Int32) < 0 ∨ cl_13.slots.size ≤ ((0 : Int32)).toNatClampNeg) := inb_of S_13 ⟨by decide, by decide⟩
      refine X11.baloadBytes hx (j := (0 : Int32)) (v := (.int (1 : Int32))) Ar_13.1 (State.isArrayOf_alike hZ.alike Ar_13.2.1) Ar_13.2.2 hin_13 (Has.at H_13 hin_13 rfl) (g := (mkF m 41 #[.val (.int p0), .val (.int (1 : Int32)), .val (.int (1 : Int32)), .val (.ref b11), .unset] [(.int (0 : Int32)), (.ref b11)])) rfl rfl (hb hby at_41) _ ?_
      show Steps p.tables e below (T11.setTop (mkF m 42 #[.val (.int p0), .val (.int (1 : Int32)), .val (.int (1 : Int32)), .val (.ref b11), .unset] [(.int (1 : Int32))])) _
      refine XS.iloadN X11.here hx rfl (hb hby at_42) rfl ?_
      show Steps p.tables e below (T11.setTop (mkF m 43 #[.val (.int p0), .val (.int (1 : Int32)), .val (.int (1 : Int32)), .val (.ref b11), .unset] [(.int (1 : Int32)), (.int (1 : Int32))])) _
      refine XS.icmpYes X11.here hx rfl (pc0 := 43) (pc' := 48) rfl (hb hby at_43) rfl (teq (by decide)).1 (by decide) (by decide) ?_
      show Steps p.tables e below (T11.setTop (mkF m 48 #[.val (.int p0), .val (.int (1 : Int32)), .val (.int (1 : Int32)), .val (.ref b11), .unset] [])) _
      refine XS.aloadN X11.here hx rfl (hb hby at_48) rfl rfl ?_
      show Steps p.tables e below (T11.setTop (mkF m 49 #[.val (.int p0), .val (.int (1 : Int32)), .val (.int (1 : Int32)), .val (.ref b11), .unset] [(.ref b11)])) _
      refine XS.iconst X11.here hx rfl (hb hby at_49) ?_
      show Steps p.tables e below (T11.setTop (mkF m 50 #[.val (.int p0), .val (.int (1 : Int32)), .val (.int (1 : Int32)), .val (.ref b11), .unset] [(.int (0 : Int32)), (.ref b11)])) _
      refine XS.iloadN X11.here hx rfl (hb hby at_50) rfl ?_
      show Steps p.tables e below (T11.setTop (mkF m 51 #[.val (.int p0), .val (.int (1 : Int32)), .val (.int (1 : Int32)), .val (.ref b11), .unset] [(.int p0), (.int (0 : Int32)), (.ref b11)])) _
      refine XS.iconst X11.here hx rfl (hb hby at_51) ?_
      show Steps p.tables e below (T11.setTop (mkF m 52 #[.val (.int p0), .val (.int (1 : Int32)), .val (.int (1 : Int32)), .val (.ref b11), .unset] [(.int (1 : Int32)), (.int p0), (.int (0 : Int32)), (.ref b11)])) _
      refine XS.ishr X11.here hx rfl (hb hby at_52) rfl ?_
      show Steps p.tables e below (T11.setTop (mkF m 53 #[.val (.int p0), .val (.int (1 : Int32)), .val (.int (1 : Int32)), .val (.ref b11), .unset] [(.int (p0 >>> ((1 : Int32) &&& 31))), (.int (0 : Int32)), (.ref b11)])) _
      refine XS.i2b X11.here hx rfl (hb hby at_53) rfl ?_
      exact k
    obtain ⟨cl_15, Ar_15, q_15, S_15, N_15, H_15, G_15⟩ := id Vq11
    have hin_15 : ¬ ((0 : Int32) < 0 ∨ cl_15.slots.size ≤ ((0 : Int32)).toNatClampNeg) := inb_of S_15 ⟨by decide, by decide⟩
    obtain ⟨T15, h15, X15, e15, W15, st15⟩ := stB X11 hx hZ rfl Ar_15 (j := (0 : Int32)) hin_15 (g := (mkF m 54 #[.val (.int p0), .val (.int (1 : Int32)), .val (.int (1 : Int32)), .val (.ref b11), .unset] [(.int ((p0 >>> ((1 : Int32) &&& 31)).toInt8.toInt32)), (.int (0 : Int32)), (.ref b11)])) rfl rfl (hb hby at_54)
    have Vn15 : Arv Z h15 b11 kq11 .byte (1 : Int32) [(.int (((p0 >>> ((1 : Int32) &&& 31)).toInt8.toInt32).toInt8.toInt32))] (.int (0 : Int32)) := Arv.set Ar_15 q_15 S_15 N_15 H_15 G_15 (fits_nar_byte _) W15 0 rfl (Nat.le_of_ble_eq_true rfl)
    replace Vq11 := Vn15
    have N15 := Fr.snoc X15 N11 gn_b11
    have Zs15 : n0 ≤ h15.size := by rw [W15.size]; exact Zs11
    obtain ⟨_, _, ⟨T16, L16, k16_, n16⟩, -, X16, ⟨Lc16, hQ16, l16, y16, z16⟩, st16⟩ := Jvm.LawKit.callS X15 hx (y := (⟨"com/example/valentia/valentia/protocol/Frames", "flag", "(Z)[B"⟩ : MethodName)) hown (mvT hZ (hw _ (List.mem_of_getElem? (i := 0) rfl))) (mvT hZ (hw _ (List.mem_of_getElem? (i := 1) rfl))) (mvT hZ (hw _ (List.mem_of_getElem? (i := 2) rfl))) (mvT hZ (hw _ (List.mem_of_getElem? (i := 3) rfl))) (by decide) (backOf (W := 0) (rm1_1 l Z a0 hw [] h15 n0 Zs15) hZ (hw _ (List.mem_of_getElem? (i := 3) rfl)) (hw _ (List.mem_of_getElem? (i := 2) rfl)) (by decide) (by decide)) (g := (mkF m 56 #[.val (.int p0), .val (.int (1 : Int32)), .val (.int (1 : Int32)), .val (.ref b11), .unset] [(.int (1 : Int32))])) rfl (by rw [hml]; rfl) (argsL := [(.int (1 : Int32))]) (rest := []) (lenOf pd_0 rfl) rfl (by show 2 * 0 + _ ≤ _; exact Nat.le_of_eq rfl) (hb hby at_56) (fun _ _ => ⟨rfl, e15, (by decide : 1 + 1 ≤ _), (by decide : 1 + 1 ≤ _)⟩)
    dsimp only [Pt.U, Pt.locs, Pt.cells, Pt.slots] at X16 l16 y16 z16 st16 hQ16
    subst l16 y16 z16
    obtain ⟨rfl, Nq16, Kq16, kq16, Vq16⟩ := hQ16
    have N16 := Fr.app N15 Nq16
    obtain ⟨b16, g16⟩ : ∃ z, z = h15.size := ⟨_, rfl⟩
    rw [← g16] at Vq16 st16
    have ne_b11_b16 : b11 ≠ b16 := Nat.ne_of_lt (Nat.lt_of_lt_of_le Vq11.lt (Nat.le_of_eq g16.symm))
    have gn_b16 : n0 ≤ b16 := Nat.le_trans Zs15 (Nat.le_of_eq g16.symm)
    have Zs16 : n0 ≤ T16.heap.size := Nat.le_trans Zs15 Kq16.1
    replace Vq11 := Vq11.keep Kq16 List.not_mem_nil
    have k19 : ∀ t, Steps p.tables e below (T16.setTop (mkF m 94 #[.val (.int p0), .val (.int (1 : Int32)), .val (.int (1 : Int32)), .val (.ref b11), .val (.ref b16)] [(.int (1 : Int32))])) t → Steps p.tables e below (s₁.setTop (entryFrame m #[(.int p0)] maxLocals)) t := by
      intro t k
      refine k14 _ ?_
      show Steps p.tables e below (T11.setTop (mkF m 54 #[.val (.int p0), .val (.int (1 : Int32)), .val (.int (1 : Int32)), .val (.ref b11), .unset] [(.int ((p0 >>> ((1 : Int32) &&& 31)).toInt8.toInt32)), (.int (0 : Int32)), (.ref b11)])) _
      refine st15 _ ?_
      show Steps p.tables e below (T15.setTop (mkF m 55 #[.val (.int p0), .val (.int (1 : Int32)), .val (.int (1 : Int32)), .val (.ref b11), .unset] [])) _
      refine XS.iloadN X15.here hx rfl (hb hby at_55) rfl ?_
      show Steps p.tables e below (T15.setTop (mkF m 56 #[.val (.int p0), .val (.int (1 : Int32)), .val (.int (1 : Int32)), .val (.ref b11), .unset] [(.int (1 : Int32))])) _
      refine st16 _ ?_
      show Steps p.tables e below (T16.setTop (mkF m 59 #[.val (.int p0), .val (.int (1 : Int32)), .val (.int (1 : Int32)), .val (.ref b11), .unset] [(.ref b16)])) _
      refine XS.astore X16.here hx rfl (hb hby at_59) rfl rfl (l' := #[.val (.int p0), .val (.int (1 : Int32)), .val (.int (1 : Int32)), .val (.ref b11), .val (.ref b16)]) rfl ?_
      show Steps p.tables e below (T16.setTop (mkF m 61 #[.val (.int p0), .val (.int (1 : Int32)), .val (.int (1 : Int32)), .val (.ref b11), .val (.ref b16)] [])) _
      refine XS.aload X16.here hx rfl (hb hby at_61) rfl rfl ?_
      show Steps p.tables e below (T16.setTop (mkF m 63 #[.val (.int p0), .val (.int (1 : Int32)), .val (.int (1 : Int32)), .val (.ref b11), .val (.ref b16)] [(.ref b16)])) _
      refine XS.ifnullNo X16.here hx rfl (hb hby at_63) rfl ?_
      show Steps p.tables e below (T16.setTop (mkF m 66 #[.val (.int p0), .val (.int (1 : Int32)), .val (.int (1 : Int32)), .val (.ref b11), .val (.ref b16)] [])) _
      refine XS.aload X16.here hx rfl (hb hby at_66) rfl rfl ?_
      show Steps p.tables e below (T16.setTop (mkF m 68 #[.val (.int p0), .val (.int (1 : Int32)), .val (.int (1 : Int32)), .val (.ref b11), .val (.ref b16)] [(.ref b16)])) _
      obtain ⟨cl_17, Ar_17, -, S_17, N_17, -, -⟩ := id Vq16
      refine X16.arraylength hx Ar_17.1 (State.isArrayOf_alike hZ.alike Ar_17.2.1) (g := (mkF m 68 #[.val (.int p0), .val (.int (1 : Int32)), .val (.int (1 : Int32)), .val (.ref b11), .val (.ref b16)] [(.ref b16)])) rfl rfl (hb hby at_68) _ ?_
      rw [len_of S_17 N_17]
      show Steps p.tables e below (T16.setTop (mkF m 69 #[.val (.int p0), .val (.int (1 : Int32)), .val (.int (1 : Int32)), .val (.ref b11), .val (.ref b16)] [(.int (1 : Int32))])) _
      refine XS.iconst X16.here hx rfl (hb hby at_69) ?_
      show Steps p.tables e below (T16.setTop (mkF m 70 #[.val (.int p0), .val (.int (1 : Int32)), .val (.int (1 : Int32)), .val (.ref b11), .val (.ref b16)] [(.int (1 : Int32)), (.int (1 : Int32))])) _
      refine XS.icmpYes X16.here hx rfl (pc0 := 70) (pc' := 75) rfl (hb hby at_70) rfl (teq (by decide)).1 (by decide) (by decide) ?_
      show Steps p.tables e below (T16.setTop (mkF m 75 #[.val (.int p0), .val (.int (1 : Int32)), .val (.int (1 : Int32)), .val (.ref b11), .val (.ref b16)] [])) _
      refine XS.aload X16.here hx rfl (hb hby at_75) rfl rfl ?_
      show Steps p.tables e below (T16.setTop (mkF m 77 #[.val (.int p0), .val (.int (1 : Int32)), .val (.int (1 : Int32)), .val (.ref b11), .val (.ref b16)] [(.ref b16)])) _
      refine XS.aloadN X16.here hx rfl (hb hby at_77) rfl rfl ?_
      show Steps p.tables e below (T16.setTop (mkF m 78 #[.val (.int p0), .val (.int (1 : Int32)), .val (.int (1 : Int32)), .val (.ref b11), .val (.ref b16)] [(.ref b11), (.ref b16)])) _
      refine Jvm.RoadKit.acmp (g := (mkF m 78 #[.val (.int p0), .val (.int (1 : Int32)), .val (.int (1 : Int32)), .val (.ref b11), .val (.ref b16)] [(.ref b11), (.ref b16)])) X16 hx rfl rfl rfl (pc0 := 78) (pc' := 81) (same := false) rfl (hb hby at_78) rfl (decide_eq_false fun q => (Ne.symm ne_b11_b16) (Value.ref.inj q)) (by decide) (by decide) ?_
      show Steps p.tables e below (T16.setTop (mkF m 81 #[.val (.int p0), .val (.int (1 : Int32)), .val (.int (1 : Int32)), .val (.ref b11), .val (.ref b16)] [])) _
      refine XS.aload X16.here hx rfl (hb hby at_81) rfl rfl ?_
      show Steps p.tables e below (T16.setTop (mkF m 83 #[.val (.int p0), .val (.int (1 : Int32)), .val (.int (1 : Int32)), .val (.ref b11), .val (.ref b16)] [(.ref b16)])) _
      refine XS.iconst X16.here hx rfl (hb hby at_83) ?_
      show Steps p.tables e below (T16.setTop (mkF m 84 #[.val (.int p0), .val (.int (1 : Int32)), .val (.int (1 : Int32)), .val (.ref b11), .val (.ref b16)] [(.int (0 : Int32)), (.ref b16)])) _
      obtain ⟨cl_18, Ar_18, q_18, S_18, N_18, H_18, G_18⟩ := id Vq16
      have hin_18 : ¬ ((0 : Int32) < 0 ∨ cl_18.slots.size ≤ ((0 : Int32)).toNatClampNeg) := inb_of S_18 ⟨by decide, by decide⟩
      refine X16.baloadBytes hx (j := (0 : Int32)) (v := (.int (1 : Int32))) Ar_18.1 (State.isArrayOf_alike hZ.alike Ar_18.2.1) Ar_18.2.2 hin_18 (Has.at H_18 hin_18 rfl) (g := (mkF m 84 #[.val (.int p0), .val (.int (1 : Int32)), .val (.int (1 : Int32)), .val (.ref b11), .val (.ref b16)] [(.int (0 : Int32)), (.ref b16)])) rfl rfl (hb hby at_84) _ ?_
      show Steps p.tables e below (T16.setTop (mkF m 85 #[.val (.int p0), .val (.int (1 : Int32)), .val (.int (1 : Int32)), .val (.ref b11), .val (.ref b16)] [(.int (1 : Int32))])) _
      refine XS.iloadN X16.here hx rfl (hb hby at_85) rfl ?_
      show Steps p.tables e below (T16.setTop (mkF m 86 #[.val (.int p0), .val (.int (1 : Int32)), .val (.int (1 : Int32)), .val (.ref b11), .val (.ref b16)] [(.int (1 : Int32)), (.int (1 : Int32))])) _
      refine XS.icmpNo X16.here hx rfl (hb hby at_86) rfl (teq (by decide)).2 ?_
      show Steps p.tables e below (T16.setTop (mkF m 89 #[.val (.int p0), .val (.int (1 : Int32)), .val (.int (1 : Int32)), .val (.ref b11), .val (.ref b16)] [])) _
      refine XS.iconst X16.here hx rfl (hb hby at_89) ?_
      show Steps p.tables e below (T16.setTop (mkF m 90 #[.val (.int p0), .val (.int (1 : Int32)), .val (.int (1 : Int32)), .val (.ref b11), .val (.ref b16)] [(.int (1 : Int32))])) _
      refine XS.goto X16.here hx rfl (pc0 := 90) (pc' := 94) rfl (hb hby at_90) (by decide) (by decide) ?_
      exact k
    obtain ⟨fs, hr, hrun, hended, hW, hsame⟩ := X16.leave (v := some (.int (1 : Int32))) (fun h => by rw [Bd.returns] at h; cases h)
    refine ⟨_, _, k19 _ ?_, hrun, hended, _, _, rfl, ?_, ⟨_, rfl⟩, hW, hsame.mono (by decide) (by decide)⟩
    · exact retN X16 hx (t := .boolean) Bd.returns (by simp) (hb hby at_94) hr
    · show own_R (some (.int 1)) n0 _ T16.heap _
      exact ⟨rfl, N16⟩
set_option maxRecDepth 65536 in
set_option maxHeartbeats 40000000 in
theorem comes_1 {Post : Tables → Env → Array Value → State → Outcome → State → Prop} (hpost : ∀ tb e args s v u, (limb_1_1.after args s (.returned v) u = true ∧ limb_1_2.after args s (.returned v) u = true ∧ True) → FrameEnd s (.returned v) u (Jvm.fieldLocs frame_1_writes args s ++ Jvm.arrayLocs frame_1_arrays args s ++ Jvm.staticLocs frame_1_statics s) 16 128 → Post tb e args s (.returned v) u) :
    ArmFor flags0 classFile x code maxLocals ret World_1 tables_1 room_1 Calls_1 rest_1 Pre_1 Post := by
  intro l hfl _ _ p e ha hc hk s m args below hf hA hF happ hP
  obtain ⟨hcalls, hrest, hpre⟩ := hP
  obtain ⟨-, -, -, hnamed, -, -, -, hat⟩ := (Spec.applies_iff hf).mp happ
  obtain ⟨hg, hn⟩ := and_e (Cond.before_iff.mp (show (Jvm.Cond.and given_1 narrow_1).before args s = true from hpre))
  obtain ⟨g0a, g0b⟩ := and_e hg
  obtain ⟨w0, rfl⟩ : ∃ w0 : Value, args = #[w0] := by
    have hs : args.size = 1 := by simpa [Cond.value, given_1] using g0a
    obtain ⟨L⟩ := args
    match L, hs with
    | [w0], _ => exact ⟨w0, rfl⟩
  have hw := fun d (hd : d ∈ tables_1) => atoms_spec (ws := Jvm.Cond.code x code maxLocals ret :: tables_1) hat d (List.mem_cons_of_mem _ hd)
  have hfit : Fit s := fun {y c} hc i hi => by
    obtain ⟨ha, rfl⟩ := Array.getElem?_eq_some_iff.mp hc
    have q := List.all_eq_true.mp ((Array.all_eq_true_iff_forall_mem.mp hF) _ (Array.getElem_mem ha)) i (List.mem_range.mpr hi)
    simpa [Array.getElem?_eq_getElem hi] using q
  obtain ⟨i0, ei0⟩ := is_v g0b
  obtain rfl : w0 = (.int i0) := Option.some.inj ei0
  obtain ⟨n, o, h1, h2, h3, _, L, rfl, ⟨rfl, N⟩, hq⟩ := rm0 l s _ hw tables_1 i0 s.heap s.heap.size (Nat.le_refl _) p e ha hc hk s m _ below hf ((Spec.applies_iff_loose hf).mp happ).1 ⟨rfl, State.Warmed39.refl s, rfl⟩ trivial
  refine ⟨n, _, h1, h2, h3, hpost _ _ _ _ _ _ ⟨Cond.after_iff.mpr rfl, Cond.after_iff.mpr (eq_i res_at (Term.int_eval (1)) rfl), trivial⟩ ⟨hq.1, hq.2.1, (hq.2.2.sift fun y hy => Or.inr (N y hy)).mono (by decide) (by decide)⟩⟩
theorem main_1_1 : Claimed_1_1 := comes_1 fun _ _ _ _ _ _ h hF => ⟨h.1, hF⟩
theorem main_1_2 : Claimed_1_2 := comes_1 fun _ _ _ _ _ _ h hF => ⟨h.2.1, hF⟩
end Jvm.Pilot.@@N@@
namespace Jvm.Pilot.@@N@@
open Jvm Jvm.ClassFile Sem Op Lib Jvm.Free Jvm.Stand Jvm.Pilot.@@N@@.Jvm.D
/-! MADE BY PROGRAM (witnessworld.py) out of the Statement's table words and the real class files: 9 classes; the members and pool entries that the words name. The judged class is class 1, her method 1. -/
namespace start1
open Jvm.ClassFile
def u (s : String) : CpInfo := .utf8 (stringToUtf16 s)
/-- a pool by its gaps: so many unusable entries, then the entry; so many at the end -/
def gap : Nat → List CpInfo → List CpInfo
  | 0, r => r
  | n + 1, r => .unusable :: gap n r
def poolList (es : List (Nat × CpInfo)) (last : Nat) : List CpInfo := es.foldr (fun e r => gap e.1 (e.2 :: r)) (gap last [])
def pool (es : List (Nat × CpInfo)) (last : Nat) : Array CpInfo := ⟨poolList es last⟩
def fileOf (pool : Array CpInfo) (this : Nat) (attrs : Array Attribute := #[]) (ms : Array MethodInfo := #[]) (fl : Nat := 33) (sup : Nat := 0) (ifs : Array Nat := #[]) (fds : Array FieldInfo := #[]) : ClassFile where
  minorVersion := 0
  majorVersion := 65
  constantPool := pool
  accessFlags := fl
  thisClass := this
  superClass := sup
  interfaces := ifs
  fields := fds
  methods := ms
  attributes := attrs
def plain (name : String) (sup : Option ClassId) : Class where
  name := name
  kind := .ordinary
  loader := none
  accessFlags := 33
  super := sup
  interfaces := #[]
  cf := none
  fields := #[]
  methods := #[]
  instanceTypes := #[]
  staticTypes := #[]
  resolved := #[]
  callSites := []
  init := .initialized
  statics := none
  mirror := none

def pool0 : Array CpInfo := pool [(5, u "<init>"), (0, u "()V"), (1, .class_ 10), (1, u "java/lang/Object")] 113

def k0m0 : Method := { name := "<init>", desc := "()V", sig := { parameters := [], returnType := none }, accessFlags := 1, code := none }
/-- java/lang/Object -/
def k0 : Class := { plain "java/lang/Object" none with
  accessFlags := 33
  interfaces := #[]
  cf := some (fileOf pool0 8 #[] #[{ accessFlags := 1, nameIndex := 5, descriptorIndex := 6, attributes := #[] }] 33 0 #[] #[])
  fields := #[]
  methods := #[k0m0]
  instanceTypes := #[]
  staticTypes := #[]
  resolved := Array.replicate 124 none
  statics := none }

def pool1 : Array CpInfo := pool [(2, .class_ 4), (1, u "java/lang/Object"), (0, u "<init>"), (0, u "()V"), (0, .methodref 8 9), (0, .class_ 10), (0, .nameAndType 11 12), (0, u "com/example/valentia/valentia/protocol/Frames"), (0, u "flag"), (0, u "(Z)[B"), (0, .class_ 14), (0, u "com/example/valentia/valentia/protocol/FramesFlagPinLaw"), (2, u "law"), (0, u "(I)Z")] 5

def k1m0 : Method := { name := "<init>", desc := "()V", sig := { parameters := [], returnType := none }, accessFlags := 2, code := none }
def k1c1 : Code := { maxStack := 4, maxLocals := 5, code := code, exceptionTable := #[], attributes := #[] }
def k1m1 : Method := { name := "law", desc := "(I)Z", sig := { parameters := [.int], returnType := some .boolean }, accessFlags := 9, code := some k1c1 }
/-- com/example/valentia/valentia/protocol/FramesFlagPinLaw -/
def k1 : Class := { plain "com/example/valentia/valentia/protocol/FramesFlagPinLaw" (some 0) with
  accessFlags := 49
  interfaces := #[]
  cf := some (fileOf pool1 13 #[] #[{ accessFlags := 2, nameIndex := 5, descriptorIndex := 6, attributes := #[] }, { accessFlags := 9, nameIndex := 17, descriptorIndex := 18, attributes := #[] }] 49 2 #[] #[])
  fields := #[]
  methods := #[k1m0, k1m1]
  instanceTypes := #[]
  staticTypes := #[]
  resolved := Array.replicate 24 none
  statics := none }

def pool2 : Array CpInfo := pool [(4, .class_ 6), (1, u "java/lang/Object"), (0, u "<init>"), (0, u "()V"), (16, .class_ 27), (1, u "com/example/valentia/valentia/protocol/Frames"), (144, u "[B"), (38, u "EMPTY"), (0, u "SIGNATURE"), (0, u "Ljava/lang/String;"), (3, u "PEER_SIGNATURE"), (2, u "UUID_BYTES"), (0, u "I"), (12, u "flag"), (0, u "(Z)[B")] 46

def k2m0 : Method := { name := "<init>", desc := "()V", sig := { parameters := [], returnType := none }, accessFlags := 2, code := none }
def k2c1 : Code := { maxStack := 4, maxLocals := 1, code := prog_18_method_17_code, exceptionTable := #[], attributes := #[] }
def k2m1 : Method := { name := "flag", desc := "(Z)[B", sig := { parameters := [.boolean], returnType := some (.array .byte) }, accessFlags := 8, code := some k2c1 }
/-- com/example/valentia/valentia/protocol/Frames -/
def k2 : Class := { plain "com/example/valentia/valentia/protocol/Frames" (some 0) with
  accessFlags := 48
  interfaces := #[]
  cf := some (fileOf pool2 25 #[] #[{ accessFlags := 2, nameIndex := 7, descriptorIndex := 8, attributes := #[] }, { accessFlags := 8, nameIndex := 234, descriptorIndex := 235, attributes := #[] }] 48 4 #[] #[{ accessFlags := 24, nameIndex := 212, descriptorIndex := 213, attributes := #[] }, { accessFlags := 24, nameIndex := 217, descriptorIndex := 213, attributes := #[] }, { accessFlags := 24, nameIndex := 211, descriptorIndex := 172, attributes := #[] }, { accessFlags := 26, nameIndex := 220, descriptorIndex := 221, attributes := #[] }])
  fields := #[{ name := "SIGNATURE", type := (.object "java/lang/String"), accessFlags := 24, slot := 0, constantValue := 0 }, { name := "PEER_SIGNATURE", type := (.object "java/lang/String"), accessFlags := 24, slot := 1, constantValue := 0 }, { name := "EMPTY", type := (.array .byte), accessFlags := 24, slot := 2, constantValue := 0 }, { name := "UUID_BYTES", type := .int, accessFlags := 26, slot := 3, constantValue := 0 }]
  methods := #[k2m0, k2m1]
  instanceTypes := #[]
  staticTypes := #[(.object "java/lang/String"), (.object "java/lang/String"), (.array .byte), .int]
  resolved := Array.replicate 282 none
  statics := none }

def pool3 : Array CpInfo := pool [(1, u "java/lang/Cloneable"), (0, .class_ 1), (0, u "java/lang/Object"), (0, .class_ 3)] 3

/-- java/lang/Cloneable -/
def k3 : Class := { plain "java/lang/Cloneable" (some 0) with
  accessFlags := 1537
  interfaces := #[]
  cf := some (fileOf pool3 2 #[] #[] 1537 4 #[] #[])
  fields := #[]
  methods := #[]
  instanceTypes := #[]
  staticTypes := #[]
  resolved := Array.replicate 8 none
  statics := none }

def pool4 : Array CpInfo := pool [(1, u "java/io/Serializable"), (0, .class_ 1), (0, u "java/lang/Object"), (0, .class_ 3)] 3

/-- java/io/Serializable -/
def k4 : Class := { plain "java/io/Serializable" (some 0) with
  accessFlags := 1537
  interfaces := #[]
  cf := some (fileOf pool4 2 #[] #[] 1537 4 #[] #[])
  fields := #[]
  methods := #[]
  instanceTypes := #[]
  staticTypes := #[]
  resolved := Array.replicate 8 none
  statics := none }

/-- the primitive byte -/
def k5 : Class := { plain "byte" none with kind := .primitive 'B', accessFlags := 0x411 }
/-- [B -/
def k6 : Class := { plain "[B" (some 0) with kind := .array 5 .byte, interfaces := #[3, 4], accessFlags := 1041 }

/-- the primitive int -/
def k7 : Class := { plain "int" none with kind := .primitive 'I', accessFlags := 0x411 }
/-- [I -/
def k8 : Class := { plain "[I" (some 0) with kind := .array 7 .int, interfaces := #[3, 4], accessFlags := 1041 }

def heap : Heap := #[]
def classes : Array Class := #[k0, k1, k2, k3, k4, k5, k6, k7, k8]
def interned : List (Array UInt16 × Addr) := []
def slotsUsed : Nat := 0
def theMethod : MethodId := ⟨1, 1⟩
def args0 : Array Value := #[.int 5]
def aboutOver (below : List Frame) : State where
  vm := { classes := classes, interned := interned.toArray }
  heap := heap
  slotsUsed := slotsUsed
  threads := #[{ frames := .invoking theMethod args0 :: below }]
def below0 : List Frame := [.native { method := ⟨0, 0⟩, args := #[] }]
def about1 : State := aboutOver below0
def p0 : Program := .bare "" "" ""
def e0 : Env := launch0.env 0 0 0
theorem w_frames : about1.frames = Frame.invoking theMethod args0 :: below0 := rfl
set_option maxRecDepth 65536 in
theorem w_args : argsFit about1.vm theMethod args0 = true := by decide +kernel
set_option maxRecDepth 65536 in
theorem w_heap : heapFits about1 = true := by decide +kernel
set_option maxRecDepth 65536 in
theorem w_runnable : about1.curStatus? = some .runnable := by decide +kernel
set_option maxRecDepth 65536 in
theorem w_alone : about1.alone = true := by decide +kernel
set_option maxRecDepth 65536 in
theorem w_named : about1.methodNamed? x = some theMethod := by decide +kernel
set_option maxRecDepth 65536 in
theorem w_hears : about1.hears theMethod below0 = true := by decide +kernel
set_option maxRecDepth 65536 in
theorem w_ripe : about1.ripe theMethod args0 below0 = true := by decide +kernel
theorem w_running : about1.status = .running := rfl
set_option maxRecDepth 65536 in
theorem w_room : about1.hasRoom e0.platform room_1 = true :=
  launch0.hasRoom_least _ room_1 (by decide +kernel) (by decide +kernel) (by decide +kernel) (by decide +kernel) (by decide +kernel) (by decide +kernel)
theorem allAtoms_all (ts : List Jvm.Cond) (a : Array Jvm.Value) (st : Jvm.State) : (allAtoms ts).before a st = ts.all (fun c => c.before a st) := by
  induction ts with
  | nil => rfl
  | cons c t ih =>
    show (Jvm.Cond.and c (allAtoms t)).before a st = _
    rw [Jvm.Cond.before_and, ih, List.all_cons]
def words1 : List Jvm.Cond := Jvm.Cond.code x code maxLocals ret :: tables_1
/-- a 'code' word, met by the world's own term for the bytes: nothing is compared byte by byte -/
theorem code_word {y : MethodName} {bytes : ByteArray} {mx : Nat} {rt : Option FieldType} {a : Array Value} {s : State} {m : MethodId} {meth : Method} {c : Code} (h1 : s.methodNamed? y = some m) (h2 : s.vm.method? m = some meth) (h3 : meth.code = some c) (h4 : c.code = bytes)
    (h5 : (c.maxLocals == mx && c.exceptionTable.isEmpty && decide (c.maxStack ≤ mostOperands) && decide (meth.sig.returnType = rt) && !meth.locks && decide (parseMethodDescriptor y.desc = some meth.sig)) = true) : (Jvm.Cond.code y bytes mx rt).before a s = true := by
  simp only [Bool.and_eq_true, beq_iff_eq, Bool.not_eq_true', decide_eq_true_eq] at h5
  obtain ⟨⟨⟨⟨⟨g1, g2⟩, g3⟩, g4⟩, g5⟩, g6⟩ := h5
  simp [Cond.before, Cond.holds, Cond.value, h1, h2, h3, h4, g1, g2, g3, g4, g5, g6]
def isCode : Jvm.Cond → Bool
  | .code _ _ _ _ => true
  | _ => false
theorem all_split {L : List Jvm.Cond} {P : Jvm.Cond → Bool} (h1 : L.all (fun c => isCode c || P c) = true) (h2 : ∀ c ∈ L.filter isCode, P c = true) : L.all P = true := by
  refine List.all_eq_true.mpr fun c hc => ?_
  have h := List.all_eq_true.mp h1 c hc
  rcases Bool.eq_false_or_eq_true (isCode c) with hi | hi
  · exact h2 c (List.mem_filter.mpr ⟨hc, hi⟩)
  · simpa [hi] using h
set_option maxRecDepth 65536 in
theorem w_c0 : (Jvm.Cond.code x code maxLocals ret).before args0 about1 = true := code_word (m := ⟨1, 1⟩) (meth := k1m1) (c := k1c1) (by decide +kernel) rfl rfl rfl (by decide +kernel)
set_option maxRecDepth 65536 in
theorem w_c1 : (Jvm.Cond.code ({ cls := "com/example/valentia/valentia/protocol/Frames", name := "flag", desc := "(Z)[B" } : Jvm.MethodName) prog_18_method_17_code (1 : Nat) (Option.some (Jvm.ClassFile.FieldType.array Jvm.ClassFile.FieldType.byte))).before args0 about1 = true := code_word (m := ⟨2, 1⟩) (meth := k2m1) (c := k2c1) (by decide +kernel) rfl rfl rfl (by decide +kernel)
def codes1 : List Jvm.Cond := [Jvm.Cond.code x code maxLocals ret, Jvm.Cond.code ({ cls := "com/example/valentia/valentia/protocol/Frames", name := "flag", desc := "(Z)[B" } : Jvm.MethodName) prog_18_method_17_code (1 : Nat) (Option.some (Jvm.ClassFile.FieldType.array Jvm.ClassFile.FieldType.byte))]
set_option maxRecDepth 65536 in
theorem codes_eq : words1.filter isCode = codes1 := rfl
theorem w_codes : ∀ c ∈ words1.filter isCode, c.before args0 about1 = true := by
  rw [codes_eq]
  intro c hc
  simp only [codes1, List.mem_cons, List.not_mem_nil, or_false] at hc
  rcases hc with rfl | rfl
  · exact w_c0
  · exact w_c1
set_option maxRecDepth 65536 in
theorem w_t1 : words1.all (fun c => isCode c || c.before args0 about1) = true := by decide +kernel
theorem w_tables : (allAtoms (Jvm.Cond.code x code maxLocals ret :: tables_1)).before args0 about1 = true := by
  rw [allAtoms_all]
  show words1.all (fun c => c.before args0 about1) = true
  refine all_split ?_ w_codes
  rw [w_t1]
set_option maxRecDepth 65536 in
theorem w_case : (Jvm.Cond.and given_1 narrow_1).before args0 about1 = true := by decide +kernel
theorem w_applies : (headSpec (Jvm.Cond.code x code maxLocals ret :: tables_1) room_1).applies x e0.platform about1 = true :=
  (Spec.applies_iff w_frames).mpr ⟨w_running, w_runnable, w_alone, w_named, w_hears, w_ripe, w_room, w_tables⟩
theorem atStart : AtStart classFile x code maxLocals ret World_1 tables_1 room_1 Calls_1 rest_1 Pre_1 launch0 p0 e0 about1 theMethod args0 below0 :=
  ⟨lists_1, trivial, launch0.admits_env _ _ _, launch0.least_env, fairChoices_fair.cas, fairChoices_fair.clock, w_frames, w_args, w_heap, w_applies, trivial, trivial, w_case⟩
end start1
theorem witness_1 : WitnessClaimed_1 := ⟨start1.p0, start1.e0, start1.about1, start1.theMethod, start1.args0, start1.below0, start1.atStart⟩
end Jvm.Pilot.@@N@@
