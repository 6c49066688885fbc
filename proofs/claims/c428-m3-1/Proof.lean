import JvmDerived
import JvmDerived.Pilot.@@N@@Statement
import JvmDerived.Pilot.@@N@@Code
set_option linter.unusedVariables false
set_option linter.unusedSimpArgs false
namespace Jvm.Pilot.@@N@@
open Jvm Jvm.ClassFile Sem Op Lib Jvm.Free Jvm.Stand Jvm.LawKit Jvm.RoadKit Bundle Jvm.Pilot.@@N@@.Jvm.D
def own_Q (r : Option Value) (h0 : Heap) (n0 : Nat) (v : Option Value) (h : Heap) (L : List Loc) : Prop := v = r ∧ Fr n0 L ∧ h = h0
def own_R (r : Option Value) (n0 : Nat) (v : Option Value) (h : Heap) (L : List Loc) : Prop := v = r ∧ Fr n0 L
def own_G (Z : State) (w_CS : Int32) : Prop := Sta Z Z.heap "java/lang/String" "COMPACT_STRINGS" "Z" (.int w_CS) ∧ (¬ w_CS = (0 : Int32))
theorem own_ncs {s : State} {args : Array Value} {t : Term} {x : Int32} (ev : t.eval args s none [] s = some (.int x)) (h : (Jvm.Cond.not (Jvm.Cond.eq t (Jvm.Term.int (0 : Int32)))).value args s none s [] = some true) : ¬ x = (0 : Int32) := by
  have q := not_v h
  simpa [Cond.value, ev, Term.eval] using q
def own_CP (Z : State) (r2 : Addr) (cb : ClassId) (n : Int32) (h0 : Heap) (n0 : Nat) (v : Option Value) (h : Heap) (L : List Loc) : Prop := v = some (.int n) ∧ Fr n0 L ∧ Keep h0 h [r2] ∧ ∃ vs, Arv Z h r2 cb .byte n vs (.int (0 : Int32))
def own_CQ (Z : State) (n : Int32) (h0 : Heap) (n0 : Nat) (v : Option Value) (h : Heap) (L : List Loc) : Prop := ∃ b : Addr, v = some (.ref b) ∧ Fr n0 L ∧ Keep h0 h [] ∧ h0.size ≤ b ∧ n0 ≤ b ∧ ∃ k vs, Arv Z h b k .byte n vs (.int (0 : Int32))
def own_SI (Z : State) (r0 : Addr) (n : Int32) (h0 : Heap) (n0 : Nat) (v : Option Value) (h : Heap) (L : List Loc) : Prop := v = none ∧ Fr n0 L ∧ Keep h0 h [r0] ∧ Exa Z h r0 "java/lang/String" ∧ ∃ b k vs, Fld Z h r0 "java/lang/String" "value" "[B" (.ref b) ∧ Arv Z h b k .byte n vs (.int (0 : Int32))
theorem pn_0 : plainName "java/lang/StringUTF16" = true := by first | (simp [plainName, overriddenIn]; done) | decide +kernel
theorem ef_rmC1_1 (m : MethodId) (x0 : Addr) (x1 : Int32) (x2 : Addr) (x3 : Int32) (x4 : Int32) : entryFrame m #[(.ref x0), (.int x1), (.ref x2), (.int x3), (.int x4)] 7 = mkF m 0 #[.val (.ref x0), .val (.int x1), .val (.ref x2), .val (.int x3), .val (.int x4), .unset, .unset] [] := by first | (simp [entryFrame, mkF, argsToLocals, Value.category]; done) | rfl
theorem d5_0 : decode jdk_52_method_21_code 0 = .ok (.iconst 0, 1) := by decide +kernel
theorem d5_1 : decode jdk_52_method_21_code 1 = .ok (.istore 5, 2) := by decide +kernel
theorem d5_3 : decode jdk_52_method_21_code 3 = .ok (.iload 5, 2) := by decide +kernel
theorem d5_5 : decode jdk_52_method_21_code 5 = .ok (.iload 4, 2) := by decide +kernel
theorem d5_7 : decode jdk_52_method_21_code 7 = .ok (.if_icmp .ge 37, 3) := by decide +kernel
theorem d5_10 : decode jdk_52_method_21_code 10 = .ok (.aload_n 0, 1) := by decide +kernel
theorem d5_11 : decode jdk_52_method_21_code 11 = .ok (.iload_n 1, 1) := by decide +kernel
theorem d5_12 : decode jdk_52_method_21_code 12 = .ok (.caload, 1) := by decide +kernel
theorem d5_13 : decode jdk_52_method_21_code 13 = .ok (.istore 6, 2) := by decide +kernel
theorem d5_15 : decode jdk_52_method_21_code 15 = .ok (.iload 6, 2) := by decide +kernel
theorem d5_17 : decode jdk_52_method_21_code 17 = .ok (.sipush 255, 3) := by decide +kernel
theorem d5_20 : decode jdk_52_method_21_code 20 = .ok (.if_icmp .le 6, 3) := by decide +kernel
theorem d5_26 : decode jdk_52_method_21_code 26 = .ok (.aload_n 2, 1) := by decide +kernel
theorem d5_27 : decode jdk_52_method_21_code 27 = .ok (.iload_n 3, 1) := by decide +kernel
theorem d5_28 : decode jdk_52_method_21_code 28 = .ok (.iload 6, 2) := by decide +kernel
theorem d5_30 : decode jdk_52_method_21_code 30 = .ok (.i2b, 1) := by decide +kernel
theorem d5_31 : decode jdk_52_method_21_code 31 = .ok (.bastore, 1) := by decide +kernel
theorem d5_32 : decode jdk_52_method_21_code 32 = .ok (.iinc 1 1, 3) := by decide +kernel
theorem d5_35 : decode jdk_52_method_21_code 35 = .ok (.iinc 3 1, 3) := by decide +kernel
theorem d5_38 : decode jdk_52_method_21_code 38 = .ok (.iinc 5 1, 3) := by decide +kernel
theorem d5_41 : decode jdk_52_method_21_code 41 = .ok (.goto (-38), 3) := by decide +kernel
theorem d5_44 : decode jdk_52_method_21_code 44 = .ok (.iload 4, 2) := by decide +kernel
theorem d5_46 : decode jdk_52_method_21_code 46 = .ok (.ireturn, 1) := by decide +kernel
set_option maxRecDepth 65536 in
set_option maxHeartbeats 40000000 in
theorem rmC1_1 (l : Launch) (Z : State) (a0 : Array Value) (hw : ∀ d ∈ tables_1, d.before a0 Z = true) (ws : List Jvm.Cond) (r0 : Addr) (r2 : Addr) (ck cb : ClassId) (v0 : Int32) (h0 : Heap) (n0 : Nat) (Z0 : n0 ≤ h0.size) (g_r2 : n0 ≤ r2) (hne : r0 ≠ r2) (Vs : Arv Z h0 r0 ck .char (1 : Int32) [(.int v0)] (.int (0 : Int32))) (Vd : Arv Z h0 r2 cb .byte (1 : Int32) [(.int (0 : Int32))] (.int (0 : Int32))) (hv0 : ¬ (255 : Int32) < v0) :
    MetFree l (⟨"java/lang/StringUTF16", "compress", "([CI[BII)I"⟩ : MethodName) (head1 (Jvm.Cond.code (⟨"java/lang/StringUTF16", "compress", "([CI[BII)I"⟩ : MethodName) jdk_52_method_21_code 7 (some .int) :: ws) ({ frames := 0, cells := 0, slots := 0, locals := 0 } : Room)) (fun a U => a = #[(.ref r0), (.int (0 : Int32)), (.ref r2), (.int (0 : Int32)), (.int (1 : Int32))] ∧ Z.Warmed39 U.vm ∧ U.heap = h0) (fun _ _ _ _ _ => True) (fun _ U o U' => ∃ v L, o = .returned v ∧ own_CP Z r2 cb (1 : Int32) h0 n0 v U'.heap L ∧ FrameEnd U o U' L ({ frames := 0, cells := 0, slots := 0, locals := 0 } : Room).cells ({ frames := 0, cells := 0, slots := 0, locals := 0 } : Room).slots) := by
  refine MetFree.of_bodySF (plainFor_of_name pn_0) hisR ?_
  intro p e s m args below meth c s₁ Bd hml0 hP hK
  obtain ⟨rfl, hZ, hh⟩ := hP
  have hx := Bd.exec
  have hby := Bd.bytes
  have hml : c.maxLocals = 7 := hml0
  have hown : s.vm.findClass "java/lang/StringUTF16" = some m.cls := findClass_of_methodNamed Bd.named
  have hnm := (name_of_methodNamed Bd.named Bd.method).1
  have X0 : Stand p l e ({ frames := 0, cells := 0, slots := 0, locals := 0 } : Room) s m #[(.ref r0), (.int (0 : Int32)), (.ref r2), (.int (0 : Int32)), (.int (1 : Int32))] below meth c s₁ [] 0 0 := Stand.of_body Bd
  have e0 : s₁.heap = h0 := by rw [← hh, Bd.state]; rfl
  have N0 := Fr.nil n0
  have pre0 : ∀ t, Steps p.tables e below (s₁.setTop (mkF m 0 #[.val (.ref r0), .val (.int (0 : Int32)), .val (.ref r2), .val (.int (0 : Int32)), .val (.int (1 : Int32)), .unset, .unset] [])) t → Steps p.tables e below (s₁.setTop (entryFrame m #[(.ref r0), (.int (0 : Int32)), (.ref r2), (.int (0 : Int32)), (.int (1 : Int32))] 7)) t := fun t k => castTop (ef_rmC1_1 m r0 (0 : Int32) r2 (0 : Int32) (1 : Int32)) k
  have K0 : Keep h0 h0 [r2] := Keep.refl _ _
  have k2 : ∀ t, Steps p.tables e below (s₁.setTop (mkF m 31 #[.val (.ref r0), .val (.int (0 : Int32)), .val (.ref r2), .val (.int (0 : Int32)), .val (.int (1 : Int32)), .val (.int (0 : Int32)), .val (.int v0)] [(.int (v0.toInt8.toInt32)), (.int (0 : Int32)), (.ref r2)])) t → Steps p.tables e below (s₁.setTop (entryFrame m #[(.ref r0), (.int (0 : Int32)), (.ref r2), (.int (0 : Int32)), (.int (1 : Int32))] 7)) t := by
    intro t k
    refine pre0 _ ?_
    show Steps p.tables e below (s₁.setTop (mkF m 0 #[.val (.ref r0), .val (.int (0 : Int32)), .val (.ref r2), .val (.int (0 : Int32)), .val (.int (1 : Int32)), .unset, .unset] [])) _
    refine XS.iconst X0.here hx rfl (hb hby d5_0) ?_
    show Steps p.tables e below (s₁.setTop (mkF m 1 #[.val (.ref r0), .val (.int (0 : Int32)), .val (.ref r2), .val (.int (0 : Int32)), .val (.int (1 : Int32)), .unset, .unset] [(.int (0 : Int32))])) _
    refine XS.istore X0.here hx rfl (hb hby d5_1) rfl (l' := #[.val (.ref r0), .val (.int (0 : Int32)), .val (.ref r2), .val (.int (0 : Int32)), .val (.int (1 : Int32)), .val (.int (0 : Int32)), .unset]) rfl ?_
    show Steps p.tables e below (s₁.setTop (mkF m 3 #[.val (.ref r0), .val (.int (0 : Int32)), .val (.ref r2), .val (.int (0 : Int32)), .val (.int (1 : Int32)), .val (.int (0 : Int32)), .unset] [])) _
    refine XS.iload X0.here hx rfl (hb hby d5_3) rfl ?_
    show Steps p.tables e below (s₁.setTop (mkF m 5 #[.val (.ref r0), .val (.int (0 : Int32)), .val (.ref r2), .val (.int (0 : Int32)), .val (.int (1 : Int32)), .val (.int (0 : Int32)), .unset] [(.int (0 : Int32))])) _
    refine XS.iload X0.here hx rfl (hb hby d5_5) rfl ?_
    show Steps p.tables e below (s₁.setTop (mkF m 7 #[.val (.ref r0), .val (.int (0 : Int32)), .val (.ref r2), .val (.int (0 : Int32)), .val (.int (1 : Int32)), .val (.int (0 : Int32)), .unset] [(.int (1 : Int32)), (.int (0 : Int32))])) _
    refine XS.icmpNo X0.here hx rfl (hb hby d5_7) rfl (tlt (by decide)).2.1 ?_
    show Steps p.tables e below (s₁.setTop (mkF m 10 #[.val (.ref r0), .val (.int (0 : Int32)), .val (.ref r2), .val (.int (0 : Int32)), .val (.int (1 : Int32)), .val (.int (0 : Int32)), .unset] [])) _
    refine XS.aloadN X0.here hx rfl (hb hby d5_10) rfl rfl ?_
    show Steps p.tables e below (s₁.setTop (mkF m 11 #[.val (.ref r0), .val (.int (0 : Int32)), .val (.ref r2), .val (.int (0 : Int32)), .val (.int (1 : Int32)), .val (.int (0 : Int32)), .unset] [(.ref r0)])) _
    refine XS.iloadN X0.here hx rfl (hb hby d5_11) rfl ?_
    show Steps p.tables e below (s₁.setTop (mkF m 12 #[.val (.ref r0), .val (.int (0 : Int32)), .val (.ref r2), .val (.int (0 : Int32)), .val (.int (1 : Int32)), .val (.int (0 : Int32)), .unset] [(.int (0 : Int32)), (.ref r0)])) _
    obtain ⟨cl_1, Ar_1, q_1, S_1, N_1, H_1, G_1⟩ := id Vs
    have hin_1 : ¬ ((0 : Int32) < 0 ∨ cl_1.slots.size ≤ ((0 : Int32)).toNatClampNeg) := inb_of S_1 ⟨by decide, by decide⟩
    refine X0.caload hx (j := (0 : Int32)) (v := (.int v0)) (by rw [e0]; exact Ar_1.1) (State.isArrayOf_alike hZ.alike Ar_1.2.1) Ar_1.2.2 hin_1 (Has.at H_1 hin_1 rfl) (g := (mkF m 12 #[.val (.ref r0), .val (.int (0 : Int32)), .val (.ref r2), .val (.int (0 : Int32)), .val (.int (1 : Int32)), .val (.int (0 : Int32)), .unset] [(.int (0 : Int32)), (.ref r0)])) rfl rfl (hb hby d5_12) _ ?_
    show Steps p.tables e below (s₁.setTop (mkF m 13 #[.val (.ref r0), .val (.int (0 : Int32)), .val (.ref r2), .val (.int (0 : Int32)), .val (.int (1 : Int32)), .val (.int (0 : Int32)), .unset] [(.int v0)])) _
    refine XS.istore X0.here hx rfl (hb hby d5_13) rfl (l' := #[.val (.ref r0), .val (.int (0 : Int32)), .val (.ref r2), .val (.int (0 : Int32)), .val (.int (1 : Int32)), .val (.int (0 : Int32)), .val (.int v0)]) rfl ?_
    show Steps p.tables e below (s₁.setTop (mkF m 15 #[.val (.ref r0), .val (.int (0 : Int32)), .val (.ref r2), .val (.int (0 : Int32)), .val (.int (1 : Int32)), .val (.int (0 : Int32)), .val (.int v0)] [])) _
    refine XS.iload X0.here hx rfl (hb hby d5_15) rfl ?_
    show Steps p.tables e below (s₁.setTop (mkF m 17 #[.val (.ref r0), .val (.int (0 : Int32)), .val (.ref r2), .val (.int (0 : Int32)), .val (.int (1 : Int32)), .val (.int (0 : Int32)), .val (.int v0)] [(.int v0)])) _
    refine XS.sipush X0.here hx rfl (hb hby d5_17) ?_
    show Steps p.tables e below (s₁.setTop (mkF m 20 #[.val (.ref r0), .val (.int (0 : Int32)), .val (.ref r2), .val (.int (0 : Int32)), .val (.int (1 : Int32)), .val (.int (0 : Int32)), .val (.int v0)] [(.int (255 : Int32)), (.int v0)])) _
    refine XS.icmpYes X0.here hx rfl (pc0 := 20) (pc' := 26) rfl (hb hby d5_20) rfl (flt hv0).2.2.2 (by decide) (by decide) ?_
    show Steps p.tables e below (s₁.setTop (mkF m 26 #[.val (.ref r0), .val (.int (0 : Int32)), .val (.ref r2), .val (.int (0 : Int32)), .val (.int (1 : Int32)), .val (.int (0 : Int32)), .val (.int v0)] [])) _
    refine XS.aloadN X0.here hx rfl (hb hby d5_26) rfl rfl ?_
    show Steps p.tables e below (s₁.setTop (mkF m 27 #[.val (.ref r0), .val (.int (0 : Int32)), .val (.ref r2), .val (.int (0 : Int32)), .val (.int (1 : Int32)), .val (.int (0 : Int32)), .val (.int v0)] [(.ref r2)])) _
    refine XS.iloadN X0.here hx rfl (hb hby d5_27) rfl ?_
    show Steps p.tables e below (s₁.setTop (mkF m 28 #[.val (.ref r0), .val (.int (0 : Int32)), .val (.ref r2), .val (.int (0 : Int32)), .val (.int (1 : Int32)), .val (.int (0 : Int32)), .val (.int v0)] [(.int (0 : Int32)), (.ref r2)])) _
    refine XS.iload X0.here hx rfl (hb hby d5_28) rfl ?_
    show Steps p.tables e below (s₁.setTop (mkF m 30 #[.val (.ref r0), .val (.int (0 : Int32)), .val (.ref r2), .val (.int (0 : Int32)), .val (.int (1 : Int32)), .val (.int (0 : Int32)), .val (.int v0)] [(.int v0), (.int (0 : Int32)), (.ref r2)])) _
    refine XS.i2b X0.here hx rfl (hb hby d5_30) rfl ?_
    exact k
  obtain ⟨cl_3, Ar_3, q_3, S_3, N_3, H_3, G_3⟩ := id Vd
  have hin_3 : ¬ ((0 : Int32) < 0 ∨ cl_3.slots.size ≤ ((0 : Int32)).toNatClampNeg) := inb_of S_3 ⟨by decide, by decide⟩
  obtain ⟨T3, h3, X3, e3, W3, st3⟩ := stB X0 hx hZ e0 Ar_3 (j := (0 : Int32)) hin_3 (g := (mkF m 31 #[.val (.ref r0), .val (.int (0 : Int32)), .val (.ref r2), .val (.int (0 : Int32)), .val (.int (1 : Int32)), .val (.int (0 : Int32)), .val (.int v0)] [(.int (v0.toInt8.toInt32)), (.int (0 : Int32)), (.ref r2)])) rfl rfl (hb hby d5_31)
  have Vn3 : Arv Z h3 r2 cb .byte (1 : Int32) [(.int ((v0.toInt8.toInt32).toInt8.toInt32))] (.int (0 : Int32)) := Arv.set Ar_3 q_3 S_3 N_3 H_3 G_3 (fits_nar_byte _) W3 0 rfl (Nat.le_of_ble_eq_true rfl)
  replace Vs := Vs.other W3 hne
  replace K0 := K0.wr W3 (Or.inl (List.mem_of_getElem? (i := 0) rfl))
  replace Vd := Vn3
  have N3 := Fr.snoc X3 N0 g_r2
  have Zs3 : n0 ≤ h3.size := by rw [W3.size]; exact Z0
  have k4 : ∀ t, Steps p.tables e below (T3.setTop (mkF m 46 #[.val (.ref r0), .val (.int (1 : Int32)), .val (.ref r2), .val (.int (1 : Int32)), .val (.int (1 : Int32)), .val (.int (1 : Int32)), .val (.int v0)] [(.int (1 : Int32))])) t → Steps p.tables e below (s₁.setTop (entryFrame m #[(.ref r0), (.int (0 : Int32)), (.ref r2), (.int (0 : Int32)), (.int (1 : Int32))] 7)) t := by
    intro t k
    refine k2 _ ?_
    show Steps p.tables e below (s₁.setTop (mkF m 31 #[.val (.ref r0), .val (.int (0 : Int32)), .val (.ref r2), .val (.int (0 : Int32)), .val (.int (1 : Int32)), .val (.int (0 : Int32)), .val (.int v0)] [(.int (v0.toInt8.toInt32)), (.int (0 : Int32)), (.ref r2)])) _
    refine st3 _ ?_
    show Steps p.tables e below (T3.setTop (mkF m 32 #[.val (.ref r0), .val (.int (0 : Int32)), .val (.ref r2), .val (.int (0 : Int32)), .val (.int (1 : Int32)), .val (.int (0 : Int32)), .val (.int v0)] [])) _
    refine XS.iinc X3.here hx rfl (hb hby d5_32) rfl (l' := #[.val (.ref r0), .val (.int (1 : Int32)), .val (.ref r2), .val (.int (0 : Int32)), .val (.int (1 : Int32)), .val (.int (0 : Int32)), .val (.int v0)]) rfl ?_
    show Steps p.tables e below (T3.setTop (mkF m 35 #[.val (.ref r0), .val (.int (1 : Int32)), .val (.ref r2), .val (.int (0 : Int32)), .val (.int (1 : Int32)), .val (.int (0 : Int32)), .val (.int v0)] [])) _
    refine XS.iinc X3.here hx rfl (hb hby d5_35) rfl (l' := #[.val (.ref r0), .val (.int (1 : Int32)), .val (.ref r2), .val (.int (1 : Int32)), .val (.int (1 : Int32)), .val (.int (0 : Int32)), .val (.int v0)]) rfl ?_
    show Steps p.tables e below (T3.setTop (mkF m 38 #[.val (.ref r0), .val (.int (1 : Int32)), .val (.ref r2), .val (.int (1 : Int32)), .val (.int (1 : Int32)), .val (.int (0 : Int32)), .val (.int v0)] [])) _
    refine XS.iinc X3.here hx rfl (hb hby d5_38) rfl (l' := #[.val (.ref r0), .val (.int (1 : Int32)), .val (.ref r2), .val (.int (1 : Int32)), .val (.int (1 : Int32)), .val (.int (1 : Int32)), .val (.int v0)]) rfl ?_
    show Steps p.tables e below (T3.setTop (mkF m 41 #[.val (.ref r0), .val (.int (1 : Int32)), .val (.ref r2), .val (.int (1 : Int32)), .val (.int (1 : Int32)), .val (.int (1 : Int32)), .val (.int v0)] [])) _
    refine XS.goto X3.here hx rfl (pc0 := 41) (pc' := 3) rfl (hb hby d5_41) (by decide) (by decide) ?_
    show Steps p.tables e below (T3.setTop (mkF m 3 #[.val (.ref r0), .val (.int (1 : Int32)), .val (.ref r2), .val (.int (1 : Int32)), .val (.int (1 : Int32)), .val (.int (1 : Int32)), .val (.int v0)] [])) _
    refine XS.iload X3.here hx rfl (hb hby d5_3) rfl ?_
    show Steps p.tables e below (T3.setTop (mkF m 5 #[.val (.ref r0), .val (.int (1 : Int32)), .val (.ref r2), .val (.int (1 : Int32)), .val (.int (1 : Int32)), .val (.int (1 : Int32)), .val (.int v0)] [(.int (1 : Int32))])) _
    refine XS.iload X3.here hx rfl (hb hby d5_5) rfl ?_
    show Steps p.tables e below (T3.setTop (mkF m 7 #[.val (.ref r0), .val (.int (1 : Int32)), .val (.ref r2), .val (.int (1 : Int32)), .val (.int (1 : Int32)), .val (.int (1 : Int32)), .val (.int v0)] [(.int (1 : Int32)), (.int (1 : Int32))])) _
    refine XS.icmpYes X3.here hx rfl (pc0 := 7) (pc' := 44) rfl (hb hby d5_7) rfl (flt (by decide)).2.1 (by decide) (by decide) ?_
    show Steps p.tables e below (T3.setTop (mkF m 44 #[.val (.ref r0), .val (.int (1 : Int32)), .val (.ref r2), .val (.int (1 : Int32)), .val (.int (1 : Int32)), .val (.int (1 : Int32)), .val (.int v0)] [])) _
    refine XS.iload X3.here hx rfl (hb hby d5_44) rfl ?_
    exact k
  obtain ⟨fs, hr, hrun, hended, hW, hsame⟩ := X3.leave (v := some (.int (1 : Int32))) (fun h => by rw [Bd.returns] at h; cases h)
  refine ⟨_, _, k4 _ ?_, hrun, hended, _, _, rfl, ?_, ⟨_, rfl⟩, hW, hsame.mono (by decide) (by decide)⟩
  · exact retOut X3 hx Bd.returns rfl (Or.inl ⟨rfl, Or.inl rfl, _, rfl⟩) (hb hby d5_46) hr
  · show own_CP Z r2 cb (1 : Int32) h0 n0 _ T3.heap _
    rw [e3]
    exact ⟨rfl, N3, K0, _, Vd⟩
theorem ef_rmC2_1 (m : MethodId) (x0 : Addr) (x1 : Int32) (x2 : Int32) : entryFrame m #[(.ref x0), (.int x1), (.int x2)] 6 = mkF m 0 #[.val (.ref x0), .val (.int x1), .val (.int x2), .unset, .unset, .unset] [] := by first | (simp [entryFrame, mkF, argsToLocals, Value.category]; done) | rfl
theorem d4_0 : decode jdk_52_method_16_code 0 = .ok (.iload_n 2, 1) := by decide +kernel
theorem d4_1 : decode jdk_52_method_16_code 1 = .ok (.newarray .byte, 2) := by decide +kernel
theorem d4_3 : decode jdk_52_method_16_code 3 = .ok (.astore_n 3, 1) := by decide +kernel
theorem d4_4 : decode jdk_52_method_16_code 4 = .ok (.aload_n 0, 1) := by decide +kernel
theorem d4_5 : decode jdk_52_method_16_code 5 = .ok (.iload_n 1, 1) := by decide +kernel
theorem d4_6 : decode jdk_52_method_16_code 6 = .ok (.aload_n 3, 1) := by decide +kernel
theorem d4_7 : decode jdk_52_method_16_code 7 = .ok (.iconst 0, 1) := by decide +kernel
theorem d4_8 : decode jdk_52_method_16_code 8 = .ok (.iload_n 2, 1) := by decide +kernel
theorem pd_0 : parseMethodDescriptor "([CI[BII)I" = some ⟨[(.array .char), .int, (.array .byte), .int, .int], some .int⟩ := by decide +kernel
theorem d4_9 : decode jdk_52_method_16_code 9 = .ok (.invokestatic 115, 3) := by decide +kernel
theorem d4_12 : decode jdk_52_method_16_code 12 = .ok (.istore 4, 2) := by decide +kernel
theorem d4_14 : decode jdk_52_method_16_code 14 = .ok (.iload 4, 2) := by decide +kernel
theorem d4_16 : decode jdk_52_method_16_code 16 = .ok (.iload_n 2, 1) := by decide +kernel
theorem d4_17 : decode jdk_52_method_16_code 17 = .ok (.if_icmp .eq 40, 3) := by decide +kernel
theorem d4_57 : decode jdk_52_method_16_code 57 = .ok (.aload_n 3, 1) := by decide +kernel
theorem d4_58 : decode jdk_52_method_16_code 58 = .ok (.areturn, 1) := by decide +kernel
set_option maxRecDepth 65536 in
set_option maxHeartbeats 40000000 in
theorem rmC2_1 (l : Launch) (Z : State) (a0 : Array Value) (hw : ∀ d ∈ tables_1, d.before a0 Z = true) (ws : List Jvm.Cond) (r0 : Addr) (ck : ClassId) (v0 : Int32) (h0 : Heap) (n0 : Nat) (Z0 : n0 ≤ h0.size) (Vs : Arv Z h0 r0 ck .char (1 : Int32) [(.int v0)] (.int (0 : Int32))) (hv0 : ¬ (255 : Int32) < v0) :
    MetFree l (⟨"java/lang/StringUTF16", "compress", "([CII)[B"⟩ : MethodName) (head1 (Jvm.Cond.code (⟨"java/lang/StringUTF16", "compress", "([CII)[B"⟩ : MethodName) jdk_52_method_16_code 6 (some (.array .byte)) :: ws) ({ frames := 1, cells := 1, slots := 1, locals := 18 } : Room)) (fun a U => a = #[(.ref r0), (.int (0 : Int32)), (.int (1 : Int32))] ∧ Z.Warmed39 U.vm ∧ U.heap = h0) (fun _ _ _ _ _ => True) (fun _ U o U' => ∃ v L, o = .returned v ∧ own_CQ Z (1 : Int32) h0 n0 v U'.heap L ∧ FrameEnd U o U' L ({ frames := 1, cells := 1, slots := 1, locals := 18 } : Room).cells ({ frames := 1, cells := 1, slots := 1, locals := 18 } : Room).slots) := by
  refine MetFree.of_bodySF (plainFor_of_name pn_0) hisR ?_
  intro p e s m args below meth c s₁ Bd hml0 hP hK
  obtain ⟨rfl, hZ, hh⟩ := hP
  have hx := Bd.exec
  have hby := Bd.bytes
  have hml : c.maxLocals = 6 := hml0
  have hown : s.vm.findClass "java/lang/StringUTF16" = some m.cls := findClass_of_methodNamed Bd.named
  have hnm := (name_of_methodNamed Bd.named Bd.method).1
  have X0 : Stand p l e ({ frames := 1, cells := 1, slots := 1, locals := 18 } : Room) s m #[(.ref r0), (.int (0 : Int32)), (.int (1 : Int32))] below meth c s₁ [] 0 0 := Stand.of_body Bd
  have e0 : s₁.heap = h0 := by rw [← hh, Bd.state]; rfl
  have N0 := Fr.nil n0
  have pre0 : ∀ t, Steps p.tables e below (s₁.setTop (mkF m 0 #[.val (.ref r0), .val (.int (0 : Int32)), .val (.int (1 : Int32)), .unset, .unset, .unset] [])) t → Steps p.tables e below (s₁.setTop (entryFrame m #[(.ref r0), (.int (0 : Int32)), (.int (1 : Int32))] 6)) t := fun t k => castTop (ef_rmC2_1 m r0 (0 : Int32) (1 : Int32)) k
  have K0 : Keep h0 h0 [] := Keep.refl _ _
  obtain ⟨T1, h1, c1, X1, e1, E1, A1, st1⟩ := newP X0 hx hZ (hw _ (List.mem_of_getElem? (i := 0) rfl)) e0 (g := (mkF m 1 #[.val (.ref r0), .val (.int (0 : Int32)), .val (.int (1 : Int32)), .unset, .unset, .unset] [(.int (1 : Int32))])) rfl (hb hby d4_1) rfl (by decide) (cap := 1) (by decide) (by decide) (by decide) (by decide)
  obtain ⟨b1, g1⟩ : ∃ z, z = h0.size := ⟨_, rfl⟩
  rw [← g1] at A1 st1
  have ne_r0_b1 : r0 ≠ b1 := Nat.ne_of_lt (Nat.lt_of_lt_of_le Vs.lt (Nat.le_of_eq g1.symm))
  have gn_b1 : n0 ≤ b1 := Nat.le_trans Z0 (Nat.le_of_eq g1.symm)
  have sz_b1_K0 : h0.size ≤ b1 := Nat.le_trans K0.1 (Nat.le_of_eq g1.symm)
  replace Vs := Vs.ext E1
  replace K0 := K0.ext E1
  have Zs1 : n0 ≤ h1.size := Nat.le_trans Z0 E1.1
  have V_b1 : Arv Z h1 b1 c1 .byte (1 : Int32) [(.int (0 : Int32))] (.int (0 : Int32)) := (Arv.new A1 (by decide)).pad (pad_rep [] (.int (0 : Int32)) 1)
  obtain ⟨_, _, ⟨T2, L2, k2_, n2⟩, -, X2, ⟨Lc2, hQ2, l2, y2, z2⟩, st2⟩ := Jvm.LawKit.callS X1 hx (y := (⟨"java/lang/StringUTF16", "compress", "([CI[BII)I"⟩ : MethodName)) hown (mvT hZ (hw _ (List.mem_of_getElem? (i := 23) rfl))) (mvT hZ (hw _ (List.mem_of_getElem? (i := 24) rfl))) (mvT hZ (hw _ (List.mem_of_getElem? (i := 21) rfl))) (mvT hZ (hw _ (List.mem_of_getElem? (i := 25) rfl))) (by decide) (backOf (W := 0) (rmC1_1 l Z a0 hw [] r0 b1 ck c1 v0 h1 n0 Zs1 gn_b1 ne_r0_b1 Vs V_b1 hv0) hZ (hw _ (List.mem_of_getElem? (i := 25) rfl)) (hw _ (List.mem_of_getElem? (i := 21) rfl)) (by decide) (by decide)) (g := (mkF m 9 #[.val (.ref r0), .val (.int (0 : Int32)), .val (.int (1 : Int32)), .val (.ref b1), .unset, .unset] [(.int (1 : Int32)), (.int (0 : Int32)), (.ref b1), (.int (0 : Int32)), (.ref r0)])) rfl (by rw [hml]; rfl) (argsL := [(.ref r0), (.int (0 : Int32)), (.ref b1), (.int (0 : Int32)), (.int (1 : Int32))]) (rest := []) (lenOf pd_0 rfl) rfl (by show 2 * 0 + _ ≤ _; exact Nat.le_of_eq rfl) (hb hby d4_9) (fun _ _ => ⟨rfl, e1, (by decide : 1 + 0 ≤ _), (by decide : 1 + 0 ≤ _)⟩)
  dsimp only [Pt.U, Pt.locs, Pt.cells, Pt.slots] at X2 l2 y2 z2 st2 hQ2
  subst l2 y2 z2
  obtain ⟨rfl, Nq2, Kq2, vs2, Vq2⟩ := hQ2
  have N2 := Fr.app N0 Nq2
  have Zs2 : n0 ≤ T2.heap.size := Nat.le_trans Zs1 Kq2.1
  replace Vs := Vs.keep Kq2 (fun q => ne_r0_b1 (List.mem_singleton.mp q))
  replace K0 := K0.trans Kq2 (fun x hx => by cases List.mem_singleton.mp hx; exact (Or.inr sz_b1_K0))
  have k3 : ∀ t, Steps p.tables e below (T2.setTop (mkF m 58 #[.val (.ref r0), .val (.int (0 : Int32)), .val (.int (1 : Int32)), .val (.ref b1), .val (.int (1 : Int32)), .unset] [(.ref b1)])) t → Steps p.tables e below (s₁.setTop (entryFrame m #[(.ref r0), (.int (0 : Int32)), (.int (1 : Int32))] 6)) t := by
    intro t k
    refine pre0 _ ?_
    show Steps p.tables e below (s₁.setTop (mkF m 0 #[.val (.ref r0), .val (.int (0 : Int32)), .val (.int (1 : Int32)), .unset, .unset, .unset] [])) _
    refine XS.iloadN X0.here hx rfl (hb hby d4_0) rfl ?_
    show Steps p.tables e below (s₁.setTop (mkF m 1 #[.val (.ref r0), .val (.int (0 : Int32)), .val (.int (1 : Int32)), .unset, .unset, .unset] [(.int (1 : Int32))])) _
    refine st1 _ ?_
    show Steps p.tables e below (T1.setTop (mkF m 3 #[.val (.ref r0), .val (.int (0 : Int32)), .val (.int (1 : Int32)), .unset, .unset, .unset] [(.ref b1)])) _
    refine XS.astoreN X1.here hx rfl (hb hby d4_3) rfl rfl (l' := #[.val (.ref r0), .val (.int (0 : Int32)), .val (.int (1 : Int32)), .val (.ref b1), .unset, .unset]) rfl ?_
    show Steps p.tables e below (T1.setTop (mkF m 4 #[.val (.ref r0), .val (.int (0 : Int32)), .val (.int (1 : Int32)), .val (.ref b1), .unset, .unset] [])) _
    refine XS.aloadN X1.here hx rfl (hb hby d4_4) rfl rfl ?_
    show Steps p.tables e below (T1.setTop (mkF m 5 #[.val (.ref r0), .val (.int (0 : Int32)), .val (.int (1 : Int32)), .val (.ref b1), .unset, .unset] [(.ref r0)])) _
    refine XS.iloadN X1.here hx rfl (hb hby d4_5) rfl ?_
    show Steps p.tables e below (T1.setTop (mkF m 6 #[.val (.ref r0), .val (.int (0 : Int32)), .val (.int (1 : Int32)), .val (.ref b1), .unset, .unset] [(.int (0 : Int32)), (.ref r0)])) _
    refine XS.aloadN X1.here hx rfl (hb hby d4_6) rfl rfl ?_
    show Steps p.tables e below (T1.setTop (mkF m 7 #[.val (.ref r0), .val (.int (0 : Int32)), .val (.int (1 : Int32)), .val (.ref b1), .unset, .unset] [(.ref b1), (.int (0 : Int32)), (.ref r0)])) _
    refine XS.iconst X1.here hx rfl (hb hby d4_7) ?_
    show Steps p.tables e below (T1.setTop (mkF m 8 #[.val (.ref r0), .val (.int (0 : Int32)), .val (.int (1 : Int32)), .val (.ref b1), .unset, .unset] [(.int (0 : Int32)), (.ref b1), (.int (0 : Int32)), (.ref r0)])) _
    refine XS.iloadN X1.here hx rfl (hb hby d4_8) rfl ?_
    show Steps p.tables e below (T1.setTop (mkF m 9 #[.val (.ref r0), .val (.int (0 : Int32)), .val (.int (1 : Int32)), .val (.ref b1), .unset, .unset] [(.int (1 : Int32)), (.int (0 : Int32)), (.ref b1), (.int (0 : Int32)), (.ref r0)])) _
    refine st2 _ ?_
    show Steps p.tables e below (T2.setTop (mkF m 12 #[.val (.ref r0), .val (.int (0 : Int32)), .val (.int (1 : Int32)), .val (.ref b1), .unset, .unset] [(.int (1 : Int32))])) _
    refine XS.istore X2.here hx rfl (hb hby d4_12) rfl (l' := #[.val (.ref r0), .val (.int (0 : Int32)), .val (.int (1 : Int32)), .val (.ref b1), .val (.int (1 : Int32)), .unset]) rfl ?_
    show Steps p.tables e below (T2.setTop (mkF m 14 #[.val (.ref r0), .val (.int (0 : Int32)), .val (.int (1 : Int32)), .val (.ref b1), .val (.int (1 : Int32)), .unset] [])) _
    refine XS.iload X2.here hx rfl (hb hby d4_14) rfl ?_
    show Steps p.tables e below (T2.setTop (mkF m 16 #[.val (.ref r0), .val (.int (0 : Int32)), .val (.int (1 : Int32)), .val (.ref b1), .val (.int (1 : Int32)), .unset] [(.int (1 : Int32))])) _
    refine XS.iloadN X2.here hx rfl (hb hby d4_16) rfl ?_
    show Steps p.tables e below (T2.setTop (mkF m 17 #[.val (.ref r0), .val (.int (0 : Int32)), .val (.int (1 : Int32)), .val (.ref b1), .val (.int (1 : Int32)), .unset] [(.int (1 : Int32)), (.int (1 : Int32))])) _
    refine XS.icmpYes X2.here hx rfl (pc0 := 17) (pc' := 57) rfl (hb hby d4_17) rfl (teq (by decide)).1 (by decide) (by decide) ?_
    show Steps p.tables e below (T2.setTop (mkF m 57 #[.val (.ref r0), .val (.int (0 : Int32)), .val (.int (1 : Int32)), .val (.ref b1), .val (.int (1 : Int32)), .unset] [])) _
    refine XS.aloadN X2.here hx rfl (hb hby d4_57) rfl rfl ?_
    exact k
  obtain ⟨fs, hr, hrun, hended, hW, hsame⟩ := X2.leave (v := some (.ref b1)) (fun h => by rw [Bd.returns] at h; cases h)
  refine ⟨_, _, k3 _ ?_, hrun, hended, _, _, rfl, ?_, ⟨_, rfl⟩, hW, hsame.mono (by decide) (by decide)⟩
  · exact retOut X2 hx Bd.returns rfl (Or.inr (Or.inr (Or.inr (Or.inr ⟨rfl, rfl, rfl⟩)))) (hb hby d4_58) hr
  · show own_CQ Z (1 : Int32) h0 n0 _ T2.heap _
    exact ⟨_, rfl, N2, K0, sz_b1_K0, gn_b1, _, _, Vq2⟩
theorem ef_rmCF_1 (m : MethodId) (x0 : Addr) (x1 : Int32) : entryFrame m #[(.ref x0), (.int x1)] 2 = mkF m 0 #[.val (.ref x0), .val (.int x1)] [] := by first | (simp [entryFrame, mkF, argsToLocals, Value.category]; done) | rfl
theorem d6_0 : decode jdk_52_method_15_code 0 = .ok (.iload_n 1, 1) := by decide +kernel
theorem d6_1 : decode jdk_52_method_15_code 1 = .ok (.aload_n 0, 1) := by decide +kernel
theorem d6_2 : decode jdk_52_method_15_code 2 = .ok (.arraylength, 1) := by decide +kernel
theorem d6_3 : decode jdk_52_method_15_code 3 = .ok (.isub, 1) := by decide +kernel
theorem d6_4 : decode jdk_52_method_15_code 4 = .ok (.bipush 31, 2) := by decide +kernel
theorem d6_6 : decode jdk_52_method_15_code 6 = .ok (.iushr, 1) := by decide +kernel
theorem d6_7 : decode jdk_52_method_15_code 7 = .ok (.i2b, 1) := by decide +kernel
theorem d6_8 : decode jdk_52_method_15_code 8 = .ok (.ireturn, 1) := by decide +kernel
def own_cf1  : Int32 := (0 : Int32)
set_option maxRecDepth 65536 in
set_option maxHeartbeats 40000000 in
theorem rmCF_1 (l : Launch) (Z : State) (a0 : Array Value) (hw : ∀ d ∈ tables_1, d.before a0 Z = true) (ws : List Jvm.Cond) (r0 : Addr) (cb : ClassId) (vs0 : List Value) (h0 : Heap) (n0 : Nat) (Va : Arv Z h0 r0 cb .byte (1 : Int32) vs0 (.int (0 : Int32))) :
    MetFree l (⟨"java/lang/StringUTF16", "coderFromArrayLen", "([BI)B"⟩ : MethodName) (head1 (Jvm.Cond.code (⟨"java/lang/StringUTF16", "coderFromArrayLen", "([BI)B"⟩ : MethodName) jdk_52_method_15_code 2 (some .byte) :: ws) ({ frames := 0, cells := 0, slots := 0, locals := 0 } : Room)) (fun a U => a = #[(.ref r0), (.int (1 : Int32))] ∧ Z.Warmed39 U.vm ∧ U.heap = h0) (fun _ _ _ _ _ => True) (fun _ U o U' => ∃ v L, o = .returned v ∧ own_Q (some (.int (own_cf1 ))) h0 n0 v U'.heap L ∧ FrameEnd U o U' L ({ frames := 0, cells := 0, slots := 0, locals := 0 } : Room).cells ({ frames := 0, cells := 0, slots := 0, locals := 0 } : Room).slots) := by
  refine MetFree.of_bodySF (plainFor_of_name pn_0) hisR ?_
  intro p e s m args below meth c s₁ Bd hml0 hP hK
  obtain ⟨rfl, hZ, hh⟩ := hP
  have hx := Bd.exec
  have hby := Bd.bytes
  have hml : c.maxLocals = 2 := hml0
  have hown : s.vm.findClass "java/lang/StringUTF16" = some m.cls := findClass_of_methodNamed Bd.named
  have hnm := (name_of_methodNamed Bd.named Bd.method).1
  have X0 : Stand p l e ({ frames := 0, cells := 0, slots := 0, locals := 0 } : Room) s m #[(.ref r0), (.int (1 : Int32))] below meth c s₁ [] 0 0 := Stand.of_body Bd
  have e0 : s₁.heap = h0 := by rw [← hh, Bd.state]; rfl
  have N0 := Fr.nil n0
  have pre0 : ∀ t, Steps p.tables e below (s₁.setTop (mkF m 0 #[.val (.ref r0), .val (.int (1 : Int32))] [])) t → Steps p.tables e below (s₁.setTop (entryFrame m #[(.ref r0), (.int (1 : Int32))] 2)) t := fun t k => castTop (ef_rmCF_1 m r0 (1 : Int32)) k
  have k2 : ∀ t, Steps p.tables e below (s₁.setTop (mkF m 8 #[.val (.ref r0), .val (.int (1 : Int32))] [(.int (0 : Int32))])) t → Steps p.tables e below (s₁.setTop (entryFrame m #[(.ref r0), (.int (1 : Int32))] 2)) t := by
    intro t k
    refine pre0 _ ?_
    show Steps p.tables e below (s₁.setTop (mkF m 0 #[.val (.ref r0), .val (.int (1 : Int32))] [])) _
    refine XS.iloadN X0.here hx rfl (hb hby d6_0) rfl ?_
    show Steps p.tables e below (s₁.setTop (mkF m 1 #[.val (.ref r0), .val (.int (1 : Int32))] [(.int (1 : Int32))])) _
    refine XS.aloadN X0.here hx rfl (hb hby d6_1) rfl rfl ?_
    show Steps p.tables e below (s₁.setTop (mkF m 2 #[.val (.ref r0), .val (.int (1 : Int32))] [(.ref r0), (.int (1 : Int32))])) _
    obtain ⟨cl_1, Ar_1, -, S_1, N_1, -, -⟩ := id Va
    refine X0.arraylength hx (by rw [e0]; exact Ar_1.1) (State.isArrayOf_alike hZ.alike Ar_1.2.1) (g := (mkF m 2 #[.val (.ref r0), .val (.int (1 : Int32))] [(.ref r0), (.int (1 : Int32))])) rfl rfl (hb hby d6_2) _ ?_
    rw [len_of S_1 N_1]
    show Steps p.tables e below (s₁.setTop (mkF m 3 #[.val (.ref r0), .val (.int (1 : Int32))] [(.int (1 : Int32)), (.int (1 : Int32))])) _
    refine XS.isub X0.here hx rfl (hb hby d6_3) rfl ?_
    show Steps p.tables e below (s₁.setTop (mkF m 4 #[.val (.ref r0), .val (.int (1 : Int32))] [(.int (0 : Int32))])) _
    refine XS.bipush X0.here hx rfl (hb hby d6_4) ?_
    show Steps p.tables e below (s₁.setTop (mkF m 6 #[.val (.ref r0), .val (.int (1 : Int32))] [(.int (31 : Int32)), (.int (0 : Int32))])) _
    refine XS.iushr X0.here hx rfl (hb hby d6_6) rfl ?_
    show Steps p.tables e below (s₁.setTop (mkF m 7 #[.val (.ref r0), .val (.int (1 : Int32))] [(.int (0 : Int32))])) _
    refine XS.i2b X0.here hx rfl (hb hby d6_7) rfl ?_
    exact k
  obtain ⟨fs, hr, hrun, hended, hW, hsame⟩ := X0.leave (v := some (.int (0 : Int32))) (fun h => by rw [Bd.returns] at h; cases h)
  refine ⟨_, _, k2 _ ?_, hrun, hended, _, _, rfl, ?_, ⟨_, rfl⟩, hW, hsame.mono (by decide) (by decide)⟩
  · exact retN X0 hx (t := .byte) Bd.returns (by simp) (hb hby d6_8) hr
  · show own_Q (some (.int (own_cf1 ))) h0 n0 _ s₁.heap _
    rw [e0]
    exact ⟨rfl, N0, rfl⟩
theorem pn_1 : plainName "java/lang/String" = true := by first | (simp [plainName, overriddenIn]; done) | decide +kernel
theorem ef_rmS2_1 (m : MethodId) (x0 : Addr) (x1 : Addr) (x2 : Int32) (x3 : Int32) : entryFrame m #[(.ref x0), (.ref x1), (.int x2), (.int x3), .null] 6 = mkF m 0 #[.val (.ref x0), .val (.ref x1), .val (.int x2), .val (.int x3), .val .null, .unset] [] := by first | (simp [entryFrame, mkF, argsToLocals, Value.category]; done) | rfl
theorem d2_0 : decode jdk_42_method_149_code 0 = .ok (.aload_n 0, 1) := by decide +kernel
theorem d2_1 : decode jdk_42_method_149_code 1 = .ok (.invokespecial 1, 3) := by decide +kernel
theorem d2_4 : decode jdk_42_method_149_code 4 = .ok (.iload_n 3, 1) := by decide +kernel
theorem d2_5 : decode jdk_42_method_149_code 5 = .ok (.ifCond .ne 22, 3) := by decide +kernel
theorem d2_27 : decode jdk_42_method_149_code 27 = .ok (.getstatic 38, 3) := by decide +kernel
theorem d2_30 : decode jdk_42_method_149_code 30 = .ok (.ifCond .eq 28, 3) := by decide +kernel
theorem d2_33 : decode jdk_42_method_149_code 33 = .ok (.aload_n 1, 1) := by decide +kernel
theorem d2_34 : decode jdk_42_method_149_code 34 = .ok (.iload_n 2, 1) := by decide +kernel
theorem d2_35 : decode jdk_42_method_149_code 35 = .ok (.iload_n 3, 1) := by decide +kernel
theorem pd_1 : parseMethodDescriptor "([CII)[B" = some ⟨[(.array .char), .int, .int], some (.array .byte)⟩ := by decide +kernel
theorem d2_36 : decode jdk_42_method_149_code 36 = .ok (.invokestatic 177, 3) := by decide +kernel
theorem d2_39 : decode jdk_42_method_149_code 39 = .ok (.astore 5, 2) := by decide +kernel
theorem d2_41 : decode jdk_42_method_149_code 41 = .ok (.aload_n 0, 1) := by decide +kernel
theorem d2_42 : decode jdk_42_method_149_code 42 = .ok (.aload 5, 2) := by decide +kernel
theorem d2_44 : decode jdk_42_method_149_code 44 = .ok (.iload_n 3, 1) := by decide +kernel
theorem pd_2 : parseMethodDescriptor "([BI)B" = some ⟨[(.array .byte), .int], some .byte⟩ := by decide +kernel
theorem d2_45 : decode jdk_42_method_149_code 45 = .ok (.invokestatic 47, 3) := by decide +kernel
theorem d2_48 : decode jdk_42_method_149_code 48 = .ok (.putfield 15, 3) := by decide +kernel
theorem d2_51 : decode jdk_42_method_149_code 51 = .ok (.aload_n 0, 1) := by decide +kernel
theorem d2_52 : decode jdk_42_method_149_code 52 = .ok (.aload 5, 2) := by decide +kernel
theorem d2_54 : decode jdk_42_method_149_code 54 = .ok (.putfield 9, 3) := by decide +kernel
theorem d2_57 : decode jdk_42_method_149_code 57 = .ok (.return_, 1) := by decide +kernel
set_option maxRecDepth 65536 in
set_option maxHeartbeats 40000000 in
theorem rmS2_1 (l : Launch) (Z : State) (a0 : Array Value) (hw : ∀ d ∈ tables_1, d.before a0 Z = true) (ws : List Jvm.Cond) (r0 : Addr) (r1 : Addr) (ck : ClassId) (v0 : Int32) (w_CS : Int32) (h0 : Heap) (n0 : Nat) (hG : own_G Z w_CS) (O0 : Old Z n0 h0) (Z0 : n0 ≤ h0.size) (g_r0 : n0 ≤ r0) (E_r0 : Exa Z h0 r0 "java/lang/String") (F_value_r0 : Fld Z h0 r0 "java/lang/String" "value" "[B" .null) (F_coder_r0 : Fld Z h0 r0 "java/lang/String" "coder" "B" (.int (0 : Int32))) (hne : r1 ≠ r0) (Vs : Arv Z h0 r1 ck .char (1 : Int32) [(.int v0)] (.int (0 : Int32))) (hv0 : ¬ (255 : Int32) < v0) :
    MetFree l (⟨"java/lang/String", "<init>", "([CIILjava/lang/Void;)V"⟩ : MethodName) (head1 (Jvm.Cond.code (⟨"java/lang/String", "<init>", "([CIILjava/lang/Void;)V"⟩ : MethodName) jdk_42_method_149_code 6 none :: ws) ({ frames := 2, cells := 1, slots := 1, locals := 35 } : Room)) (fun a U => a = #[(.ref r0), (.ref r1), (.int (0 : Int32)), (.int (1 : Int32)), .null] ∧ Z.Warmed39 U.vm ∧ U.heap = h0) (fun _ _ _ _ _ => True) (fun _ U o U' => ∃ v L, o = .returned v ∧ own_SI Z r0 (1 : Int32) h0 n0 v U'.heap L ∧ FrameEnd U o U' L ({ frames := 2, cells := 1, slots := 1, locals := 35 } : Room).cells ({ frames := 2, cells := 1, slots := 1, locals := 35 } : Room).slots) := by
  refine MetFree.of_bodySF (plainFor_of_name pn_1) hisR ?_
  intro p e s m args below meth c s₁ Bd hml0 hP hK
  obtain ⟨rfl, hZ, hh⟩ := hP
  have hx := Bd.exec
  have hby := Bd.bytes
  have hml : c.maxLocals = 6 := hml0
  have hown : s.vm.findClass "java/lang/String" = some m.cls := findClass_of_methodNamed Bd.named
  have hnm := (name_of_methodNamed Bd.named Bd.method).1
  have X0 : Stand p l e ({ frames := 2, cells := 1, slots := 1, locals := 35 } : Room) s m #[(.ref r0), (.ref r1), (.int (0 : Int32)), (.int (1 : Int32)), .null] below meth c s₁ [] 0 0 := Stand.of_body Bd
  have e0 : s₁.heap = h0 := by rw [← hh, Bd.state]; rfl
  have N0 := Fr.nil n0
  have pre0 : ∀ t, Steps p.tables e below (s₁.setTop (mkF m 0 #[.val (.ref r0), .val (.ref r1), .val (.int (0 : Int32)), .val (.int (1 : Int32)), .val .null, .unset] [])) t → Steps p.tables e below (s₁.setTop (entryFrame m #[(.ref r0), (.ref r1), (.int (0 : Int32)), (.int (1 : Int32)), .null] 6)) t := fun t k => castTop (ef_rmS2_1 m r0 r1 (0 : Int32) (1 : Int32)) k
  have hG' := hG
  obtain ⟨S_CS, hCS⟩ := hG'
  have K0 : Keep h0 h0 [r0] := Keep.refl _ _
  obtain ⟨T1, X1, e1, st1⟩ := initO X0 hx hZ hown (hw _ (List.mem_of_getElem? (i := 15) rfl)) (hw _ (List.mem_of_getElem? (i := 16) rfl)) (hw _ (List.mem_of_getElem? (i := 17) rfl)) e0 (g := (mkF m 1 #[.val (.ref r0), .val (.ref r1), .val (.int (0 : Int32)), .val (.int (1 : Int32)), .val .null, .unset] [(.ref r0)])) rfl (by rw [hml]; rfl) rfl (hb hby d2_1) (by decide) (W := 0) (by show 2 * 0 + _ ≤ _; exact Nat.le_of_eq rfl) (by decide)
  obtain ⟨T2, X2, e2, st2⟩ := getS2 X1 hx hZ hown (host := "") (Or.inl (hw _ (List.mem_of_getElem? (i := 18) rfl))) Via.refl e1 (S_CS.ext O0.2) (g := (mkF m 27 #[.val (.ref r0), .val (.ref r1), .val (.int (0 : Int32)), .val (.int (1 : Int32)), .val .null, .unset] [])) rfl (hb hby d2_27)
  obtain ⟨_, _, ⟨T3, L3, k3_, n3⟩, -, X3, ⟨Lc3, hQ3, l3, y3, z3⟩, st3⟩ := Jvm.LawKit.callS X2 hx (y := (⟨"java/lang/StringUTF16", "compress", "([CII)[B"⟩ : MethodName)) hown (mvT hZ (hw _ (List.mem_of_getElem? (i := 19) rfl))) (mvT hZ (hw _ (List.mem_of_getElem? (i := 20) rfl))) (mvT hZ (hw _ (List.mem_of_getElem? (i := 21) rfl))) (mvT hZ (hw _ (List.mem_of_getElem? (i := 22) rfl))) (by decide) (backOf (W := 0) (rmC2_1 l Z a0 hw [] r1 ck v0 h0 n0 (O0.1 ▸ O0.2.1) Vs hv0) hZ (hw _ (List.mem_of_getElem? (i := 22) rfl)) (hw _ (List.mem_of_getElem? (i := 21) rfl)) (by decide) (by decide)) (g := (mkF m 36 #[.val (.ref r0), .val (.ref r1), .val (.int (0 : Int32)), .val (.int (1 : Int32)), .val .null, .unset] [(.int (1 : Int32)), (.int (0 : Int32)), (.ref r1)])) rfl (by rw [hml]; rfl) (argsL := [(.ref r1), (.int (0 : Int32)), (.int (1 : Int32))]) (rest := []) (lenOf pd_1 rfl) rfl (by show 2 * 0 + _ ≤ _; exact Nat.le_of_eq rfl) (hb hby d2_36) (fun _ _ => ⟨rfl, e2, (by decide : 0 + 1 ≤ _), (by decide : 0 + 1 ≤ _)⟩)
  dsimp only [Pt.U, Pt.locs, Pt.cells, Pt.slots] at X3 l3 y3 z3 st3 hQ3
  subst l3 y3 z3
  obtain ⟨b3, rfl, Nq3, Kq3, szq3, gn_b3, kq3, vs3, Vq3⟩ := hQ3
  have N3 := Fr.app N0 Nq3
  have ne_r1_b3 : r1 ≠ b3 := Nat.ne_of_lt (Nat.lt_of_lt_of_le Vs.lt szq3)
  have ne_r0_b3 : r0 ≠ b3 := Nat.ne_of_lt (Nat.lt_of_lt_of_le E_r0.lt szq3)
  replace Vs := Vs.keep Kq3 List.not_mem_nil
  replace E_r0 := E_r0.keep Kq3
  replace F_value_r0 := F_value_r0.keep Kq3 List.not_mem_nil
  replace F_coder_r0 := F_coder_r0.keep Kq3 List.not_mem_nil
  replace O0 := O0.keep Kq3 (fun x hx => nomatch hx)
  replace K0 := K0.trans Kq3 (fun x hx => nomatch hx)
  obtain ⟨_, _, ⟨T4, L4, k4_, n4⟩, -, X4, ⟨Lc4, hQ4, l4, y4, z4⟩, st4⟩ := Jvm.LawKit.callS X3 hx (y := (⟨"java/lang/StringUTF16", "coderFromArrayLen", "([BI)B"⟩ : MethodName)) hown (mvT hZ (hw _ (List.mem_of_getElem? (i := 26) rfl))) (mvT hZ (hw _ (List.mem_of_getElem? (i := 27) rfl))) (mvT hZ (hw _ (List.mem_of_getElem? (i := 21) rfl))) (mvT hZ (hw _ (List.mem_of_getElem? (i := 28) rfl))) (by decide) (backOf (W := 1) (rmCF_1 l Z a0 hw [] b3 kq3 vs3 T3.heap n0 Vq3) hZ (hw _ (List.mem_of_getElem? (i := 28) rfl)) (hw _ (List.mem_of_getElem? (i := 21) rfl)) (by decide) (by decide)) (g := (mkF m 45 #[.val (.ref r0), .val (.ref r1), .val (.int (0 : Int32)), .val (.int (1 : Int32)), .val .null, .val (.ref b3)] [(.int (1 : Int32)), (.ref b3), (.ref r0)])) rfl (by rw [hml]; rfl) (argsL := [(.ref b3), (.int (1 : Int32))]) (rest := [(.ref r0)]) (lenOf pd_2 rfl) rfl (by show 2 * 0 + _ ≤ _; exact Nat.le_of_eq rfl) (hb hby d2_45) (fun _ _ => ⟨rfl, rfl, (by decide : 1 + 0 ≤ _), (by decide : 1 + 0 ≤ _)⟩)
  dsimp only [Pt.U, Pt.locs, Pt.cells, Pt.slots] at X4 l4 y4 z4 st4 hQ4
  subst l4 y4 z4
  obtain ⟨rfl, Nq4, e4⟩ := hQ4
  have N4 := Fr.app N3 Nq4
  obtain ⟨T5, h5, X5, e5, W5, st5⟩ := putFN X4 hx hZ hown (hw _ (List.mem_of_getElem? (i := 29) rfl)) Via.refl e4 F_coder_r0 E_r0 (Or.inr ⟨(hw _ (List.mem_of_getElem? (i := 30) rfl)), rfl, hnm⟩) (hw _ (List.mem_of_getElem? (i := 6) rfl)) (ty := .byte) (v' := (.int ((0 : Int32).toInt8.toInt32))) (by decide) rfl (fits_nar_byte _) (g := (mkF m 48 #[.val (.ref r0), .val (.ref r1), .val (.int (0 : Int32)), .val (.int (1 : Int32)), .val .null, .val (.ref b3)] [(.int (0 : Int32)), (.ref r0)])) rfl rfl (hb hby d2_48)
  replace Vs := Vs.other W5 hne
  replace E_r0 := E_r0.wr W5
  replace F_value_r0 := F_value_r0.other W5 (Or.inr (slot_ne (Or.inr (hw _ (List.mem_of_getElem? (i := 32) rfl))) (Or.inr (hw _ (List.mem_of_getElem? (i := 30) rfl))) (by decide) (t := (.array .byte)) (t' := .byte) (by decide) (by decide)))
  replace Vq3 := Vq3.other W5 (Ne.symm ne_r0_b3)
  replace O0 := O0.wr W5 g_r0
  replace K0 := K0.wr W5 (Or.inl (List.mem_of_getElem? (i := 0) rfl))
  replace F_coder_r0 := F_coder_r0.same W5
  have N5 := Fr.snoc X5 N4 g_r0
  obtain ⟨T6, h6, X6, e6, W6, st6⟩ := putF X5 hx hZ hown (host := "") (Or.inl (hw _ (List.mem_of_getElem? (i := 31) rfl))) Via.refl e5 F_value_r0 E_r0 (Or.inr ⟨(hw _ (List.mem_of_getElem? (i := 32) rfl)), rfl, hnm⟩) (hw _ (List.mem_of_getElem? (i := 6) rfl)) (ty := (.array .byte)) (by decide) rfl rfl (g := (mkF m 54 #[.val (.ref r0), .val (.ref r1), .val (.int (0 : Int32)), .val (.int (1 : Int32)), .val .null, .val (.ref b3)] [(.ref b3), (.ref r0)])) rfl rfl (hb hby d2_54)
  replace Vs := Vs.other W6 hne
  replace E_r0 := E_r0.wr W6
  replace F_coder_r0 := F_coder_r0.other W6 (Or.inr (slot_ne (Or.inr (hw _ (List.mem_of_getElem? (i := 30) rfl))) (Or.inr (hw _ (List.mem_of_getElem? (i := 32) rfl))) (by decide) (t := .byte) (t' := (.array .byte)) (by decide) (by decide)))
  replace Vq3 := Vq3.other W6 (Ne.symm ne_r0_b3)
  replace O0 := O0.wr W6 g_r0
  replace K0 := K0.wr W6 (Or.inl (List.mem_of_getElem? (i := 0) rfl))
  replace F_value_r0 := F_value_r0.same W6
  have N6 := Fr.snoc X6 N5 g_r0
  have k7 : ∀ t, Steps p.tables e below (T6.setTop (mkF m 57 #[.val (.ref r0), .val (.ref r1), .val (.int (0 : Int32)), .val (.int (1 : Int32)), .val .null, .val (.ref b3)] [])) t → Steps p.tables e below (s₁.setTop (entryFrame m #[(.ref r0), (.ref r1), (.int (0 : Int32)), (.int (1 : Int32)), .null] 6)) t := by
    intro t k
    refine pre0 _ ?_
    show Steps p.tables e below (s₁.setTop (mkF m 0 #[.val (.ref r0), .val (.ref r1), .val (.int (0 : Int32)), .val (.int (1 : Int32)), .val .null, .unset] [])) _
    refine XS.aloadN X0.here hx rfl (hb hby d2_0) rfl rfl ?_
    show Steps p.tables e below (s₁.setTop (mkF m 1 #[.val (.ref r0), .val (.ref r1), .val (.int (0 : Int32)), .val (.int (1 : Int32)), .val .null, .unset] [(.ref r0)])) _
    refine st1 _ ?_
    show Steps p.tables e below (T1.setTop (mkF m 4 #[.val (.ref r0), .val (.ref r1), .val (.int (0 : Int32)), .val (.int (1 : Int32)), .val .null, .unset] [])) _
    refine XS.iloadN X1.here hx rfl (hb hby d2_4) rfl ?_
    show Steps p.tables e below (T1.setTop (mkF m 5 #[.val (.ref r0), .val (.ref r1), .val (.int (0 : Int32)), .val (.int (1 : Int32)), .val .null, .unset] [(.int (1 : Int32))])) _
    refine XS.ifYes X1.here hx rfl (pc0 := 5) (pc' := 27) rfl (hb hby d2_5) rfl ((if0 _ _).trans (feq (by decide)).2) (by decide) (by decide) ?_
    show Steps p.tables e below (T1.setTop (mkF m 27 #[.val (.ref r0), .val (.ref r1), .val (.int (0 : Int32)), .val (.int (1 : Int32)), .val .null, .unset] [])) _
    refine st2 _ ?_
    show Steps p.tables e below (T2.setTop (mkF m 30 #[.val (.ref r0), .val (.ref r1), .val (.int (0 : Int32)), .val (.int (1 : Int32)), .val .null, .unset] [(.int w_CS)])) _
    refine XS.ifNo X2.here hx rfl (hb hby d2_30) rfl ((if0 _ _).trans (feq hCS).1) ?_
    show Steps p.tables e below (T2.setTop (mkF m 33 #[.val (.ref r0), .val (.ref r1), .val (.int (0 : Int32)), .val (.int (1 : Int32)), .val .null, .unset] [])) _
    refine XS.aloadN X2.here hx rfl (hb hby d2_33) rfl rfl ?_
    show Steps p.tables e below (T2.setTop (mkF m 34 #[.val (.ref r0), .val (.ref r1), .val (.int (0 : Int32)), .val (.int (1 : Int32)), .val .null, .unset] [(.ref r1)])) _
    refine XS.iloadN X2.here hx rfl (hb hby d2_34) rfl ?_
    show Steps p.tables e below (T2.setTop (mkF m 35 #[.val (.ref r0), .val (.ref r1), .val (.int (0 : Int32)), .val (.int (1 : Int32)), .val .null, .unset] [(.int (0 : Int32)), (.ref r1)])) _
    refine XS.iloadN X2.here hx rfl (hb hby d2_35) rfl ?_
    show Steps p.tables e below (T2.setTop (mkF m 36 #[.val (.ref r0), .val (.ref r1), .val (.int (0 : Int32)), .val (.int (1 : Int32)), .val .null, .unset] [(.int (1 : Int32)), (.int (0 : Int32)), (.ref r1)])) _
    refine st3 _ ?_
    show Steps p.tables e below (T3.setTop (mkF m 39 #[.val (.ref r0), .val (.ref r1), .val (.int (0 : Int32)), .val (.int (1 : Int32)), .val .null, .unset] [(.ref b3)])) _
    refine XS.astore X3.here hx rfl (hb hby d2_39) rfl rfl (l' := #[.val (.ref r0), .val (.ref r1), .val (.int (0 : Int32)), .val (.int (1 : Int32)), .val .null, .val (.ref b3)]) rfl ?_
    show Steps p.tables e below (T3.setTop (mkF m 41 #[.val (.ref r0), .val (.ref r1), .val (.int (0 : Int32)), .val (.int (1 : Int32)), .val .null, .val (.ref b3)] [])) _
    refine XS.aloadN X3.here hx rfl (hb hby d2_41) rfl rfl ?_
    show Steps p.tables e below (T3.setTop (mkF m 42 #[.val (.ref r0), .val (.ref r1), .val (.int (0 : Int32)), .val (.int (1 : Int32)), .val .null, .val (.ref b3)] [(.ref r0)])) _
    refine XS.aload X3.here hx rfl (hb hby d2_42) rfl rfl ?_
    show Steps p.tables e below (T3.setTop (mkF m 44 #[.val (.ref r0), .val (.ref r1), .val (.int (0 : Int32)), .val (.int (1 : Int32)), .val .null, .val (.ref b3)] [(.ref b3), (.ref r0)])) _
    refine XS.iloadN X3.here hx rfl (hb hby d2_44) rfl ?_
    show Steps p.tables e below (T3.setTop (mkF m 45 #[.val (.ref r0), .val (.ref r1), .val (.int (0 : Int32)), .val (.int (1 : Int32)), .val .null, .val (.ref b3)] [(.int (1 : Int32)), (.ref b3), (.ref r0)])) _
    refine st4 _ ?_
    show Steps p.tables e below (T4.setTop (mkF m 48 #[.val (.ref r0), .val (.ref r1), .val (.int (0 : Int32)), .val (.int (1 : Int32)), .val .null, .val (.ref b3)] [(.int (0 : Int32)), (.ref r0)])) _
    refine st5 _ ?_
    show Steps p.tables e below (T5.setTop (mkF m 51 #[.val (.ref r0), .val (.ref r1), .val (.int (0 : Int32)), .val (.int (1 : Int32)), .val .null, .val (.ref b3)] [])) _
    refine XS.aloadN X5.here hx rfl (hb hby d2_51) rfl rfl ?_
    show Steps p.tables e below (T5.setTop (mkF m 52 #[.val (.ref r0), .val (.ref r1), .val (.int (0 : Int32)), .val (.int (1 : Int32)), .val .null, .val (.ref b3)] [(.ref r0)])) _
    refine XS.aload X5.here hx rfl (hb hby d2_52) rfl rfl ?_
    show Steps p.tables e below (T5.setTop (mkF m 54 #[.val (.ref r0), .val (.ref r1), .val (.int (0 : Int32)), .val (.int (1 : Int32)), .val .null, .val (.ref b3)] [(.ref b3), (.ref r0)])) _
    refine st6 _ ?_
    exact k
  obtain ⟨fs, hr, hrun, hended, hW, hsame⟩ := X6.leave (v := none) (fun _ => rfl)
  refine ⟨_, _, k7 _ ?_, hrun, hended, _, _, rfl, ?_, ⟨_, rfl⟩, hW, hsame.mono (by decide) (by decide)⟩
  · exact X6.returnOut hx Bd.returns (hb hby d2_57) hr
  · show own_SI Z r0 (1 : Int32) h0 n0 _ T6.heap _
    rw [e6]
    exact ⟨rfl, N6, K0, E_r0, _, _, _, F_value_r0, Vq3⟩
theorem ef_rmS1_1 (m : MethodId) (x0 : Addr) (x1 : Addr) : entryFrame m #[(.ref x0), (.ref x1)] 2 = mkF m 0 #[.val (.ref x0), .val (.ref x1)] [] := by first | (simp [entryFrame, mkF, argsToLocals, Value.category]; done) | rfl
theorem d1_0 : decode jdk_42_method_3_code 0 = .ok (.aload_n 0, 1) := by decide +kernel
theorem d1_1 : decode jdk_42_method_3_code 1 = .ok (.aload_n 1, 1) := by decide +kernel
theorem d1_2 : decode jdk_42_method_3_code 2 = .ok (.iconst 0, 1) := by decide +kernel
theorem d1_3 : decode jdk_42_method_3_code 3 = .ok (.aload_n 1, 1) := by decide +kernel
theorem d1_4 : decode jdk_42_method_3_code 4 = .ok (.arraylength, 1) := by decide +kernel
theorem d1_5 : decode jdk_42_method_3_code 5 = .ok (.aconst_null, 1) := by decide +kernel
theorem pd_3 : parseMethodDescriptor "([CIILjava/lang/Void;)V" = some ⟨[(.array .char), .int, .int, (.object "java/lang/Void")], none⟩ := by decide +kernel
theorem d1_6 : decode jdk_42_method_3_code 6 = .ok (.invokespecial 27, 3) := by decide +kernel
theorem d1_9 : decode jdk_42_method_3_code 9 = .ok (.return_, 1) := by decide +kernel
set_option maxRecDepth 65536 in
set_option maxHeartbeats 40000000 in
theorem rmS1_1 (l : Launch) (Z : State) (a0 : Array Value) (hw : ∀ d ∈ tables_1, d.before a0 Z = true) (ws : List Jvm.Cond) (r0 : Addr) (r1 : Addr) (ck : ClassId) (v0 : Int32) (w_CS : Int32) (h0 : Heap) (n0 : Nat) (hG : own_G Z w_CS) (O0 : Old Z n0 h0) (Z0 : n0 ≤ h0.size) (g_r0 : n0 ≤ r0) (E_r0 : Exa Z h0 r0 "java/lang/String") (F_value_r0 : Fld Z h0 r0 "java/lang/String" "value" "[B" .null) (F_coder_r0 : Fld Z h0 r0 "java/lang/String" "coder" "B" (.int (0 : Int32))) (hne : r1 ≠ r0) (Vs : Arv Z h0 r1 ck .char (1 : Int32) [(.int v0)] (.int (0 : Int32))) (hv0 : ¬ (255 : Int32) < v0) :
    MetFree l (⟨"java/lang/String", "<init>", "([C)V"⟩ : MethodName) (head1 (Jvm.Cond.code (⟨"java/lang/String", "<init>", "([C)V"⟩ : MethodName) jdk_42_method_3_code 2 none :: ws) ({ frames := 3, cells := 1, slots := 1, locals := 52 } : Room)) (fun a U => a = #[(.ref r0), (.ref r1)] ∧ Z.Warmed39 U.vm ∧ U.heap = h0) (fun _ _ _ _ _ => True) (fun _ U o U' => ∃ v L, o = .returned v ∧ own_SI Z r0 (1 : Int32) h0 n0 v U'.heap L ∧ FrameEnd U o U' L ({ frames := 3, cells := 1, slots := 1, locals := 52 } : Room).cells ({ frames := 3, cells := 1, slots := 1, locals := 52 } : Room).slots) := by
  refine MetFree.of_bodySF (plainFor_of_name pn_1) hisR ?_
  intro p e s m args below meth c s₁ Bd hml0 hP hK
  obtain ⟨rfl, hZ, hh⟩ := hP
  have hx := Bd.exec
  have hby := Bd.bytes
  have hml : c.maxLocals = 2 := hml0
  have hown : s.vm.findClass "java/lang/String" = some m.cls := findClass_of_methodNamed Bd.named
  have hnm := (name_of_methodNamed Bd.named Bd.method).1
  have X0 : Stand p l e ({ frames := 3, cells := 1, slots := 1, locals := 52 } : Room) s m #[(.ref r0), (.ref r1)] below meth c s₁ [] 0 0 := Stand.of_body Bd
  have e0 : s₁.heap = h0 := by rw [← hh, Bd.state]; rfl
  have N0 := Fr.nil n0
  have pre0 : ∀ t, Steps p.tables e below (s₁.setTop (mkF m 0 #[.val (.ref r0), .val (.ref r1)] [])) t → Steps p.tables e below (s₁.setTop (entryFrame m #[(.ref r0), (.ref r1)] 2)) t := fun t k => castTop (ef_rmS1_1 m r0 r1) k
  have hG' := hG
  obtain ⟨S_CS, hCS⟩ := hG'
  have K0 : Keep h0 h0 [r0] := Keep.refl _ _
  have k2 : ∀ t, Steps p.tables e below (s₁.setTop (mkF m 6 #[.val (.ref r0), .val (.ref r1)] [.null, (.int (1 : Int32)), (.int (0 : Int32)), (.ref r1), (.ref r0)])) t → Steps p.tables e below (s₁.setTop (entryFrame m #[(.ref r0), (.ref r1)] 2)) t := by
    intro t k
    refine pre0 _ ?_
    show Steps p.tables e below (s₁.setTop (mkF m 0 #[.val (.ref r0), .val (.ref r1)] [])) _
    refine XS.aloadN X0.here hx rfl (hb hby d1_0) rfl rfl ?_
    show Steps p.tables e below (s₁.setTop (mkF m 1 #[.val (.ref r0), .val (.ref r1)] [(.ref r0)])) _
    refine XS.aloadN X0.here hx rfl (hb hby d1_1) rfl rfl ?_
    show Steps p.tables e below (s₁.setTop (mkF m 2 #[.val (.ref r0), .val (.ref r1)] [(.ref r1), (.ref r0)])) _
    refine XS.iconst X0.here hx rfl (hb hby d1_2) ?_
    show Steps p.tables e below (s₁.setTop (mkF m 3 #[.val (.ref r0), .val (.ref r1)] [(.int (0 : Int32)), (.ref r1), (.ref r0)])) _
    refine XS.aloadN X0.here hx rfl (hb hby d1_3) rfl rfl ?_
    show Steps p.tables e below (s₁.setTop (mkF m 4 #[.val (.ref r0), .val (.ref r1)] [(.ref r1), (.int (0 : Int32)), (.ref r1), (.ref r0)])) _
    obtain ⟨cl_1, Ar_1, -, S_1, N_1, -, -⟩ := id Vs
    refine X0.arraylength hx (by rw [e0]; exact Ar_1.1) (State.isArrayOf_alike hZ.alike Ar_1.2.1) (g := (mkF m 4 #[.val (.ref r0), .val (.ref r1)] [(.ref r1), (.int (0 : Int32)), (.ref r1), (.ref r0)])) rfl rfl (hb hby d1_4) _ ?_
    rw [len_of S_1 N_1]
    show Steps p.tables e below (s₁.setTop (mkF m 5 #[.val (.ref r0), .val (.ref r1)] [(.int (1 : Int32)), (.int (0 : Int32)), (.ref r1), (.ref r0)])) _
    refine XS.aconstNull X0.here hx rfl (hb hby d1_5) ?_
    exact k
  obtain ⟨_, _, ⟨T3, L3, k3_, n3⟩, -, X3, ⟨Lc3, hQ3, l3, y3, z3⟩, st3⟩ := X0.specialBack hx (y := (⟨"java/lang/String", "<init>", "([CIILjava/lang/Void;)V"⟩ : MethodName)) rfl hown (mvT hZ (hw _ (List.mem_of_getElem? (i := 11) rfl))) (mvT hZ (hw _ (List.mem_of_getElem? (i := 12) rfl))) (mvT hZ (hw _ (List.mem_of_getElem? (i := 14) rfl))) (by decide) (backOf (W := 0) (rmS2_1 l Z a0 hw [] r0 r1 ck v0 w_CS h0 n0 hG O0 (O0.1 ▸ O0.2.1) g_r0 E_r0 F_value_r0 F_coder_r0 hne Vs hv0) hZ (hw _ (List.mem_of_getElem? (i := 14) rfl)) (hw _ (List.mem_of_getElem? (i := 7) rfl)) (by decide) (by decide)) (g := (mkF m 6 #[.val (.ref r0), .val (.ref r1)] [.null, (.int (1 : Int32)), (.int (0 : Int32)), (.ref r1), (.ref r0)])) rfl (by rw [hml]; rfl) (Steps.refl _) (a := r0) (argsL := [(.ref r1), (.int (0 : Int32)), (.int (1 : Int32)), .null]) (rest := []) (lenOf pd_3 rfl) rfl (by show 2 * 0 + _ ≤ _; exact Nat.le_of_eq rfl) (hb hby d1_6) (fun _ _ => ⟨rfl, e0, (by decide : 0 + 1 ≤ _), (by decide : 0 + 1 ≤ _)⟩)
  dsimp only [Pt.U, Pt.locs, Pt.cells, Pt.slots] at X3 l3 y3 z3 st3 hQ3
  subst l3 y3 z3
  obtain ⟨rfl, Nq3, Kq3, Eq3, bv3, kq3, vs3, Fq3, Vq3⟩ := hQ3
  have N3 := Fr.app N0 Nq3
  replace Vs := Vs.keep Kq3 (fun q => hne (List.mem_singleton.mp q))
  replace E_r0 := E_r0.keep Kq3
  replace O0 := O0.keep Kq3 (fun x hx => by cases List.mem_singleton.mp hx; exact g_r0)
  replace K0 := K0.trans Kq3 (fun x hx => by cases List.mem_singleton.mp hx; exact (Or.inl (List.mem_of_getElem? (i := 0) rfl)))
  have k4 : ∀ t, Steps p.tables e below (T3.setTop (mkF m 9 #[.val (.ref r0), .val (.ref r1)] [])) t → Steps p.tables e below (s₁.setTop (entryFrame m #[(.ref r0), (.ref r1)] 2)) t := by
    intro t k
    refine k2 _ ?_
    show Steps p.tables e below (s₁.setTop (mkF m 6 #[.val (.ref r0), .val (.ref r1)] [.null, (.int (1 : Int32)), (.int (0 : Int32)), (.ref r1), (.ref r0)])) _
    refine st3.trans ?_
    exact k
  obtain ⟨fs, hr, hrun, hended, hW, hsame⟩ := X3.leave (v := none) (fun _ => rfl)
  refine ⟨_, _, k4 _ ?_, hrun, hended, _, _, rfl, ?_, ⟨_, rfl⟩, hW, hsame.mono (by decide) (by decide)⟩
  · exact X3.returnOut hx Bd.returns (hb hby d1_9) hr
  · show own_SI Z r0 (1 : Int32) h0 n0 _ T3.heap _
    exact ⟨rfl, N3, K0, E_r0, _, _, _, Fq3, Vq3⟩
theorem own_wS {Z : State} {a0 : Array Value} (hw : ∀ d ∈ tables_1, d.before a0 Z = true) : ∀ a ∈ Bundle.stringAtoms, a.before a0 Z = true := by
  intro a ha
  simp only [Bundle.stringAtoms, List.mem_cons, List.not_mem_nil, or_false] at ha
  rcases ha with rfl | rfl | rfl | rfl | rfl | rfl | rfl
  · exact hw _ (List.mem_of_getElem? (i := 7) rfl)
  · exact hw _ (List.mem_of_getElem? (i := 6) rfl)
  · exact hw _ (List.mem_of_getElem? (i := 0) rfl)
  · exact hw _ (List.mem_of_getElem? (i := 32) rfl)
  · exact hw _ (List.mem_of_getElem? (i := 30) rfl)
  · exact hw _ (List.mem_of_getElem? (i := 43) rfl)
  · exact hw _ (List.mem_of_getElem? (i := 44) rfl)
theorem pn_2 : plainName "java/lang/Record" = true := by first | (simp [plainName, overriddenIn]; done) | decide +kernel
theorem ef_rm8 (m : MethodId) (x0 : Addr) : entryFrame m #[(.ref x0)] 1 = mkF m 0 #[.val (.ref x0)] [] := by first | (simp [entryFrame, mkF, argsToLocals, Value.category]; done) | rfl
theorem d8_0 : decode jdk_30_method_1_code 0 = .ok (.aload_n 0, 1) := by decide +kernel
theorem d8_1 : decode jdk_30_method_1_code 1 = .ok (.invokespecial 1, 3) := by decide +kernel
theorem d8_4 : decode jdk_30_method_1_code 4 = .ok (.return_, 1) := by decide +kernel
set_option maxRecDepth 65536 in
set_option maxHeartbeats 40000000 in
theorem rm8 (l : Launch) (Z : State) (a0 : Array Value) (hw : ∀ d ∈ tables_1, d.before a0 Z = true) (ws : List Jvm.Cond) (r0 : Addr) (h0 : Heap) (n0 : Nat) :
    MetFree l (⟨"java/lang/Record", "<init>", "()V"⟩ : MethodName) (head1 (Jvm.Cond.code (⟨"java/lang/Record", "<init>", "()V"⟩ : MethodName) jdk_30_method_1_code 1 none :: ws) ({ frames := 1, cells := 0, slots := 0, locals := 12 } : Room)) (fun a U => a = #[(.ref r0)] ∧ Z.Warmed39 U.vm ∧ U.heap = h0) (fun _ _ _ _ _ => True) (fun _ U o U' => ∃ v L, o = .returned v ∧ own_Q (none) h0 n0 v U'.heap L ∧ FrameEnd U o U' L ({ frames := 1, cells := 0, slots := 0, locals := 12 } : Room).cells ({ frames := 1, cells := 0, slots := 0, locals := 12 } : Room).slots) := by
  refine MetFree.of_bodySF (plainFor_of_name pn_2) hisR ?_
  intro p e s m args below meth c s₁ Bd hml0 hP hK
  obtain ⟨rfl, hZ, hh⟩ := hP
  have hx := Bd.exec
  have hby := Bd.bytes
  have hml : c.maxLocals = 1 := hml0
  have hown : s.vm.findClass "java/lang/Record" = some m.cls := findClass_of_methodNamed Bd.named
  have hnm := (name_of_methodNamed Bd.named Bd.method).1
  have X0 : Stand p l e ({ frames := 1, cells := 0, slots := 0, locals := 12 } : Room) s m #[(.ref r0)] below meth c s₁ [] 0 0 := Stand.of_body Bd
  have e0 : s₁.heap = h0 := by rw [← hh, Bd.state]; rfl
  have N0 := Fr.nil n0
  have pre0 : ∀ t, Steps p.tables e below (s₁.setTop (mkF m 0 #[.val (.ref r0)] [])) t → Steps p.tables e below (s₁.setTop (entryFrame m #[(.ref r0)] 1)) t := fun t k => castTop (ef_rm8 m r0) k
  obtain ⟨T1, X1, e1, st1⟩ := initO X0 hx hZ hown (hw _ (List.mem_of_getElem? (i := 41) rfl)) (hw _ (List.mem_of_getElem? (i := 16) rfl)) (hw _ (List.mem_of_getElem? (i := 17) rfl)) e0 (g := (mkF m 1 #[.val (.ref r0)] [(.ref r0)])) rfl (by rw [hml]; rfl) rfl (hb hby d8_1) (by decide) (W := 0) (by show 2 * 0 + _ ≤ _; exact Nat.le_of_eq rfl) (by decide)
  have k2 : ∀ t, Steps p.tables e below (T1.setTop (mkF m 4 #[.val (.ref r0)] [])) t → Steps p.tables e below (s₁.setTop (entryFrame m #[(.ref r0)] 1)) t := by
    intro t k
    refine pre0 _ ?_
    show Steps p.tables e below (s₁.setTop (mkF m 0 #[.val (.ref r0)] [])) _
    refine XS.aloadN X0.here hx rfl (hb hby d8_0) rfl rfl ?_
    show Steps p.tables e below (s₁.setTop (mkF m 1 #[.val (.ref r0)] [(.ref r0)])) _
    refine st1 _ ?_
    exact k
  obtain ⟨fs, hr, hrun, hended, hW, hsame⟩ := X1.leave (v := none) (fun _ => rfl)
  refine ⟨_, _, k2 _ ?_, hrun, hended, _, _, rfl, ?_, ⟨_, rfl⟩, hW, hsame.mono (by decide) (by decide)⟩
  · exact X1.returnOut hx Bd.returns (hb hby d8_4) hr
  · show own_Q (none) h0 n0 _ T1.heap _
    rw [e1]
    exact ⟨rfl, N0, rfl⟩
theorem pn_3 : plainName "java/util/Objects" = true := by first | (simp [plainName, overriddenIn]; done) | decide +kernel
theorem ef_rm9 (m : MethodId) (x0 : Addr) (x1 : Addr) : entryFrame m #[(.ref x0), (.ref x1)] 2 = mkF m 0 #[.val (.ref x0), .val (.ref x1)] [] := by first | (simp [entryFrame, mkF, argsToLocals, Value.category]; done) | rfl
theorem d9_0 : decode jdk_31_method_11_code 0 = .ok (.aload_n 0, 1) := by decide +kernel
theorem d9_1 : decode jdk_31_method_11_code 1 = .ok (.ifnonnull 12, 3) := by decide +kernel
theorem d9_13 : decode jdk_31_method_11_code 13 = .ok (.aload_n 0, 1) := by decide +kernel
theorem d9_14 : decode jdk_31_method_11_code 14 = .ok (.areturn, 1) := by decide +kernel
def own_f9 (r0 : Addr) (r1 : Addr) : Addr := r0
set_option maxRecDepth 65536 in
set_option maxHeartbeats 40000000 in
theorem rm9 (l : Launch) (Z : State) (a0 : Array Value) (hw : ∀ d ∈ tables_1, d.before a0 Z = true) (ws : List Jvm.Cond) (r0 : Addr) (r1 : Addr) (h0 : Heap) (n0 : Nat) :
    MetFree l (⟨"java/util/Objects", "requireNonNull", "(Ljava/lang/Object;Ljava/lang/String;)Ljava/lang/Object;"⟩ : MethodName) (head1 (Jvm.Cond.code (⟨"java/util/Objects", "requireNonNull", "(Ljava/lang/Object;Ljava/lang/String;)Ljava/lang/Object;"⟩ : MethodName) jdk_31_method_11_code 2 (some (.object "java/lang/Object")) :: ws) ({ frames := 0, cells := 0, slots := 0, locals := 0 } : Room)) (fun a U => a = #[(.ref r0), (.ref r1)] ∧ Z.Warmed39 U.vm ∧ U.heap = h0) (fun _ _ _ _ _ => True) (fun _ U o U' => ∃ v L, o = .returned v ∧ own_Q (some (.ref (own_f9 r0 r1))) h0 n0 v U'.heap L ∧ FrameEnd U o U' L ({ frames := 0, cells := 0, slots := 0, locals := 0 } : Room).cells ({ frames := 0, cells := 0, slots := 0, locals := 0 } : Room).slots) := by
  refine MetFree.of_bodySF (plainFor_of_name pn_3) hisR ?_
  intro p e s m args below meth c s₁ Bd hml0 hP hK
  obtain ⟨rfl, hZ, hh⟩ := hP
  have hx := Bd.exec
  have hby := Bd.bytes
  have hml : c.maxLocals = 2 := hml0
  have hown : s.vm.findClass "java/util/Objects" = some m.cls := findClass_of_methodNamed Bd.named
  have hnm := (name_of_methodNamed Bd.named Bd.method).1
  have X0 : Stand p l e ({ frames := 0, cells := 0, slots := 0, locals := 0 } : Room) s m #[(.ref r0), (.ref r1)] below meth c s₁ [] 0 0 := Stand.of_body Bd
  have e0 : s₁.heap = h0 := by rw [← hh, Bd.state]; rfl
  have N0 := Fr.nil n0
  have pre0 : ∀ t, Steps p.tables e below (s₁.setTop (mkF m 0 #[.val (.ref r0), .val (.ref r1)] [])) t → Steps p.tables e below (s₁.setTop (entryFrame m #[(.ref r0), (.ref r1)] 2)) t := fun t k => castTop (ef_rm9 m r0 r1) k
  have k1 : ∀ t, Steps p.tables e below (s₁.setTop (mkF m 14 #[.val (.ref r0), .val (.ref r1)] [(.ref r0)])) t → Steps p.tables e below (s₁.setTop (entryFrame m #[(.ref r0), (.ref r1)] 2)) t := by
    intro t k
    refine pre0 _ ?_
    show Steps p.tables e below (s₁.setTop (mkF m 0 #[.val (.ref r0), .val (.ref r1)] [])) _
    refine XS.aloadN X0.here hx rfl (hb hby d9_0) rfl rfl ?_
    show Steps p.tables e below (s₁.setTop (mkF m 1 #[.val (.ref r0), .val (.ref r1)] [(.ref r0)])) _
    refine XS.ifnonnullYes X0.here hx rfl (pc0 := 1) (pc' := 13) rfl (hb hby d9_1) rfl (by decide) (by decide) ?_
    show Steps p.tables e below (s₁.setTop (mkF m 13 #[.val (.ref r0), .val (.ref r1)] [])) _
    refine XS.aloadN X0.here hx rfl (hb hby d9_13) rfl rfl ?_
    exact k
  obtain ⟨fs, hr, hrun, hended, hW, hsame⟩ := X0.leave (v := some (.ref r0)) (fun h => by rw [Bd.returns] at h; cases h)
  refine ⟨_, _, k1 _ ?_, hrun, hended, _, _, rfl, ?_, ⟨_, rfl⟩, hW, hsame.mono (by decide) (by decide)⟩
  · exact retOut X0 hx Bd.returns rfl (Or.inr (Or.inr (Or.inr (Or.inr ⟨rfl, rfl, rfl⟩)))) (hb hby d9_14) hr
  · show own_Q (some (.ref (own_f9 r0 r1))) h0 n0 _ s₁.heap _
    rw [e0]
    exact ⟨rfl, N0, rfl⟩
theorem ef_rm10 (m : MethodId) (x0 : Addr) : entryFrame m #[(.ref x0)] 1 = mkF m 0 #[.val (.ref x0)] [] := by first | (simp [entryFrame, mkF, argsToLocals, Value.category]; done) | rfl
theorem d10_0 : decode jdk_42_method_55_code 0 = .ok (.aload_n 0, 1) := by decide +kernel
theorem d10_1 : decode jdk_42_method_55_code 1 = .ok (.getfield 9, 3) := by decide +kernel
theorem d10_4 : decode jdk_42_method_55_code 4 = .ok (.arraylength, 1) := by decide +kernel
theorem d10_5 : decode jdk_42_method_55_code 5 = .ok (.ifCond .ne 7, 3) := by decide +kernel
theorem d10_12 : decode jdk_42_method_55_code 12 = .ok (.iconst 0, 1) := by decide +kernel
theorem d10_13 : decode jdk_42_method_55_code 13 = .ok (.ireturn, 1) := by decide +kernel
def own_f10  : Int32 := (0 : Int32)
set_option maxRecDepth 65536 in
set_option maxHeartbeats 40000000 in
theorem rm10 (l : Launch) (Z : State) (a0 : Array Value) (hw : ∀ d ∈ tables_1, d.before a0 Z = true) (ws : List Jvm.Cond) (r0 : Addr) (r1 : Addr) (cb : ClassId) (vs0 : List Value) (h0 : Heap) (n0 : Nat) (Fv : Fld Z h0 r0 "java/lang/String" "value" "[B" (.ref r1)) (Va : Arv Z h0 r1 cb .byte (1 : Int32) vs0 (.int (0 : Int32))) :
    MetFree l (⟨"java/lang/String", "isEmpty", "()Z"⟩ : MethodName) (head1 (Jvm.Cond.code (⟨"java/lang/String", "isEmpty", "()Z"⟩ : MethodName) jdk_42_method_55_code 1 (some .boolean) :: ws) ({ frames := 0, cells := 0, slots := 0, locals := 0 } : Room)) (fun a U => a = #[(.ref r0)] ∧ Z.Warmed39 U.vm ∧ U.heap = h0) (fun _ _ _ _ _ => True) (fun _ U o U' => ∃ v L, o = .returned v ∧ own_Q (some (.int (own_f10 ))) h0 n0 v U'.heap L ∧ FrameEnd U o U' L ({ frames := 0, cells := 0, slots := 0, locals := 0 } : Room).cells ({ frames := 0, cells := 0, slots := 0, locals := 0 } : Room).slots) := by
  refine MetFree.of_bodySF (plainFor_of_name pn_1) hisR ?_
  intro p e s m args below meth c s₁ Bd hml0 hP hK
  obtain ⟨rfl, hZ, hh⟩ := hP
  have hx := Bd.exec
  have hby := Bd.bytes
  have hml : c.maxLocals = 1 := hml0
  have hown : s.vm.findClass "java/lang/String" = some m.cls := findClass_of_methodNamed Bd.named
  have hnm := (name_of_methodNamed Bd.named Bd.method).1
  have X0 : Stand p l e ({ frames := 0, cells := 0, slots := 0, locals := 0 } : Room) s m #[(.ref r0)] below meth c s₁ [] 0 0 := Stand.of_body Bd
  have e0 : s₁.heap = h0 := by rw [← hh, Bd.state]; rfl
  have N0 := Fr.nil n0
  have pre0 : ∀ t, Steps p.tables e below (s₁.setTop (mkF m 0 #[.val (.ref r0)] [])) t → Steps p.tables e below (s₁.setTop (entryFrame m #[(.ref r0)] 1)) t := fun t k => castTop (ef_rm10 m r0) k
  obtain ⟨T1, X1, e1, st1⟩ := getF X0 hx hZ hown (host := "") (Or.inl (hw _ (List.mem_of_getElem? (i := 31) rfl))) Via.refl e0 Fv (g := (mkF m 1 #[.val (.ref r0)] [(.ref r0)])) rfl rfl (hb hby d10_1)
  have k3 : ∀ t, Steps p.tables e below (T1.setTop (mkF m 13 #[.val (.ref r0)] [(.int (0 : Int32))])) t → Steps p.tables e below (s₁.setTop (entryFrame m #[(.ref r0)] 1)) t := by
    intro t k
    refine pre0 _ ?_
    show Steps p.tables e below (s₁.setTop (mkF m 0 #[.val (.ref r0)] [])) _
    refine XS.aloadN X0.here hx rfl (hb hby d10_0) rfl rfl ?_
    show Steps p.tables e below (s₁.setTop (mkF m 1 #[.val (.ref r0)] [(.ref r0)])) _
    refine st1 _ ?_
    show Steps p.tables e below (T1.setTop (mkF m 4 #[.val (.ref r0)] [(.ref r1)])) _
    obtain ⟨cl_2, Ar_2, -, S_2, N_2, -, -⟩ := id Va
    refine X1.arraylength hx (by rw [e1]; exact Ar_2.1) (State.isArrayOf_alike hZ.alike Ar_2.2.1) (g := (mkF m 4 #[.val (.ref r0)] [(.ref r1)])) rfl rfl (hb hby d10_4) _ ?_
    rw [len_of S_2 N_2]
    show Steps p.tables e below (T1.setTop (mkF m 5 #[.val (.ref r0)] [(.int (1 : Int32))])) _
    refine XS.ifYes X1.here hx rfl (pc0 := 5) (pc' := 12) rfl (hb hby d10_5) rfl ((if0 _ _).trans (feq (by decide)).2) (by decide) (by decide) ?_
    show Steps p.tables e below (T1.setTop (mkF m 12 #[.val (.ref r0)] [])) _
    refine XS.iconst X1.here hx rfl (hb hby d10_12) ?_
    exact k
  obtain ⟨fs, hr, hrun, hended, hW, hsame⟩ := X1.leave (v := some (.int (0 : Int32))) (fun h => by rw [Bd.returns] at h; cases h)
  refine ⟨_, _, k3 _ ?_, hrun, hended, _, _, rfl, ?_, ⟨_, rfl⟩, hW, hsame.mono (by decide) (by decide)⟩
  · exact retN X1 hx (t := .boolean) Bd.returns (by simp) (hb hby d10_13) hr
  · show own_Q (some (.int (own_f10 ))) h0 n0 _ T1.heap _
    rw [e1]
    exact ⟨rfl, N0, rfl⟩
def own_UI (Z : State) (r0 : Addr) (zl : Int32) (h0 : Heap) (n0 : Nat) (v : Option Value) (h : Heap) (L : List Loc) : Prop := v = none ∧ Fr n0 L ∧ Keep h0 h [r0] ∧ Exa Z h r0 "com/example/valentia/valentia/state/Update" ∧ ∃ b k vs, Fld Z h r0 "com/example/valentia/valentia/state/Update" "value" "[B" (.ref b) ∧ Arv Z h b k .byte zl vs (.int (0 : Int32))
theorem pn_4 : plainName "com/example/valentia/valentia/state/Update" = true := by first | (simp [plainName, overriddenIn]; done) | decide +kernel
theorem ef_rm7 (m : MethodId) (x0 : Addr) (x1 : Addr) (x2 : Addr) : entryFrame m #[(.ref x0), (.ref x1), (.ref x2)] 3 = mkF m 0 #[.val (.ref x0), .val (.ref x1), .val (.ref x2)] [] := by first | (simp [entryFrame, mkF, argsToLocals, Value.category]; done) | rfl
theorem d7_0 : decode prog_62_method_1_code 0 = .ok (.aload_n 0, 1) := by decide +kernel
theorem pd_4 : parseMethodDescriptor "()V" = some ⟨[], none⟩ := by decide +kernel
theorem d7_1 : decode prog_62_method_1_code 1 = .ok (.invokespecial 1, 3) := by decide +kernel
theorem d7_4 : decode prog_62_method_1_code 4 = .ok (.aload_n 1, 1) := by decide +kernel
theorem d7_5 : decode prog_62_method_1_code 5 = .ok (.ldc 7, 2) := by decide +kernel
theorem pd_5 : parseMethodDescriptor "(Ljava/lang/Object;Ljava/lang/String;)Ljava/lang/Object;" = some ⟨[(.object "java/lang/Object"), (.object "java/lang/String")], some (.object "java/lang/Object")⟩ := by decide +kernel
theorem d7_7 : decode prog_62_method_1_code 7 = .ok (.invokestatic 9, 3) := by decide +kernel
theorem d7_10 : decode prog_62_method_1_code 10 = .ok (.pop, 1) := by decide +kernel
theorem d7_11 : decode prog_62_method_1_code 11 = .ok (.aload_n 2, 1) := by decide +kernel
theorem d7_12 : decode prog_62_method_1_code 12 = .ok (.ldc 15, 2) := by decide +kernel
theorem d7_14 : decode prog_62_method_1_code 14 = .ok (.invokestatic 9, 3) := by decide +kernel
theorem d7_17 : decode prog_62_method_1_code 17 = .ok (.pop, 1) := by decide +kernel
theorem d7_18 : decode prog_62_method_1_code 18 = .ok (.aload_n 1, 1) := by decide +kernel
theorem pd_6 : parseMethodDescriptor "()Z" = some ⟨[], some .boolean⟩ := by decide +kernel
theorem d7_19 : decode prog_62_method_1_code 19 = .ok (.invokevirtual 17, 3) := by decide +kernel
theorem d7_22 : decode prog_62_method_1_code 22 = .ok (.ifCond .eq 13, 3) := by decide +kernel
theorem d7_35 : decode prog_62_method_1_code 35 = .ok (.aload_n 2, 1) := by decide +kernel
theorem d7_36 : decode prog_62_method_1_code 36 = .ok (.invokevirtual 30, 3) := by decide +kernel
theorem d7_39 : decode prog_62_method_1_code 39 = .ok (.checkcast 31, 3) := by decide +kernel
theorem d7_42 : decode prog_62_method_1_code 42 = .ok (.astore_n 2, 1) := by decide +kernel
theorem d7_43 : decode prog_62_method_1_code 43 = .ok (.aload_n 0, 1) := by decide +kernel
theorem d7_44 : decode prog_62_method_1_code 44 = .ok (.aload_n 1, 1) := by decide +kernel
theorem d7_45 : decode prog_62_method_1_code 45 = .ok (.putfield 36, 3) := by decide +kernel
theorem d7_48 : decode prog_62_method_1_code 48 = .ok (.aload_n 0, 1) := by decide +kernel
theorem d7_49 : decode prog_62_method_1_code 49 = .ok (.aload_n 2, 1) := by decide +kernel
theorem d7_50 : decode prog_62_method_1_code 50 = .ok (.putfield 41, 3) := by decide +kernel
theorem d7_53 : decode prog_62_method_1_code 53 = .ok (.return_, 1) := by decide +kernel
set_option maxRecDepth 65536 in
set_option maxHeartbeats 40000000 in
theorem rm7 (l : Launch) (Z : State) (a0 : Array Value) (hw : ∀ d ∈ tables_1, d.before a0 Z = true) (ws : List Jvm.Cond) (r0 : Addr) (r1 : Addr) (r2 : Addr) (r3 : Addr) (cb ck : ClassId) (vs3 vs2 : List Value) (zl : Int32) (h0 : Heap) (n0 : Nat) (Z0 : n0 ≤ h0.size) (g_r0 : n0 ≤ r0) (E_r0 : Exa Z h0 r0 "com/example/valentia/valentia/state/Update") (F_key_r0 : Fld Z h0 r0 "com/example/valentia/valentia/state/Update" "key" "Ljava/lang/String;" .null) (F_value_r0 : Fld Z h0 r0 "com/example/valentia/valentia/state/Update" "value" "[B" .null) (E_r1 : Exa Z h0 r1 "java/lang/String") (F_value_r1 : Fld Z h0 r1 "java/lang/String" "value" "[B" (.ref r3)) (V_r3 : Arv Z h0 r3 cb .byte (1 : Int32) vs3 (.int (0 : Int32))) (E_r2 : Exa Z h0 r2 "[B") (V_r2 : Arv Z h0 r2 ck .byte zl vs2 (.int (0 : Int32))) (hz : zl.toNatClampNeg ≤ 3) (ne10 : r1 ≠ r0) (ne20 : r2 ≠ r0) (ne30 : r3 ≠ r0) :
    MetFree l (⟨"com/example/valentia/valentia/state/Update", "<init>", "(Ljava/lang/String;[B)V"⟩ : MethodName) (head1 (Jvm.Cond.code (⟨"com/example/valentia/valentia/state/Update", "<init>", "(Ljava/lang/String;[B)V"⟩ : MethodName) prog_62_method_1_code 3 none :: ws) ({ frames := 2, cells := 5, slots := 43, locals := 24 } : Room)) (fun a U => a = #[(.ref r0), (.ref r1), (.ref r2)] ∧ Z.Warmed39 U.vm ∧ U.heap = h0) (fun _ _ _ _ _ => True) (fun _ U o U' => ∃ v L, o = .returned v ∧ own_UI Z r0 zl h0 n0 v U'.heap L ∧ ReturnedEndW U o U' L ({ frames := 2, cells := 5, slots := 43, locals := 24 } : Room).cells ({ frames := 2, cells := 5, slots := 43, locals := 24 } : Room).slots) := by
  refine MetFree.of_bodySF (plainFor_of_name pn_4) hisR ?_
  intro p e s m args below meth c s₁ Bd hml0 hP hK
  obtain ⟨rfl, hZ, hh⟩ := hP
  have hx := Bd.exec
  have hby := Bd.bytes
  have hml : c.maxLocals = 3 := hml0
  have hown : s.vm.findClass "com/example/valentia/valentia/state/Update" = some m.cls := findClass_of_methodNamed Bd.named
  have hnm := (name_of_methodNamed Bd.named Bd.method).1
  have X0 : Stand p l e ({ frames := 2, cells := 5, slots := 43, locals := 24 } : Room) (s.setVm s.vm) m #[(.ref r0), (.ref r1), (.ref r2)] below meth c s₁ [] 0 0 := Stand.of_body Bd
  have e0 : s₁.heap = h0 := by rw [← hh, Bd.state]; rfl
  have N0 := Fr.nil n0
  have pre0 : ∀ t, Steps p.tables e below (s₁.setTop (mkF m 0 #[.val (.ref r0), .val (.ref r1), .val (.ref r2)] [])) t → Steps p.tables e below (s₁.setTop (entryFrame m #[(.ref r0), (.ref r1), (.ref r2)] 3)) t := fun t k => castTop (ef_rm7 m r0 r1 r2) k
  have hS : s.Since s.vm 0 := (State.WarmedH.refl s).since 0
  have hk : 0 ≤ h0.size := Nat.zero_le _
  replace hZ : Z.Warmed39 (s.setVm s.vm).vm := hZ
  replace hown : (s.setVm s.vm).vm.findClass "com/example/valentia/valentia/state/Update" = some m.cls := hown
  have K0 : Keep h0 h0 [r0] := Keep.refl _ _
  obtain ⟨_, _, ⟨T1, L1, k1_, n1⟩, -, X1, ⟨Lc1, hQ1, l1, y1, z1⟩, st1⟩ := X0.specialBack hx (y := (⟨"java/lang/Record", "<init>", "()V"⟩ : MethodName)) rfl hown (mvT hZ (hw _ (List.mem_of_getElem? (i := 36) rfl))) (mvT hZ (hw _ (List.mem_of_getElem? (i := 37) rfl))) (mvT hZ (hw _ (List.mem_of_getElem? (i := 40) rfl))) (by decide) (backOf (W := 0) (rm8 l Z a0 hw [] r0 h0 n0 ) hZ (hw _ (List.mem_of_getElem? (i := 40) rfl)) (hw _ (List.mem_of_getElem? (i := 39) rfl)) (by decide) (by decide)) (g := (mkF m 1 #[.val (.ref r0), .val (.ref r1), .val (.ref r2)] [(.ref r0)])) rfl (by rw [hml]; rfl) (Steps.refl _) (a := r0) (argsL := []) (rest := []) (lenOf pd_4 rfl) rfl (by show 2 * 0 + _ ≤ _; exact Nat.le_of_eq rfl) (hb hby d7_1) (fun _ _ => ⟨rfl, e0, (by decide : 0 + 0 ≤ _), (by decide : 0 + 0 ≤ _)⟩)
  dsimp only [Pt.U, Pt.locs, Pt.cells, Pt.slots] at X1 l1 y1 z1 st1 hQ1
  subst l1 y1 z1
  obtain ⟨rfl, Nq1, e1⟩ := hQ1
  have N1 := Fr.app N0 Nq1
  have k2 : ∀ t, Steps p.tables e below (T1.setTop (mkF m 5 #[.val (.ref r0), .val (.ref r1), .val (.ref r2)] [(.ref r1)])) t → Steps p.tables e below (s₁.setTop (entryFrame m #[(.ref r0), (.ref r1), (.ref r2)] 3)) t := by
    intro t k
    refine pre0 _ ?_
    show Steps p.tables e below (s₁.setTop (mkF m 0 #[.val (.ref r0), .val (.ref r1), .val (.ref r2)] [])) _
    refine XS.aloadN X0.here hx rfl (hb hby d7_0) rfl rfl ?_
    show Steps p.tables e below (s₁.setTop (mkF m 1 #[.val (.ref r0), .val (.ref r1), .val (.ref r2)] [(.ref r0)])) _
    refine st1.trans ?_
    show Steps p.tables e below (T1.setTop (mkF m 4 #[.val (.ref r0), .val (.ref r1), .val (.ref r2)] [])) _
    refine XS.aloadN X1.here hx rfl (hb hby d7_4) rfl rfl ?_
    exact k
  obtain ⟨a3, T3, h3, kk3, X3, e3, E3, hS, hk', hZ, hown, st3⟩ := ldcS X1 hx hZ hown (hw _ (List.mem_of_getElem? (i := 42) rfl)) (own_wS hw) e1 hS hk (g := (mkF m 5 #[.val (.ref r0), .val (.ref r1), .val (.ref r2)] [(.ref r1)])) rfl (hb hby d7_5) (n := 12) (by decide) (by decide) (by decide) (by decide)
  replace E_r0 := E_r0.ext E3
  replace F_key_r0 := F_key_r0.ext E3
  replace F_value_r0 := F_value_r0.ext E3
  replace E_r1 := E_r1.ext E3
  replace F_value_r1 := F_value_r1.ext E3
  replace V_r3 := V_r3.ext E3
  replace E_r2 := E_r2.ext E3
  replace V_r2 := V_r2.ext E3
  replace K0 := K0.ext E3
  replace hk := hk'
  have Zs3 : n0 ≤ h3.size := Nat.le_trans Z0 E3.1
  obtain ⟨_, _, ⟨T4, L4, k4_, n4⟩, -, X4, ⟨Lc4, hQ4, l4, y4, z4⟩, st4⟩ := Jvm.LawKit.callS X3 hx (y := (⟨"java/util/Objects", "requireNonNull", "(Ljava/lang/Object;Ljava/lang/String;)Ljava/lang/Object;"⟩ : MethodName)) hown (mvT hZ (hw _ (List.mem_of_getElem? (i := 45) rfl))) (mvT hZ (hw _ (List.mem_of_getElem? (i := 46) rfl))) (mvT hZ (hw _ (List.mem_of_getElem? (i := 47) rfl))) (mvT hZ (hw _ (List.mem_of_getElem? (i := 48) rfl))) (by decide) (backOf (W := 0) (rm9 l Z a0 hw [] r1 a3 h3 n0) hZ (hw _ (List.mem_of_getElem? (i := 48) rfl)) (hw _ (List.mem_of_getElem? (i := 47) rfl)) (by decide) (by decide)) (g := (mkF m 7 #[.val (.ref r0), .val (.ref r1), .val (.ref r2)] [(.ref a3), (.ref r1)])) rfl (by rw [hml]; rfl) (argsL := [(.ref r1), (.ref a3)]) (rest := []) (lenOf pd_5 rfl) rfl (by show 2 * 0 + _ ≤ _; exact Nat.le_of_eq rfl) (hb hby d7_7) (fun _ _ => ⟨rfl, e3, (by decide : 2 + 0 ≤ _), (by decide : 16 + 0 ≤ _)⟩)
  dsimp only [Pt.U, Pt.locs, Pt.cells, Pt.slots] at X4 l4 y4 z4 st4 hQ4
  subst l4 y4 z4
  obtain ⟨rfl, Nq4, e4⟩ := hQ4
  have N4 := Fr.app N1 Nq4
  have k5 : ∀ t, Steps p.tables e below (T4.setTop (mkF m 12 #[.val (.ref r0), .val (.ref r1), .val (.ref r2)] [(.ref r2)])) t → Steps p.tables e below (s₁.setTop (entryFrame m #[(.ref r0), (.ref r1), (.ref r2)] 3)) t := by
    intro t k
    refine k2 _ ?_
    show Steps p.tables e below (T1.setTop (mkF m 5 #[.val (.ref r0), .val (.ref r1), .val (.ref r2)] [(.ref r1)])) _
    refine st3 _ ?_
    show Steps p.tables e below (T3.setTop (mkF m 7 #[.val (.ref r0), .val (.ref r1), .val (.ref r2)] [(.ref a3), (.ref r1)])) _
    refine st4 _ ?_
    show Steps p.tables e below (T4.setTop (mkF m 10 #[.val (.ref r0), .val (.ref r1), .val (.ref r2)] [(.ref r1)])) _
    refine XS.pop X4.here hx rfl (hb hby d7_10) rfl rfl ?_
    show Steps p.tables e below (T4.setTop (mkF m 11 #[.val (.ref r0), .val (.ref r1), .val (.ref r2)] [])) _
    refine XS.aloadN X4.here hx rfl (hb hby d7_11) rfl rfl ?_
    exact k
  obtain ⟨a6, T6, h6, kk6, X6, e6, E6, hS, hk', hZ, hown, st6⟩ := ldcS X4 hx hZ hown (hw _ (List.mem_of_getElem? (i := 49) rfl)) (own_wS hw) e4 hS hk (g := (mkF m 12 #[.val (.ref r0), .val (.ref r1), .val (.ref r2)] [(.ref r2)])) rfl (hb hby d7_12) (n := 20) (by decide) (by decide) (by decide) (by decide)
  replace E_r0 := E_r0.ext E6
  replace F_key_r0 := F_key_r0.ext E6
  replace F_value_r0 := F_value_r0.ext E6
  replace E_r1 := E_r1.ext E6
  replace F_value_r1 := F_value_r1.ext E6
  replace V_r3 := V_r3.ext E6
  replace E_r2 := E_r2.ext E6
  replace V_r2 := V_r2.ext E6
  replace K0 := K0.ext E6
  replace hk := hk'
  have Zs6 : n0 ≤ h6.size := Nat.le_trans Zs3 E6.1
  obtain ⟨_, _, ⟨T7, L7, k7_, n7⟩, -, X7, ⟨Lc7, hQ7, l7, y7, z7⟩, st7⟩ := Jvm.LawKit.callS X6 hx (y := (⟨"java/util/Objects", "requireNonNull", "(Ljava/lang/Object;Ljava/lang/String;)Ljava/lang/Object;"⟩ : MethodName)) hown (mvT hZ (hw _ (List.mem_of_getElem? (i := 45) rfl))) (mvT hZ (hw _ (List.mem_of_getElem? (i := 46) rfl))) (mvT hZ (hw _ (List.mem_of_getElem? (i := 47) rfl))) (mvT hZ (hw _ (List.mem_of_getElem? (i := 48) rfl))) (by decide) (backOf (W := 0) (rm9 l Z a0 hw [] r2 a6 h6 n0) hZ (hw _ (List.mem_of_getElem? (i := 48) rfl)) (hw _ (List.mem_of_getElem? (i := 47) rfl)) (by decide) (by decide)) (g := (mkF m 14 #[.val (.ref r0), .val (.ref r1), .val (.ref r2)] [(.ref a6), (.ref r2)])) rfl (by rw [hml]; rfl) (argsL := [(.ref r2), (.ref a6)]) (rest := []) (lenOf pd_5 rfl) rfl (by show 2 * 0 + _ ≤ _; exact Nat.le_of_eq rfl) (hb hby d7_14) (fun _ _ => ⟨rfl, e6, (by decide : 4 + 0 ≤ _), (by decide : 40 + 0 ≤ _)⟩)
  dsimp only [Pt.U, Pt.locs, Pt.cells, Pt.slots] at X7 l7 y7 z7 st7 hQ7
  subst l7 y7 z7
  obtain ⟨rfl, Nq7, e7⟩ := hQ7
  have N7 := Fr.app N4 Nq7
  obtain ⟨cq8, kq8, q8a, q8b, q8c⟩ := isOf hZ e7 E_r1
  obtain ⟨_, _, ⟨T8, L8, k8_, n8⟩, -, X8, ⟨Lc8, hQ8, l8, y8, z8⟩, st8⟩ := X7.virtualBack hx (y := (⟨"java/lang/String", "isEmpty", "()Z"⟩ : MethodName)) (z := (⟨"java/lang/String", "isEmpty", "()Z"⟩ : MethodName)) hown (mvT hZ (hw _ (List.mem_of_getElem? (i := 50) rfl))) (mvT hZ (hw _ (List.mem_of_getElem? (i := 51) rfl))) (notFace_of_selects (args := #[]) (mvT hZ (hw _ (List.mem_of_getElem? (i := 53) rfl)))) (mvT hZ (hw _ (List.mem_of_getElem? (i := 53) rfl))) (mvT hZ (hw _ (List.mem_of_getElem? (i := 52) rfl))) (by decide) (backOf (W := 0) (rm10 l Z a0 hw [] r1 r3 cb vs3 h6 n0 F_value_r1 V_r3) hZ (hw _ (List.mem_of_getElem? (i := 54) rfl)) (hw _ (List.mem_of_getElem? (i := 7) rfl)) (by decide) (by decide)) q8a q8c (g := (mkF m 19 #[.val (.ref r0), .val (.ref r1), .val (.ref r2)] [(.ref r1)])) rfl (by rw [hml]; rfl) (Steps.refl _) (argsL := []) (rest := []) (lenOf pd_6 rfl) rfl (by show 2 * 0 + _ ≤ _; exact Nat.le_of_eq rfl) (hb hby d7_19) (fun _ _ => ⟨rfl, e7, (by decide : 4 + 0 ≤ _), (by decide : 40 + 0 ≤ _)⟩)
  dsimp only [Pt.U, Pt.locs, Pt.cells, Pt.slots] at X8 l8 y8 z8 st8 hQ8
  subst l8 y8 z8
  obtain ⟨rfl, Nq8, e8⟩ := hQ8
  have N8 := Fr.app N7 Nq8
  obtain ⟨T9, h9, X9, e9, E9, V9, Ae9, st9⟩ := cloneH X8 hx hZ hown (hw _ (List.mem_of_getElem? (i := 55) rfl)) (hw _ (List.mem_of_getElem? (i := 56) rfl)) (hw _ (List.mem_of_getElem? (i := 60) rfl)) (hw _ (List.mem_of_getElem? (i := 58) rfl)) (hw _ (List.mem_of_getElem? (i := 59) rfl)) (hw _ (List.mem_of_getElem? (i := 61) rfl)) e8 V_r2.arh E_r2 (g := (mkF m 36 #[.val (.ref r0), .val (.ref r1), .val (.ref r2)] [(.ref r2)])) rfl (by rw [hml]; rfl) rfl (hb hby d7_36) (by decide) (W := 0) (by show 2 * 0 + _ ≤ _; exact Nat.le_of_eq rfl) (by decide) (cap := 3) hz (by decide) (by decide)
  obtain ⟨b9, g9⟩ : ∃ z, z = h6.size := ⟨_, rfl⟩
  rw [← g9] at V9 Ae9 st9
  replace V9 : Arv Z h9 b9 ck .byte zl vs2 (.int (0 : Int32)) := V9
  have ne_r0_b9 : r0 ≠ b9 := Nat.ne_of_lt (Nat.lt_of_lt_of_le E_r0.lt (Nat.le_of_eq g9.symm))
  have ne_r1_b9 : r1 ≠ b9 := Nat.ne_of_lt (Nat.lt_of_lt_of_le E_r1.lt (Nat.le_of_eq g9.symm))
  have ne_r3_b9 : r3 ≠ b9 := Nat.ne_of_lt (Nat.lt_of_lt_of_le V_r3.lt (Nat.le_of_eq g9.symm))
  have ne_r2_b9 : r2 ≠ b9 := Nat.ne_of_lt (Nat.lt_of_lt_of_le E_r2.lt (Nat.le_of_eq g9.symm))
  have gn_b9 : n0 ≤ b9 := Nat.le_trans Zs6 (Nat.le_of_eq g9.symm)
  have sz_b9_K0 : h0.size ≤ b9 := Nat.le_trans K0.1 (Nat.le_of_eq g9.symm)
  replace E_r0 := E_r0.ext E9
  replace F_key_r0 := F_key_r0.ext E9
  replace F_value_r0 := F_value_r0.ext E9
  replace E_r1 := E_r1.ext E9
  replace F_value_r1 := F_value_r1.ext E9
  replace V_r3 := V_r3.ext E9
  replace E_r2 := E_r2.ext E9
  replace V_r2 := V_r2.ext E9
  replace K0 := K0.ext E9
  replace hk := Nat.le_trans hk E9.1
  have Zs9 : n0 ≤ h9.size := Nat.le_trans Zs6 E9.1
  obtain ⟨T10, X10, e10, st10⟩ := castY X9 hx hZ hown (hw _ (List.mem_of_getElem? (i := 62) rfl)) e9 (Ins.self Ae9) (g := (mkF m 39 #[.val (.ref r0), .val (.ref r1), .val (.ref r2)] [(.ref b9)])) rfl rfl (hb hby d7_39)
  obtain ⟨T11, h11, X11, e11, W11, st11⟩ := putF X10 hx hZ hown (host := "") (Or.inl (hw _ (List.mem_of_getElem? (i := 64) rfl))) Via.refl e10 F_key_r0 E_r0 (Or.inr ⟨(hw _ (List.mem_of_getElem? (i := 65) rfl)), rfl, hnm⟩) (hw _ (List.mem_of_getElem? (i := 3) rfl)) (ty := (.object "java/lang/String")) (by decide) rfl rfl (g := (mkF m 45 #[.val (.ref r0), .val (.ref r1), .val (.ref b9)] [(.ref r1), (.ref r0)])) rfl rfl (hb hby d7_45)
  replace E_r0 := E_r0.wr W11
  replace F_value_r0 := F_value_r0.other W11 (Or.inr (slot_ne (Or.inr (hw _ (List.mem_of_getElem? (i := 67) rfl))) (Or.inr (hw _ (List.mem_of_getElem? (i := 65) rfl))) (by decide) (t := (.array .byte)) (t' := (.object "java/lang/String")) (by decide) (by decide)))
  replace E_r1 := E_r1.wr W11
  replace F_value_r1 := F_value_r1.other W11 (Or.inl ne10)
  replace V_r3 := V_r3.other W11 ne30
  replace E_r2 := E_r2.wr W11
  replace V_r2 := V_r2.other W11 ne20
  replace V9 := V9.other W11 (Ne.symm ne_r0_b9)
  replace Ae9 := Ae9.wr W11
  replace K0 := K0.wr W11 (Or.inl (List.mem_of_getElem? (i := 0) rfl))
  replace hk := Nat.le_trans hk (Nat.le_of_eq W11.size.symm)
  replace F_key_r0 := F_key_r0.same W11
  have N11 := Fr.snoc X11 N8 g_r0
  have Zs11 : n0 ≤ h11.size := by rw [W11.size]; exact Zs9
  obtain ⟨T12, h12, X12, e12, W12, st12⟩ := putF X11 hx hZ hown (host := "") (Or.inl (hw _ (List.mem_of_getElem? (i := 66) rfl))) Via.refl e11 F_value_r0 E_r0 (Or.inr ⟨(hw _ (List.mem_of_getElem? (i := 67) rfl)), rfl, hnm⟩) (hw _ (List.mem_of_getElem? (i := 3) rfl)) (ty := (.array .byte)) (by decide) rfl rfl (g := (mkF m 50 #[.val (.ref r0), .val (.ref r1), .val (.ref b9)] [(.ref b9), (.ref r0)])) rfl rfl (hb hby d7_50)
  replace E_r0 := E_r0.wr W12
  replace F_key_r0 := F_key_r0.other W12 (Or.inr (slot_ne (Or.inr (hw _ (List.mem_of_getElem? (i := 65) rfl))) (Or.inr (hw _ (List.mem_of_getElem? (i := 67) rfl))) (by decide) (t := (.object "java/lang/String")) (t' := (.array .byte)) (by decide) (by decide)))
  replace E_r1 := E_r1.wr W12
  replace F_value_r1 := F_value_r1.other W12 (Or.inl ne10)
  replace V_r3 := V_r3.other W12 ne30
  replace E_r2 := E_r2.wr W12
  replace V_r2 := V_r2.other W12 ne20
  replace V9 := V9.other W12 (Ne.symm ne_r0_b9)
  replace Ae9 := Ae9.wr W12
  replace K0 := K0.wr W12 (Or.inl (List.mem_of_getElem? (i := 0) rfl))
  replace hk := Nat.le_trans hk (Nat.le_of_eq W12.size.symm)
  replace F_value_r0 := F_value_r0.same W12
  have N12 := Fr.snoc X12 N11 g_r0
  have Zs12 : n0 ≤ h12.size := by rw [W12.size]; exact Zs11
  have k13 : ∀ t, Steps p.tables e below (T12.setTop (mkF m 53 #[.val (.ref r0), .val (.ref r1), .val (.ref b9)] [])) t → Steps p.tables e below (s₁.setTop (entryFrame m #[(.ref r0), (.ref r1), (.ref r2)] 3)) t := by
    intro t k
    refine k5 _ ?_
    show Steps p.tables e below (T4.setTop (mkF m 12 #[.val (.ref r0), .val (.ref r1), .val (.ref r2)] [(.ref r2)])) _
    refine st6 _ ?_
    show Steps p.tables e below (T6.setTop (mkF m 14 #[.val (.ref r0), .val (.ref r1), .val (.ref r2)] [(.ref a6), (.ref r2)])) _
    refine st7 _ ?_
    show Steps p.tables e below (T7.setTop (mkF m 17 #[.val (.ref r0), .val (.ref r1), .val (.ref r2)] [(.ref r2)])) _
    refine XS.pop X7.here hx rfl (hb hby d7_17) rfl rfl ?_
    show Steps p.tables e below (T7.setTop (mkF m 18 #[.val (.ref r0), .val (.ref r1), .val (.ref r2)] [])) _
    refine XS.aloadN X7.here hx rfl (hb hby d7_18) rfl rfl ?_
    show Steps p.tables e below (T7.setTop (mkF m 19 #[.val (.ref r0), .val (.ref r1), .val (.ref r2)] [(.ref r1)])) _
    refine st8.trans ?_
    show Steps p.tables e below (T8.setTop (mkF m 22 #[.val (.ref r0), .val (.ref r1), .val (.ref r2)] [(.int (0 : Int32))])) _
    refine XS.ifYes X8.here hx rfl (pc0 := 22) (pc' := 35) rfl (hb hby d7_22) rfl ((if0 _ _).trans (teq (by decide)).1) (by decide) (by decide) ?_
    show Steps p.tables e below (T8.setTop (mkF m 35 #[.val (.ref r0), .val (.ref r1), .val (.ref r2)] [])) _
    refine XS.aloadN X8.here hx rfl (hb hby d7_35) rfl rfl ?_
    show Steps p.tables e below (T8.setTop (mkF m 36 #[.val (.ref r0), .val (.ref r1), .val (.ref r2)] [(.ref r2)])) _
    refine st9 _ ?_
    show Steps p.tables e below (T9.setTop (mkF m 39 #[.val (.ref r0), .val (.ref r1), .val (.ref r2)] [(.ref b9)])) _
    refine st10 _ ?_
    show Steps p.tables e below (T10.setTop (mkF m 42 #[.val (.ref r0), .val (.ref r1), .val (.ref r2)] [(.ref b9)])) _
    refine XS.astoreN X10.here hx rfl (hb hby d7_42) rfl rfl (l' := #[.val (.ref r0), .val (.ref r1), .val (.ref b9)]) rfl ?_
    show Steps p.tables e below (T10.setTop (mkF m 43 #[.val (.ref r0), .val (.ref r1), .val (.ref b9)] [])) _
    refine XS.aloadN X10.here hx rfl (hb hby d7_43) rfl rfl ?_
    show Steps p.tables e below (T10.setTop (mkF m 44 #[.val (.ref r0), .val (.ref r1), .val (.ref b9)] [(.ref r0)])) _
    refine XS.aloadN X10.here hx rfl (hb hby d7_44) rfl rfl ?_
    show Steps p.tables e below (T10.setTop (mkF m 45 #[.val (.ref r0), .val (.ref r1), .val (.ref b9)] [(.ref r1), (.ref r0)])) _
    refine st11 _ ?_
    show Steps p.tables e below (T11.setTop (mkF m 48 #[.val (.ref r0), .val (.ref r1), .val (.ref b9)] [])) _
    refine XS.aloadN X11.here hx rfl (hb hby d7_48) rfl rfl ?_
    show Steps p.tables e below (T11.setTop (mkF m 49 #[.val (.ref r0), .val (.ref r1), .val (.ref b9)] [(.ref r0)])) _
    refine XS.aloadN X11.here hx rfl (hb hby d7_49) rfl rfl ?_
    show Steps p.tables e below (T11.setTop (mkF m 50 #[.val (.ref r0), .val (.ref r1), .val (.ref b9)] [(.ref b9), (.ref r0)])) _
    refine st12 _ ?_
    exact k
  obtain ⟨fs, hr, hrun, hended, hEW⟩ := X12.leaveW hS (by rw [e12]; exact hk) (v := none) (fun _ => rfl)
  refine ⟨_, _, k13 _ ?_, hrun, hended, _, _, rfl, ?_, hEW.1, hEW.2.1, hEW.2.2.1, hEW.2.2.2.mono (by decide) (by decide)⟩
  · exact X12.returnOut hx Bd.returns (hb hby d7_53) hr
  · show own_UI Z r0 zl h0 n0 _ T12.heap _
    rw [e12]
    exact ⟨rfl, N12, K0, E_r0, _, _, _, F_value_r0, V9⟩
theorem ef_rm11 (m : MethodId) (x0 : Addr) : entryFrame m #[(.ref x0)] 1 = mkF m 0 #[.val (.ref x0)] [] := by first | (simp [entryFrame, mkF, argsToLocals, Value.category]; done) | rfl
theorem d11_0 : decode prog_62_method_4_code 0 = .ok (.aload_n 0, 1) := by decide +kernel
theorem d11_1 : decode prog_62_method_4_code 1 = .ok (.getfield 41, 3) := by decide +kernel
theorem d11_4 : decode prog_62_method_4_code 4 = .ok (.arraylength, 1) := by decide +kernel
theorem d11_5 : decode prog_62_method_4_code 5 = .ok (.ifCond .ne 7, 3) := by decide +kernel
theorem d11_8 : decode prog_62_method_4_code 8 = .ok (.iconst 1, 1) := by decide +kernel
theorem d11_9 : decode prog_62_method_4_code 9 = .ok (.goto 4, 3) := by decide +kernel
theorem d11_13 : decode prog_62_method_4_code 13 = .ok (.ireturn, 1) := by decide +kernel
theorem d11_12 : decode prog_62_method_4_code 12 = .ok (.iconst 0, 1) := by decide +kernel
def own_f11 (zl : Int32) : Int32 := (if zl = (0 : Int32) then (1 : Int32) else (0 : Int32))
set_option maxRecDepth 65536 in
set_option maxHeartbeats 40000000 in
theorem rm11 (l : Launch) (Z : State) (a0 : Array Value) (hw : ∀ d ∈ tables_1, d.before a0 Z = true) (ws : List Jvm.Cond) (r0 : Addr) (r1 : Addr) (cb : ClassId) (vs0 : List Value) (zl : Int32) (h0 : Heap) (n0 : Nat) (Fv : Fld Z h0 r0 "com/example/valentia/valentia/state/Update" "value" "[B" (.ref r1)) (Va : Arv Z h0 r1 cb .byte zl vs0 (.int (0 : Int32))) :
    MetFree l (⟨"com/example/valentia/valentia/state/Update", "isDeletion", "()Z"⟩ : MethodName) (head1 (Jvm.Cond.code (⟨"com/example/valentia/valentia/state/Update", "isDeletion", "()Z"⟩ : MethodName) prog_62_method_4_code 1 (some .boolean) :: ws) ({ frames := 0, cells := 0, slots := 0, locals := 0 } : Room)) (fun a U => a = #[(.ref r0)] ∧ Z.Warmed39 U.vm ∧ U.heap = h0) (fun _ _ _ _ _ => True) (fun _ U o U' => ∃ v L, o = .returned v ∧ own_Q (some (.int (own_f11 zl))) h0 n0 v U'.heap L ∧ FrameEnd U o U' L ({ frames := 0, cells := 0, slots := 0, locals := 0 } : Room).cells ({ frames := 0, cells := 0, slots := 0, locals := 0 } : Room).slots) := by
  refine MetFree.of_bodySF (plainFor_of_name pn_4) hisR ?_
  intro p e s m args below meth c s₁ Bd hml0 hP hK
  obtain ⟨rfl, hZ, hh⟩ := hP
  have hx := Bd.exec
  have hby := Bd.bytes
  have hml : c.maxLocals = 1 := hml0
  have hown : s.vm.findClass "com/example/valentia/valentia/state/Update" = some m.cls := findClass_of_methodNamed Bd.named
  have hnm := (name_of_methodNamed Bd.named Bd.method).1
  have X0 : Stand p l e ({ frames := 0, cells := 0, slots := 0, locals := 0 } : Room) s m #[(.ref r0)] below meth c s₁ [] 0 0 := Stand.of_body Bd
  have e0 : s₁.heap = h0 := by rw [← hh, Bd.state]; rfl
  have N0 := Fr.nil n0
  have pre0 : ∀ t, Steps p.tables e below (s₁.setTop (mkF m 0 #[.val (.ref r0)] [])) t → Steps p.tables e below (s₁.setTop (entryFrame m #[(.ref r0)] 1)) t := fun t k => castTop (ef_rm11 m r0) k
  obtain ⟨T1, X1, e1, st1⟩ := getF X0 hx hZ hown (host := "") (Or.inl (hw _ (List.mem_of_getElem? (i := 66) rfl))) Via.refl e0 Fv (g := (mkF m 1 #[.val (.ref r0)] [(.ref r0)])) rfl rfl (hb hby d11_1)
  have k3 : ∀ t, Steps p.tables e below (T1.setTop (mkF m 5 #[.val (.ref r0)] [(.int zl)])) t → Steps p.tables e below (s₁.setTop (entryFrame m #[(.ref r0)] 1)) t := by
    intro t k
    refine pre0 _ ?_
    show Steps p.tables e below (s₁.setTop (mkF m 0 #[.val (.ref r0)] [])) _
    refine XS.aloadN X0.here hx rfl (hb hby d11_0) rfl rfl ?_
    show Steps p.tables e below (s₁.setTop (mkF m 1 #[.val (.ref r0)] [(.ref r0)])) _
    refine st1 _ ?_
    show Steps p.tables e below (T1.setTop (mkF m 4 #[.val (.ref r0)] [(.ref r1)])) _
    obtain ⟨cl_2, Ar_2, -, S_2, N_2, -, -⟩ := id Va
    refine X1.arraylength hx (by rw [e1]; exact Ar_2.1) (State.isArrayOf_alike hZ.alike Ar_2.2.1) (g := (mkF m 4 #[.val (.ref r0)] [(.ref r1)])) rfl rfl (hb hby d11_4) _ ?_
    rw [len_of S_2 N_2]
    exact k
  by_cases hc5_1 : zl = (0 : Int32)
  · have k4 : ∀ t, Steps p.tables e below (T1.setTop (mkF m 13 #[.val (.ref r0)] [(.int (1 : Int32))])) t → Steps p.tables e below (s₁.setTop (entryFrame m #[(.ref r0)] 1)) t := by
      intro t k
      refine k3 _ ?_
      show Steps p.tables e below (T1.setTop (mkF m 5 #[.val (.ref r0)] [(.int zl)])) _
      refine XS.ifNo X1.here hx rfl (hb hby d11_5) rfl ((if0 _ _).trans (teq hc5_1).2) ?_
      show Steps p.tables e below (T1.setTop (mkF m 8 #[.val (.ref r0)] [])) _
      refine XS.iconst X1.here hx rfl (hb hby d11_8) ?_
      show Steps p.tables e below (T1.setTop (mkF m 9 #[.val (.ref r0)] [(.int (1 : Int32))])) _
      refine XS.goto X1.here hx rfl (pc0 := 9) (pc' := 13) rfl (hb hby d11_9) (by decide) (by decide) ?_
      exact k
    obtain ⟨fs, hr, hrun, hended, hW, hsame⟩ := X1.leave (v := some (.int (1 : Int32))) (fun h => by rw [Bd.returns] at h; cases h)
    refine ⟨_, _, k4 _ ?_, hrun, hended, _, _, rfl, ?_, ⟨_, rfl⟩, hW, hsame.mono (by decide) (by decide)⟩
    · exact retN X1 hx (t := .boolean) Bd.returns (by simp) (hb hby d11_13) hr
    · show own_Q (some (.int (own_f11 zl))) h0 n0 _ T1.heap _
      rw [e1]
      exact ⟨by simp only [own_f11, if_pos hc5_1], N0, rfl⟩
  · have k5 : ∀ t, Steps p.tables e below (T1.setTop (mkF m 13 #[.val (.ref r0)] [(.int (0 : Int32))])) t → Steps p.tables e below (s₁.setTop (entryFrame m #[(.ref r0)] 1)) t := by
      intro t k
      refine k3 _ ?_
      show Steps p.tables e below (T1.setTop (mkF m 5 #[.val (.ref r0)] [(.int zl)])) _
      refine XS.ifYes X1.here hx rfl (pc0 := 5) (pc' := 12) rfl (hb hby d11_5) rfl ((if0 _ _).trans (feq hc5_1).2) (by decide) (by decide) ?_
      show Steps p.tables e below (T1.setTop (mkF m 12 #[.val (.ref r0)] [])) _
      refine XS.iconst X1.here hx rfl (hb hby d11_12) ?_
      exact k
    obtain ⟨fs, hr, hrun, hended, hW, hsame⟩ := X1.leave (v := some (.int (0 : Int32))) (fun h => by rw [Bd.returns] at h; cases h)
    refine ⟨_, _, k5 _ ?_, hrun, hended, _, _, rfl, ?_, ⟨_, rfl⟩, hW, hsame.mono (by decide) (by decide)⟩
    · exact retN X1 hx (t := .boolean) Bd.returns (by simp) (hb hby d11_13) hr
    · show own_Q (some (.int (own_f11 zl))) h0 n0 _ T1.heap _
      rw [e1]
      exact ⟨by simp only [own_f11, if_neg hc5_1], N0, rfl⟩
theorem own_c2 (p : Int32) : ¬ (255 : Int32) < (nar .char ((p &&& (255 : Int32)).toUInt32.toUInt16.toUInt32.toInt32)) := by
  have a := c_mask p 255 8 (by decide) (by decide)
  have b := c_i2c (p &&& 255)
  have d := c_i2c ((p &&& 255).toUInt32.toUInt16.toUInt32.toInt32)
  have z : (255 : Int32).toInt = 255 := by decide
  rw [Int32.lt_iff_toInt_lt]
  show ¬ _ < (((p &&& 255).toUInt32.toUInt16.toUInt32.toInt32).toUInt32.toUInt16.toUInt32.toInt32).toInt
  omega
theorem pn_5 : plainName "com/example/valentia/valentia/state/UpdateIsDeletionPinLaw" = true := by first | (simp [plainName, overriddenIn]; done) | decide +kernel
theorem ef_rm0 (m : MethodId) (x0 : Int32) (x1 : Int32) (x2 : Int32) (x3 : Int32) (x4 : Int32) : entryFrame m #[(.int x0), (.int x1), (.int x2), (.int x3), (.int x4)] maxLocals = mkF m 0 #[.val (.int x0), .val (.int x1), .val (.int x2), .val (.int x3), .val (.int x4), .unset, .unset, .unset, .unset] [] := by first | (simp [entryFrame, mkF, argsToLocals, Value.category, maxLocals]; done) | rfl
theorem pd_7 : parseMethodDescriptor "([C)V" = some ⟨[(.array .char)], none⟩ := by decide +kernel
theorem pd_8 : parseMethodDescriptor "(Ljava/lang/String;[B)V" = some ⟨[(.object "java/lang/String"), (.array .byte)], none⟩ := by decide +kernel
theorem own_e0 (p0 : Int32) (h : (p0 &&& (3 : Int32)) = (0 : Int32)) : (own_f11 (0 : Int32)) = (1 : Int32) := by
  simp [own_f11, h]
theorem own_e1 (p0 : Int32) (h : ¬ (p0 &&& (3 : Int32)) = (0 : Int32)) : (own_f11 (1 : Int32)) = (0 : Int32) := by
  simp [own_f11, h]
theorem own_e2 (p0 : Int32) (h : ¬ (p0 &&& (3 : Int32)) = (0 : Int32)) : (own_f11 (2 : Int32)) = (0 : Int32) := by
  simp [own_f11, h]
theorem own_e3 (p0 : Int32) (h : ¬ (p0 &&& (3 : Int32)) = (0 : Int32)) : (own_f11 (3 : Int32)) = (0 : Int32) := by
  simp [own_f11, h]
set_option maxRecDepth 65536 in
set_option maxHeartbeats 40000000 in
theorem rm0 (l : Launch) (Z : State) (a0 : Array Value) (hw : ∀ d ∈ tables_1, d.before a0 Z = true) (ws : List Jvm.Cond) (p0 : Int32) (p1 : Int32) (p2 : Int32) (p3 : Int32) (p4 : Int32) (w_CS : Int32) (h0 : Heap) (n0 : Nat) (hG : own_G Z w_CS) (O0 : Old Z n0 h0) :
    MetFree l x (head1 (Jvm.Cond.code x code maxLocals ret :: ws) room_1) (fun a U => a = #[(.int p0), (.int p1), (.int p2), (.int p3), (.int p4)] ∧ Z.Warmed39 U.vm ∧ U.heap = h0) (fun _ _ _ _ _ => True) (fun _ U o U' => ∃ v L, o = .returned v ∧ own_R (some (.int 1)) n0 v U'.heap L ∧ ReturnedEndW U o U' L room_1.cells room_1.slots) := by
  refine MetFree.of_bodySF (plainFor_of_name pn_5) hisR ?_
  intro p e s m args below meth c s₁ Bd hml0 hP hK
  obtain ⟨rfl, hZ, hh⟩ := hP
  have hx := Bd.exec
  have hby := Bd.bytes
  have hml : c.maxLocals = 9 := hml0
  have hown : s.vm.findClass "com/example/valentia/valentia/state/UpdateIsDeletionPinLaw" = some m.cls := findClass_of_methodNamed Bd.named
  have hnm := (name_of_methodNamed Bd.named Bd.method).1
  have X0 : Stand p l e room_1 (s.setVm s.vm) m #[(.int p0), (.int p1), (.int p2), (.int p3), (.int p4)] below meth c s₁ [] 0 0 := Stand.of_body Bd
  have e0 : s₁.heap = h0 := by rw [← hh, Bd.state]; rfl
  have N0 := Fr.nil n0
  have pre0 : ∀ t, Steps p.tables e below (s₁.setTop (mkF m 0 #[.val (.int p0), .val (.int p1), .val (.int p2), .val (.int p3), .val (.int p4), .unset, .unset, .unset, .unset] [])) t → Steps p.tables e below (s₁.setTop (entryFrame m #[(.int p0), (.int p1), (.int p2), (.int p3), (.int p4)] maxLocals)) t := fun t k => castTop (ef_rm0 m p0 p1 p2 p3 p4) k
  have hS : s.Since s.vm 0 := (State.WarmedH.refl s).since 0
  have hk : 0 ≤ h0.size := Nat.zero_le _
  replace hZ : Z.Warmed39 (s.setVm s.vm).vm := hZ
  replace hown : (s.setVm s.vm).vm.findClass "com/example/valentia/valentia/state/UpdateIsDeletionPinLaw" = some m.cls := hown
  have hG' := hG
  obtain ⟨S_CS, hCS⟩ := hG'
  have k1 : ∀ t, Steps p.tables e below (s₁.setTop (mkF m 7 #[.val (.int p0), .val (.int p1), .val (.int p2), .val (.int p3), .val (.int p4), .val (.int (p0 &&& (3 : Int32))), .unset, .unset, .unset] [(.int (p0 &&& (3 : Int32)))])) t → Steps p.tables e below (s₁.setTop (entryFrame m #[(.int p0), (.int p1), (.int p2), (.int p3), (.int p4)] maxLocals)) t := by
    intro t k
    refine pre0 _ ?_
    show Steps p.tables e below (s₁.setTop (mkF m 0 #[.val (.int p0), .val (.int p1), .val (.int p2), .val (.int p3), .val (.int p4), .unset, .unset, .unset, .unset] [])) _
    refine XS.iloadN X0.here hx rfl (hb hby at_0) rfl ?_
    show Steps p.tables e below (s₁.setTop (mkF m 1 #[.val (.int p0), .val (.int p1), .val (.int p2), .val (.int p3), .val (.int p4), .unset, .unset, .unset, .unset] [(.int p0)])) _
    refine XS.iconst X0.here hx rfl (hb hby at_1) ?_
    show Steps p.tables e below (s₁.setTop (mkF m 2 #[.val (.int p0), .val (.int p1), .val (.int p2), .val (.int p3), .val (.int p4), .unset, .unset, .unset, .unset] [(.int (3 : Int32)), (.int p0)])) _
    refine XS.iand X0.here hx rfl (hb hby at_2) rfl ?_
    show Steps p.tables e below (s₁.setTop (mkF m 3 #[.val (.int p0), .val (.int p1), .val (.int p2), .val (.int p3), .val (.int p4), .unset, .unset, .unset, .unset] [(.int (p0 &&& (3 : Int32)))])) _
    refine XS.istore X0.here hx rfl (hb hby at_3) rfl (l' := #[.val (.int p0), .val (.int p1), .val (.int p2), .val (.int p3), .val (.int p4), .val (.int (p0 &&& (3 : Int32))), .unset, .unset, .unset]) rfl ?_
    show Steps p.tables e below (s₁.setTop (mkF m 5 #[.val (.int p0), .val (.int p1), .val (.int p2), .val (.int p3), .val (.int p4), .val (.int (p0 &&& (3 : Int32))), .unset, .unset, .unset] [])) _
    refine XS.iload X0.here hx rfl (hb hby at_5) rfl ?_
    exact k
  by_cases hc7_1 : (p0 &&& (3 : Int32)) = (0 : Int32)
  · obtain ⟨T2, h2, c2, X2, e2, E2, A2, Ae2, st2⟩ := newPE X0 hx hZ (hw _ (List.mem_of_getElem? (i := 0) rfl)) e0 (g := (mkF m 11 #[.val (.int p0), .val (.int p1), .val (.int p2), .val (.int p3), .val (.int p4), .val (.int (p0 &&& (3 : Int32))), .unset, .unset, .unset] [(.int (0 : Int32))])) rfl (hb hby at_11) rfl (by decide) (cap := 0) (by decide) (by decide) (by decide) (by decide) (ad := "[B") (by decide)
    obtain ⟨b2, g2⟩ : ∃ z, z = h0.size := ⟨_, rfl⟩
    rw [← g2] at A2 Ae2 st2
    have gn_b2 : n0 ≤ b2 := Nat.le_trans (O0.1 ▸ O0.2.1) (Nat.le_of_eq g2.symm)
    replace O0 := O0.ext E2
    replace hk := Nat.le_trans hk E2.1
    have V_b2 : Arv Z h2 b2 c2 .byte (0 : Int32) [] (.int (0 : Int32)) := Arv.new A2 (by decide)
    obtain ⟨T3, h3, c3, X3, e3, E3, A3, Ae3, st3⟩ := newPE X2 hx hZ (hw _ (List.mem_of_getElem? (i := 1) rfl)) e2 (g := (mkF m 82 #[.val (.int p0), .val (.int p1), .val (.int p2), .val (.int p3), .val (.int p4), .val (.int (p0 &&& (3 : Int32))), .val (.ref b2), .unset, .unset] [(.int (1 : Int32))])) rfl (hb hby at_82) rfl (by decide) (cap := 1) (by decide) (by decide) (by decide) (by decide) (ad := "[C") (by decide)
    obtain ⟨b3, g3⟩ : ∃ z, z = h2.size := ⟨_, rfl⟩
    rw [← g3] at A3 Ae3 st3
    have ne_b2_b3 : b2 ≠ b3 := Nat.ne_of_lt (Nat.lt_of_lt_of_le Ae2.lt (Nat.le_of_eq g3.symm))
    have gn_b3 : n0 ≤ b3 := Nat.le_trans (O0.1 ▸ O0.2.1) (Nat.le_of_eq g3.symm)
    replace Ae2 := Ae2.ext E3
    replace V_b2 := V_b2.ext E3
    replace O0 := O0.ext E3
    replace hk := Nat.le_trans hk E3.1
    have V_b3 : Arv Z h3 b3 c3 .char (1 : Int32) [(.int (0 : Int32))] (.int (0 : Int32)) := (Arv.new A3 (by decide)).pad (pad_rep [] (.int (0 : Int32)) 1)
    obtain ⟨cl_4, Ar_4, q_4, S_4, N_4, H_4, G_4⟩ := id V_b3
    have hin_4 : ¬ ((0 : Int32) < 0 ∨ cl_4.slots.size ≤ ((0 : Int32)).toNatClampNeg) := inb_of S_4 ⟨by decide, by decide⟩
    obtain ⟨T4, h4, X4, e4, W4, st4⟩ := stC X3 hx hZ e3 Ar_4 (j := (0 : Int32)) hin_4 (g := (mkF m 93 #[.val (.int p0), .val (.int p1), .val (.int p2), .val (.int p3), .val (.int p4), .val (.int (p0 &&& (3 : Int32))), .val (.ref b2), .unset, .unset] [(.int ((p4 &&& (255 : Int32)).toUInt32.toUInt16.toUInt32.toInt32)), (.int (0 : Int32)), (.ref b3), (.ref b3)])) rfl rfl (hb hby at_93)
    have Vn4 : Arv Z h4 b3 c3 .char (1 : Int32) [(.int (nar .char ((p4 &&& (255 : Int32)).toUInt32.toUInt16.toUInt32.toInt32)))] (.int (0 : Int32)) := Arv.set Ar_4 q_4 S_4 N_4 H_4 G_4 (fits_nar_char _) W4 0 rfl (Nat.le_of_ble_eq_true rfl)
    replace Ae2 := Ae2.wr W4
    replace V_b2 := V_b2.other W4 ne_b2_b3
    replace Ae3 := Ae3.wr W4
    replace O0 := O0.wr W4 gn_b3
    replace hk := Nat.le_trans hk (Nat.le_of_eq W4.size.symm)
    replace V_b3 := Vn4
    have N4 := Fr.snoc X4 N0 gn_b3
    obtain ⟨T5, h5, X5, e5, E5, A5, D5, -, st5⟩ := newO X4 hx hZ hown (hw _ (List.mem_of_getElem? (i := 2) rfl)) (hw _ (List.mem_of_getElem? (i := 3) rfl)) (hw _ (List.mem_of_getElem? (i := 4) rfl)) e4 (g := (mkF m 96 #[.val (.int p0), .val (.int p1), .val (.int p2), .val (.int p3), .val (.int p4), .val (.int (p0 &&& (3 : Int32))), .val (.ref b2), .val (.ref b3), .unset] [])) rfl (hb hby at_96) (by decide) (by decide)
    obtain ⟨b5, g5⟩ : ∃ z, z = h4.size := ⟨_, rfl⟩
    rw [← g5] at A5 D5 st5
    have ne_b2_b5 : b2 ≠ b5 := Nat.ne_of_lt (Nat.lt_of_lt_of_le Ae2.lt (Nat.le_of_eq g5.symm))
    have ne_b3_b5 : b3 ≠ b5 := Nat.ne_of_lt (Nat.lt_of_lt_of_le Ae3.lt (Nat.le_of_eq g5.symm))
    have gn_b5 : n0 ≤ b5 := Nat.le_trans (O0.1 ▸ O0.2.1) (Nat.le_of_eq g5.symm)
    replace Ae2 := Ae2.ext E5
    replace V_b2 := V_b2.ext E5
    replace Ae3 := Ae3.ext E5
    replace V_b3 := V_b3.ext E5
    replace O0 := O0.ext E5
    replace hk := Nat.le_trans hk E5.1
    have E_b5 := A5
    have F_key_b5 : Fld Z h5 b5 "com/example/valentia/valentia/state/Update" "key" "Ljava/lang/String;" .null := D5 (Or.inr (hw _ (List.mem_of_getElem? (i := 65) rfl))) (ty := (.object "java/lang/String")) (by decide)
    have F_value_b5 : Fld Z h5 b5 "com/example/valentia/valentia/state/Update" "value" "[B" .null := D5 (Or.inr (hw _ (List.mem_of_getElem? (i := 67) rfl))) (ty := (.array .byte)) (by decide)
    obtain ⟨T6, h6, X6, e6, E6, A6, D6, -, st6⟩ := newO X5 hx hZ hown (hw _ (List.mem_of_getElem? (i := 5) rfl)) (hw _ (List.mem_of_getElem? (i := 6) rfl)) (hw _ (List.mem_of_getElem? (i := 7) rfl)) e5 (g := (mkF m 100 #[.val (.int p0), .val (.int p1), .val (.int p2), .val (.int p3), .val (.int p4), .val (.int (p0 &&& (3 : Int32))), .val (.ref b2), .val (.ref b3), .unset] [(.ref b5), (.ref b5)])) rfl (hb hby at_100) (by decide) (by decide)
    obtain ⟨b6, g6⟩ : ∃ z, z = h5.size := ⟨_, rfl⟩
    rw [← g6] at A6 D6 st6
    have ne_b2_b6 : b2 ≠ b6 := Nat.ne_of_lt (Nat.lt_of_lt_of_le Ae2.lt (Nat.le_of_eq g6.symm))
    have ne_b3_b6 : b3 ≠ b6 := Nat.ne_of_lt (Nat.lt_of_lt_of_le Ae3.lt (Nat.le_of_eq g6.symm))
    have ne_b5_b6 : b5 ≠ b6 := Nat.ne_of_lt (Nat.lt_of_lt_of_le E_b5.lt (Nat.le_of_eq g6.symm))
    have gn_b6 : n0 ≤ b6 := Nat.le_trans (O0.1 ▸ O0.2.1) (Nat.le_of_eq g6.symm)
    replace Ae2 := Ae2.ext E6
    replace V_b2 := V_b2.ext E6
    replace Ae3 := Ae3.ext E6
    replace V_b3 := V_b3.ext E6
    replace E_b5 := E_b5.ext E6
    replace F_key_b5 := F_key_b5.ext E6
    replace F_value_b5 := F_value_b5.ext E6
    replace O0 := O0.ext E6
    replace hk := Nat.le_trans hk E6.1
    have E_b6 := A6
    have F_coder_b6 : Fld Z h6 b6 "java/lang/String" "coder" "B" (.int (0 : Int32)) := D6 (Or.inr (hw _ (List.mem_of_getElem? (i := 30) rfl))) (ty := .byte) (by decide)
    have F_value_b6 : Fld Z h6 b6 "java/lang/String" "value" "[B" .null := D6 (Or.inr (hw _ (List.mem_of_getElem? (i := 32) rfl))) (ty := (.array .byte)) (by decide)
    obtain ⟨_, _, ⟨T7, L7, k7_, n7⟩, -, X7, ⟨Lc7, hQ7, l7, y7, z7⟩, st7⟩ := X6.specialBack hx (y := (⟨"java/lang/String", "<init>", "([C)V"⟩ : MethodName)) rfl hown (mvT hZ (hw _ (List.mem_of_getElem? (i := 8) rfl))) (mvT hZ (hw _ (List.mem_of_getElem? (i := 9) rfl))) (mvT hZ (hw _ (List.mem_of_getElem? (i := 10) rfl))) (by decide) (backOf (W := 3) (rmS1_1 l Z a0 hw [] b6 b3 c3 (nar .char ((p4 &&& (255 : Int32)).toUInt32.toUInt16.toUInt32.toInt32)) w_CS h6 n0 hG O0 (O0.1 ▸ O0.2.1) gn_b6 E_b6 F_value_b6 F_coder_b6 ne_b3_b6 V_b3 (own_c2 _)) hZ (hw _ (List.mem_of_getElem? (i := 10) rfl)) (hw _ (List.mem_of_getElem? (i := 7) rfl)) (by decide) (by decide)) (g := (mkF m 106 #[.val (.int p0), .val (.int p1), .val (.int p2), .val (.int p3), .val (.int p4), .val (.int (p0 &&& (3 : Int32))), .val (.ref b2), .val (.ref b3), .unset] [(.ref b3), (.ref b6), (.ref b6), (.ref b5), (.ref b5)])) rfl (by rw [hml]; rfl) (Steps.refl _) (a := b6) (argsL := [(.ref b3)]) (rest := [(.ref b6), (.ref b5), (.ref b5)]) (lenOf pd_7 rfl) rfl (by show 2 * 0 + _ ≤ _; exact Nat.le_of_eq rfl) (hb hby at_106) (fun _ _ => ⟨rfl, e6, (by decide : 4 + 1 ≤ _), (by decide : 7 + 1 ≤ _)⟩)
    dsimp only [Pt.U, Pt.locs, Pt.cells, Pt.slots] at X7 l7 y7 z7 st7 hQ7
    subst l7 y7 z7
    obtain ⟨rfl, Nq7, Kq7, Eq7, bv7, kq7, vs7, Fq7, Vq7⟩ := hQ7
    have N7 := Fr.app N4 Nq7
    replace Ae2 := Ae2.keep Kq7
    replace V_b2 := V_b2.keep Kq7 (fun q => ne_b2_b6 (List.mem_singleton.mp q))
    replace Ae3 := Ae3.keep Kq7
    replace V_b3 := V_b3.keep Kq7 (fun q => ne_b3_b6 (List.mem_singleton.mp q))
    replace E_b5 := E_b5.keep Kq7
    replace F_key_b5 := F_key_b5.keep Kq7 (fun q => ne_b5_b6 (List.mem_singleton.mp q))
    replace F_value_b5 := F_value_b5.keep Kq7 (fun q => ne_b5_b6 (List.mem_singleton.mp q))
    replace E_b6 := E_b6.keep Kq7
    replace O0 := O0.keep Kq7 (fun x hx => by cases List.mem_singleton.mp hx; exact gn_b6)
    replace hk := Nat.le_trans hk Kq7.1
    have k9 : ∀ t, Steps p.tables e below (T7.setTop (mkF m 111 #[.val (.int p0), .val (.int p1), .val (.int p2), .val (.int p3), .val (.int p4), .val (.int (p0 &&& (3 : Int32))), .val (.ref b2), .val (.ref b3), .unset] [(.ref b2), (.ref b6), (.ref b5), (.ref b5)])) t → Steps p.tables e below (s₁.setTop (entryFrame m #[(.int p0), (.int p1), (.int p2), (.int p3), (.int p4)] maxLocals)) t := by
      intro t k
      refine k1 _ ?_
      show Steps p.tables e below (s₁.setTop (mkF m 7 #[.val (.int p0), .val (.int p1), .val (.int p2), .val (.int p3), .val (.int p4), .val (.int (p0 &&& (3 : Int32))), .unset, .unset, .unset] [(.int (p0 &&& (3 : Int32)))])) _
      refine XS.ifNo X0.here hx rfl (hb hby at_7) rfl ((if0 _ _).trans (teq hc7_1).2) ?_
      show Steps p.tables e below (s₁.setTop (mkF m 10 #[.val (.int p0), .val (.int p1), .val (.int p2), .val (.int p3), .val (.int p4), .val (.int (p0 &&& (3 : Int32))), .unset, .unset, .unset] [])) _
      refine XS.iconst X0.here hx rfl (hb hby at_10) ?_
      show Steps p.tables e below (s₁.setTop (mkF m 11 #[.val (.int p0), .val (.int p1), .val (.int p2), .val (.int p3), .val (.int p4), .val (.int (p0 &&& (3 : Int32))), .unset, .unset, .unset] [(.int (0 : Int32))])) _
      refine st2 _ ?_
      show Steps p.tables e below (T2.setTop (mkF m 13 #[.val (.int p0), .val (.int p1), .val (.int p2), .val (.int p3), .val (.int p4), .val (.int (p0 &&& (3 : Int32))), .unset, .unset, .unset] [(.ref b2)])) _
      refine XS.astore X2.here hx rfl (hb hby at_13) rfl rfl (l' := #[.val (.int p0), .val (.int p1), .val (.int p2), .val (.int p3), .val (.int p4), .val (.int (p0 &&& (3 : Int32))), .val (.ref b2), .unset, .unset]) rfl ?_
      show Steps p.tables e below (T2.setTop (mkF m 15 #[.val (.int p0), .val (.int p1), .val (.int p2), .val (.int p3), .val (.int p4), .val (.int (p0 &&& (3 : Int32))), .val (.ref b2), .unset, .unset] [])) _
      refine XS.goto X2.here hx rfl (pc0 := 15) (pc' := 81) rfl (hb hby at_15) (by decide) (by decide) ?_
      show Steps p.tables e below (T2.setTop (mkF m 81 #[.val (.int p0), .val (.int p1), .val (.int p2), .val (.int p3), .val (.int p4), .val (.int (p0 &&& (3 : Int32))), .val (.ref b2), .unset, .unset] [])) _
      refine XS.iconst X2.here hx rfl (hb hby at_81) ?_
      show Steps p.tables e below (T2.setTop (mkF m 82 #[.val (.int p0), .val (.int p1), .val (.int p2), .val (.int p3), .val (.int p4), .val (.int (p0 &&& (3 : Int32))), .val (.ref b2), .unset, .unset] [(.int (1 : Int32))])) _
      refine st3 _ ?_
      show Steps p.tables e below (T3.setTop (mkF m 84 #[.val (.int p0), .val (.int p1), .val (.int p2), .val (.int p3), .val (.int p4), .val (.int (p0 &&& (3 : Int32))), .val (.ref b2), .unset, .unset] [(.ref b3)])) _
      refine XS.dup X3.here hx rfl (hb hby at_84) rfl rfl ?_
      show Steps p.tables e below (T3.setTop (mkF m 85 #[.val (.int p0), .val (.int p1), .val (.int p2), .val (.int p3), .val (.int p4), .val (.int (p0 &&& (3 : Int32))), .val (.ref b2), .unset, .unset] [(.ref b3), (.ref b3)])) _
      refine XS.iconst X3.here hx rfl (hb hby at_85) ?_
      show Steps p.tables e below (T3.setTop (mkF m 86 #[.val (.int p0), .val (.int p1), .val (.int p2), .val (.int p3), .val (.int p4), .val (.int (p0 &&& (3 : Int32))), .val (.ref b2), .unset, .unset] [(.int (0 : Int32)), (.ref b3), (.ref b3)])) _
      refine XS.iload X3.here hx rfl (hb hby at_86) rfl ?_
      show Steps p.tables e below (T3.setTop (mkF m 88 #[.val (.int p0), .val (.int p1), .val (.int p2), .val (.int p3), .val (.int p4), .val (.int (p0 &&& (3 : Int32))), .val (.ref b2), .unset, .unset] [(.int p4), (.int (0 : Int32)), (.ref b3), (.ref b3)])) _
      refine XS.sipush X3.here hx rfl (hb hby at_88) ?_
      show Steps p.tables e below (T3.setTop (mkF m 91 #[.val (.int p0), .val (.int p1), .val (.int p2), .val (.int p3), .val (.int p4), .val (.int (p0 &&& (3 : Int32))), .val (.ref b2), .unset, .unset] [(.int (255 : Int32)), (.int p4), (.int (0 : Int32)), (.ref b3), (.ref b3)])) _
      refine XS.iand X3.here hx rfl (hb hby at_91) rfl ?_
      show Steps p.tables e below (T3.setTop (mkF m 92 #[.val (.int p0), .val (.int p1), .val (.int p2), .val (.int p3), .val (.int p4), .val (.int (p0 &&& (3 : Int32))), .val (.ref b2), .unset, .unset] [(.int (p4 &&& (255 : Int32))), (.int (0 : Int32)), (.ref b3), (.ref b3)])) _
      refine XS.i2c X3.here hx rfl (hb hby at_92) rfl ?_
      show Steps p.tables e below (T3.setTop (mkF m 93 #[.val (.int p0), .val (.int p1), .val (.int p2), .val (.int p3), .val (.int p4), .val (.int (p0 &&& (3 : Int32))), .val (.ref b2), .unset, .unset] [(.int ((p4 &&& (255 : Int32)).toUInt32.toUInt16.toUInt32.toInt32)), (.int (0 : Int32)), (.ref b3), (.ref b3)])) _
      refine st4 _ ?_
      show Steps p.tables e below (T4.setTop (mkF m 94 #[.val (.int p0), .val (.int p1), .val (.int p2), .val (.int p3), .val (.int p4), .val (.int (p0 &&& (3 : Int32))), .val (.ref b2), .unset, .unset] [(.ref b3)])) _
      refine XS.astore X4.here hx rfl (hb hby at_94) rfl rfl (l' := #[.val (.int p0), .val (.int p1), .val (.int p2), .val (.int p3), .val (.int p4), .val (.int (p0 &&& (3 : Int32))), .val (.ref b2), .val (.ref b3), .unset]) rfl ?_
      show Steps p.tables e below (T4.setTop (mkF m 96 #[.val (.int p0), .val (.int p1), .val (.int p2), .val (.int p3), .val (.int p4), .val (.int (p0 &&& (3 : Int32))), .val (.ref b2), .val (.ref b3), .unset] [])) _
      refine st5 _ ?_
      show Steps p.tables e below (T5.setTop (mkF m 99 #[.val (.int p0), .val (.int p1), .val (.int p2), .val (.int p3), .val (.int p4), .val (.int (p0 &&& (3 : Int32))), .val (.ref b2), .val (.ref b3), .unset] [(.ref b5)])) _
      refine XS.dup X5.here hx rfl (hb hby at_99) rfl rfl ?_
      show Steps p.tables e below (T5.setTop (mkF m 100 #[.val (.int p0), .val (.int p1), .val (.int p2), .val (.int p3), .val (.int p4), .val (.int (p0 &&& (3 : Int32))), .val (.ref b2), .val (.ref b3), .unset] [(.ref b5), (.ref b5)])) _
      refine st6 _ ?_
      show Steps p.tables e below (T6.setTop (mkF m 103 #[.val (.int p0), .val (.int p1), .val (.int p2), .val (.int p3), .val (.int p4), .val (.int (p0 &&& (3 : Int32))), .val (.ref b2), .val (.ref b3), .unset] [(.ref b6), (.ref b5), (.ref b5)])) _
      refine XS.dup X6.here hx rfl (hb hby at_103) rfl rfl ?_
      show Steps p.tables e below (T6.setTop (mkF m 104 #[.val (.int p0), .val (.int p1), .val (.int p2), .val (.int p3), .val (.int p4), .val (.int (p0 &&& (3 : Int32))), .val (.ref b2), .val (.ref b3), .unset] [(.ref b6), (.ref b6), (.ref b5), (.ref b5)])) _
      refine XS.aload X6.here hx rfl (hb hby at_104) rfl rfl ?_
      show Steps p.tables e below (T6.setTop (mkF m 106 #[.val (.int p0), .val (.int p1), .val (.int p2), .val (.int p3), .val (.int p4), .val (.int (p0 &&& (3 : Int32))), .val (.ref b2), .val (.ref b3), .unset] [(.ref b3), (.ref b6), (.ref b6), (.ref b5), (.ref b5)])) _
      refine st7.trans ?_
      show Steps p.tables e below (T7.setTop (mkF m 109 #[.val (.int p0), .val (.int p1), .val (.int p2), .val (.int p3), .val (.int p4), .val (.int (p0 &&& (3 : Int32))), .val (.ref b2), .val (.ref b3), .unset] [(.ref b6), (.ref b5), (.ref b5)])) _
      refine XS.aload X7.here hx rfl (hb hby at_109) rfl rfl ?_
      exact k
    obtain ⟨_, _, ⟨T8, L8, k8_, n8⟩, -, X8, hS8, hg8, ⟨Lc8, hQ8, l8, y8, z8⟩, st8⟩ := X7.specialBackS hx (y := (⟨"com/example/valentia/valentia/state/Update", "<init>", "(Ljava/lang/String;[B)V"⟩ : MethodName)) rfl hown (mvT hZ (hw _ (List.mem_of_getElem? (i := 33) rfl))) (mvT hZ (hw _ (List.mem_of_getElem? (i := 34) rfl))) (mvT hZ (hw _ (List.mem_of_getElem? (i := 35) rfl))) (by decide) (backOfS (W := 1) (rm7 l Z a0 hw [] b5 b6 b2 bv7 kq7 c2 vs7 [] (0 : Int32) T7.heap n0 (O0.1 ▸ O0.2.1) gn_b5 E_b5 F_key_b5 F_value_b5 E_b6 Fq7 Vq7 Ae2 V_b2 (by decide) (Ne.symm ne_b5_b6) ne_b2_b5 (Ne.symm (Exa.neArv E_b5 Vq7 (hw _ (List.mem_of_getElem? (i := 3) rfl))))) hZ (hw _ (List.mem_of_getElem? (i := 35) rfl)) (hw _ (List.mem_of_getElem? (i := 4) rfl)) (by decide) (by decide)) (g := (mkF m 111 #[.val (.int p0), .val (.int p1), .val (.int p2), .val (.int p3), .val (.int p4), .val (.int (p0 &&& (3 : Int32))), .val (.ref b2), .val (.ref b3), .unset] [(.ref b2), (.ref b6), (.ref b5), (.ref b5)])) rfl (by rw [hml]; rfl) (Steps.refl _) (a := b5) (argsL := [(.ref b6), (.ref b2)]) (rest := [(.ref b5)]) (lenOf pd_8 rfl) rfl (by show 2 * 0 + _ ≤ _; exact Nat.le_of_eq rfl) (hb hby at_111) (fun _ _ => ⟨rfl, rfl, (by decide : 5 + 5 ≤ _), (by decide : 8 + 43 ≤ _)⟩)
    dsimp only [Pt.U, Pt.locs, Pt.cells, Pt.slots] at X8 l8 y8 z8 st8 hQ8
    subst l8 y8 z8
    dsimp only [Pt.U, Pt.locs, Pt.cells, Pt.slots] at hS8 hg8
    obtain ⟨X8, hS, hZ, hown⟩ := rebS hS hk X8 hS8 hg8 hZ hown
    replace hk := Nat.le_refl T8.heap.size
    obtain ⟨rfl, Nq8, Kq8, Eq8, bv8, kq8, vs8, Fq8, Vq8⟩ := hQ8
    have N8 := Fr.app N7 Nq8
    replace E_b5 := E_b5.keep Kq8
    replace O0 := O0.keep Kq8 (fun x hx => by cases List.mem_singleton.mp hx; exact gn_b5)
    obtain ⟨cq10, kq10, q10a, q10b, q10c⟩ := isOf hZ rfl E_b5
    obtain ⟨_, _, ⟨T10, L10, k10_, n10⟩, -, X10, ⟨Lc10, hQ10, l10, y10, z10⟩, st10⟩ := X8.virtualBack hx (y := (⟨"com/example/valentia/valentia/state/Update", "isDeletion", "()Z"⟩ : MethodName)) (z := (⟨"com/example/valentia/valentia/state/Update", "isDeletion", "()Z"⟩ : MethodName)) hown (mvT hZ (hw _ (List.mem_of_getElem? (i := 68) rfl))) (mvT hZ (hw _ (List.mem_of_getElem? (i := 69) rfl))) (notFace_of_selects (args := #[]) (mvT hZ (hw _ (List.mem_of_getElem? (i := 71) rfl)))) (mvT hZ (hw _ (List.mem_of_getElem? (i := 71) rfl))) (mvT hZ (hw _ (List.mem_of_getElem? (i := 70) rfl))) (by decide) (backOf (W := 0) (rm11 l Z a0 hw [] b5 bv8 kq8 vs8 (0 : Int32) T8.heap n0 Fq8 Vq8) hZ (hw _ (List.mem_of_getElem? (i := 72) rfl)) (hw _ (List.mem_of_getElem? (i := 4) rfl)) (by decide) (by decide)) q10a q10c (g := (mkF m 118 #[.val (.int p0), .val (.int p1), .val (.int p2), .val (.int p3), .val (.int p4), .val (.int (p0 &&& (3 : Int32))), .val (.ref b2), .val (.ref b3), .val (.ref b5)] [(.ref b5)])) rfl (by rw [hml]; rfl) (Steps.refl _) (argsL := []) (rest := []) (lenOf pd_6 rfl) rfl (by show 2 * 0 + _ ≤ _; exact Nat.le_of_eq rfl) (hb hby at_118) (fun _ _ => ⟨rfl, rfl, (by decide : 10 + 0 ≤ _), (by decide : 51 + 0 ≤ _)⟩)
    dsimp only [Pt.U, Pt.locs, Pt.cells, Pt.slots] at X10 l10 y10 z10 st10 hQ10
    subst l10 y10 z10
    obtain ⟨rfl, Nq10, e10⟩ := hQ10
    have N10 := Fr.app N8 Nq10
    have k11 : ∀ t, Steps p.tables e below (T10.setTop (mkF m 139 #[.val (.int p0), .val (.int p1), .val (.int p2), .val (.int p3), .val (.int p4), .val (.int (p0 &&& (3 : Int32))), .val (.ref b2), .val (.ref b3), .val (.ref b5)] [(.int (1 : Int32))])) t → Steps p.tables e below (s₁.setTop (entryFrame m #[(.int p0), (.int p1), (.int p2), (.int p3), (.int p4)] maxLocals)) t := by
      intro t k
      refine k9 _ ?_
      show Steps p.tables e below (T7.setTop (mkF m 111 #[.val (.int p0), .val (.int p1), .val (.int p2), .val (.int p3), .val (.int p4), .val (.int (p0 &&& (3 : Int32))), .val (.ref b2), .val (.ref b3), .unset] [(.ref b2), (.ref b6), (.ref b5), (.ref b5)])) _
      refine st8.trans ?_
      show Steps p.tables e below (T8.setTop (mkF m 114 #[.val (.int p0), .val (.int p1), .val (.int p2), .val (.int p3), .val (.int p4), .val (.int (p0 &&& (3 : Int32))), .val (.ref b2), .val (.ref b3), .unset] [(.ref b5)])) _
      refine XS.astore X8.here hx rfl (hb hby at_114) rfl rfl (l' := #[.val (.int p0), .val (.int p1), .val (.int p2), .val (.int p3), .val (.int p4), .val (.int (p0 &&& (3 : Int32))), .val (.ref b2), .val (.ref b3), .val (.ref b5)]) rfl ?_
      show Steps p.tables e below (T8.setTop (mkF m 116 #[.val (.int p0), .val (.int p1), .val (.int p2), .val (.int p3), .val (.int p4), .val (.int (p0 &&& (3 : Int32))), .val (.ref b2), .val (.ref b3), .val (.ref b5)] [])) _
      refine XS.aload X8.here hx rfl (hb hby at_116) rfl rfl ?_
      show Steps p.tables e below (T8.setTop (mkF m 118 #[.val (.int p0), .val (.int p1), .val (.int p2), .val (.int p3), .val (.int p4), .val (.int (p0 &&& (3 : Int32))), .val (.ref b2), .val (.ref b3), .val (.ref b5)] [(.ref b5)])) _
      refine st10.trans ?_
      show Steps p.tables e below (T10.setTop (mkF m 121 #[.val (.int p0), .val (.int p1), .val (.int p2), .val (.int p3), .val (.int p4), .val (.int (p0 &&& (3 : Int32))), .val (.ref b2), .val (.ref b3), .val (.ref b5)] [(.int (own_f11 (0 : Int32)))])) _
      refine XS.iload X10.here hx rfl (hb hby at_121) rfl ?_
      show Steps p.tables e below (T10.setTop (mkF m 123 #[.val (.int p0), .val (.int p1), .val (.int p2), .val (.int p3), .val (.int p4), .val (.int (p0 &&& (3 : Int32))), .val (.ref b2), .val (.ref b3), .val (.ref b5)] [(.int (p0 &&& (3 : Int32))), (.int (own_f11 (0 : Int32)))])) _
      refine XS.ifNo X10.here hx rfl (hb hby at_123) rfl ((if0 _ _).trans (teq hc7_1).2) ?_
      show Steps p.tables e below (T10.setTop (mkF m 126 #[.val (.int p0), .val (.int p1), .val (.int p2), .val (.int p3), .val (.int p4), .val (.int (p0 &&& (3 : Int32))), .val (.ref b2), .val (.ref b3), .val (.ref b5)] [(.int (own_f11 (0 : Int32)))])) _
      refine XS.iconst X10.here hx rfl (hb hby at_126) ?_
      show Steps p.tables e below (T10.setTop (mkF m 127 #[.val (.int p0), .val (.int p1), .val (.int p2), .val (.int p3), .val (.int p4), .val (.int (p0 &&& (3 : Int32))), .val (.ref b2), .val (.ref b3), .val (.ref b5)] [(.int (1 : Int32)), (.int (own_f11 (0 : Int32)))])) _
      refine XS.goto X10.here hx rfl (pc0 := 127) (pc' := 131) rfl (hb hby at_127) (by decide) (by decide) ?_
      show Steps p.tables e below (T10.setTop (mkF m 131 #[.val (.int p0), .val (.int p1), .val (.int p2), .val (.int p3), .val (.int p4), .val (.int (p0 &&& (3 : Int32))), .val (.ref b2), .val (.ref b3), .val (.ref b5)] [(.int (1 : Int32)), (.int (own_f11 (0 : Int32)))])) _
      refine XS.icmpNo X10.here hx rfl (hb hby at_131) rfl (teq (own_e0 p0 hc7_1)).2 ?_
      show Steps p.tables e below (T10.setTop (mkF m 134 #[.val (.int p0), .val (.int p1), .val (.int p2), .val (.int p3), .val (.int p4), .val (.int (p0 &&& (3 : Int32))), .val (.ref b2), .val (.ref b3), .val (.ref b5)] [])) _
      refine XS.iconst X10.here hx rfl (hb hby at_134) ?_
      show Steps p.tables e below (T10.setTop (mkF m 135 #[.val (.int p0), .val (.int p1), .val (.int p2), .val (.int p3), .val (.int p4), .val (.int (p0 &&& (3 : Int32))), .val (.ref b2), .val (.ref b3), .val (.ref b5)] [(.int (1 : Int32))])) _
      refine XS.goto X10.here hx rfl (pc0 := 135) (pc' := 139) rfl (hb hby at_135) (by decide) (by decide) ?_
      exact k
    obtain ⟨fs, hr, hrun, hended, hEW⟩ := X10.leaveW hS (by rw [e10]; exact hk) (v := some (.int (1 : Int32))) (fun h => by rw [Bd.returns] at h; cases h)
    refine ⟨_, _, k11 _ ?_, hrun, hended, _, _, rfl, ?_, hEW.1, hEW.2.1, hEW.2.2.1, hEW.2.2.2.mono (by decide) (by decide)⟩
    · exact retN X10 hx (t := .boolean) Bd.returns (by simp) (hb hby at_139) hr
    · show own_R (some (.int 1)) n0 _ T10.heap _
      rw [e10]
      exact ⟨rfl, N10⟩
  · have k12 : ∀ t, Steps p.tables e below (s₁.setTop (mkF m 21 #[.val (.int p0), .val (.int p1), .val (.int p2), .val (.int p3), .val (.int p4), .val (.int (p0 &&& (3 : Int32))), .unset, .unset, .unset] [(.int (1 : Int32)), (.int (p0 &&& (3 : Int32)))])) t → Steps p.tables e below (s₁.setTop (entryFrame m #[(.int p0), (.int p1), (.int p2), (.int p3), (.int p4)] maxLocals)) t := by
      intro t k
      refine k1 _ ?_
      show Steps p.tables e below (s₁.setTop (mkF m 7 #[.val (.int p0), .val (.int p1), .val (.int p2), .val (.int p3), .val (.int p4), .val (.int (p0 &&& (3 : Int32))), .unset, .unset, .unset] [(.int (p0 &&& (3 : Int32)))])) _
      refine XS.ifYes X0.here hx rfl (pc0 := 7) (pc' := 18) rfl (hb hby at_7) rfl ((if0 _ _).trans (feq hc7_1).2) (by decide) (by decide) ?_
      show Steps p.tables e below (s₁.setTop (mkF m 18 #[.val (.int p0), .val (.int p1), .val (.int p2), .val (.int p3), .val (.int p4), .val (.int (p0 &&& (3 : Int32))), .unset, .unset, .unset] [])) _
      refine XS.iload X0.here hx rfl (hb hby at_18) rfl ?_
      show Steps p.tables e below (s₁.setTop (mkF m 20 #[.val (.int p0), .val (.int p1), .val (.int p2), .val (.int p3), .val (.int p4), .val (.int (p0 &&& (3 : Int32))), .unset, .unset, .unset] [(.int (p0 &&& (3 : Int32)))])) _
      refine XS.iconst X0.here hx rfl (hb hby at_20) ?_
      exact k
    by_cases hc21_2 : (p0 &&& (3 : Int32)) = (1 : Int32)
    · obtain ⟨T13, h13, c13, X13, e13, E13, A13, Ae13, st13⟩ := newPE X0 hx hZ (hw _ (List.mem_of_getElem? (i := 0) rfl)) e0 (g := (mkF m 25 #[.val (.int p0), .val (.int p1), .val (.int p2), .val (.int p3), .val (.int p4), .val (.int (p0 &&& (3 : Int32))), .unset, .unset, .unset] [(.int (1 : Int32))])) rfl (hb hby at_25) rfl (by decide) (cap := 1) (by decide) (by decide) (by decide) (by decide) (ad := "[B") (by decide)
      obtain ⟨b13, g13⟩ : ∃ z, z = h0.size := ⟨_, rfl⟩
      rw [← g13] at A13 Ae13 st13
      have gn_b13 : n0 ≤ b13 := Nat.le_trans (O0.1 ▸ O0.2.1) (Nat.le_of_eq g13.symm)
      replace O0 := O0.ext E13
      replace hk := Nat.le_trans hk E13.1
      have V_b13 : Arv Z h13 b13 c13 .byte (1 : Int32) [(.int (0 : Int32))] (.int (0 : Int32)) := (Arv.new A13 (by decide)).pad (pad_rep [] (.int (0 : Int32)) 1)
      obtain ⟨cl_14, Ar_14, q_14, S_14, N_14, H_14, G_14⟩ := id V_b13
      have hin_14 : ¬ ((0 : Int32) < 0 ∨ cl_14.slots.size ≤ ((0 : Int32)).toNatClampNeg) := inb_of S_14 ⟨by decide, by decide⟩
      obtain ⟨T14, h14, X14, e14, W14, st14⟩ := stB X13 hx hZ e13 Ar_14 (j := (0 : Int32)) hin_14 (g := (mkF m 31 #[.val (.int p0), .val (.int p1), .val (.int p2), .val (.int p3), .val (.int p4), .val (.int (p0 &&& (3 : Int32))), .unset, .unset, .unset] [(.int (p1.toInt8.toInt32)), (.int (0 : Int32)), (.ref b13), (.ref b13)])) rfl rfl (hb hby at_31)
      have Vn14 : Arv Z h14 b13 c13 .byte (1 : Int32) [(.int ((p1.toInt8.toInt32).toInt8.toInt32))] (.int (0 : Int32)) := Arv.set Ar_14 q_14 S_14 N_14 H_14 G_14 (fits_nar_byte _) W14 0 rfl (Nat.le_of_ble_eq_true rfl)
      replace Ae13 := Ae13.wr W14
      replace O0 := O0.wr W14 gn_b13
      replace hk := Nat.le_trans hk (Nat.le_of_eq W14.size.symm)
      replace V_b13 := Vn14
      have N14 := Fr.snoc X14 N0 gn_b13
      obtain ⟨T15, h15, c15, X15, e15, E15, A15, Ae15, st15⟩ := newPE X14 hx hZ (hw _ (List.mem_of_getElem? (i := 1) rfl)) e14 (g := (mkF m 82 #[.val (.int p0), .val (.int p1), .val (.int p2), .val (.int p3), .val (.int p4), .val (.int (p0 &&& (3 : Int32))), .val (.ref b13), .unset, .unset] [(.int (1 : Int32))])) rfl (hb hby at_82) rfl (by decide) (cap := 1) (by decide) (by decide) (by decide) (by decide) (ad := "[C") (by decide)
      obtain ⟨b15, g15⟩ : ∃ z, z = h14.size := ⟨_, rfl⟩
      rw [← g15] at A15 Ae15 st15
      have ne_b13_b15 : b13 ≠ b15 := Nat.ne_of_lt (Nat.lt_of_lt_of_le Ae13.lt (Nat.le_of_eq g15.symm))
      have gn_b15 : n0 ≤ b15 := Nat.le_trans (O0.1 ▸ O0.2.1) (Nat.le_of_eq g15.symm)
      replace Ae13 := Ae13.ext E15
      replace V_b13 := V_b13.ext E15
      replace O0 := O0.ext E15
      replace hk := Nat.le_trans hk E15.1
      have V_b15 : Arv Z h15 b15 c15 .char (1 : Int32) [(.int (0 : Int32))] (.int (0 : Int32)) := (Arv.new A15 (by decide)).pad (pad_rep [] (.int (0 : Int32)) 1)
      obtain ⟨cl_16, Ar_16, q_16, S_16, N_16, H_16, G_16⟩ := id V_b15
      have hin_16 : ¬ ((0 : Int32) < 0 ∨ cl_16.slots.size ≤ ((0 : Int32)).toNatClampNeg) := inb_of S_16 ⟨by decide, by decide⟩
      obtain ⟨T16, h16, X16, e16, W16, st16⟩ := stC X15 hx hZ e15 Ar_16 (j := (0 : Int32)) hin_16 (g := (mkF m 93 #[.val (.int p0), .val (.int p1), .val (.int p2), .val (.int p3), .val (.int p4), .val (.int (p0 &&& (3 : Int32))), .val (.ref b13), .unset, .unset] [(.int ((p4 &&& (255 : Int32)).toUInt32.toUInt16.toUInt32.toInt32)), (.int (0 : Int32)), (.ref b15), (.ref b15)])) rfl rfl (hb hby at_93)
      have Vn16 : Arv Z h16 b15 c15 .char (1 : Int32) [(.int (nar .char ((p4 &&& (255 : Int32)).toUInt32.toUInt16.toUInt32.toInt32)))] (.int (0 : Int32)) := Arv.set Ar_16 q_16 S_16 N_16 H_16 G_16 (fits_nar_char _) W16 0 rfl (Nat.le_of_ble_eq_true rfl)
      replace Ae13 := Ae13.wr W16
      replace V_b13 := V_b13.other W16 ne_b13_b15
      replace Ae15 := Ae15.wr W16
      replace O0 := O0.wr W16 gn_b15
      replace hk := Nat.le_trans hk (Nat.le_of_eq W16.size.symm)
      replace V_b15 := Vn16
      have N16 := Fr.snoc X16 N14 gn_b15
      obtain ⟨T17, h17, X17, e17, E17, A17, D17, -, st17⟩ := newO X16 hx hZ hown (hw _ (List.mem_of_getElem? (i := 2) rfl)) (hw _ (List.mem_of_getElem? (i := 3) rfl)) (hw _ (List.mem_of_getElem? (i := 4) rfl)) e16 (g := (mkF m 96 #[.val (.int p0), .val (.int p1), .val (.int p2), .val (.int p3), .val (.int p4), .val (.int (p0 &&& (3 : Int32))), .val (.ref b13), .val (.ref b15), .unset] [])) rfl (hb hby at_96) (by decide) (by decide)
      obtain ⟨b17, g17⟩ : ∃ z, z = h16.size := ⟨_, rfl⟩
      rw [← g17] at A17 D17 st17
      have ne_b13_b17 : b13 ≠ b17 := Nat.ne_of_lt (Nat.lt_of_lt_of_le Ae13.lt (Nat.le_of_eq g17.symm))
      have ne_b15_b17 : b15 ≠ b17 := Nat.ne_of_lt (Nat.lt_of_lt_of_le Ae15.lt (Nat.le_of_eq g17.symm))
      have gn_b17 : n0 ≤ b17 := Nat.le_trans (O0.1 ▸ O0.2.1) (Nat.le_of_eq g17.symm)
      replace Ae13 := Ae13.ext E17
      replace V_b13 := V_b13.ext E17
      replace Ae15 := Ae15.ext E17
      replace V_b15 := V_b15.ext E17
      replace O0 := O0.ext E17
      replace hk := Nat.le_trans hk E17.1
      have E_b17 := A17
      have F_key_b17 : Fld Z h17 b17 "com/example/valentia/valentia/state/Update" "key" "Ljava/lang/String;" .null := D17 (Or.inr (hw _ (List.mem_of_getElem? (i := 65) rfl))) (ty := (.object "java/lang/String")) (by decide)
      have F_value_b17 : Fld Z h17 b17 "com/example/valentia/valentia/state/Update" "value" "[B" .null := D17 (Or.inr (hw _ (List.mem_of_getElem? (i := 67) rfl))) (ty := (.array .byte)) (by decide)
      obtain ⟨T18, h18, X18, e18, E18, A18, D18, -, st18⟩ := newO X17 hx hZ hown (hw _ (List.mem_of_getElem? (i := 5) rfl)) (hw _ (List.mem_of_getElem? (i := 6) rfl)) (hw _ (List.mem_of_getElem? (i := 7) rfl)) e17 (g := (mkF m 100 #[.val (.int p0), .val (.int p1), .val (.int p2), .val (.int p3), .val (.int p4), .val (.int (p0 &&& (3 : Int32))), .val (.ref b13), .val (.ref b15), .unset] [(.ref b17), (.ref b17)])) rfl (hb hby at_100) (by decide) (by decide)
      obtain ⟨b18, g18⟩ : ∃ z, z = h17.size := ⟨_, rfl⟩
      rw [← g18] at A18 D18 st18
      have ne_b13_b18 : b13 ≠ b18 := Nat.ne_of_lt (Nat.lt_of_lt_of_le Ae13.lt (Nat.le_of_eq g18.symm))
      have ne_b15_b18 : b15 ≠ b18 := Nat.ne_of_lt (Nat.lt_of_lt_of_le Ae15.lt (Nat.le_of_eq g18.symm))
      have ne_b17_b18 : b17 ≠ b18 := Nat.ne_of_lt (Nat.lt_of_lt_of_le E_b17.lt (Nat.le_of_eq g18.symm))
      have gn_b18 : n0 ≤ b18 := Nat.le_trans (O0.1 ▸ O0.2.1) (Nat.le_of_eq g18.symm)
      replace Ae13 := Ae13.ext E18
      replace V_b13 := V_b13.ext E18
      replace Ae15 := Ae15.ext E18
      replace V_b15 := V_b15.ext E18
      replace E_b17 := E_b17.ext E18
      replace F_key_b17 := F_key_b17.ext E18
      replace F_value_b17 := F_value_b17.ext E18
      replace O0 := O0.ext E18
      replace hk := Nat.le_trans hk E18.1
      have E_b18 := A18
      have F_coder_b18 : Fld Z h18 b18 "java/lang/String" "coder" "B" (.int (0 : Int32)) := D18 (Or.inr (hw _ (List.mem_of_getElem? (i := 30) rfl))) (ty := .byte) (by decide)
      have F_value_b18 : Fld Z h18 b18 "java/lang/String" "value" "[B" .null := D18 (Or.inr (hw _ (List.mem_of_getElem? (i := 32) rfl))) (ty := (.array .byte)) (by decide)
      obtain ⟨_, _, ⟨T19, L19, k19_, n19⟩, -, X19, ⟨Lc19, hQ19, l19, y19, z19⟩, st19⟩ := X18.specialBack hx (y := (⟨"java/lang/String", "<init>", "([C)V"⟩ : MethodName)) rfl hown (mvT hZ (hw _ (List.mem_of_getElem? (i := 8) rfl))) (mvT hZ (hw _ (List.mem_of_getElem? (i := 9) rfl))) (mvT hZ (hw _ (List.mem_of_getElem? (i := 10) rfl))) (by decide) (backOf (W := 3) (rmS1_1 l Z a0 hw [] b18 b15 c15 (nar .char ((p4 &&& (255 : Int32)).toUInt32.toUInt16.toUInt32.toInt32)) w_CS h18 n0 hG O0 (O0.1 ▸ O0.2.1) gn_b18 E_b18 F_value_b18 F_coder_b18 ne_b15_b18 V_b15 (own_c2 _)) hZ (hw _ (List.mem_of_getElem? (i := 10) rfl)) (hw _ (List.mem_of_getElem? (i := 7) rfl)) (by decide) (by decide)) (g := (mkF m 106 #[.val (.int p0), .val (.int p1), .val (.int p2), .val (.int p3), .val (.int p4), .val (.int (p0 &&& (3 : Int32))), .val (.ref b13), .val (.ref b15), .unset] [(.ref b15), (.ref b18), (.ref b18), (.ref b17), (.ref b17)])) rfl (by rw [hml]; rfl) (Steps.refl _) (a := b18) (argsL := [(.ref b15)]) (rest := [(.ref b18), (.ref b17), (.ref b17)]) (lenOf pd_7 rfl) rfl (by show 2 * 0 + _ ≤ _; exact Nat.le_of_eq rfl) (hb hby at_106) (fun _ _ => ⟨rfl, e18, (by decide : 4 + 1 ≤ _), (by decide : 8 + 1 ≤ _)⟩)
      dsimp only [Pt.U, Pt.locs, Pt.cells, Pt.slots] at X19 l19 y19 z19 st19 hQ19
      subst l19 y19 z19
      obtain ⟨rfl, Nq19, Kq19, Eq19, bv19, kq19, vs19, Fq19, Vq19⟩ := hQ19
      have N19 := Fr.app N16 Nq19
      replace Ae13 := Ae13.keep Kq19
      replace V_b13 := V_b13.keep Kq19 (fun q => ne_b13_b18 (List.mem_singleton.mp q))
      replace Ae15 := Ae15.keep Kq19
      replace V_b15 := V_b15.keep Kq19 (fun q => ne_b15_b18 (List.mem_singleton.mp q))
      replace E_b17 := E_b17.keep Kq19
      replace F_key_b17 := F_key_b17.keep Kq19 (fun q => ne_b17_b18 (List.mem_singleton.mp q))
      replace F_value_b17 := F_value_b17.keep Kq19 (fun q => ne_b17_b18 (List.mem_singleton.mp q))
      replace E_b18 := E_b18.keep Kq19
      replace O0 := O0.keep Kq19 (fun x hx => by cases List.mem_singleton.mp hx; exact gn_b18)
      replace hk := Nat.le_trans hk Kq19.1
      have k21 : ∀ t, Steps p.tables e below (T19.setTop (mkF m 111 #[.val (.int p0), .val (.int p1), .val (.int p2), .val (.int p3), .val (.int p4), .val (.int (p0 &&& (3 : Int32))), .val (.ref b13), .val (.ref b15), .unset] [(.ref b13), (.ref b18), (.ref b17), (.ref b17)])) t → Steps p.tables e below (s₁.setTop (entryFrame m #[(.int p0), (.int p1), (.int p2), (.int p3), (.int p4)] maxLocals)) t := by
        intro t k
        refine k12 _ ?_
        show Steps p.tables e below (s₁.setTop (mkF m 21 #[.val (.int p0), .val (.int p1), .val (.int p2), .val (.int p3), .val (.int p4), .val (.int (p0 &&& (3 : Int32))), .unset, .unset, .unset] [(.int (1 : Int32)), (.int (p0 &&& (3 : Int32)))])) _
        refine XS.icmpNo X0.here hx rfl (hb hby at_21) rfl (teq hc21_2).2 ?_
        show Steps p.tables e below (s₁.setTop (mkF m 24 #[.val (.int p0), .val (.int p1), .val (.int p2), .val (.int p3), .val (.int p4), .val (.int (p0 &&& (3 : Int32))), .unset, .unset, .unset] [])) _
        refine XS.iconst X0.here hx rfl (hb hby at_24) ?_
        show Steps p.tables e below (s₁.setTop (mkF m 25 #[.val (.int p0), .val (.int p1), .val (.int p2), .val (.int p3), .val (.int p4), .val (.int (p0 &&& (3 : Int32))), .unset, .unset, .unset] [(.int (1 : Int32))])) _
        refine st13 _ ?_
        show Steps p.tables e below (T13.setTop (mkF m 27 #[.val (.int p0), .val (.int p1), .val (.int p2), .val (.int p3), .val (.int p4), .val (.int (p0 &&& (3 : Int32))), .unset, .unset, .unset] [(.ref b13)])) _
        refine XS.dup X13.here hx rfl (hb hby at_27) rfl rfl ?_
        show Steps p.tables e below (T13.setTop (mkF m 28 #[.val (.int p0), .val (.int p1), .val (.int p2), .val (.int p3), .val (.int p4), .val (.int (p0 &&& (3 : Int32))), .unset, .unset, .unset] [(.ref b13), (.ref b13)])) _
        refine XS.iconst X13.here hx rfl (hb hby at_28) ?_
        show Steps p.tables e below (T13.setTop (mkF m 29 #[.val (.int p0), .val (.int p1), .val (.int p2), .val (.int p3), .val (.int p4), .val (.int (p0 &&& (3 : Int32))), .unset, .unset, .unset] [(.int (0 : Int32)), (.ref b13), (.ref b13)])) _
        refine XS.iloadN X13.here hx rfl (hb hby at_29) rfl ?_
        show Steps p.tables e below (T13.setTop (mkF m 30 #[.val (.int p0), .val (.int p1), .val (.int p2), .val (.int p3), .val (.int p4), .val (.int (p0 &&& (3 : Int32))), .unset, .unset, .unset] [(.int p1), (.int (0 : Int32)), (.ref b13), (.ref b13)])) _
        refine XS.i2b X13.here hx rfl (hb hby at_30) rfl ?_
        show Steps p.tables e below (T13.setTop (mkF m 31 #[.val (.int p0), .val (.int p1), .val (.int p2), .val (.int p3), .val (.int p4), .val (.int (p0 &&& (3 : Int32))), .unset, .unset, .unset] [(.int (p1.toInt8.toInt32)), (.int (0 : Int32)), (.ref b13), (.ref b13)])) _
        refine st14 _ ?_
        show Steps p.tables e below (T14.setTop (mkF m 32 #[.val (.int p0), .val (.int p1), .val (.int p2), .val (.int p3), .val (.int p4), .val (.int (p0 &&& (3 : Int32))), .unset, .unset, .unset] [(.ref b13)])) _
        refine XS.astore X14.here hx rfl (hb hby at_32) rfl rfl (l' := #[.val (.int p0), .val (.int p1), .val (.int p2), .val (.int p3), .val (.int p4), .val (.int (p0 &&& (3 : Int32))), .val (.ref b13), .unset, .unset]) rfl ?_
        show Steps p.tables e below (T14.setTop (mkF m 34 #[.val (.int p0), .val (.int p1), .val (.int p2), .val (.int p3), .val (.int p4), .val (.int (p0 &&& (3 : Int32))), .val (.ref b13), .unset, .unset] [])) _
        refine XS.goto X14.here hx rfl (pc0 := 34) (pc' := 81) rfl (hb hby at_34) (by decide) (by decide) ?_
        show Steps p.tables e below (T14.setTop (mkF m 81 #[.val (.int p0), .val (.int p1), .val (.int p2), .val (.int p3), .val (.int p4), .val (.int (p0 &&& (3 : Int32))), .val (.ref b13), .unset, .unset] [])) _
        refine XS.iconst X14.here hx rfl (hb hby at_81) ?_
        show Steps p.tables e below (T14.setTop (mkF m 82 #[.val (.int p0), .val (.int p1), .val (.int p2), .val (.int p3), .val (.int p4), .val (.int (p0 &&& (3 : Int32))), .val (.ref b13), .unset, .unset] [(.int (1 : Int32))])) _
        refine st15 _ ?_
        show Steps p.tables e below (T15.setTop (mkF m 84 #[.val (.int p0), .val (.int p1), .val (.int p2), .val (.int p3), .val (.int p4), .val (.int (p0 &&& (3 : Int32))), .val (.ref b13), .unset, .unset] [(.ref b15)])) _
        refine XS.dup X15.here hx rfl (hb hby at_84) rfl rfl ?_
        show Steps p.tables e below (T15.setTop (mkF m 85 #[.val (.int p0), .val (.int p1), .val (.int p2), .val (.int p3), .val (.int p4), .val (.int (p0 &&& (3 : Int32))), .val (.ref b13), .unset, .unset] [(.ref b15), (.ref b15)])) _
        refine XS.iconst X15.here hx rfl (hb hby at_85) ?_
        show Steps p.tables e below (T15.setTop (mkF m 86 #[.val (.int p0), .val (.int p1), .val (.int p2), .val (.int p3), .val (.int p4), .val (.int (p0 &&& (3 : Int32))), .val (.ref b13), .unset, .unset] [(.int (0 : Int32)), (.ref b15), (.ref b15)])) _
        refine XS.iload X15.here hx rfl (hb hby at_86) rfl ?_
        show Steps p.tables e below (T15.setTop (mkF m 88 #[.val (.int p0), .val (.int p1), .val (.int p2), .val (.int p3), .val (.int p4), .val (.int (p0 &&& (3 : Int32))), .val (.ref b13), .unset, .unset] [(.int p4), (.int (0 : Int32)), (.ref b15), (.ref b15)])) _
        refine XS.sipush X15.here hx rfl (hb hby at_88) ?_
        show Steps p.tables e below (T15.setTop (mkF m 91 #[.val (.int p0), .val (.int p1), .val (.int p2), .val (.int p3), .val (.int p4), .val (.int (p0 &&& (3 : Int32))), .val (.ref b13), .unset, .unset] [(.int (255 : Int32)), (.int p4), (.int (0 : Int32)), (.ref b15), (.ref b15)])) _
        refine XS.iand X15.here hx rfl (hb hby at_91) rfl ?_
        show Steps p.tables e below (T15.setTop (mkF m 92 #[.val (.int p0), .val (.int p1), .val (.int p2), .val (.int p3), .val (.int p4), .val (.int (p0 &&& (3 : Int32))), .val (.ref b13), .unset, .unset] [(.int (p4 &&& (255 : Int32))), (.int (0 : Int32)), (.ref b15), (.ref b15)])) _
        refine XS.i2c X15.here hx rfl (hb hby at_92) rfl ?_
        show Steps p.tables e below (T15.setTop (mkF m 93 #[.val (.int p0), .val (.int p1), .val (.int p2), .val (.int p3), .val (.int p4), .val (.int (p0 &&& (3 : Int32))), .val (.ref b13), .unset, .unset] [(.int ((p4 &&& (255 : Int32)).toUInt32.toUInt16.toUInt32.toInt32)), (.int (0 : Int32)), (.ref b15), (.ref b15)])) _
        refine st16 _ ?_
        show Steps p.tables e below (T16.setTop (mkF m 94 #[.val (.int p0), .val (.int p1), .val (.int p2), .val (.int p3), .val (.int p4), .val (.int (p0 &&& (3 : Int32))), .val (.ref b13), .unset, .unset] [(.ref b15)])) _
        refine XS.astore X16.here hx rfl (hb hby at_94) rfl rfl (l' := #[.val (.int p0), .val (.int p1), .val (.int p2), .val (.int p3), .val (.int p4), .val (.int (p0 &&& (3 : Int32))), .val (.ref b13), .val (.ref b15), .unset]) rfl ?_
        show Steps p.tables e below (T16.setTop (mkF m 96 #[.val (.int p0), .val (.int p1), .val (.int p2), .val (.int p3), .val (.int p4), .val (.int (p0 &&& (3 : Int32))), .val (.ref b13), .val (.ref b15), .unset] [])) _
        refine st17 _ ?_
        show Steps p.tables e below (T17.setTop (mkF m 99 #[.val (.int p0), .val (.int p1), .val (.int p2), .val (.int p3), .val (.int p4), .val (.int (p0 &&& (3 : Int32))), .val (.ref b13), .val (.ref b15), .unset] [(.ref b17)])) _
        refine XS.dup X17.here hx rfl (hb hby at_99) rfl rfl ?_
        show Steps p.tables e below (T17.setTop (mkF m 100 #[.val (.int p0), .val (.int p1), .val (.int p2), .val (.int p3), .val (.int p4), .val (.int (p0 &&& (3 : Int32))), .val (.ref b13), .val (.ref b15), .unset] [(.ref b17), (.ref b17)])) _
        refine st18 _ ?_
        show Steps p.tables e below (T18.setTop (mkF m 103 #[.val (.int p0), .val (.int p1), .val (.int p2), .val (.int p3), .val (.int p4), .val (.int (p0 &&& (3 : Int32))), .val (.ref b13), .val (.ref b15), .unset] [(.ref b18), (.ref b17), (.ref b17)])) _
        refine XS.dup X18.here hx rfl (hb hby at_103) rfl rfl ?_
        show Steps p.tables e below (T18.setTop (mkF m 104 #[.val (.int p0), .val (.int p1), .val (.int p2), .val (.int p3), .val (.int p4), .val (.int (p0 &&& (3 : Int32))), .val (.ref b13), .val (.ref b15), .unset] [(.ref b18), (.ref b18), (.ref b17), (.ref b17)])) _
        refine XS.aload X18.here hx rfl (hb hby at_104) rfl rfl ?_
        show Steps p.tables e below (T18.setTop (mkF m 106 #[.val (.int p0), .val (.int p1), .val (.int p2), .val (.int p3), .val (.int p4), .val (.int (p0 &&& (3 : Int32))), .val (.ref b13), .val (.ref b15), .unset] [(.ref b15), (.ref b18), (.ref b18), (.ref b17), (.ref b17)])) _
        refine st19.trans ?_
        show Steps p.tables e below (T19.setTop (mkF m 109 #[.val (.int p0), .val (.int p1), .val (.int p2), .val (.int p3), .val (.int p4), .val (.int (p0 &&& (3 : Int32))), .val (.ref b13), .val (.ref b15), .unset] [(.ref b18), (.ref b17), (.ref b17)])) _
        refine XS.aload X19.here hx rfl (hb hby at_109) rfl rfl ?_
        exact k
      obtain ⟨_, _, ⟨T20, L20, k20_, n20⟩, -, X20, hS20, hg20, ⟨Lc20, hQ20, l20, y20, z20⟩, st20⟩ := X19.specialBackS hx (y := (⟨"com/example/valentia/valentia/state/Update", "<init>", "(Ljava/lang/String;[B)V"⟩ : MethodName)) rfl hown (mvT hZ (hw _ (List.mem_of_getElem? (i := 33) rfl))) (mvT hZ (hw _ (List.mem_of_getElem? (i := 34) rfl))) (mvT hZ (hw _ (List.mem_of_getElem? (i := 35) rfl))) (by decide) (backOfS (W := 1) (rm7 l Z a0 hw [] b17 b18 b13 bv19 kq19 c13 vs19 [(.int ((p1.toInt8.toInt32).toInt8.toInt32))] (1 : Int32) T19.heap n0 (O0.1 ▸ O0.2.1) gn_b17 E_b17 F_key_b17 F_value_b17 E_b18 Fq19 Vq19 Ae13 V_b13 (by decide) (Ne.symm ne_b17_b18) ne_b13_b17 (Ne.symm (Exa.neArv E_b17 Vq19 (hw _ (List.mem_of_getElem? (i := 3) rfl))))) hZ (hw _ (List.mem_of_getElem? (i := 35) rfl)) (hw _ (List.mem_of_getElem? (i := 4) rfl)) (by decide) (by decide)) (g := (mkF m 111 #[.val (.int p0), .val (.int p1), .val (.int p2), .val (.int p3), .val (.int p4), .val (.int (p0 &&& (3 : Int32))), .val (.ref b13), .val (.ref b15), .unset] [(.ref b13), (.ref b18), (.ref b17), (.ref b17)])) rfl (by rw [hml]; rfl) (Steps.refl _) (a := b17) (argsL := [(.ref b18), (.ref b13)]) (rest := [(.ref b17)]) (lenOf pd_8 rfl) rfl (by show 2 * 0 + _ ≤ _; exact Nat.le_of_eq rfl) (hb hby at_111) (fun _ _ => ⟨rfl, rfl, (by decide : 5 + 5 ≤ _), (by decide : 9 + 43 ≤ _)⟩)
      dsimp only [Pt.U, Pt.locs, Pt.cells, Pt.slots] at X20 l20 y20 z20 st20 hQ20
      subst l20 y20 z20
      dsimp only [Pt.U, Pt.locs, Pt.cells, Pt.slots] at hS20 hg20
      obtain ⟨X20, hS, hZ, hown⟩ := rebS hS hk X20 hS20 hg20 hZ hown
      replace hk := Nat.le_refl T20.heap.size
      obtain ⟨rfl, Nq20, Kq20, Eq20, bv20, kq20, vs20, Fq20, Vq20⟩ := hQ20
      have N20 := Fr.app N19 Nq20
      replace E_b17 := E_b17.keep Kq20
      replace O0 := O0.keep Kq20 (fun x hx => by cases List.mem_singleton.mp hx; exact gn_b17)
      obtain ⟨cq22, kq22, q22a, q22b, q22c⟩ := isOf hZ rfl E_b17
      obtain ⟨_, _, ⟨T22, L22, k22_, n22⟩, -, X22, ⟨Lc22, hQ22, l22, y22, z22⟩, st22⟩ := X20.virtualBack hx (y := (⟨"com/example/valentia/valentia/state/Update", "isDeletion", "()Z"⟩ : MethodName)) (z := (⟨"com/example/valentia/valentia/state/Update", "isDeletion", "()Z"⟩ : MethodName)) hown (mvT hZ (hw _ (List.mem_of_getElem? (i := 68) rfl))) (mvT hZ (hw _ (List.mem_of_getElem? (i := 69) rfl))) (notFace_of_selects (args := #[]) (mvT hZ (hw _ (List.mem_of_getElem? (i := 71) rfl)))) (mvT hZ (hw _ (List.mem_of_getElem? (i := 71) rfl))) (mvT hZ (hw _ (List.mem_of_getElem? (i := 70) rfl))) (by decide) (backOf (W := 0) (rm11 l Z a0 hw [] b17 bv20 kq20 vs20 (1 : Int32) T20.heap n0 Fq20 Vq20) hZ (hw _ (List.mem_of_getElem? (i := 72) rfl)) (hw _ (List.mem_of_getElem? (i := 4) rfl)) (by decide) (by decide)) q22a q22c (g := (mkF m 118 #[.val (.int p0), .val (.int p1), .val (.int p2), .val (.int p3), .val (.int p4), .val (.int (p0 &&& (3 : Int32))), .val (.ref b13), .val (.ref b15), .val (.ref b17)] [(.ref b17)])) rfl (by rw [hml]; rfl) (Steps.refl _) (argsL := []) (rest := []) (lenOf pd_6 rfl) rfl (by show 2 * 0 + _ ≤ _; exact Nat.le_of_eq rfl) (hb hby at_118) (fun _ _ => ⟨rfl, rfl, (by decide : 10 + 0 ≤ _), (by decide : 52 + 0 ≤ _)⟩)
      dsimp only [Pt.U, Pt.locs, Pt.cells, Pt.slots] at X22 l22 y22 z22 st22 hQ22
      subst l22 y22 z22
      obtain ⟨rfl, Nq22, e22⟩ := hQ22
      have N22 := Fr.app N20 Nq22
      have k23 : ∀ t, Steps p.tables e below (T22.setTop (mkF m 139 #[.val (.int p0), .val (.int p1), .val (.int p2), .val (.int p3), .val (.int p4), .val (.int (p0 &&& (3 : Int32))), .val (.ref b13), .val (.ref b15), .val (.ref b17)] [(.int (1 : Int32))])) t → Steps p.tables e below (s₁.setTop (entryFrame m #[(.int p0), (.int p1), (.int p2), (.int p3), (.int p4)] maxLocals)) t := by
        intro t k
        refine k21 _ ?_
        show Steps p.tables e below (T19.setTop (mkF m 111 #[.val (.int p0), .val (.int p1), .val (.int p2), .val (.int p3), .val (.int p4), .val (.int (p0 &&& (3 : Int32))), .val (.ref b13), .val (.ref b15), .unset] [(.ref b13), (.ref b18), (.ref b17), (.ref b17)])) _
        refine st20.trans ?_
        show Steps p.tables e below (T20.setTop (mkF m 114 #[.val (.int p0), .val (.int p1), .val (.int p2), .val (.int p3), .val (.int p4), .val (.int (p0 &&& (3 : Int32))), .val (.ref b13), .val (.ref b15), .unset] [(.ref b17)])) _
        refine XS.astore X20.here hx rfl (hb hby at_114) rfl rfl (l' := #[.val (.int p0), .val (.int p1), .val (.int p2), .val (.int p3), .val (.int p4), .val (.int (p0 &&& (3 : Int32))), .val (.ref b13), .val (.ref b15), .val (.ref b17)]) rfl ?_
        show Steps p.tables e below (T20.setTop (mkF m 116 #[.val (.int p0), .val (.int p1), .val (.int p2), .val (.int p3), .val (.int p4), .val (.int (p0 &&& (3 : Int32))), .val (.ref b13), .val (.ref b15), .val (.ref b17)] [])) _
        refine XS.aload X20.here hx rfl (hb hby at_116) rfl rfl ?_
        show Steps p.tables e below (T20.setTop (mkF m 118 #[.val (.int p0), .val (.int p1), .val (.int p2), .val (.int p3), .val (.int p4), .val (.int (p0 &&& (3 : Int32))), .val (.ref b13), .val (.ref b15), .val (.ref b17)] [(.ref b17)])) _
        refine st22.trans ?_
        show Steps p.tables e below (T22.setTop (mkF m 121 #[.val (.int p0), .val (.int p1), .val (.int p2), .val (.int p3), .val (.int p4), .val (.int (p0 &&& (3 : Int32))), .val (.ref b13), .val (.ref b15), .val (.ref b17)] [(.int (own_f11 (1 : Int32)))])) _
        refine XS.iload X22.here hx rfl (hb hby at_121) rfl ?_
        show Steps p.tables e below (T22.setTop (mkF m 123 #[.val (.int p0), .val (.int p1), .val (.int p2), .val (.int p3), .val (.int p4), .val (.int (p0 &&& (3 : Int32))), .val (.ref b13), .val (.ref b15), .val (.ref b17)] [(.int (p0 &&& (3 : Int32))), (.int (own_f11 (1 : Int32)))])) _
        refine XS.ifYes X22.here hx rfl (pc0 := 123) (pc' := 130) rfl (hb hby at_123) rfl ((if0 _ _).trans (feq hc7_1).2) (by decide) (by decide) ?_
        show Steps p.tables e below (T22.setTop (mkF m 130 #[.val (.int p0), .val (.int p1), .val (.int p2), .val (.int p3), .val (.int p4), .val (.int (p0 &&& (3 : Int32))), .val (.ref b13), .val (.ref b15), .val (.ref b17)] [(.int (own_f11 (1 : Int32)))])) _
        refine XS.iconst X22.here hx rfl (hb hby at_130) ?_
        show Steps p.tables e below (T22.setTop (mkF m 131 #[.val (.int p0), .val (.int p1), .val (.int p2), .val (.int p3), .val (.int p4), .val (.int (p0 &&& (3 : Int32))), .val (.ref b13), .val (.ref b15), .val (.ref b17)] [(.int (0 : Int32)), (.int (own_f11 (1 : Int32)))])) _
        refine XS.icmpNo X22.here hx rfl (hb hby at_131) rfl (teq (own_e1 p0 hc7_1)).2 ?_
        show Steps p.tables e below (T22.setTop (mkF m 134 #[.val (.int p0), .val (.int p1), .val (.int p2), .val (.int p3), .val (.int p4), .val (.int (p0 &&& (3 : Int32))), .val (.ref b13), .val (.ref b15), .val (.ref b17)] [])) _
        refine XS.iconst X22.here hx rfl (hb hby at_134) ?_
        show Steps p.tables e below (T22.setTop (mkF m 135 #[.val (.int p0), .val (.int p1), .val (.int p2), .val (.int p3), .val (.int p4), .val (.int (p0 &&& (3 : Int32))), .val (.ref b13), .val (.ref b15), .val (.ref b17)] [(.int (1 : Int32))])) _
        refine XS.goto X22.here hx rfl (pc0 := 135) (pc' := 139) rfl (hb hby at_135) (by decide) (by decide) ?_
        exact k
      obtain ⟨fs, hr, hrun, hended, hEW⟩ := X22.leaveW hS (by rw [e22]; exact hk) (v := some (.int (1 : Int32))) (fun h => by rw [Bd.returns] at h; cases h)
      refine ⟨_, _, k23 _ ?_, hrun, hended, _, _, rfl, ?_, hEW.1, hEW.2.1, hEW.2.2.1, hEW.2.2.2.mono (by decide) (by decide)⟩
      · exact retN X22 hx (t := .boolean) Bd.returns (by simp) (hb hby at_139) hr
      · show own_R (some (.int 1)) n0 _ T22.heap _
        rw [e22]
        exact ⟨rfl, N22⟩
    · have k24 : ∀ t, Steps p.tables e below (s₁.setTop (mkF m 40 #[.val (.int p0), .val (.int p1), .val (.int p2), .val (.int p3), .val (.int p4), .val (.int (p0 &&& (3 : Int32))), .unset, .unset, .unset] [(.int (2 : Int32)), (.int (p0 &&& (3 : Int32)))])) t → Steps p.tables e below (s₁.setTop (entryFrame m #[(.int p0), (.int p1), (.int p2), (.int p3), (.int p4)] maxLocals)) t := by
        intro t k
        refine k12 _ ?_
        show Steps p.tables e below (s₁.setTop (mkF m 21 #[.val (.int p0), .val (.int p1), .val (.int p2), .val (.int p3), .val (.int p4), .val (.int (p0 &&& (3 : Int32))), .unset, .unset, .unset] [(.int (1 : Int32)), (.int (p0 &&& (3 : Int32)))])) _
        refine XS.icmpYes X0.here hx rfl (pc0 := 21) (pc' := 37) rfl (hb hby at_21) rfl (feq hc21_2).2 (by decide) (by decide) ?_
        show Steps p.tables e below (s₁.setTop (mkF m 37 #[.val (.int p0), .val (.int p1), .val (.int p2), .val (.int p3), .val (.int p4), .val (.int (p0 &&& (3 : Int32))), .unset, .unset, .unset] [])) _
        refine XS.iload X0.here hx rfl (hb hby at_37) rfl ?_
        show Steps p.tables e below (s₁.setTop (mkF m 39 #[.val (.int p0), .val (.int p1), .val (.int p2), .val (.int p3), .val (.int p4), .val (.int (p0 &&& (3 : Int32))), .unset, .unset, .unset] [(.int (p0 &&& (3 : Int32)))])) _
        refine XS.iconst X0.here hx rfl (hb hby at_39) ?_
        exact k
      by_cases hc40_3 : (p0 &&& (3 : Int32)) = (2 : Int32)
      · obtain ⟨T25, h25, c25, X25, e25, E25, A25, Ae25, st25⟩ := newPE X0 hx hZ (hw _ (List.mem_of_getElem? (i := 0) rfl)) e0 (g := (mkF m 44 #[.val (.int p0), .val (.int p1), .val (.int p2), .val (.int p3), .val (.int p4), .val (.int (p0 &&& (3 : Int32))), .unset, .unset, .unset] [(.int (2 : Int32))])) rfl (hb hby at_44) rfl (by decide) (cap := 2) (by decide) (by decide) (by decide) (by decide) (ad := "[B") (by decide)
        obtain ⟨b25, g25⟩ : ∃ z, z = h0.size := ⟨_, rfl⟩
        rw [← g25] at A25 Ae25 st25
        have gn_b25 : n0 ≤ b25 := Nat.le_trans (O0.1 ▸ O0.2.1) (Nat.le_of_eq g25.symm)
        replace O0 := O0.ext E25
        replace hk := Nat.le_trans hk E25.1
        have V_b25 : Arv Z h25 b25 c25 .byte (2 : Int32) [(.int (0 : Int32)), (.int (0 : Int32))] (.int (0 : Int32)) := (Arv.new A25 (by decide)).pad (pad_rep [] (.int (0 : Int32)) 2)
        obtain ⟨cl_26, Ar_26, q_26, S_26, N_26, H_26, G_26⟩ := id V_b25
        have hin_26 : ¬ ((0 : Int32) < 0 ∨ cl_26.slots.size ≤ ((0 : Int32)).toNatClampNeg) := inb_of S_26 ⟨by decide, by decide⟩
        obtain ⟨T26, h26, X26, e26, W26, st26⟩ := stB X25 hx hZ e25 Ar_26 (j := (0 : Int32)) hin_26 (g := (mkF m 50 #[.val (.int p0), .val (.int p1), .val (.int p2), .val (.int p3), .val (.int p4), .val (.int (p0 &&& (3 : Int32))), .unset, .unset, .unset] [(.int (p1.toInt8.toInt32)), (.int (0 : Int32)), (.ref b25), (.ref b25)])) rfl rfl (hb hby at_50)
        have Vn26 : Arv Z h26 b25 c25 .byte (2 : Int32) [(.int ((p1.toInt8.toInt32).toInt8.toInt32)), (.int (0 : Int32))] (.int (0 : Int32)) := Arv.set Ar_26 q_26 S_26 N_26 H_26 G_26 (fits_nar_byte _) W26 0 rfl (Nat.le_of_ble_eq_true rfl)
        replace Ae25 := Ae25.wr W26
        replace O0 := O0.wr W26 gn_b25
        replace hk := Nat.le_trans hk (Nat.le_of_eq W26.size.symm)
        replace V_b25 := Vn26
        have N26 := Fr.snoc X26 N0 gn_b25
        obtain ⟨cl_27, Ar_27, q_27, S_27, N_27, H_27, G_27⟩ := id V_b25
        have hin_27 : ¬ ((1 : Int32) < 0 ∨ cl_27.slots.size ≤ ((1 : Int32)).toNatClampNeg) := inb_of S_27 ⟨by decide, by decide⟩
        obtain ⟨T27, h27, X27, e27, W27, st27⟩ := stB X26 hx hZ e26 Ar_27 (j := (1 : Int32)) hin_27 (g := (mkF m 55 #[.val (.int p0), .val (.int p1), .val (.int p2), .val (.int p3), .val (.int p4), .val (.int (p0 &&& (3 : Int32))), .unset, .unset, .unset] [(.int (p2.toInt8.toInt32)), (.int (1 : Int32)), (.ref b25), (.ref b25)])) rfl rfl (hb hby at_55)
        have Vn27 : Arv Z h27 b25 c25 .byte (2 : Int32) [(.int ((p1.toInt8.toInt32).toInt8.toInt32)), (.int ((p2.toInt8.toInt32).toInt8.toInt32))] (.int (0 : Int32)) := Arv.set Ar_27 q_27 S_27 N_27 H_27 G_27 (fits_nar_byte _) W27 1 rfl (Nat.le_of_ble_eq_true rfl)
        replace Ae25 := Ae25.wr W27
        replace O0 := O0.wr W27 gn_b25
        replace hk := Nat.le_trans hk (Nat.le_of_eq W27.size.symm)
        replace V_b25 := Vn27
        have N27 := Fr.snoc X27 N26 gn_b25
        obtain ⟨T28, h28, c28, X28, e28, E28, A28, Ae28, st28⟩ := newPE X27 hx hZ (hw _ (List.mem_of_getElem? (i := 1) rfl)) e27 (g := (mkF m 82 #[.val (.int p0), .val (.int p1), .val (.int p2), .val (.int p3), .val (.int p4), .val (.int (p0 &&& (3 : Int32))), .val (.ref b25), .unset, .unset] [(.int (1 : Int32))])) rfl (hb hby at_82) rfl (by decide) (cap := 1) (by decide) (by decide) (by decide) (by decide) (ad := "[C") (by decide)
        obtain ⟨b28, g28⟩ : ∃ z, z = h27.size := ⟨_, rfl⟩
        rw [← g28] at A28 Ae28 st28
        have ne_b25_b28 : b25 ≠ b28 := Nat.ne_of_lt (Nat.lt_of_lt_of_le Ae25.lt (Nat.le_of_eq g28.symm))
        have gn_b28 : n0 ≤ b28 := Nat.le_trans (O0.1 ▸ O0.2.1) (Nat.le_of_eq g28.symm)
        replace Ae25 := Ae25.ext E28
        replace V_b25 := V_b25.ext E28
        replace O0 := O0.ext E28
        replace hk := Nat.le_trans hk E28.1
        have V_b28 : Arv Z h28 b28 c28 .char (1 : Int32) [(.int (0 : Int32))] (.int (0 : Int32)) := (Arv.new A28 (by decide)).pad (pad_rep [] (.int (0 : Int32)) 1)
        obtain ⟨cl_29, Ar_29, q_29, S_29, N_29, H_29, G_29⟩ := id V_b28
        have hin_29 : ¬ ((0 : Int32) < 0 ∨ cl_29.slots.size ≤ ((0 : Int32)).toNatClampNeg) := inb_of S_29 ⟨by decide, by decide⟩
        obtain ⟨T29, h29, X29, e29, W29, st29⟩ := stC X28 hx hZ e28 Ar_29 (j := (0 : Int32)) hin_29 (g := (mkF m 93 #[.val (.int p0), .val (.int p1), .val (.int p2), .val (.int p3), .val (.int p4), .val (.int (p0 &&& (3 : Int32))), .val (.ref b25), .unset, .unset] [(.int ((p4 &&& (255 : Int32)).toUInt32.toUInt16.toUInt32.toInt32)), (.int (0 : Int32)), (.ref b28), (.ref b28)])) rfl rfl (hb hby at_93)
        have Vn29 : Arv Z h29 b28 c28 .char (1 : Int32) [(.int (nar .char ((p4 &&& (255 : Int32)).toUInt32.toUInt16.toUInt32.toInt32)))] (.int (0 : Int32)) := Arv.set Ar_29 q_29 S_29 N_29 H_29 G_29 (fits_nar_char _) W29 0 rfl (Nat.le_of_ble_eq_true rfl)
        replace Ae25 := Ae25.wr W29
        replace V_b25 := V_b25.other W29 ne_b25_b28
        replace Ae28 := Ae28.wr W29
        replace O0 := O0.wr W29 gn_b28
        replace hk := Nat.le_trans hk (Nat.le_of_eq W29.size.symm)
        replace V_b28 := Vn29
        have N29 := Fr.snoc X29 N27 gn_b28
        obtain ⟨T30, h30, X30, e30, E30, A30, D30, -, st30⟩ := newO X29 hx hZ hown (hw _ (List.mem_of_getElem? (i := 2) rfl)) (hw _ (List.mem_of_getElem? (i := 3) rfl)) (hw _ (List.mem_of_getElem? (i := 4) rfl)) e29 (g := (mkF m 96 #[.val (.int p0), .val (.int p1), .val (.int p2), .val (.int p3), .val (.int p4), .val (.int (p0 &&& (3 : Int32))), .val (.ref b25), .val (.ref b28), .unset] [])) rfl (hb hby at_96) (by decide) (by decide)
        obtain ⟨b30, g30⟩ : ∃ z, z = h29.size := ⟨_, rfl⟩
        rw [← g30] at A30 D30 st30
        have ne_b25_b30 : b25 ≠ b30 := Nat.ne_of_lt (Nat.lt_of_lt_of_le Ae25.lt (Nat.le_of_eq g30.symm))
        have ne_b28_b30 : b28 ≠ b30 := Nat.ne_of_lt (Nat.lt_of_lt_of_le Ae28.lt (Nat.le_of_eq g30.symm))
        have gn_b30 : n0 ≤ b30 := Nat.le_trans (O0.1 ▸ O0.2.1) (Nat.le_of_eq g30.symm)
        replace Ae25 := Ae25.ext E30
        replace V_b25 := V_b25.ext E30
        replace Ae28 := Ae28.ext E30
        replace V_b28 := V_b28.ext E30
        replace O0 := O0.ext E30
        replace hk := Nat.le_trans hk E30.1
        have E_b30 := A30
        have F_key_b30 : Fld Z h30 b30 "com/example/valentia/valentia/state/Update" "key" "Ljava/lang/String;" .null := D30 (Or.inr (hw _ (List.mem_of_getElem? (i := 65) rfl))) (ty := (.object "java/lang/String")) (by decide)
        have F_value_b30 : Fld Z h30 b30 "com/example/valentia/valentia/state/Update" "value" "[B" .null := D30 (Or.inr (hw _ (List.mem_of_getElem? (i := 67) rfl))) (ty := (.array .byte)) (by decide)
        obtain ⟨T31, h31, X31, e31, E31, A31, D31, -, st31⟩ := newO X30 hx hZ hown (hw _ (List.mem_of_getElem? (i := 5) rfl)) (hw _ (List.mem_of_getElem? (i := 6) rfl)) (hw _ (List.mem_of_getElem? (i := 7) rfl)) e30 (g := (mkF m 100 #[.val (.int p0), .val (.int p1), .val (.int p2), .val (.int p3), .val (.int p4), .val (.int (p0 &&& (3 : Int32))), .val (.ref b25), .val (.ref b28), .unset] [(.ref b30), (.ref b30)])) rfl (hb hby at_100) (by decide) (by decide)
        obtain ⟨b31, g31⟩ : ∃ z, z = h30.size := ⟨_, rfl⟩
        rw [← g31] at A31 D31 st31
        have ne_b25_b31 : b25 ≠ b31 := Nat.ne_of_lt (Nat.lt_of_lt_of_le Ae25.lt (Nat.le_of_eq g31.symm))
        have ne_b28_b31 : b28 ≠ b31 := Nat.ne_of_lt (Nat.lt_of_lt_of_le Ae28.lt (Nat.le_of_eq g31.symm))
        have ne_b30_b31 : b30 ≠ b31 := Nat.ne_of_lt (Nat.lt_of_lt_of_le E_b30.lt (Nat.le_of_eq g31.symm))
        have gn_b31 : n0 ≤ b31 := Nat.le_trans (O0.1 ▸ O0.2.1) (Nat.le_of_eq g31.symm)
        replace Ae25 := Ae25.ext E31
        replace V_b25 := V_b25.ext E31
        replace Ae28 := Ae28.ext E31
        replace V_b28 := V_b28.ext E31
        replace E_b30 := E_b30.ext E31
        replace F_key_b30 := F_key_b30.ext E31
        replace F_value_b30 := F_value_b30.ext E31
        replace O0 := O0.ext E31
        replace hk := Nat.le_trans hk E31.1
        have E_b31 := A31
        have F_coder_b31 : Fld Z h31 b31 "java/lang/String" "coder" "B" (.int (0 : Int32)) := D31 (Or.inr (hw _ (List.mem_of_getElem? (i := 30) rfl))) (ty := .byte) (by decide)
        have F_value_b31 : Fld Z h31 b31 "java/lang/String" "value" "[B" .null := D31 (Or.inr (hw _ (List.mem_of_getElem? (i := 32) rfl))) (ty := (.array .byte)) (by decide)
        obtain ⟨_, _, ⟨T32, L32, k32_, n32⟩, -, X32, ⟨Lc32, hQ32, l32, y32, z32⟩, st32⟩ := X31.specialBack hx (y := (⟨"java/lang/String", "<init>", "([C)V"⟩ : MethodName)) rfl hown (mvT hZ (hw _ (List.mem_of_getElem? (i := 8) rfl))) (mvT hZ (hw _ (List.mem_of_getElem? (i := 9) rfl))) (mvT hZ (hw _ (List.mem_of_getElem? (i := 10) rfl))) (by decide) (backOf (W := 3) (rmS1_1 l Z a0 hw [] b31 b28 c28 (nar .char ((p4 &&& (255 : Int32)).toUInt32.toUInt16.toUInt32.toInt32)) w_CS h31 n0 hG O0 (O0.1 ▸ O0.2.1) gn_b31 E_b31 F_value_b31 F_coder_b31 ne_b28_b31 V_b28 (own_c2 _)) hZ (hw _ (List.mem_of_getElem? (i := 10) rfl)) (hw _ (List.mem_of_getElem? (i := 7) rfl)) (by decide) (by decide)) (g := (mkF m 106 #[.val (.int p0), .val (.int p1), .val (.int p2), .val (.int p3), .val (.int p4), .val (.int (p0 &&& (3 : Int32))), .val (.ref b25), .val (.ref b28), .unset] [(.ref b28), (.ref b31), (.ref b31), (.ref b30), (.ref b30)])) rfl (by rw [hml]; rfl) (Steps.refl _) (a := b31) (argsL := [(.ref b28)]) (rest := [(.ref b31), (.ref b30), (.ref b30)]) (lenOf pd_7 rfl) rfl (by show 2 * 0 + _ ≤ _; exact Nat.le_of_eq rfl) (hb hby at_106) (fun _ _ => ⟨rfl, e31, (by decide : 4 + 1 ≤ _), (by decide : 9 + 1 ≤ _)⟩)
        dsimp only [Pt.U, Pt.locs, Pt.cells, Pt.slots] at X32 l32 y32 z32 st32 hQ32
        subst l32 y32 z32
        obtain ⟨rfl, Nq32, Kq32, Eq32, bv32, kq32, vs32, Fq32, Vq32⟩ := hQ32
        have N32 := Fr.app N29 Nq32
        replace Ae25 := Ae25.keep Kq32
        replace V_b25 := V_b25.keep Kq32 (fun q => ne_b25_b31 (List.mem_singleton.mp q))
        replace Ae28 := Ae28.keep Kq32
        replace V_b28 := V_b28.keep Kq32 (fun q => ne_b28_b31 (List.mem_singleton.mp q))
        replace E_b30 := E_b30.keep Kq32
        replace F_key_b30 := F_key_b30.keep Kq32 (fun q => ne_b30_b31 (List.mem_singleton.mp q))
        replace F_value_b30 := F_value_b30.keep Kq32 (fun q => ne_b30_b31 (List.mem_singleton.mp q))
        replace E_b31 := E_b31.keep Kq32
        replace O0 := O0.keep Kq32 (fun x hx => by cases List.mem_singleton.mp hx; exact gn_b31)
        replace hk := Nat.le_trans hk Kq32.1
        have k34 : ∀ t, Steps p.tables e below (T32.setTop (mkF m 111 #[.val (.int p0), .val (.int p1), .val (.int p2), .val (.int p3), .val (.int p4), .val (.int (p0 &&& (3 : Int32))), .val (.ref b25), .val (.ref b28), .unset] [(.ref b25), (.ref b31), (.ref b30), (.ref b30)])) t → Steps p.tables e below (s₁.setTop (entryFrame m #[(.int p0), (.int p1), (.int p2), (.int p3), (.int p4)] maxLocals)) t := by
          intro t k
          refine k24 _ ?_
          show Steps p.tables e below (s₁.setTop (mkF m 40 #[.val (.int p0), .val (.int p1), .val (.int p2), .val (.int p3), .val (.int p4), .val (.int (p0 &&& (3 : Int32))), .unset, .unset, .unset] [(.int (2 : Int32)), (.int (p0 &&& (3 : Int32)))])) _
          refine XS.icmpNo X0.here hx rfl (hb hby at_40) rfl (teq hc40_3).2 ?_
          show Steps p.tables e below (s₁.setTop (mkF m 43 #[.val (.int p0), .val (.int p1), .val (.int p2), .val (.int p3), .val (.int p4), .val (.int (p0 &&& (3 : Int32))), .unset, .unset, .unset] [])) _
          refine XS.iconst X0.here hx rfl (hb hby at_43) ?_
          show Steps p.tables e below (s₁.setTop (mkF m 44 #[.val (.int p0), .val (.int p1), .val (.int p2), .val (.int p3), .val (.int p4), .val (.int (p0 &&& (3 : Int32))), .unset, .unset, .unset] [(.int (2 : Int32))])) _
          refine st25 _ ?_
          show Steps p.tables e below (T25.setTop (mkF m 46 #[.val (.int p0), .val (.int p1), .val (.int p2), .val (.int p3), .val (.int p4), .val (.int (p0 &&& (3 : Int32))), .unset, .unset, .unset] [(.ref b25)])) _
          refine XS.dup X25.here hx rfl (hb hby at_46) rfl rfl ?_
          show Steps p.tables e below (T25.setTop (mkF m 47 #[.val (.int p0), .val (.int p1), .val (.int p2), .val (.int p3), .val (.int p4), .val (.int (p0 &&& (3 : Int32))), .unset, .unset, .unset] [(.ref b25), (.ref b25)])) _
          refine XS.iconst X25.here hx rfl (hb hby at_47) ?_
          show Steps p.tables e below (T25.setTop (mkF m 48 #[.val (.int p0), .val (.int p1), .val (.int p2), .val (.int p3), .val (.int p4), .val (.int (p0 &&& (3 : Int32))), .unset, .unset, .unset] [(.int (0 : Int32)), (.ref b25), (.ref b25)])) _
          refine XS.iloadN X25.here hx rfl (hb hby at_48) rfl ?_
          show Steps p.tables e below (T25.setTop (mkF m 49 #[.val (.int p0), .val (.int p1), .val (.int p2), .val (.int p3), .val (.int p4), .val (.int (p0 &&& (3 : Int32))), .unset, .unset, .unset] [(.int p1), (.int (0 : Int32)), (.ref b25), (.ref b25)])) _
          refine XS.i2b X25.here hx rfl (hb hby at_49) rfl ?_
          show Steps p.tables e below (T25.setTop (mkF m 50 #[.val (.int p0), .val (.int p1), .val (.int p2), .val (.int p3), .val (.int p4), .val (.int (p0 &&& (3 : Int32))), .unset, .unset, .unset] [(.int (p1.toInt8.toInt32)), (.int (0 : Int32)), (.ref b25), (.ref b25)])) _
          refine st26 _ ?_
          show Steps p.tables e below (T26.setTop (mkF m 51 #[.val (.int p0), .val (.int p1), .val (.int p2), .val (.int p3), .val (.int p4), .val (.int (p0 &&& (3 : Int32))), .unset, .unset, .unset] [(.ref b25)])) _
          refine XS.dup X26.here hx rfl (hb hby at_51) rfl rfl ?_
          show Steps p.tables e below (T26.setTop (mkF m 52 #[.val (.int p0), .val (.int p1), .val (.int p2), .val (.int p3), .val (.int p4), .val (.int (p0 &&& (3 : Int32))), .unset, .unset, .unset] [(.ref b25), (.ref b25)])) _
          refine XS.iconst X26.here hx rfl (hb hby at_52) ?_
          show Steps p.tables e below (T26.setTop (mkF m 53 #[.val (.int p0), .val (.int p1), .val (.int p2), .val (.int p3), .val (.int p4), .val (.int (p0 &&& (3 : Int32))), .unset, .unset, .unset] [(.int (1 : Int32)), (.ref b25), (.ref b25)])) _
          refine XS.iloadN X26.here hx rfl (hb hby at_53) rfl ?_
          show Steps p.tables e below (T26.setTop (mkF m 54 #[.val (.int p0), .val (.int p1), .val (.int p2), .val (.int p3), .val (.int p4), .val (.int (p0 &&& (3 : Int32))), .unset, .unset, .unset] [(.int p2), (.int (1 : Int32)), (.ref b25), (.ref b25)])) _
          refine XS.i2b X26.here hx rfl (hb hby at_54) rfl ?_
          show Steps p.tables e below (T26.setTop (mkF m 55 #[.val (.int p0), .val (.int p1), .val (.int p2), .val (.int p3), .val (.int p4), .val (.int (p0 &&& (3 : Int32))), .unset, .unset, .unset] [(.int (p2.toInt8.toInt32)), (.int (1 : Int32)), (.ref b25), (.ref b25)])) _
          refine st27 _ ?_
          show Steps p.tables e below (T27.setTop (mkF m 56 #[.val (.int p0), .val (.int p1), .val (.int p2), .val (.int p3), .val (.int p4), .val (.int (p0 &&& (3 : Int32))), .unset, .unset, .unset] [(.ref b25)])) _
          refine XS.astore X27.here hx rfl (hb hby at_56) rfl rfl (l' := #[.val (.int p0), .val (.int p1), .val (.int p2), .val (.int p3), .val (.int p4), .val (.int (p0 &&& (3 : Int32))), .val (.ref b25), .unset, .unset]) rfl ?_
          show Steps p.tables e below (T27.setTop (mkF m 58 #[.val (.int p0), .val (.int p1), .val (.int p2), .val (.int p3), .val (.int p4), .val (.int (p0 &&& (3 : Int32))), .val (.ref b25), .unset, .unset] [])) _
          refine XS.goto X27.here hx rfl (pc0 := 58) (pc' := 81) rfl (hb hby at_58) (by decide) (by decide) ?_
          show Steps p.tables e below (T27.setTop (mkF m 81 #[.val (.int p0), .val (.int p1), .val (.int p2), .val (.int p3), .val (.int p4), .val (.int (p0 &&& (3 : Int32))), .val (.ref b25), .unset, .unset] [])) _
          refine XS.iconst X27.here hx rfl (hb hby at_81) ?_
          show Steps p.tables e below (T27.setTop (mkF m 82 #[.val (.int p0), .val (.int p1), .val (.int p2), .val (.int p3), .val (.int p4), .val (.int (p0 &&& (3 : Int32))), .val (.ref b25), .unset, .unset] [(.int (1 : Int32))])) _
          refine st28 _ ?_
          show Steps p.tables e below (T28.setTop (mkF m 84 #[.val (.int p0), .val (.int p1), .val (.int p2), .val (.int p3), .val (.int p4), .val (.int (p0 &&& (3 : Int32))), .val (.ref b25), .unset, .unset] [(.ref b28)])) _
          refine XS.dup X28.here hx rfl (hb hby at_84) rfl rfl ?_
          show Steps p.tables e below (T28.setTop (mkF m 85 #[.val (.int p0), .val (.int p1), .val (.int p2), .val (.int p3), .val (.int p4), .val (.int (p0 &&& (3 : Int32))), .val (.ref b25), .unset, .unset] [(.ref b28), (.ref b28)])) _
          refine XS.iconst X28.here hx rfl (hb hby at_85) ?_
          show Steps p.tables e below (T28.setTop (mkF m 86 #[.val (.int p0), .val (.int p1), .val (.int p2), .val (.int p3), .val (.int p4), .val (.int (p0 &&& (3 : Int32))), .val (.ref b25), .unset, .unset] [(.int (0 : Int32)), (.ref b28), (.ref b28)])) _
          refine XS.iload X28.here hx rfl (hb hby at_86) rfl ?_
          show Steps p.tables e below (T28.setTop (mkF m 88 #[.val (.int p0), .val (.int p1), .val (.int p2), .val (.int p3), .val (.int p4), .val (.int (p0 &&& (3 : Int32))), .val (.ref b25), .unset, .unset] [(.int p4), (.int (0 : Int32)), (.ref b28), (.ref b28)])) _
          refine XS.sipush X28.here hx rfl (hb hby at_88) ?_
          show Steps p.tables e below (T28.setTop (mkF m 91 #[.val (.int p0), .val (.int p1), .val (.int p2), .val (.int p3), .val (.int p4), .val (.int (p0 &&& (3 : Int32))), .val (.ref b25), .unset, .unset] [(.int (255 : Int32)), (.int p4), (.int (0 : Int32)), (.ref b28), (.ref b28)])) _
          refine XS.iand X28.here hx rfl (hb hby at_91) rfl ?_
          show Steps p.tables e below (T28.setTop (mkF m 92 #[.val (.int p0), .val (.int p1), .val (.int p2), .val (.int p3), .val (.int p4), .val (.int (p0 &&& (3 : Int32))), .val (.ref b25), .unset, .unset] [(.int (p4 &&& (255 : Int32))), (.int (0 : Int32)), (.ref b28), (.ref b28)])) _
          refine XS.i2c X28.here hx rfl (hb hby at_92) rfl ?_
          show Steps p.tables e below (T28.setTop (mkF m 93 #[.val (.int p0), .val (.int p1), .val (.int p2), .val (.int p3), .val (.int p4), .val (.int (p0 &&& (3 : Int32))), .val (.ref b25), .unset, .unset] [(.int ((p4 &&& (255 : Int32)).toUInt32.toUInt16.toUInt32.toInt32)), (.int (0 : Int32)), (.ref b28), (.ref b28)])) _
          refine st29 _ ?_
          show Steps p.tables e below (T29.setTop (mkF m 94 #[.val (.int p0), .val (.int p1), .val (.int p2), .val (.int p3), .val (.int p4), .val (.int (p0 &&& (3 : Int32))), .val (.ref b25), .unset, .unset] [(.ref b28)])) _
          refine XS.astore X29.here hx rfl (hb hby at_94) rfl rfl (l' := #[.val (.int p0), .val (.int p1), .val (.int p2), .val (.int p3), .val (.int p4), .val (.int (p0 &&& (3 : Int32))), .val (.ref b25), .val (.ref b28), .unset]) rfl ?_
          show Steps p.tables e below (T29.setTop (mkF m 96 #[.val (.int p0), .val (.int p1), .val (.int p2), .val (.int p3), .val (.int p4), .val (.int (p0 &&& (3 : Int32))), .val (.ref b25), .val (.ref b28), .unset] [])) _
          refine st30 _ ?_
          show Steps p.tables e below (T30.setTop (mkF m 99 #[.val (.int p0), .val (.int p1), .val (.int p2), .val (.int p3), .val (.int p4), .val (.int (p0 &&& (3 : Int32))), .val (.ref b25), .val (.ref b28), .unset] [(.ref b30)])) _
          refine XS.dup X30.here hx rfl (hb hby at_99) rfl rfl ?_
          show Steps p.tables e below (T30.setTop (mkF m 100 #[.val (.int p0), .val (.int p1), .val (.int p2), .val (.int p3), .val (.int p4), .val (.int (p0 &&& (3 : Int32))), .val (.ref b25), .val (.ref b28), .unset] [(.ref b30), (.ref b30)])) _
          refine st31 _ ?_
          show Steps p.tables e below (T31.setTop (mkF m 103 #[.val (.int p0), .val (.int p1), .val (.int p2), .val (.int p3), .val (.int p4), .val (.int (p0 &&& (3 : Int32))), .val (.ref b25), .val (.ref b28), .unset] [(.ref b31), (.ref b30), (.ref b30)])) _
          refine XS.dup X31.here hx rfl (hb hby at_103) rfl rfl ?_
          show Steps p.tables e below (T31.setTop (mkF m 104 #[.val (.int p0), .val (.int p1), .val (.int p2), .val (.int p3), .val (.int p4), .val (.int (p0 &&& (3 : Int32))), .val (.ref b25), .val (.ref b28), .unset] [(.ref b31), (.ref b31), (.ref b30), (.ref b30)])) _
          refine XS.aload X31.here hx rfl (hb hby at_104) rfl rfl ?_
          show Steps p.tables e below (T31.setTop (mkF m 106 #[.val (.int p0), .val (.int p1), .val (.int p2), .val (.int p3), .val (.int p4), .val (.int (p0 &&& (3 : Int32))), .val (.ref b25), .val (.ref b28), .unset] [(.ref b28), (.ref b31), (.ref b31), (.ref b30), (.ref b30)])) _
          refine st32.trans ?_
          show Steps p.tables e below (T32.setTop (mkF m 109 #[.val (.int p0), .val (.int p1), .val (.int p2), .val (.int p3), .val (.int p4), .val (.int (p0 &&& (3 : Int32))), .val (.ref b25), .val (.ref b28), .unset] [(.ref b31), (.ref b30), (.ref b30)])) _
          refine XS.aload X32.here hx rfl (hb hby at_109) rfl rfl ?_
          exact k
        obtain ⟨_, _, ⟨T33, L33, k33_, n33⟩, -, X33, hS33, hg33, ⟨Lc33, hQ33, l33, y33, z33⟩, st33⟩ := X32.specialBackS hx (y := (⟨"com/example/valentia/valentia/state/Update", "<init>", "(Ljava/lang/String;[B)V"⟩ : MethodName)) rfl hown (mvT hZ (hw _ (List.mem_of_getElem? (i := 33) rfl))) (mvT hZ (hw _ (List.mem_of_getElem? (i := 34) rfl))) (mvT hZ (hw _ (List.mem_of_getElem? (i := 35) rfl))) (by decide) (backOfS (W := 1) (rm7 l Z a0 hw [] b30 b31 b25 bv32 kq32 c25 vs32 [(.int ((p1.toInt8.toInt32).toInt8.toInt32)), (.int ((p2.toInt8.toInt32).toInt8.toInt32))] (2 : Int32) T32.heap n0 (O0.1 ▸ O0.2.1) gn_b30 E_b30 F_key_b30 F_value_b30 E_b31 Fq32 Vq32 Ae25 V_b25 (by decide) (Ne.symm ne_b30_b31) ne_b25_b30 (Ne.symm (Exa.neArv E_b30 Vq32 (hw _ (List.mem_of_getElem? (i := 3) rfl))))) hZ (hw _ (List.mem_of_getElem? (i := 35) rfl)) (hw _ (List.mem_of_getElem? (i := 4) rfl)) (by decide) (by decide)) (g := (mkF m 111 #[.val (.int p0), .val (.int p1), .val (.int p2), .val (.int p3), .val (.int p4), .val (.int (p0 &&& (3 : Int32))), .val (.ref b25), .val (.ref b28), .unset] [(.ref b25), (.ref b31), (.ref b30), (.ref b30)])) rfl (by rw [hml]; rfl) (Steps.refl _) (a := b30) (argsL := [(.ref b31), (.ref b25)]) (rest := [(.ref b30)]) (lenOf pd_8 rfl) rfl (by show 2 * 0 + _ ≤ _; exact Nat.le_of_eq rfl) (hb hby at_111) (fun _ _ => ⟨rfl, rfl, (by decide : 5 + 5 ≤ _), (by decide : 10 + 43 ≤ _)⟩)
        dsimp only [Pt.U, Pt.locs, Pt.cells, Pt.slots] at X33 l33 y33 z33 st33 hQ33
        subst l33 y33 z33
        dsimp only [Pt.U, Pt.locs, Pt.cells, Pt.slots] at hS33 hg33
        obtain ⟨X33, hS, hZ, hown⟩ := rebS hS hk X33 hS33 hg33 hZ hown
        replace hk := Nat.le_refl T33.heap.size
        obtain ⟨rfl, Nq33, Kq33, Eq33, bv33, kq33, vs33, Fq33, Vq33⟩ := hQ33
        have N33 := Fr.app N32 Nq33
        replace E_b30 := E_b30.keep Kq33
        replace O0 := O0.keep Kq33 (fun x hx => by cases List.mem_singleton.mp hx; exact gn_b30)
        obtain ⟨cq35, kq35, q35a, q35b, q35c⟩ := isOf hZ rfl E_b30
        obtain ⟨_, _, ⟨T35, L35, k35_, n35⟩, -, X35, ⟨Lc35, hQ35, l35, y35, z35⟩, st35⟩ := X33.virtualBack hx (y := (⟨"com/example/valentia/valentia/state/Update", "isDeletion", "()Z"⟩ : MethodName)) (z := (⟨"com/example/valentia/valentia/state/Update", "isDeletion", "()Z"⟩ : MethodName)) hown (mvT hZ (hw _ (List.mem_of_getElem? (i := 68) rfl))) (mvT hZ (hw _ (List.mem_of_getElem? (i := 69) rfl))) (notFace_of_selects (args := #[]) (mvT hZ (hw _ (List.mem_of_getElem? (i := 71) rfl)))) (mvT hZ (hw _ (List.mem_of_getElem? (i := 71) rfl))) (mvT hZ (hw _ (List.mem_of_getElem? (i := 70) rfl))) (by decide) (backOf (W := 0) (rm11 l Z a0 hw [] b30 bv33 kq33 vs33 (2 : Int32) T33.heap n0 Fq33 Vq33) hZ (hw _ (List.mem_of_getElem? (i := 72) rfl)) (hw _ (List.mem_of_getElem? (i := 4) rfl)) (by decide) (by decide)) q35a q35c (g := (mkF m 118 #[.val (.int p0), .val (.int p1), .val (.int p2), .val (.int p3), .val (.int p4), .val (.int (p0 &&& (3 : Int32))), .val (.ref b25), .val (.ref b28), .val (.ref b30)] [(.ref b30)])) rfl (by rw [hml]; rfl) (Steps.refl _) (argsL := []) (rest := []) (lenOf pd_6 rfl) rfl (by show 2 * 0 + _ ≤ _; exact Nat.le_of_eq rfl) (hb hby at_118) (fun _ _ => ⟨rfl, rfl, (by decide : 10 + 0 ≤ _), (by decide : 53 + 0 ≤ _)⟩)
        dsimp only [Pt.U, Pt.locs, Pt.cells, Pt.slots] at X35 l35 y35 z35 st35 hQ35
        subst l35 y35 z35
        obtain ⟨rfl, Nq35, e35⟩ := hQ35
        have N35 := Fr.app N33 Nq35
        have k36 : ∀ t, Steps p.tables e below (T35.setTop (mkF m 139 #[.val (.int p0), .val (.int p1), .val (.int p2), .val (.int p3), .val (.int p4), .val (.int (p0 &&& (3 : Int32))), .val (.ref b25), .val (.ref b28), .val (.ref b30)] [(.int (1 : Int32))])) t → Steps p.tables e below (s₁.setTop (entryFrame m #[(.int p0), (.int p1), (.int p2), (.int p3), (.int p4)] maxLocals)) t := by
          intro t k
          refine k34 _ ?_
          show Steps p.tables e below (T32.setTop (mkF m 111 #[.val (.int p0), .val (.int p1), .val (.int p2), .val (.int p3), .val (.int p4), .val (.int (p0 &&& (3 : Int32))), .val (.ref b25), .val (.ref b28), .unset] [(.ref b25), (.ref b31), (.ref b30), (.ref b30)])) _
          refine st33.trans ?_
          show Steps p.tables e below (T33.setTop (mkF m 114 #[.val (.int p0), .val (.int p1), .val (.int p2), .val (.int p3), .val (.int p4), .val (.int (p0 &&& (3 : Int32))), .val (.ref b25), .val (.ref b28), .unset] [(.ref b30)])) _
          refine XS.astore X33.here hx rfl (hb hby at_114) rfl rfl (l' := #[.val (.int p0), .val (.int p1), .val (.int p2), .val (.int p3), .val (.int p4), .val (.int (p0 &&& (3 : Int32))), .val (.ref b25), .val (.ref b28), .val (.ref b30)]) rfl ?_
          show Steps p.tables e below (T33.setTop (mkF m 116 #[.val (.int p0), .val (.int p1), .val (.int p2), .val (.int p3), .val (.int p4), .val (.int (p0 &&& (3 : Int32))), .val (.ref b25), .val (.ref b28), .val (.ref b30)] [])) _
          refine XS.aload X33.here hx rfl (hb hby at_116) rfl rfl ?_
          show Steps p.tables e below (T33.setTop (mkF m 118 #[.val (.int p0), .val (.int p1), .val (.int p2), .val (.int p3), .val (.int p4), .val (.int (p0 &&& (3 : Int32))), .val (.ref b25), .val (.ref b28), .val (.ref b30)] [(.ref b30)])) _
          refine st35.trans ?_
          show Steps p.tables e below (T35.setTop (mkF m 121 #[.val (.int p0), .val (.int p1), .val (.int p2), .val (.int p3), .val (.int p4), .val (.int (p0 &&& (3 : Int32))), .val (.ref b25), .val (.ref b28), .val (.ref b30)] [(.int (own_f11 (2 : Int32)))])) _
          refine XS.iload X35.here hx rfl (hb hby at_121) rfl ?_
          show Steps p.tables e below (T35.setTop (mkF m 123 #[.val (.int p0), .val (.int p1), .val (.int p2), .val (.int p3), .val (.int p4), .val (.int (p0 &&& (3 : Int32))), .val (.ref b25), .val (.ref b28), .val (.ref b30)] [(.int (p0 &&& (3 : Int32))), (.int (own_f11 (2 : Int32)))])) _
          refine XS.ifYes X35.here hx rfl (pc0 := 123) (pc' := 130) rfl (hb hby at_123) rfl ((if0 _ _).trans (feq hc7_1).2) (by decide) (by decide) ?_
          show Steps p.tables e below (T35.setTop (mkF m 130 #[.val (.int p0), .val (.int p1), .val (.int p2), .val (.int p3), .val (.int p4), .val (.int (p0 &&& (3 : Int32))), .val (.ref b25), .val (.ref b28), .val (.ref b30)] [(.int (own_f11 (2 : Int32)))])) _
          refine XS.iconst X35.here hx rfl (hb hby at_130) ?_
          show Steps p.tables e below (T35.setTop (mkF m 131 #[.val (.int p0), .val (.int p1), .val (.int p2), .val (.int p3), .val (.int p4), .val (.int (p0 &&& (3 : Int32))), .val (.ref b25), .val (.ref b28), .val (.ref b30)] [(.int (0 : Int32)), (.int (own_f11 (2 : Int32)))])) _
          refine XS.icmpNo X35.here hx rfl (hb hby at_131) rfl (teq (own_e2 p0 hc7_1)).2 ?_
          show Steps p.tables e below (T35.setTop (mkF m 134 #[.val (.int p0), .val (.int p1), .val (.int p2), .val (.int p3), .val (.int p4), .val (.int (p0 &&& (3 : Int32))), .val (.ref b25), .val (.ref b28), .val (.ref b30)] [])) _
          refine XS.iconst X35.here hx rfl (hb hby at_134) ?_
          show Steps p.tables e below (T35.setTop (mkF m 135 #[.val (.int p0), .val (.int p1), .val (.int p2), .val (.int p3), .val (.int p4), .val (.int (p0 &&& (3 : Int32))), .val (.ref b25), .val (.ref b28), .val (.ref b30)] [(.int (1 : Int32))])) _
          refine XS.goto X35.here hx rfl (pc0 := 135) (pc' := 139) rfl (hb hby at_135) (by decide) (by decide) ?_
          exact k
        obtain ⟨fs, hr, hrun, hended, hEW⟩ := X35.leaveW hS (by rw [e35]; exact hk) (v := some (.int (1 : Int32))) (fun h => by rw [Bd.returns] at h; cases h)
        refine ⟨_, _, k36 _ ?_, hrun, hended, _, _, rfl, ?_, hEW.1, hEW.2.1, hEW.2.2.1, hEW.2.2.2.mono (by decide) (by decide)⟩
        · exact retN X35 hx (t := .boolean) Bd.returns (by simp) (hb hby at_139) hr
        · show own_R (some (.int 1)) n0 _ T35.heap _
          rw [e35]
          exact ⟨rfl, N35⟩
      · obtain ⟨T37, h37, c37, X37, e37, E37, A37, Ae37, st37⟩ := newPE X0 hx hZ (hw _ (List.mem_of_getElem? (i := 0) rfl)) e0 (g := (mkF m 62 #[.val (.int p0), .val (.int p1), .val (.int p2), .val (.int p3), .val (.int p4), .val (.int (p0 &&& (3 : Int32))), .unset, .unset, .unset] [(.int (3 : Int32))])) rfl (hb hby at_62) rfl (by decide) (cap := 3) (by decide) (by decide) (by decide) (by decide) (ad := "[B") (by decide)
        obtain ⟨b37, g37⟩ : ∃ z, z = h0.size := ⟨_, rfl⟩
        rw [← g37] at A37 Ae37 st37
        have gn_b37 : n0 ≤ b37 := Nat.le_trans (O0.1 ▸ O0.2.1) (Nat.le_of_eq g37.symm)
        replace O0 := O0.ext E37
        replace hk := Nat.le_trans hk E37.1
        have V_b37 : Arv Z h37 b37 c37 .byte (3 : Int32) [(.int (0 : Int32)), (.int (0 : Int32)), (.int (0 : Int32))] (.int (0 : Int32)) := (Arv.new A37 (by decide)).pad (pad_rep [] (.int (0 : Int32)) 3)
        obtain ⟨cl_38, Ar_38, q_38, S_38, N_38, H_38, G_38⟩ := id V_b37
        have hin_38 : ¬ ((0 : Int32) < 0 ∨ cl_38.slots.size ≤ ((0 : Int32)).toNatClampNeg) := inb_of S_38 ⟨by decide, by decide⟩
        obtain ⟨T38, h38, X38, e38, W38, st38⟩ := stB X37 hx hZ e37 Ar_38 (j := (0 : Int32)) hin_38 (g := (mkF m 68 #[.val (.int p0), .val (.int p1), .val (.int p2), .val (.int p3), .val (.int p4), .val (.int (p0 &&& (3 : Int32))), .unset, .unset, .unset] [(.int (p1.toInt8.toInt32)), (.int (0 : Int32)), (.ref b37), (.ref b37)])) rfl rfl (hb hby at_68)
        have Vn38 : Arv Z h38 b37 c37 .byte (3 : Int32) [(.int ((p1.toInt8.toInt32).toInt8.toInt32)), (.int (0 : Int32)), (.int (0 : Int32))] (.int (0 : Int32)) := Arv.set Ar_38 q_38 S_38 N_38 H_38 G_38 (fits_nar_byte _) W38 0 rfl (Nat.le_of_ble_eq_true rfl)
        replace Ae37 := Ae37.wr W38
        replace O0 := O0.wr W38 gn_b37
        replace hk := Nat.le_trans hk (Nat.le_of_eq W38.size.symm)
        replace V_b37 := Vn38
        have N38 := Fr.snoc X38 N0 gn_b37
        obtain ⟨cl_39, Ar_39, q_39, S_39, N_39, H_39, G_39⟩ := id V_b37
        have hin_39 : ¬ ((1 : Int32) < 0 ∨ cl_39.slots.size ≤ ((1 : Int32)).toNatClampNeg) := inb_of S_39 ⟨by decide, by decide⟩
        obtain ⟨T39, h39, X39, e39, W39, st39⟩ := stB X38 hx hZ e38 Ar_39 (j := (1 : Int32)) hin_39 (g := (mkF m 73 #[.val (.int p0), .val (.int p1), .val (.int p2), .val (.int p3), .val (.int p4), .val (.int (p0 &&& (3 : Int32))), .unset, .unset, .unset] [(.int (p2.toInt8.toInt32)), (.int (1 : Int32)), (.ref b37), (.ref b37)])) rfl rfl (hb hby at_73)
        have Vn39 : Arv Z h39 b37 c37 .byte (3 : Int32) [(.int ((p1.toInt8.toInt32).toInt8.toInt32)), (.int ((p2.toInt8.toInt32).toInt8.toInt32)), (.int (0 : Int32))] (.int (0 : Int32)) := Arv.set Ar_39 q_39 S_39 N_39 H_39 G_39 (fits_nar_byte _) W39 1 rfl (Nat.le_of_ble_eq_true rfl)
        replace Ae37 := Ae37.wr W39
        replace O0 := O0.wr W39 gn_b37
        replace hk := Nat.le_trans hk (Nat.le_of_eq W39.size.symm)
        replace V_b37 := Vn39
        have N39 := Fr.snoc X39 N38 gn_b37
        obtain ⟨cl_40, Ar_40, q_40, S_40, N_40, H_40, G_40⟩ := id V_b37
        have hin_40 : ¬ ((2 : Int32) < 0 ∨ cl_40.slots.size ≤ ((2 : Int32)).toNatClampNeg) := inb_of S_40 ⟨by decide, by decide⟩
        obtain ⟨T40, h40, X40, e40, W40, st40⟩ := stB X39 hx hZ e39 Ar_40 (j := (2 : Int32)) hin_40 (g := (mkF m 78 #[.val (.int p0), .val (.int p1), .val (.int p2), .val (.int p3), .val (.int p4), .val (.int (p0 &&& (3 : Int32))), .unset, .unset, .unset] [(.int (p3.toInt8.toInt32)), (.int (2 : Int32)), (.ref b37), (.ref b37)])) rfl rfl (hb hby at_78)
        have Vn40 : Arv Z h40 b37 c37 .byte (3 : Int32) [(.int ((p1.toInt8.toInt32).toInt8.toInt32)), (.int ((p2.toInt8.toInt32).toInt8.toInt32)), (.int ((p3.toInt8.toInt32).toInt8.toInt32))] (.int (0 : Int32)) := Arv.set Ar_40 q_40 S_40 N_40 H_40 G_40 (fits_nar_byte _) W40 2 rfl (Nat.le_of_ble_eq_true rfl)
        replace Ae37 := Ae37.wr W40
        replace O0 := O0.wr W40 gn_b37
        replace hk := Nat.le_trans hk (Nat.le_of_eq W40.size.symm)
        replace V_b37 := Vn40
        have N40 := Fr.snoc X40 N39 gn_b37
        obtain ⟨T41, h41, c41, X41, e41, E41, A41, Ae41, st41⟩ := newPE X40 hx hZ (hw _ (List.mem_of_getElem? (i := 1) rfl)) e40 (g := (mkF m 82 #[.val (.int p0), .val (.int p1), .val (.int p2), .val (.int p3), .val (.int p4), .val (.int (p0 &&& (3 : Int32))), .val (.ref b37), .unset, .unset] [(.int (1 : Int32))])) rfl (hb hby at_82) rfl (by decide) (cap := 1) (by decide) (by decide) (by decide) (by decide) (ad := "[C") (by decide)
        obtain ⟨b41, g41⟩ : ∃ z, z = h40.size := ⟨_, rfl⟩
        rw [← g41] at A41 Ae41 st41
        have ne_b37_b41 : b37 ≠ b41 := Nat.ne_of_lt (Nat.lt_of_lt_of_le Ae37.lt (Nat.le_of_eq g41.symm))
        have gn_b41 : n0 ≤ b41 := Nat.le_trans (O0.1 ▸ O0.2.1) (Nat.le_of_eq g41.symm)
        replace Ae37 := Ae37.ext E41
        replace V_b37 := V_b37.ext E41
        replace O0 := O0.ext E41
        replace hk := Nat.le_trans hk E41.1
        have V_b41 : Arv Z h41 b41 c41 .char (1 : Int32) [(.int (0 : Int32))] (.int (0 : Int32)) := (Arv.new A41 (by decide)).pad (pad_rep [] (.int (0 : Int32)) 1)
        obtain ⟨cl_42, Ar_42, q_42, S_42, N_42, H_42, G_42⟩ := id V_b41
        have hin_42 : ¬ ((0 : Int32) < 0 ∨ cl_42.slots.size ≤ ((0 : Int32)).toNatClampNeg) := inb_of S_42 ⟨by decide, by decide⟩
        obtain ⟨T42, h42, X42, e42, W42, st42⟩ := stC X41 hx hZ e41 Ar_42 (j := (0 : Int32)) hin_42 (g := (mkF m 93 #[.val (.int p0), .val (.int p1), .val (.int p2), .val (.int p3), .val (.int p4), .val (.int (p0 &&& (3 : Int32))), .val (.ref b37), .unset, .unset] [(.int ((p4 &&& (255 : Int32)).toUInt32.toUInt16.toUInt32.toInt32)), (.int (0 : Int32)), (.ref b41), (.ref b41)])) rfl rfl (hb hby at_93)
        have Vn42 : Arv Z h42 b41 c41 .char (1 : Int32) [(.int (nar .char ((p4 &&& (255 : Int32)).toUInt32.toUInt16.toUInt32.toInt32)))] (.int (0 : Int32)) := Arv.set Ar_42 q_42 S_42 N_42 H_42 G_42 (fits_nar_char _) W42 0 rfl (Nat.le_of_ble_eq_true rfl)
        replace Ae37 := Ae37.wr W42
        replace V_b37 := V_b37.other W42 ne_b37_b41
        replace Ae41 := Ae41.wr W42
        replace O0 := O0.wr W42 gn_b41
        replace hk := Nat.le_trans hk (Nat.le_of_eq W42.size.symm)
        replace V_b41 := Vn42
        have N42 := Fr.snoc X42 N40 gn_b41
        obtain ⟨T43, h43, X43, e43, E43, A43, D43, -, st43⟩ := newO X42 hx hZ hown (hw _ (List.mem_of_getElem? (i := 2) rfl)) (hw _ (List.mem_of_getElem? (i := 3) rfl)) (hw _ (List.mem_of_getElem? (i := 4) rfl)) e42 (g := (mkF m 96 #[.val (.int p0), .val (.int p1), .val (.int p2), .val (.int p3), .val (.int p4), .val (.int (p0 &&& (3 : Int32))), .val (.ref b37), .val (.ref b41), .unset] [])) rfl (hb hby at_96) (by decide) (by decide)
        obtain ⟨b43, g43⟩ : ∃ z, z = h42.size := ⟨_, rfl⟩
        rw [← g43] at A43 D43 st43
        have ne_b37_b43 : b37 ≠ b43 := Nat.ne_of_lt (Nat.lt_of_lt_of_le Ae37.lt (Nat.le_of_eq g43.symm))
        have ne_b41_b43 : b41 ≠ b43 := Nat.ne_of_lt (Nat.lt_of_lt_of_le Ae41.lt (Nat.le_of_eq g43.symm))
        have gn_b43 : n0 ≤ b43 := Nat.le_trans (O0.1 ▸ O0.2.1) (Nat.le_of_eq g43.symm)
        replace Ae37 := Ae37.ext E43
        replace V_b37 := V_b37.ext E43
        replace Ae41 := Ae41.ext E43
        replace V_b41 := V_b41.ext E43
        replace O0 := O0.ext E43
        replace hk := Nat.le_trans hk E43.1
        have E_b43 := A43
        have F_key_b43 : Fld Z h43 b43 "com/example/valentia/valentia/state/Update" "key" "Ljava/lang/String;" .null := D43 (Or.inr (hw _ (List.mem_of_getElem? (i := 65) rfl))) (ty := (.object "java/lang/String")) (by decide)
        have F_value_b43 : Fld Z h43 b43 "com/example/valentia/valentia/state/Update" "value" "[B" .null := D43 (Or.inr (hw _ (List.mem_of_getElem? (i := 67) rfl))) (ty := (.array .byte)) (by decide)
        obtain ⟨T44, h44, X44, e44, E44, A44, D44, -, st44⟩ := newO X43 hx hZ hown (hw _ (List.mem_of_getElem? (i := 5) rfl)) (hw _ (List.mem_of_getElem? (i := 6) rfl)) (hw _ (List.mem_of_getElem? (i := 7) rfl)) e43 (g := (mkF m 100 #[.val (.int p0), .val (.int p1), .val (.int p2), .val (.int p3), .val (.int p4), .val (.int (p0 &&& (3 : Int32))), .val (.ref b37), .val (.ref b41), .unset] [(.ref b43), (.ref b43)])) rfl (hb hby at_100) (by decide) (by decide)
        obtain ⟨b44, g44⟩ : ∃ z, z = h43.size := ⟨_, rfl⟩
        rw [← g44] at A44 D44 st44
        have ne_b37_b44 : b37 ≠ b44 := Nat.ne_of_lt (Nat.lt_of_lt_of_le Ae37.lt (Nat.le_of_eq g44.symm))
        have ne_b41_b44 : b41 ≠ b44 := Nat.ne_of_lt (Nat.lt_of_lt_of_le Ae41.lt (Nat.le_of_eq g44.symm))
        have ne_b43_b44 : b43 ≠ b44 := Nat.ne_of_lt (Nat.lt_of_lt_of_le E_b43.lt (Nat.le_of_eq g44.symm))
        have gn_b44 : n0 ≤ b44 := Nat.le_trans (O0.1 ▸ O0.2.1) (Nat.le_of_eq g44.symm)
        replace Ae37 := Ae37.ext E44
        replace V_b37 := V_b37.ext E44
        replace Ae41 := Ae41.ext E44
        replace V_b41 := V_b41.ext E44
        replace E_b43 := E_b43.ext E44
        replace F_key_b43 := F_key_b43.ext E44
        replace F_value_b43 := F_value_b43.ext E44
        replace O0 := O0.ext E44
        replace hk := Nat.le_trans hk E44.1
        have E_b44 := A44
        have F_coder_b44 : Fld Z h44 b44 "java/lang/String" "coder" "B" (.int (0 : Int32)) := D44 (Or.inr (hw _ (List.mem_of_getElem? (i := 30) rfl))) (ty := .byte) (by decide)
        have F_value_b44 : Fld Z h44 b44 "java/lang/String" "value" "[B" .null := D44 (Or.inr (hw _ (List.mem_of_getElem? (i := 32) rfl))) (ty := (.array .byte)) (by decide)
        have k45 : ∀ t, Steps p.tables e below (T44.setTop (mkF m 106 #[.val (.int p0), .val (.int p1), .val (.int p2), .val (.int p3), .val (.int p4), .val (.int (p0 &&& (3 : Int32))), .val (.ref b37), .val (.ref b41), .unset] [(.ref b41), (.ref b44), (.ref b44), (.ref b43), (.ref b43)])) t → Steps p.tables e below (s₁.setTop (entryFrame m #[(.int p0), (.int p1), (.int p2), (.int p3), (.int p4)] maxLocals)) t := by
          intro t k
          refine k24 _ ?_
          show Steps p.tables e below (s₁.setTop (mkF m 40 #[.val (.int p0), .val (.int p1), .val (.int p2), .val (.int p3), .val (.int p4), .val (.int (p0 &&& (3 : Int32))), .unset, .unset, .unset] [(.int (2 : Int32)), (.int (p0 &&& (3 : Int32)))])) _
          refine XS.icmpYes X0.here hx rfl (pc0 := 40) (pc' := 61) rfl (hb hby at_40) rfl (feq hc40_3).2 (by decide) (by decide) ?_
          show Steps p.tables e below (s₁.setTop (mkF m 61 #[.val (.int p0), .val (.int p1), .val (.int p2), .val (.int p3), .val (.int p4), .val (.int (p0 &&& (3 : Int32))), .unset, .unset, .unset] [])) _
          refine XS.iconst X0.here hx rfl (hb hby at_61) ?_
          show Steps p.tables e below (s₁.setTop (mkF m 62 #[.val (.int p0), .val (.int p1), .val (.int p2), .val (.int p3), .val (.int p4), .val (.int (p0 &&& (3 : Int32))), .unset, .unset, .unset] [(.int (3 : Int32))])) _
          refine st37 _ ?_
          show Steps p.tables e below (T37.setTop (mkF m 64 #[.val (.int p0), .val (.int p1), .val (.int p2), .val (.int p3), .val (.int p4), .val (.int (p0 &&& (3 : Int32))), .unset, .unset, .unset] [(.ref b37)])) _
          refine XS.dup X37.here hx rfl (hb hby at_64) rfl rfl ?_
          show Steps p.tables e below (T37.setTop (mkF m 65 #[.val (.int p0), .val (.int p1), .val (.int p2), .val (.int p3), .val (.int p4), .val (.int (p0 &&& (3 : Int32))), .unset, .unset, .unset] [(.ref b37), (.ref b37)])) _
          refine XS.iconst X37.here hx rfl (hb hby at_65) ?_
          show Steps p.tables e below (T37.setTop (mkF m 66 #[.val (.int p0), .val (.int p1), .val (.int p2), .val (.int p3), .val (.int p4), .val (.int (p0 &&& (3 : Int32))), .unset, .unset, .unset] [(.int (0 : Int32)), (.ref b37), (.ref b37)])) _
          refine XS.iloadN X37.here hx rfl (hb hby at_66) rfl ?_
          show Steps p.tables e below (T37.setTop (mkF m 67 #[.val (.int p0), .val (.int p1), .val (.int p2), .val (.int p3), .val (.int p4), .val (.int (p0 &&& (3 : Int32))), .unset, .unset, .unset] [(.int p1), (.int (0 : Int32)), (.ref b37), (.ref b37)])) _
          refine XS.i2b X37.here hx rfl (hb hby at_67) rfl ?_
          show Steps p.tables e below (T37.setTop (mkF m 68 #[.val (.int p0), .val (.int p1), .val (.int p2), .val (.int p3), .val (.int p4), .val (.int (p0 &&& (3 : Int32))), .unset, .unset, .unset] [(.int (p1.toInt8.toInt32)), (.int (0 : Int32)), (.ref b37), (.ref b37)])) _
          refine st38 _ ?_
          show Steps p.tables e below (T38.setTop (mkF m 69 #[.val (.int p0), .val (.int p1), .val (.int p2), .val (.int p3), .val (.int p4), .val (.int (p0 &&& (3 : Int32))), .unset, .unset, .unset] [(.ref b37)])) _
          refine XS.dup X38.here hx rfl (hb hby at_69) rfl rfl ?_
          show Steps p.tables e below (T38.setTop (mkF m 70 #[.val (.int p0), .val (.int p1), .val (.int p2), .val (.int p3), .val (.int p4), .val (.int (p0 &&& (3 : Int32))), .unset, .unset, .unset] [(.ref b37), (.ref b37)])) _
          refine XS.iconst X38.here hx rfl (hb hby at_70) ?_
          show Steps p.tables e below (T38.setTop (mkF m 71 #[.val (.int p0), .val (.int p1), .val (.int p2), .val (.int p3), .val (.int p4), .val (.int (p0 &&& (3 : Int32))), .unset, .unset, .unset] [(.int (1 : Int32)), (.ref b37), (.ref b37)])) _
          refine XS.iloadN X38.here hx rfl (hb hby at_71) rfl ?_
          show Steps p.tables e below (T38.setTop (mkF m 72 #[.val (.int p0), .val (.int p1), .val (.int p2), .val (.int p3), .val (.int p4), .val (.int (p0 &&& (3 : Int32))), .unset, .unset, .unset] [(.int p2), (.int (1 : Int32)), (.ref b37), (.ref b37)])) _
          refine XS.i2b X38.here hx rfl (hb hby at_72) rfl ?_
          show Steps p.tables e below (T38.setTop (mkF m 73 #[.val (.int p0), .val (.int p1), .val (.int p2), .val (.int p3), .val (.int p4), .val (.int (p0 &&& (3 : Int32))), .unset, .unset, .unset] [(.int (p2.toInt8.toInt32)), (.int (1 : Int32)), (.ref b37), (.ref b37)])) _
          refine st39 _ ?_
          show Steps p.tables e below (T39.setTop (mkF m 74 #[.val (.int p0), .val (.int p1), .val (.int p2), .val (.int p3), .val (.int p4), .val (.int (p0 &&& (3 : Int32))), .unset, .unset, .unset] [(.ref b37)])) _
          refine XS.dup X39.here hx rfl (hb hby at_74) rfl rfl ?_
          show Steps p.tables e below (T39.setTop (mkF m 75 #[.val (.int p0), .val (.int p1), .val (.int p2), .val (.int p3), .val (.int p4), .val (.int (p0 &&& (3 : Int32))), .unset, .unset, .unset] [(.ref b37), (.ref b37)])) _
          refine XS.iconst X39.here hx rfl (hb hby at_75) ?_
          show Steps p.tables e below (T39.setTop (mkF m 76 #[.val (.int p0), .val (.int p1), .val (.int p2), .val (.int p3), .val (.int p4), .val (.int (p0 &&& (3 : Int32))), .unset, .unset, .unset] [(.int (2 : Int32)), (.ref b37), (.ref b37)])) _
          refine XS.iloadN X39.here hx rfl (hb hby at_76) rfl ?_
          show Steps p.tables e below (T39.setTop (mkF m 77 #[.val (.int p0), .val (.int p1), .val (.int p2), .val (.int p3), .val (.int p4), .val (.int (p0 &&& (3 : Int32))), .unset, .unset, .unset] [(.int p3), (.int (2 : Int32)), (.ref b37), (.ref b37)])) _
          refine XS.i2b X39.here hx rfl (hb hby at_77) rfl ?_
          show Steps p.tables e below (T39.setTop (mkF m 78 #[.val (.int p0), .val (.int p1), .val (.int p2), .val (.int p3), .val (.int p4), .val (.int (p0 &&& (3 : Int32))), .unset, .unset, .unset] [(.int (p3.toInt8.toInt32)), (.int (2 : Int32)), (.ref b37), (.ref b37)])) _
          refine st40 _ ?_
          show Steps p.tables e below (T40.setTop (mkF m 79 #[.val (.int p0), .val (.int p1), .val (.int p2), .val (.int p3), .val (.int p4), .val (.int (p0 &&& (3 : Int32))), .unset, .unset, .unset] [(.ref b37)])) _
          refine XS.astore X40.here hx rfl (hb hby at_79) rfl rfl (l' := #[.val (.int p0), .val (.int p1), .val (.int p2), .val (.int p3), .val (.int p4), .val (.int (p0 &&& (3 : Int32))), .val (.ref b37), .unset, .unset]) rfl ?_
          show Steps p.tables e below (T40.setTop (mkF m 81 #[.val (.int p0), .val (.int p1), .val (.int p2), .val (.int p3), .val (.int p4), .val (.int (p0 &&& (3 : Int32))), .val (.ref b37), .unset, .unset] [])) _
          refine XS.iconst X40.here hx rfl (hb hby at_81) ?_
          show Steps p.tables e below (T40.setTop (mkF m 82 #[.val (.int p0), .val (.int p1), .val (.int p2), .val (.int p3), .val (.int p4), .val (.int (p0 &&& (3 : Int32))), .val (.ref b37), .unset, .unset] [(.int (1 : Int32))])) _
          refine st41 _ ?_
          show Steps p.tables e below (T41.setTop (mkF m 84 #[.val (.int p0), .val (.int p1), .val (.int p2), .val (.int p3), .val (.int p4), .val (.int (p0 &&& (3 : Int32))), .val (.ref b37), .unset, .unset] [(.ref b41)])) _
          refine XS.dup X41.here hx rfl (hb hby at_84) rfl rfl ?_
          show Steps p.tables e below (T41.setTop (mkF m 85 #[.val (.int p0), .val (.int p1), .val (.int p2), .val (.int p3), .val (.int p4), .val (.int (p0 &&& (3 : Int32))), .val (.ref b37), .unset, .unset] [(.ref b41), (.ref b41)])) _
          refine XS.iconst X41.here hx rfl (hb hby at_85) ?_
          show Steps p.tables e below (T41.setTop (mkF m 86 #[.val (.int p0), .val (.int p1), .val (.int p2), .val (.int p3), .val (.int p4), .val (.int (p0 &&& (3 : Int32))), .val (.ref b37), .unset, .unset] [(.int (0 : Int32)), (.ref b41), (.ref b41)])) _
          refine XS.iload X41.here hx rfl (hb hby at_86) rfl ?_
          show Steps p.tables e below (T41.setTop (mkF m 88 #[.val (.int p0), .val (.int p1), .val (.int p2), .val (.int p3), .val (.int p4), .val (.int (p0 &&& (3 : Int32))), .val (.ref b37), .unset, .unset] [(.int p4), (.int (0 : Int32)), (.ref b41), (.ref b41)])) _
          refine XS.sipush X41.here hx rfl (hb hby at_88) ?_
          show Steps p.tables e below (T41.setTop (mkF m 91 #[.val (.int p0), .val (.int p1), .val (.int p2), .val (.int p3), .val (.int p4), .val (.int (p0 &&& (3 : Int32))), .val (.ref b37), .unset, .unset] [(.int (255 : Int32)), (.int p4), (.int (0 : Int32)), (.ref b41), (.ref b41)])) _
          refine XS.iand X41.here hx rfl (hb hby at_91) rfl ?_
          show Steps p.tables e below (T41.setTop (mkF m 92 #[.val (.int p0), .val (.int p1), .val (.int p2), .val (.int p3), .val (.int p4), .val (.int (p0 &&& (3 : Int32))), .val (.ref b37), .unset, .unset] [(.int (p4 &&& (255 : Int32))), (.int (0 : Int32)), (.ref b41), (.ref b41)])) _
          refine XS.i2c X41.here hx rfl (hb hby at_92) rfl ?_
          show Steps p.tables e below (T41.setTop (mkF m 93 #[.val (.int p0), .val (.int p1), .val (.int p2), .val (.int p3), .val (.int p4), .val (.int (p0 &&& (3 : Int32))), .val (.ref b37), .unset, .unset] [(.int ((p4 &&& (255 : Int32)).toUInt32.toUInt16.toUInt32.toInt32)), (.int (0 : Int32)), (.ref b41), (.ref b41)])) _
          refine st42 _ ?_
          show Steps p.tables e below (T42.setTop (mkF m 94 #[.val (.int p0), .val (.int p1), .val (.int p2), .val (.int p3), .val (.int p4), .val (.int (p0 &&& (3 : Int32))), .val (.ref b37), .unset, .unset] [(.ref b41)])) _
          refine XS.astore X42.here hx rfl (hb hby at_94) rfl rfl (l' := #[.val (.int p0), .val (.int p1), .val (.int p2), .val (.int p3), .val (.int p4), .val (.int (p0 &&& (3 : Int32))), .val (.ref b37), .val (.ref b41), .unset]) rfl ?_
          show Steps p.tables e below (T42.setTop (mkF m 96 #[.val (.int p0), .val (.int p1), .val (.int p2), .val (.int p3), .val (.int p4), .val (.int (p0 &&& (3 : Int32))), .val (.ref b37), .val (.ref b41), .unset] [])) _
          refine st43 _ ?_
          show Steps p.tables e below (T43.setTop (mkF m 99 #[.val (.int p0), .val (.int p1), .val (.int p2), .val (.int p3), .val (.int p4), .val (.int (p0 &&& (3 : Int32))), .val (.ref b37), .val (.ref b41), .unset] [(.ref b43)])) _
          refine XS.dup X43.here hx rfl (hb hby at_99) rfl rfl ?_
          show Steps p.tables e below (T43.setTop (mkF m 100 #[.val (.int p0), .val (.int p1), .val (.int p2), .val (.int p3), .val (.int p4), .val (.int (p0 &&& (3 : Int32))), .val (.ref b37), .val (.ref b41), .unset] [(.ref b43), (.ref b43)])) _
          refine st44 _ ?_
          show Steps p.tables e below (T44.setTop (mkF m 103 #[.val (.int p0), .val (.int p1), .val (.int p2), .val (.int p3), .val (.int p4), .val (.int (p0 &&& (3 : Int32))), .val (.ref b37), .val (.ref b41), .unset] [(.ref b44), (.ref b43), (.ref b43)])) _
          refine XS.dup X44.here hx rfl (hb hby at_103) rfl rfl ?_
          show Steps p.tables e below (T44.setTop (mkF m 104 #[.val (.int p0), .val (.int p1), .val (.int p2), .val (.int p3), .val (.int p4), .val (.int (p0 &&& (3 : Int32))), .val (.ref b37), .val (.ref b41), .unset] [(.ref b44), (.ref b44), (.ref b43), (.ref b43)])) _
          refine XS.aload X44.here hx rfl (hb hby at_104) rfl rfl ?_
          exact k
        obtain ⟨Lz46, Xz46, Nz46⟩ : ∃ Lz, Stand p l e room_1 (s.setVm _) m #[(.int p0), (.int p1), (.int p2), (.int p3), (.int p4)] below meth c T44 Lz 4 10 ∧ Fr n0 Lz := ⟨_, X44, N42⟩
        obtain ⟨_, _, ⟨T47, L47, k47_, n47⟩, -, X47, ⟨Lc47, hQ47, l47, y47, z47⟩, st47⟩ := Xz46.specialBack hx (y := (⟨"java/lang/String", "<init>", "([C)V"⟩ : MethodName)) rfl hown (mvT hZ (hw _ (List.mem_of_getElem? (i := 8) rfl))) (mvT hZ (hw _ (List.mem_of_getElem? (i := 9) rfl))) (mvT hZ (hw _ (List.mem_of_getElem? (i := 10) rfl))) (by decide) (backOf (W := 3) (rmS1_1 l Z a0 hw [] b44 b41 c41 (nar .char ((p4 &&& (255 : Int32)).toUInt32.toUInt16.toUInt32.toInt32)) w_CS h44 n0 hG O0 (O0.1 ▸ O0.2.1) gn_b44 E_b44 F_value_b44 F_coder_b44 ne_b41_b44 V_b41 (own_c2 _)) hZ (hw _ (List.mem_of_getElem? (i := 10) rfl)) (hw _ (List.mem_of_getElem? (i := 7) rfl)) (by decide) (by decide)) (g := (mkF m 106 #[.val (.int p0), .val (.int p1), .val (.int p2), .val (.int p3), .val (.int p4), .val (.int (p0 &&& (3 : Int32))), .val (.ref b37), .val (.ref b41), .unset] [(.ref b41), (.ref b44), (.ref b44), (.ref b43), (.ref b43)])) rfl (by rw [hml]; rfl) (Steps.refl _) (a := b44) (argsL := [(.ref b41)]) (rest := [(.ref b44), (.ref b43), (.ref b43)]) (lenOf pd_7 rfl) rfl (by show 2 * 0 + _ ≤ _; exact Nat.le_of_eq rfl) (hb hby at_106) (fun _ _ => ⟨rfl, e44, (by decide : 4 + 1 ≤ _), (by decide : 10 + 1 ≤ _)⟩)
        dsimp only [Pt.U, Pt.locs, Pt.cells, Pt.slots] at X47 l47 y47 z47 st47 hQ47
        subst l47 y47 z47
        obtain ⟨rfl, Nq47, Kq47, Eq47, bv47, kq47, vs47, Fq47, Vq47⟩ := hQ47
        have N47 := Fr.app Nz46 Nq47
        replace Ae37 := Ae37.keep Kq47
        replace V_b37 := V_b37.keep Kq47 (fun q => ne_b37_b44 (List.mem_singleton.mp q))
        replace Ae41 := Ae41.keep Kq47
        replace V_b41 := V_b41.keep Kq47 (fun q => ne_b41_b44 (List.mem_singleton.mp q))
        replace E_b43 := E_b43.keep Kq47
        replace F_key_b43 := F_key_b43.keep Kq47 (fun q => ne_b43_b44 (List.mem_singleton.mp q))
        replace F_value_b43 := F_value_b43.keep Kq47 (fun q => ne_b43_b44 (List.mem_singleton.mp q))
        replace E_b44 := E_b44.keep Kq47
        replace O0 := O0.keep Kq47 (fun x hx => by cases List.mem_singleton.mp hx; exact gn_b44)
        replace hk := Nat.le_trans hk Kq47.1
        have k49 : ∀ t, Steps p.tables e below (T47.setTop (mkF m 111 #[.val (.int p0), .val (.int p1), .val (.int p2), .val (.int p3), .val (.int p4), .val (.int (p0 &&& (3 : Int32))), .val (.ref b37), .val (.ref b41), .unset] [(.ref b37), (.ref b44), (.ref b43), (.ref b43)])) t → Steps p.tables e below (s₁.setTop (entryFrame m #[(.int p0), (.int p1), (.int p2), (.int p3), (.int p4)] maxLocals)) t := by
          intro t k
          refine k45 _ ?_
          show Steps p.tables e below (T44.setTop (mkF m 106 #[.val (.int p0), .val (.int p1), .val (.int p2), .val (.int p3), .val (.int p4), .val (.int (p0 &&& (3 : Int32))), .val (.ref b37), .val (.ref b41), .unset] [(.ref b41), (.ref b44), (.ref b44), (.ref b43), (.ref b43)])) _
          refine st47.trans ?_
          show Steps p.tables e below (T47.setTop (mkF m 109 #[.val (.int p0), .val (.int p1), .val (.int p2), .val (.int p3), .val (.int p4), .val (.int (p0 &&& (3 : Int32))), .val (.ref b37), .val (.ref b41), .unset] [(.ref b44), (.ref b43), (.ref b43)])) _
          refine XS.aload X47.here hx rfl (hb hby at_109) rfl rfl ?_
          exact k
        obtain ⟨_, _, ⟨T48, L48, k48_, n48⟩, -, X48, hS48, hg48, ⟨Lc48, hQ48, l48, y48, z48⟩, st48⟩ := X47.specialBackS hx (y := (⟨"com/example/valentia/valentia/state/Update", "<init>", "(Ljava/lang/String;[B)V"⟩ : MethodName)) rfl hown (mvT hZ (hw _ (List.mem_of_getElem? (i := 33) rfl))) (mvT hZ (hw _ (List.mem_of_getElem? (i := 34) rfl))) (mvT hZ (hw _ (List.mem_of_getElem? (i := 35) rfl))) (by decide) (backOfS (W := 1) (rm7 l Z a0 hw [] b43 b44 b37 bv47 kq47 c37 vs47 [(.int ((p1.toInt8.toInt32).toInt8.toInt32)), (.int ((p2.toInt8.toInt32).toInt8.toInt32)), (.int ((p3.toInt8.toInt32).toInt8.toInt32))] (3 : Int32) T47.heap n0 (O0.1 ▸ O0.2.1) gn_b43 E_b43 F_key_b43 F_value_b43 E_b44 Fq47 Vq47 Ae37 V_b37 (by decide) (Ne.symm ne_b43_b44) ne_b37_b43 (Ne.symm (Exa.neArv E_b43 Vq47 (hw _ (List.mem_of_getElem? (i := 3) rfl))))) hZ (hw _ (List.mem_of_getElem? (i := 35) rfl)) (hw _ (List.mem_of_getElem? (i := 4) rfl)) (by decide) (by decide)) (g := (mkF m 111 #[.val (.int p0), .val (.int p1), .val (.int p2), .val (.int p3), .val (.int p4), .val (.int (p0 &&& (3 : Int32))), .val (.ref b37), .val (.ref b41), .unset] [(.ref b37), (.ref b44), (.ref b43), (.ref b43)])) rfl (by rw [hml]; rfl) (Steps.refl _) (a := b43) (argsL := [(.ref b44), (.ref b37)]) (rest := [(.ref b43)]) (lenOf pd_8 rfl) rfl (by show 2 * 0 + _ ≤ _; exact Nat.le_of_eq rfl) (hb hby at_111) (fun _ _ => ⟨rfl, rfl, (by decide : 5 + 5 ≤ _), (by decide : 11 + 43 ≤ _)⟩)
        dsimp only [Pt.U, Pt.locs, Pt.cells, Pt.slots] at X48 l48 y48 z48 st48 hQ48
        subst l48 y48 z48
        dsimp only [Pt.U, Pt.locs, Pt.cells, Pt.slots] at hS48 hg48
        obtain ⟨X48, hS, hZ, hown⟩ := rebS hS hk X48 hS48 hg48 hZ hown
        replace hk := Nat.le_refl T48.heap.size
        obtain ⟨rfl, Nq48, Kq48, Eq48, bv48, kq48, vs48, Fq48, Vq48⟩ := hQ48
        have N48 := Fr.app N47 Nq48
        replace E_b43 := E_b43.keep Kq48
        replace O0 := O0.keep Kq48 (fun x hx => by cases List.mem_singleton.mp hx; exact gn_b43)
        obtain ⟨cq50, kq50, q50a, q50b, q50c⟩ := isOf hZ rfl E_b43
        obtain ⟨_, _, ⟨T50, L50, k50_, n50⟩, -, X50, ⟨Lc50, hQ50, l50, y50, z50⟩, st50⟩ := X48.virtualBack hx (y := (⟨"com/example/valentia/valentia/state/Update", "isDeletion", "()Z"⟩ : MethodName)) (z := (⟨"com/example/valentia/valentia/state/Update", "isDeletion", "()Z"⟩ : MethodName)) hown (mvT hZ (hw _ (List.mem_of_getElem? (i := 68) rfl))) (mvT hZ (hw _ (List.mem_of_getElem? (i := 69) rfl))) (notFace_of_selects (args := #[]) (mvT hZ (hw _ (List.mem_of_getElem? (i := 71) rfl)))) (mvT hZ (hw _ (List.mem_of_getElem? (i := 71) rfl))) (mvT hZ (hw _ (List.mem_of_getElem? (i := 70) rfl))) (by decide) (backOf (W := 0) (rm11 l Z a0 hw [] b43 bv48 kq48 vs48 (3 : Int32) T48.heap n0 Fq48 Vq48) hZ (hw _ (List.mem_of_getElem? (i := 72) rfl)) (hw _ (List.mem_of_getElem? (i := 4) rfl)) (by decide) (by decide)) q50a q50c (g := (mkF m 118 #[.val (.int p0), .val (.int p1), .val (.int p2), .val (.int p3), .val (.int p4), .val (.int (p0 &&& (3 : Int32))), .val (.ref b37), .val (.ref b41), .val (.ref b43)] [(.ref b43)])) rfl (by rw [hml]; rfl) (Steps.refl _) (argsL := []) (rest := []) (lenOf pd_6 rfl) rfl (by show 2 * 0 + _ ≤ _; exact Nat.le_of_eq rfl) (hb hby at_118) (fun _ _ => ⟨rfl, rfl, (by decide : 10 + 0 ≤ _), (by decide : 54 + 0 ≤ _)⟩)
        dsimp only [Pt.U, Pt.locs, Pt.cells, Pt.slots] at X50 l50 y50 z50 st50 hQ50
        subst l50 y50 z50
        obtain ⟨rfl, Nq50, e50⟩ := hQ50
        have N50 := Fr.app N48 Nq50
        have k51 : ∀ t, Steps p.tables e below (T50.setTop (mkF m 139 #[.val (.int p0), .val (.int p1), .val (.int p2), .val (.int p3), .val (.int p4), .val (.int (p0 &&& (3 : Int32))), .val (.ref b37), .val (.ref b41), .val (.ref b43)] [(.int (1 : Int32))])) t → Steps p.tables e below (s₁.setTop (entryFrame m #[(.int p0), (.int p1), (.int p2), (.int p3), (.int p4)] maxLocals)) t := by
          intro t k
          refine k49 _ ?_
          show Steps p.tables e below (T47.setTop (mkF m 111 #[.val (.int p0), .val (.int p1), .val (.int p2), .val (.int p3), .val (.int p4), .val (.int (p0 &&& (3 : Int32))), .val (.ref b37), .val (.ref b41), .unset] [(.ref b37), (.ref b44), (.ref b43), (.ref b43)])) _
          refine st48.trans ?_
          show Steps p.tables e below (T48.setTop (mkF m 114 #[.val (.int p0), .val (.int p1), .val (.int p2), .val (.int p3), .val (.int p4), .val (.int (p0 &&& (3 : Int32))), .val (.ref b37), .val (.ref b41), .unset] [(.ref b43)])) _
          refine XS.astore X48.here hx rfl (hb hby at_114) rfl rfl (l' := #[.val (.int p0), .val (.int p1), .val (.int p2), .val (.int p3), .val (.int p4), .val (.int (p0 &&& (3 : Int32))), .val (.ref b37), .val (.ref b41), .val (.ref b43)]) rfl ?_
          show Steps p.tables e below (T48.setTop (mkF m 116 #[.val (.int p0), .val (.int p1), .val (.int p2), .val (.int p3), .val (.int p4), .val (.int (p0 &&& (3 : Int32))), .val (.ref b37), .val (.ref b41), .val (.ref b43)] [])) _
          refine XS.aload X48.here hx rfl (hb hby at_116) rfl rfl ?_
          show Steps p.tables e below (T48.setTop (mkF m 118 #[.val (.int p0), .val (.int p1), .val (.int p2), .val (.int p3), .val (.int p4), .val (.int (p0 &&& (3 : Int32))), .val (.ref b37), .val (.ref b41), .val (.ref b43)] [(.ref b43)])) _
          refine st50.trans ?_
          show Steps p.tables e below (T50.setTop (mkF m 121 #[.val (.int p0), .val (.int p1), .val (.int p2), .val (.int p3), .val (.int p4), .val (.int (p0 &&& (3 : Int32))), .val (.ref b37), .val (.ref b41), .val (.ref b43)] [(.int (own_f11 (3 : Int32)))])) _
          refine XS.iload X50.here hx rfl (hb hby at_121) rfl ?_
          show Steps p.tables e below (T50.setTop (mkF m 123 #[.val (.int p0), .val (.int p1), .val (.int p2), .val (.int p3), .val (.int p4), .val (.int (p0 &&& (3 : Int32))), .val (.ref b37), .val (.ref b41), .val (.ref b43)] [(.int (p0 &&& (3 : Int32))), (.int (own_f11 (3 : Int32)))])) _
          refine XS.ifYes X50.here hx rfl (pc0 := 123) (pc' := 130) rfl (hb hby at_123) rfl ((if0 _ _).trans (feq hc7_1).2) (by decide) (by decide) ?_
          show Steps p.tables e below (T50.setTop (mkF m 130 #[.val (.int p0), .val (.int p1), .val (.int p2), .val (.int p3), .val (.int p4), .val (.int (p0 &&& (3 : Int32))), .val (.ref b37), .val (.ref b41), .val (.ref b43)] [(.int (own_f11 (3 : Int32)))])) _
          refine XS.iconst X50.here hx rfl (hb hby at_130) ?_
          show Steps p.tables e below (T50.setTop (mkF m 131 #[.val (.int p0), .val (.int p1), .val (.int p2), .val (.int p3), .val (.int p4), .val (.int (p0 &&& (3 : Int32))), .val (.ref b37), .val (.ref b41), .val (.ref b43)] [(.int (0 : Int32)), (.int (own_f11 (3 : Int32)))])) _
          refine XS.icmpNo X50.here hx rfl (hb hby at_131) rfl (teq (own_e3 p0 hc7_1)).2 ?_
          show Steps p.tables e below (T50.setTop (mkF m 134 #[.val (.int p0), .val (.int p1), .val (.int p2), .val (.int p3), .val (.int p4), .val (.int (p0 &&& (3 : Int32))), .val (.ref b37), .val (.ref b41), .val (.ref b43)] [])) _
          refine XS.iconst X50.here hx rfl (hb hby at_134) ?_
          show Steps p.tables e below (T50.setTop (mkF m 135 #[.val (.int p0), .val (.int p1), .val (.int p2), .val (.int p3), .val (.int p4), .val (.int (p0 &&& (3 : Int32))), .val (.ref b37), .val (.ref b41), .val (.ref b43)] [(.int (1 : Int32))])) _
          refine XS.goto X50.here hx rfl (pc0 := 135) (pc' := 139) rfl (hb hby at_135) (by decide) (by decide) ?_
          exact k
        obtain ⟨fs, hr, hrun, hended, hEW⟩ := X50.leaveW hS (by rw [e50]; exact hk) (v := some (.int (1 : Int32))) (fun h => by rw [Bd.returns] at h; cases h)
        refine ⟨_, _, k51 _ ?_, hrun, hended, _, _, rfl, ?_, hEW.1, hEW.2.1, hEW.2.2.1, hEW.2.2.2.mono (by decide) (by decide)⟩
        · exact retN X50 hx (t := .boolean) Bd.returns (by simp) (hb hby at_139) hr
        · show own_R (some (.int 1)) n0 _ T50.heap _
          rw [e50]
          exact ⟨rfl, N50⟩
set_option maxRecDepth 65536 in
set_option maxHeartbeats 40000000 in
theorem comes_1 {Post : Tables → Env → Array Value → State → Outcome → State → Prop} (hpost : ∀ tb e args s v u, (limb_1_1.after args s (.returned v) u = true ∧ limb_1_2.after args s (.returned v) u = true ∧ True) → ReturnedEndW s (.returned v) u (Jvm.fieldLocs frame_1_writes args s ++ Jvm.arrayLocs frame_1_arrays args s ++ Jvm.staticLocs frame_1_statics s) 24 2176 → Post tb e args s (.returned v) u) :
    ArmFor flags0 classFile x code maxLocals ret World_1 tables_1 room_1 Calls_1 rest_1 Pre_1 Post := by
  intro l hfl _ _ p e ha hc hk s m args below hf hA hF happ hP
  obtain ⟨hcalls, hrest, hpre⟩ := hP
  obtain ⟨-, -, -, hnamed, -, -, -, hat⟩ := (Spec.applies_iff hf).mp happ
  obtain ⟨hg, hn⟩ := and_e (Cond.before_iff.mp (show (Jvm.Cond.and given_1 narrow_1).before args s = true from hpre))
  obtain ⟨g0a, g0b⟩ := and_e hg
  obtain ⟨g1a, g1b⟩ := and_e g0b
  obtain ⟨g2a, g2b⟩ := and_e g1b
  obtain ⟨g3a, g3b⟩ := and_e g2b
  obtain ⟨g4a, g4b⟩ := and_e g3b
  obtain ⟨w0, w1, w2, w3, w4, rfl⟩ : ∃ w0 w1 w2 w3 w4 : Value, args = #[w0, w1, w2, w3, w4] := by
    have hs : args.size = 5 := by simpa [Cond.value, given_1] using g0a
    obtain ⟨L⟩ := args
    match L, hs with
    | [w0, w1, w2, w3, w4], _ => exact ⟨w0, w1, w2, w3, w4, rfl⟩
  have hw := fun d (hd : d ∈ tables_1) => atoms_spec (ws := Jvm.Cond.code x code maxLocals ret :: tables_1) hat d (List.mem_cons_of_mem _ hd)
  have hfit : Fit s := fun {y c} hc i hi => by
    obtain ⟨ha, rfl⟩ := Array.getElem?_eq_some_iff.mp hc
    have q := List.all_eq_true.mp ((Array.all_eq_true_iff_forall_mem.mp hF) _ (Array.getElem_mem ha)) i (List.mem_range.mpr hi)
    simpa [Array.getElem?_eq_getElem hi] using q
  obtain ⟨hsets, hown0⟩ := atoms_of _ (rest_1_c_eq ▸ (show rest_1_c.before _ s = true from hrest))
  obtain ⟨i0, ei0⟩ := is_v g1a
  obtain rfl : w0 = (.int i0) := Option.some.inj ei0
  obtain ⟨i1, ei1⟩ := is_v g2a
  obtain rfl : w1 = (.int i1) := Option.some.inj ei1
  obtain ⟨i2, ei2⟩ := is_v g3a
  obtain rfl : w2 = (.int i2) := Option.some.inj ei2
  obtain ⟨i3, ei3⟩ := is_v g4a
  obtain rfl : w3 = (.int i3) := Option.some.inj ei3
  obtain ⟨i4, ei4⟩ := is_v g4b
  obtain rfl : w4 = (.int i4) := Option.some.inj ei4
  obtain ⟨w_CS, ecs⟩ := is_v (Cond.before_iff.mp (hsets _ (List.mem_of_getElem? (i := 1) rfl)))
  have S_CS := Sta.start ecs (Or.inl (hsets _ (List.mem_of_getElem? (i := 0) rfl)))
  have hCS := own_ncs ecs (Cond.before_iff.mp (hsets _ (List.mem_of_getElem? (i := 2) rfl)))
  obtain ⟨n, o, h1, h2, h3, _, L, rfl, ⟨rfl, N⟩, hq⟩ := rm0 l s _ hw tables_1 i0 i1 i2 i3 i4 w_CS s.heap s.heap.size ⟨S_CS, hCS⟩ (Old.start s) p e ha hc hk s m _ below hf ((Spec.applies_iff_loose hf).mp happ).1 ⟨rfl, State.Warmed39.refl s, rfl⟩ trivial
  refine ⟨n, _, h1, h2, h3, hpost _ _ _ _ _ _ ⟨Cond.after_iff.mpr rfl, Cond.after_iff.mpr (eq_i res_at (Term.int_eval (1)) rfl), trivial⟩ ⟨hq.1, hq.2.1, hq.2.2.1, (hq.2.2.2.sift fun y hy => Or.inr (N y hy)).mono (by decide) (by decide)⟩⟩
theorem main_1_1 : Claimed_1_1 := comes_1 fun _ _ _ _ _ _ h hF => ⟨h.1, hF⟩
theorem main_1_2 : Claimed_1_2 := comes_1 fun _ _ _ _ _ _ h hF => ⟨h.2.1, hF⟩
end Jvm.Pilot.@@N@@
namespace Jvm.Pilot.@@N@@
open Jvm Jvm.ClassFile Sem Op Lib Jvm.Free Jvm.Stand Jvm.Pilot.@@N@@.Jvm.D
/-! MADE BY PROGRAM (witnessworld.py) out of the Statement's table words and the real class files: 22 classes; the members and pool entries that the words name. The judged class is class 1, her method 1. -/
namespace start1
open Jvm.ClassFile
def u (s : String) : CpInfo := .utf8 (stringToUtf16 s)
/-- a pool by its gaps: so many unusable entries, then the entry; so many at the end -/
def gap : Nat → List CpInfo → List CpInfo
  | 0, r => r
  | n + 1, r => .unusable :: gap n r
def poolList (es : List (Nat × CpInfo)) (last : Nat) : List CpInfo := es.foldr (fun e r => gap e.1 (e.2 :: r)) (gap last [])
def pool (es : List (Nat × CpInfo)) (last : Nat) : Array CpInfo := ⟨poolList es last⟩
def fileOf (pool : Array CpInfo) (this : Nat) (attrs : Array Attribute := #[]) (ms : Array MethodInfo := #[]) (fl : Nat := 33) (sup : Nat := 0) (ifs : Array Nat := #[]) (fds : Array FieldInfo := #[]) : ClassFile where
  minorVersion := 0
  majorVersion := 65
  constantPool := pool
  accessFlags := fl
  thisClass := this
  superClass := sup
  interfaces := ifs
  fields := fds
  methods := ms
  attributes := attrs
def plain (name : String) (sup : Option ClassId) : Class where
  name := name
  kind := .ordinary
  loader := none
  accessFlags := 33
  super := sup
  interfaces := #[]
  cf := none
  fields := #[]
  methods := #[]
  instanceTypes := #[]
  staticTypes := #[]
  resolved := #[]
  callSites := []
  init := .initialized
  statics := none
  mirror := none

def pool0 : Array CpInfo := pool [(5, u "<init>"), (0, u "()V"), (1, .class_ 10), (1, u "java/lang/Object"), (85, u "clone"), (0, u "()Ljava/lang/Object;")] 26

def k0c0 : Code := { maxStack := 0, maxLocals := 1, code := object_method_1_code, exceptionTable := #[], attributes := #[] }
def k0m0 : Method := { name := "<init>", desc := "()V", sig := { parameters := [], returnType := none }, accessFlags := 1, code := some k0c0 }
def k0m1 : Method := { name := "clone", desc := "()Ljava/lang/Object;", sig := { parameters := [], returnType := some (.object "java/lang/Object") }, accessFlags := 260, code := none }
/-- java/lang/Object -/
def k0 : Class := { plain "java/lang/Object" none with
  accessFlags := 33
  interfaces := #[]
  cf := some (fileOf pool0 8 #[] #[{ accessFlags := 1, nameIndex := 5, descriptorIndex := 6, attributes := #[] }, { accessFlags := 260, nameIndex := 96, descriptorIndex := 97, attributes := #[] }] 33 0 #[] #[])
  fields := #[]
  methods := #[k0m0, k0m1]
  instanceTypes := #[]
  staticTypes := #[]
  resolved := Array.replicate 124 none
  statics := none }

def pool1 : Array CpInfo := pool [(2, .class_ 4), (1, u "java/lang/Object"), (0, u "<init>"), (0, u "()V"), (0, .class_ 8), (0, u "com/example/valentia/valentia/state/Update"), (0, .class_ 10), (0, u "java/lang/String"), (0, .methodref 9 12), (0, .nameAndType 5 13), (0, u "([C)V"), (0, .methodref 7 15), (0, .nameAndType 5 16), (0, u "(Ljava/lang/String;[B)V"), (0, .methodref 7 18), (0, .nameAndType 19 20), (0, u "isDeletion"), (0, u "()Z"), (0, .class_ 22), (0, u "com/example/valentia/valentia/state/UpdateIsDeletionPinLaw"), (2, u "law"), (0, u "(IIIII)Z")] 7

def k1m0 : Method := { name := "<init>", desc := "()V", sig := { parameters := [], returnType := none }, accessFlags := 1, code := none }
def k1c1 : Code := { maxStack := 5, maxLocals := 9, code := code, exceptionTable := #[], attributes := #[] }
def k1m1 : Method := { name := "law", desc := "(IIIII)Z", sig := { parameters := [.int, .int, .int, .int, .int], returnType := some .boolean }, accessFlags := 9, code := some k1c1 }
/-- com/example/valentia/valentia/state/UpdateIsDeletionPinLaw -/
def k1 : Class := { plain "com/example/valentia/valentia/state/UpdateIsDeletionPinLaw" (some 0) with
  accessFlags := 49
  interfaces := #[]
  cf := some (fileOf pool1 21 #[] #[{ accessFlags := 1, nameIndex := 5, descriptorIndex := 6, attributes := #[] }, { accessFlags := 9, nameIndex := 25, descriptorIndex := 26, attributes := #[] }] 49 2 #[] #[])
  fields := #[]
  methods := #[k1m0, k1m1]
  instanceTypes := #[]
  staticTypes := #[]
  resolved := Array.replicate 34 none
  statics := none }

def pool2 : Array CpInfo := pool [(1, .methodref 2 3), (0, .class_ 4), (0, .nameAndType 5 6), (0, u "java/lang/Object"), (0, u "<init>"), (0, u "()V"), (0, .class_ 8), (0, u "java/lang/Record")] 13

def k2c0 : Code := { maxStack := 1, maxLocals := 1, code := jdk_30_method_1_code, exceptionTable := #[], attributes := #[] }
def k2m0 : Method := { name := "<init>", desc := "()V", sig := { parameters := [], returnType := none }, accessFlags := 4, code := some k2c0 }
/-- java/lang/Record -/
def k2 : Class := { plain "java/lang/Record" (some 0) with
  accessFlags := 1057
  interfaces := #[]
  cf := some (fileOf pool2 7 #[] #[{ accessFlags := 4, nameIndex := 5, descriptorIndex := 6, attributes := #[] }] 1057 2 #[] #[])
  fields := #[]
  methods := #[k2m0]
  instanceTypes := #[]
  staticTypes := #[]
  resolved := Array.replicate 22 none
  statics := none }

def pool3 : Array CpInfo := pool [(1, .methodref 2 3), (0, .class_ 4), (0, .nameAndType 5 6), (0, u "java/lang/Record"), (0, u "<init>"), (0, u "()V"), (0, .string 8), (0, u "key"), (0, .methodref 10 11), (0, .class_ 12), (0, .nameAndType 13 14), (0, u "java/util/Objects"), (0, u "requireNonNull"), (0, u "(Ljava/lang/Object;Ljava/lang/String;)Ljava/lang/Object;"), (0, .string 16), (0, u "value"), (0, .methodref 18 19), (0, .class_ 20), (0, .nameAndType 21 22), (0, u "java/lang/String"), (0, u "isEmpty"), (0, u "()Z"), (7, .methodref 31 32), (0, .class_ 33), (0, .nameAndType 34 35), (0, u "[B"), (0, u "clone"), (0, u "()Ljava/lang/Object;"), (0, .fieldref 37 38), (0, .class_ 39), (0, .nameAndType 8 40), (0, u "com/example/valentia/valentia/state/Update"), (0, u "Ljava/lang/String;"), (0, .fieldref 37 42), (0, .nameAndType 16 33), (20, u "MAX_KEY_BYTES"), (0, u "I"), (2, u "MAX_VALUE_BYTES"), (1, u "(Ljava/lang/String;[B)V"), (6, u "isDeletion")] 20

def k3c0 : Code := { maxStack := 3, maxLocals := 3, code := prog_62_method_1_code, exceptionTable := #[], attributes := #[] }
def k3m0 : Method := { name := "<init>", desc := "(Ljava/lang/String;[B)V", sig := { parameters := [(.object "java/lang/String"), (.array .byte)], returnType := none }, accessFlags := 1, code := some k3c0 }
def k3c1 : Code := { maxStack := 1, maxLocals := 1, code := prog_62_method_4_code, exceptionTable := #[], attributes := #[] }
def k3m1 : Method := { name := "isDeletion", desc := "()Z", sig := { parameters := [], returnType := some .boolean }, accessFlags := 1, code := some k3c1 }
/-- com/example/valentia/valentia/state/Update -/
def k3 : Class := { plain "com/example/valentia/valentia/state/Update" (some 2) with
  accessFlags := 49
  interfaces := #[]
  cf := some (fileOf pool3 37 #[] #[{ accessFlags := 1, nameIndex := 5, descriptorIndex := 69, attributes := #[] }, { accessFlags := 1, nameIndex := 76, descriptorIndex := 22, attributes := #[] }] 49 2 #[] #[{ accessFlags := 18, nameIndex := 8, descriptorIndex := 40, attributes := #[] }, { accessFlags := 18, nameIndex := 16, descriptorIndex := 33, attributes := #[] }, { accessFlags := 25, nameIndex := 63, descriptorIndex := 64, attributes := #[] }, { accessFlags := 25, nameIndex := 67, descriptorIndex := 64, attributes := #[] }])
  fields := #[{ name := "key", type := (.object "java/lang/String"), accessFlags := 18, slot := 0, constantValue := 0 }, { name := "value", type := (.array .byte), accessFlags := 18, slot := 1, constantValue := 0 }, { name := "MAX_KEY_BYTES", type := .int, accessFlags := 25, slot := 0, constantValue := 0 }, { name := "MAX_VALUE_BYTES", type := .int, accessFlags := 25, slot := 1, constantValue := 0 }]
  methods := #[k3m0, k3m1]
  instanceTypes := #[(.object "java/lang/String"), (.array .byte)]
  staticTypes := #[.int, .int]
  resolved := Array.replicate 97 none
  statics := none }

def pool4 : Array CpInfo := pool [(1, .class_ 2), (0, u "java/io/Serializable"), (0, .class_ 4), (0, u "java/lang/Object")] 2

/-- java/io/Serializable -/
def k4 : Class := { plain "java/io/Serializable" (some 0) with
  accessFlags := 1537
  interfaces := #[]
  cf := some (fileOf pool4 1 #[] #[] 1537 3 #[] #[])
  fields := #[]
  methods := #[]
  instanceTypes := #[]
  staticTypes := #[]
  resolved := Array.replicate 7 none
  statics := none }

def pool5 : Array CpInfo := pool [(1, .class_ 2), (0, u "java/lang/Comparable"), (0, .class_ 4), (0, u "java/lang/Object")] 7

/-- java/lang/Comparable -/
def k5 : Class := { plain "java/lang/Comparable" (some 0) with
  accessFlags := 1537
  interfaces := #[]
  cf := some (fileOf pool5 1 #[] #[] 1537 3 #[] #[])
  fields := #[]
  methods := #[]
  instanceTypes := #[]
  staticTypes := #[]
  resolved := Array.replicate 12 none
  statics := none }

def pool6 : Array CpInfo := pool [(2, .class_ 4), (1, u "java/lang/CharSequence"), (42, .class_ 48), (0, u "java/lang/CharSequence$1CodePointIterator"), (10, .class_ 60), (0, u "java/lang/CharSequence$1CharIterator"), (5, .class_ 67), (0, u "java/lang/Object")] 63

/-- java/lang/CharSequence -/
def k6 : Class := { plain "java/lang/CharSequence" (some 0) with
  accessFlags := 1537
  interfaces := #[]
  cf := some (fileOf pool6 2 #[.nestMembers #[47, 59]] #[] 1537 66 #[] #[])
  fields := #[]
  methods := #[]
  instanceTypes := #[]
  staticTypes := #[]
  resolved := Array.replicate 131 none
  statics := none }

def pool7 : Array CpInfo := pool [(1, .class_ 2), (0, u "java/lang/constant/Constable"), (0, .class_ 4), (0, u "java/lang/Object")] 6

/-- java/lang/constant/Constable -/
def k7 : Class := { plain "java/lang/constant/Constable" (some 0) with
  accessFlags := 1537
  interfaces := #[]
  cf := some (fileOf pool7 1 #[] #[] 1537 3 #[] #[])
  fields := #[]
  methods := #[]
  instanceTypes := #[]
  staticTypes := #[]
  resolved := Array.replicate 11 none
  statics := none }

def pool8 : Array CpInfo := pool [(1, .class_ 2), (0, u "java/lang/constant/ConstantDesc"), (0, .class_ 4), (0, u "java/lang/Object")] 32

/-- java/lang/constant/ConstantDesc -/
def k8 : Class := { plain "java/lang/constant/ConstantDesc" (some 0) with
  accessFlags := 1537
  interfaces := #[]
  cf := some (fileOf pool8 1 #[] #[] 1537 3 #[] #[])
  fields := #[]
  methods := #[]
  instanceTypes := #[]
  staticTypes := #[]
  resolved := Array.replicate 37 none
  statics := none }

def pool9 : Array CpInfo := pool [(1, .methodref 2 3), (0, .class_ 4), (0, .nameAndType 5 6), (0, u "java/lang/Object"), (0, u "<init>"), (0, u "()V"), (2, .fieldref 10 11), (0, .class_ 12), (0, .nameAndType 13 14), (0, u "java/lang/String"), (0, u "value"), (0, u "[B"), (0, .fieldref 10 16), (0, .nameAndType 17 18), (0, u "coder"), (0, u "B"), (2, u "hash"), (0, u "I"), (2, u "hashIsZero"), (0, u "Z"), (0, .methodref 10 28), (0, .nameAndType 5 29), (0, u "([CIILjava/lang/Void;)V"), (8, .fieldref 10 39), (0, .nameAndType 40 26), (0, u "COMPACT_STRINGS"), (1, .class_ 44), (1, u "java/lang/StringUTF16"), (0, u "compress"), (1, .methodref 42 48), (0, .nameAndType 49 50), (0, u "coderFromArrayLen"), (0, u "([BI)B"), (91, u "()Z"), (34, .methodref 42 178), (0, .nameAndType 45 179), (0, u "([CII)[B"), (395, .class_ 576), (0, u "java/lang/CharSequence"), (22, u "CASE_INSENSITIVE_ORDER"), (0, u "Ljava/util/Comparator;"), (91, u "isEmpty"), (317, u "([C)V"), (90, u "serialPersistentFields"), (0, u "[Ljava/io/ObjectStreamField;"), (0, .class_ 1104), (0, u "java/lang/String$CaseInsensitiveComparator"), (1, .class_ 1107), (0, u "java/io/Serializable"), (0, .class_ 1109), (0, u "java/lang/Comparable"), (0, .class_ 1111), (0, u "java/lang/constant/Constable"), (0, .class_ 1113), (0, u "java/lang/constant/ConstantDesc"), (2, u "serialVersionUID"), (0, u "J"), (3, u "REPL"), (0, u "C"), (2, u "LATIN1"), (1, u "UTF16")] 323

def k9m0 : Method := { name := "<init>", desc := "()V", sig := { parameters := [], returnType := none }, accessFlags := 1, code := none }
def k9c1 : Code := { maxStack := 5, maxLocals := 2, code := jdk_42_method_3_code, exceptionTable := #[], attributes := #[] }
def k9m1 : Method := { name := "<init>", desc := "([C)V", sig := { parameters := [(.array .char)], returnType := none }, accessFlags := 1, code := some k9c1 }
def k9c2 : Code := { maxStack := 1, maxLocals := 1, code := jdk_42_method_55_code, exceptionTable := #[], attributes := #[] }
def k9m2 : Method := { name := "isEmpty", desc := "()Z", sig := { parameters := [], returnType := some .boolean }, accessFlags := 1, code := some k9c2 }
def k9c3 : Code := { maxStack := 4, maxLocals := 6, code := jdk_42_method_149_code, exceptionTable := #[], attributes := #[] }
def k9m3 : Method := { name := "<init>", desc := "([CIILjava/lang/Void;)V", sig := { parameters := [(.array .char), .int, .int, (.object "java/lang/Void")], returnType := none }, accessFlags := 2, code := some k9c3 }
/-- java/lang/String -/
def k9 : Class := { plain "java/lang/String" (some 0) with
  accessFlags := 49
  interfaces := #[4, 5, 6, 7, 8]
  cf := some (fileOf pool9 10 #[.nestMembers #[1103]] #[{ accessFlags := 1, nameIndex := 5, descriptorIndex := 6, attributes := #[] }, { accessFlags := 1, nameIndex := 5, descriptorIndex := 1010, attributes := #[] }, { accessFlags := 1, nameIndex := 692, descriptorIndex := 142, attributes := #[] }, { accessFlags := 2, nameIndex := 5, descriptorIndex := 29, attributes := #[] }] 49 2 #[1106, 1108, 575, 1110, 1112] #[{ accessFlags := 18, nameIndex := 13, descriptorIndex := 14, attributes := #[] }, { accessFlags := 18, nameIndex := 17, descriptorIndex := 18, attributes := #[] }, { accessFlags := 2, nameIndex := 21, descriptorIndex := 22, attributes := #[] }, { accessFlags := 2, nameIndex := 25, descriptorIndex := 26, attributes := #[] }, { accessFlags := 26, nameIndex := 1116, descriptorIndex := 1117, attributes := #[] }, { accessFlags := 24, nameIndex := 40, descriptorIndex := 26, attributes := #[] }, { accessFlags := 26, nameIndex := 1101, descriptorIndex := 1102, attributes := #[] }, { accessFlags := 26, nameIndex := 1121, descriptorIndex := 1122, attributes := #[] }, { accessFlags := 25, nameIndex := 599, descriptorIndex := 600, attributes := #[] }, { accessFlags := 24, nameIndex := 1125, descriptorIndex := 18, attributes := #[] }, { accessFlags := 24, nameIndex := 1127, descriptorIndex := 18, attributes := #[] }])
  fields := #[{ name := "value", type := (.array .byte), accessFlags := 18, slot := 0, constantValue := 0 }, { name := "coder", type := .byte, accessFlags := 18, slot := 1, constantValue := 0 }, { name := "hash", type := .int, accessFlags := 2, slot := 2, constantValue := 0 }, { name := "hashIsZero", type := .boolean, accessFlags := 2, slot := 3, constantValue := 0 }, { name := "serialVersionUID", type := .long, accessFlags := 26, slot := 0, constantValue := 0 }, { name := "COMPACT_STRINGS", type := .boolean, accessFlags := 24, slot := 1, constantValue := 0 }, { name := "serialPersistentFields", type := (.array (.object "java/io/ObjectStreamField")), accessFlags := 26, slot := 2, constantValue := 0 }, { name := "REPL", type := .char, accessFlags := 26, slot := 3, constantValue := 0 }, { name := "CASE_INSENSITIVE_ORDER", type := (.object "java/util/Comparator"), accessFlags := 25, slot := 4, constantValue := 0 }, { name := "LATIN1", type := .byte, accessFlags := 24, slot := 5, constantValue := 0 }, { name := "UTF16", type := .byte, accessFlags := 24, slot := 6, constantValue := 0 }]
  methods := #[k9m0, k9m1, k9m2, k9m3]
  instanceTypes := #[(.array .byte), .byte, .int, .boolean]
  staticTypes := #[.long, .boolean, (.array (.object "java/io/ObjectStreamField")), .char, (.object "java/util/Comparator"), .byte, .byte]
  resolved := Array.replicate 1451 none
  statics := some 0 }

def pool10 : Array CpInfo := pool [(6, .class_ 8), (1, u "java/lang/Object"), (0, u "<init>"), (0, u "()V"), (1, .class_ 14), (1, u "java/lang/StringUTF16"), (31, u "$assertionsDisabled"), (0, u "Z"), (13, u "HI_BYTE_SHIFT"), (0, u "I"), (2, u "LO_BYTE_SHIFT"), (49, .methodref 12 116), (0, .nameAndType 117 118), (0, u "compress"), (0, u "([CI[BII)I"), (3, u "([CII)[B"), (138, u "coderFromArrayLen"), (0, u "([BI)B"), (106, .class_ 371), (1, u "java/lang/StringUTF16$LinesSpliterator"), (58, u "MAX_LENGTH"), (196, .class_ 628), (0, u "java/lang/StringUTF16$CodePointsSpliterator"), (0, .class_ 630), (0, u "java/lang/StringUTF16$CharsSpliterator")] 4

def k10m0 : Method := { name := "<init>", desc := "()V", sig := { parameters := [], returnType := none }, accessFlags := 0, code := none }
def k10c1 : Code := { maxStack := 2, maxLocals := 2, code := jdk_52_method_15_code, exceptionTable := #[], attributes := #[] }
def k10m1 : Method := { name := "coderFromArrayLen", desc := "([BI)B", sig := { parameters := [(.array .byte), .int], returnType := some .byte }, accessFlags := 8, code := some k10c1 }
def k10c2 : Code := { maxStack := 5, maxLocals := 6, code := jdk_52_method_16_code, exceptionTable := #[], attributes := #[] }
def k10m2 : Method := { name := "compress", desc := "([CII)[B", sig := { parameters := [(.array .char), .int, .int], returnType := some (.array .byte) }, accessFlags := 9, code := some k10c2 }
def k10c3 : Code := { maxStack := 3, maxLocals := 7, code := jdk_52_method_21_code, exceptionTable := #[], attributes := #[] }
def k10m3 : Method := { name := "compress", desc := "([CI[BII)I", sig := { parameters := [(.array .char), .int, (.array .byte), .int, .int], returnType := some .int }, accessFlags := 9, code := some k10c3 }
/-- java/lang/StringUTF16 -/
def k10 : Class := { plain "java/lang/StringUTF16" (some 0) with
  accessFlags := 48
  interfaces := #[]
  cf := some (fileOf pool10 12 #[.nestMembers #[627, 629, 369]] #[{ accessFlags := 0, nameIndex := 9, descriptorIndex := 10, attributes := #[] }, { accessFlags := 8, nameIndex := 261, descriptorIndex := 262, attributes := #[] }, { accessFlags := 9, nameIndex := 117, descriptorIndex := 122, attributes := #[] }, { accessFlags := 9, nameIndex := 117, descriptorIndex := 118, attributes := #[] }] 48 6 #[] #[{ accessFlags := 26, nameIndex := 61, descriptorIndex := 62, attributes := #[] }, { accessFlags := 26, nameIndex := 65, descriptorIndex := 62, attributes := #[] }, { accessFlags := 24, nameIndex := 430, descriptorIndex := 62, attributes := #[] }, { accessFlags := 4120, nameIndex := 46, descriptorIndex := 47, attributes := #[] }])
  fields := #[{ name := "HI_BYTE_SHIFT", type := .int, accessFlags := 26, slot := 0, constantValue := 0 }, { name := "LO_BYTE_SHIFT", type := .int, accessFlags := 26, slot := 1, constantValue := 0 }, { name := "MAX_LENGTH", type := .int, accessFlags := 24, slot := 2, constantValue := 0 }, { name := "$assertionsDisabled", type := .boolean, accessFlags := 4120, slot := 3, constantValue := 0 }]
  methods := #[k10m0, k10m1, k10m2, k10m3]
  instanceTypes := #[]
  staticTypes := #[.int, .int, .int, .boolean]
  resolved := Array.replicate 635 none
  statics := none }

def pool11 : Array CpInfo := pool [(2, .class_ 4), (1, u "java/lang/Object"), (0, u "<init>"), (0, u "()V"), (35, .class_ 44), (1, u "java/util/Objects"), (0, u "requireNonNull"), (48, u "(Ljava/lang/Object;Ljava/lang/String;)Ljava/lang/Object;")] 89

def k11m0 : Method := { name := "<init>", desc := "()V", sig := { parameters := [], returnType := none }, accessFlags := 2, code := none }
def k11c1 : Code := { maxStack := 3, maxLocals := 2, code := jdk_31_method_11_code, exceptionTable := #[], attributes := #[] }
def k11m1 : Method := { name := "requireNonNull", desc := "(Ljava/lang/Object;Ljava/lang/String;)Ljava/lang/Object;", sig := { parameters := [(.object "java/lang/Object"), (.object "java/lang/String")], returnType := some (.object "java/lang/Object") }, accessFlags := 9, code := some k11c1 }
/-- java/util/Objects -/
def k11 : Class := { plain "java/util/Objects" (some 0) with
  accessFlags := 49
  interfaces := #[]
  cf := some (fileOf pool11 42 #[] #[{ accessFlags := 2, nameIndex := 5, descriptorIndex := 6, attributes := #[] }, { accessFlags := 9, nameIndex := 45, descriptorIndex := 94, attributes := #[] }] 49 2 #[] #[])
  fields := #[]
  methods := #[k11m0, k11m1]
  instanceTypes := #[]
  staticTypes := #[]
  resolved := Array.replicate 184 none
  statics := none }

def pool12 : Array CpInfo := pool [(1, .class_ 2), (0, u "java/lang/Cloneable"), (0, .class_ 4), (0, u "java/lang/Object")] 2

/-- java/lang/Cloneable -/
def k12 : Class := { plain "java/lang/Cloneable" (some 0) with
  accessFlags := 1537
  interfaces := #[]
  cf := some (fileOf pool12 1 #[] #[] 1537 3 #[] #[])
  fields := #[]
  methods := #[]
  instanceTypes := #[]
  staticTypes := #[]
  resolved := Array.replicate 7 none
  statics := none }

def pool13 : Array CpInfo := pool [(4, .class_ 6), (1, u "java/lang/Object"), (0, u "<init>"), (0, u "()V"), (5, .class_ 16), (1, u "java/lang/StringLatin1"), (104, u "$assertionsDisabled"), (0, u "Z"), (98, .class_ 223), (1, u "java/lang/StringLatin1$LinesSpliterator"), (166, .class_ 391), (0, u "java/lang/StringLatin1$CharsSpliterator")] 3

def k13m0 : Method := { name := "<init>", desc := "()V", sig := { parameters := [], returnType := none }, accessFlags := 0, code := none }
/-- java/lang/StringLatin1 -/
def k13 : Class := { plain "java/lang/StringLatin1" (some 0) with
  accessFlags := 48
  interfaces := #[]
  cf := some (fileOf pool13 14 #[.nestMembers #[390, 221]] #[{ accessFlags := 0, nameIndex := 7, descriptorIndex := 8, attributes := #[] }] 48 4 #[] #[{ accessFlags := 4120, nameIndex := 121, descriptorIndex := 122, attributes := #[] }])
  fields := #[{ name := "$assertionsDisabled", type := .boolean, accessFlags := 4120, slot := 0, constantValue := 0 }]
  methods := #[k13m0]
  instanceTypes := #[]
  staticTypes := #[.boolean]
  resolved := Array.replicate 395 none
  statics := none }

def pool14 : Array CpInfo := pool [(2, .class_ 4), (1, u "java/lang/Object"), (0, u "<init>"), (0, u "()V"), (17, .class_ 26), (1, u "jdk/internal/util/Preconditions"), (28, .class_ 56), (0, u "jdk/internal/util/Preconditions$4"), (57, .class_ 115), (0, u "jdk/internal/util/Preconditions$1"), (7, u "SIOOBE_FORMATTER"), (0, u "Ljava/util/function/BiFunction;"), (0, .class_ 126), (0, u "jdk/internal/util/Preconditions$2"), (3, u "AIOOBE_FORMATTER"), (0, .class_ 132), (0, u "jdk/internal/util/Preconditions$3"), (3, u "IOOBE_FORMATTER")] 57

def k14m0 : Method := { name := "<init>", desc := "()V", sig := { parameters := [], returnType := none }, accessFlags := 1, code := none }
/-- jdk/internal/util/Preconditions -/
def k14 : Class := { plain "jdk/internal/util/Preconditions" (some 0) with
  accessFlags := 33
  interfaces := #[]
  cf := some (fileOf pool14 24 #[.nestMembers #[55, 131, 125, 114]] #[{ accessFlags := 1, nameIndex := 5, descriptorIndex := 6, attributes := #[] }] 33 2 #[] #[{ accessFlags := 25, nameIndex := 123, descriptorIndex := 124, attributes := #[] }, { accessFlags := 25, nameIndex := 130, descriptorIndex := 124, attributes := #[] }, { accessFlags := 25, nameIndex := 136, descriptorIndex := 124, attributes := #[] }])
  fields := #[{ name := "SIOOBE_FORMATTER", type := (.object "java/util/function/BiFunction"), accessFlags := 25, slot := 0, constantValue := 0 }, { name := "AIOOBE_FORMATTER", type := (.object "java/util/function/BiFunction"), accessFlags := 25, slot := 1, constantValue := 0 }, { name := "IOOBE_FORMATTER", type := (.object "java/util/function/BiFunction"), accessFlags := 25, slot := 2, constantValue := 0 }]
  methods := #[k14m0]
  instanceTypes := #[]
  staticTypes := #[(.object "java/util/function/BiFunction"), (.object "java/util/function/BiFunction"), (.object "java/util/function/BiFunction")]
  resolved := Array.replicate 194 none
  statics := some 1 }

def pool15 : Array CpInfo := pool [(9, u "<init>"), (6, .class_ 18), (1, u "java/lang/Object"), (0, u "()V"), (1, .class_ 23), (1, u "jdk/internal/util/ArraysSupport"), (0, u "LOG2_ARRAY_LONG_INDEX_SCALE"), (0, u "I"), (2, u "U"), (0, u "Ljdk/internal/misc/Unsafe;"), (8, u "BIG_ENDIAN"), (0, u "Z"), (8, u "LOG2_BYTE_BIT_SIZE"), (4, u "LOG2_ARRAY_INT_INDEX_SCALE"), (54, u "JLA"), (0, u "Ljdk/internal/access/JavaLangAccess;"), (11, u "LOG2_ARRAY_BOOLEAN_INDEX_SCALE"), (9, u "LOG2_ARRAY_BYTE_INDEX_SCALE"), (5, u "LOG2_ARRAY_CHAR_INDEX_SCALE"), (5, u "LOG2_ARRAY_SHORT_INDEX_SCALE"), (18, u "LOG2_ARRAY_FLOAT_INDEX_SCALE"), (24, u "LOG2_ARRAY_DOUBLE_INDEX_SCALE"), (89, u "T_BOOLEAN"), (2, u "T_CHAR"), (1, u "T_FLOAT"), (1, u "T_DOUBLE"), (1, u "T_BYTE"), (1, u "T_SHORT"), (1, u "T_INT"), (1, u "T_LONG"), (1, u "SOFT_MAX_ARRAY_LENGTH")] 83

def k15m0 : Method := { name := "<init>", desc := "()V", sig := { parameters := [], returnType := none }, accessFlags := 2, code := none }
/-- jdk/internal/util/ArraysSupport -/
def k15 : Class := { plain "jdk/internal/util/ArraysSupport" (some 0) with
  accessFlags := 33
  interfaces := #[]
  cf := some (fileOf pool15 21 #[] #[{ accessFlags := 2, nameIndex := 9, descriptorIndex := 19, attributes := #[] }] 33 16 #[] #[{ accessFlags := 24, nameIndex := 28, descriptorIndex := 29, attributes := #[] }, { accessFlags := 26, nameIndex := 38, descriptorIndex := 39, attributes := #[] }, { accessFlags := 25, nameIndex := 121, descriptorIndex := 25, attributes := #[] }, { accessFlags := 25, nameIndex := 131, descriptorIndex := 25, attributes := #[] }, { accessFlags := 25, nameIndex := 137, descriptorIndex := 25, attributes := #[] }, { accessFlags := 25, nameIndex := 143, descriptorIndex := 25, attributes := #[] }, { accessFlags := 25, nameIndex := 53, descriptorIndex := 25, attributes := #[] }, { accessFlags := 25, nameIndex := 24, descriptorIndex := 25, attributes := #[] }, { accessFlags := 25, nameIndex := 162, descriptorIndex := 25, attributes := #[] }, { accessFlags := 25, nameIndex := 187, descriptorIndex := 25, attributes := #[] }, { accessFlags := 26, nameIndex := 48, descriptorIndex := 25, attributes := #[] }, { accessFlags := 25, nameIndex := 277, descriptorIndex := 25, attributes := #[] }, { accessFlags := 25, nameIndex := 280, descriptorIndex := 25, attributes := #[] }, { accessFlags := 25, nameIndex := 282, descriptorIndex := 25, attributes := #[] }, { accessFlags := 25, nameIndex := 284, descriptorIndex := 25, attributes := #[] }, { accessFlags := 25, nameIndex := 286, descriptorIndex := 25, attributes := #[] }, { accessFlags := 25, nameIndex := 288, descriptorIndex := 25, attributes := #[] }, { accessFlags := 25, nameIndex := 290, descriptorIndex := 25, attributes := #[] }, { accessFlags := 25, nameIndex := 292, descriptorIndex := 25, attributes := #[] }, { accessFlags := 26, nameIndex := 108, descriptorIndex := 109, attributes := #[] }, { accessFlags := 25, nameIndex := 294, descriptorIndex := 25, attributes := #[] }])
  fields := #[{ name := "U", type := (.object "jdk/internal/misc/Unsafe"), accessFlags := 24, slot := 0, constantValue := 0 }, { name := "BIG_ENDIAN", type := .boolean, accessFlags := 26, slot := 1, constantValue := 0 }, { name := "LOG2_ARRAY_BOOLEAN_INDEX_SCALE", type := .int, accessFlags := 25, slot := 2, constantValue := 0 }, { name := "LOG2_ARRAY_BYTE_INDEX_SCALE", type := .int, accessFlags := 25, slot := 3, constantValue := 0 }, { name := "LOG2_ARRAY_CHAR_INDEX_SCALE", type := .int, accessFlags := 25, slot := 4, constantValue := 0 }, { name := "LOG2_ARRAY_SHORT_INDEX_SCALE", type := .int, accessFlags := 25, slot := 5, constantValue := 0 }, { name := "LOG2_ARRAY_INT_INDEX_SCALE", type := .int, accessFlags := 25, slot := 6, constantValue := 0 }, { name := "LOG2_ARRAY_LONG_INDEX_SCALE", type := .int, accessFlags := 25, slot := 7, constantValue := 0 }, { name := "LOG2_ARRAY_FLOAT_INDEX_SCALE", type := .int, accessFlags := 25, slot := 8, constantValue := 0 }, { name := "LOG2_ARRAY_DOUBLE_INDEX_SCALE", type := .int, accessFlags := 25, slot := 9, constantValue := 0 }, { name := "LOG2_BYTE_BIT_SIZE", type := .int, accessFlags := 26, slot := 10, constantValue := 0 }, { name := "T_BOOLEAN", type := .int, accessFlags := 25, slot := 11, constantValue := 0 }, { name := "T_CHAR", type := .int, accessFlags := 25, slot := 12, constantValue := 0 }, { name := "T_FLOAT", type := .int, accessFlags := 25, slot := 13, constantValue := 0 }, { name := "T_DOUBLE", type := .int, accessFlags := 25, slot := 14, constantValue := 0 }, { name := "T_BYTE", type := .int, accessFlags := 25, slot := 15, constantValue := 0 }, { name := "T_SHORT", type := .int, accessFlags := 25, slot := 16, constantValue := 0 }, { name := "T_INT", type := .int, accessFlags := 25, slot := 17, constantValue := 0 }, { name := "T_LONG", type := .int, accessFlags := 25, slot := 18, constantValue := 0 }, { name := "JLA", type := (.object "jdk/internal/access/JavaLangAccess"), accessFlags := 26, slot := 19, constantValue := 0 }, { name := "SOFT_MAX_ARRAY_LENGTH", type := .int, accessFlags := 25, slot := 20, constantValue := 0 }]
  methods := #[k15m0]
  instanceTypes := #[]
  staticTypes := #[(.object "jdk/internal/misc/Unsafe"), .boolean, .int, .int, .int, .int, .int, .int, .int, .int, .int, .int, .int, .int, .int, .int, .int, .int, .int, (.object "jdk/internal/access/JavaLangAccess"), .int]
  resolved := Array.replicate 378 none
  statics := none }

/-- the primitive byte -/
def k16 : Class := { plain "byte" none with kind := .primitive 'B', accessFlags := 0x411 }
/-- [B -/
def k17 : Class := { plain "[B" (some 0) with kind := .array 16 .byte, interfaces := #[12, 4], accessFlags := 1041 }

/-- the primitive char -/
def k18 : Class := { plain "char" none with kind := .primitive 'C', accessFlags := 0x411 }
/-- [C -/
def k19 : Class := { plain "[C" (some 0) with kind := .array 18 .char, interfaces := #[12, 4], accessFlags := 1041 }

/-- the primitive int -/
def k20 : Class := { plain "int" none with kind := .primitive 'I', accessFlags := 0x411 }
/-- [I -/
def k21 : Class := { plain "[I" (some 0) with kind := .array 20 .int, interfaces := #[12, 4], accessFlags := 1041 }

def heap : Heap := #[{ cls := 9, slots := #[.long 0, .int 1, .null, .int 0, .null, .int 0, .int 0], vm := .statics 9 },
  { cls := 14, slots := #[.null, .null, .null], vm := .statics 14 }]
def classes : Array Class := #[k0, k1, k2, k3, k4, k5, k6, k7, k8, k9, k10, k11, k12, k13, k14, k15, k16, k17, k18, k19, k20, k21]
def interned : List (Array UInt16 × Addr) := []
def slotsUsed : Nat := 10
def theMethod : MethodId := ⟨1, 1⟩
def args0 : Array Value := #[.int 5, .int 5, .int 5, .int 5, .int 5]
def aboutOver (below : List Frame) : State where
  vm := { classes := classes, interned := interned.toArray }
  heap := heap
  slotsUsed := slotsUsed
  threads := #[{ frames := .invoking theMethod args0 :: below }]
def below0 : List Frame := [.native { method := ⟨0, 0⟩, args := #[] }]
def about1 : State := aboutOver below0
def p0 : Program := .bare "" "" ""
def e0 : Env := launch0.env 0 0 0
theorem w_frames : about1.frames = Frame.invoking theMethod args0 :: below0 := rfl
set_option maxRecDepth 65536 in
theorem w_args : argsFit about1.vm theMethod args0 = true := by decide +kernel
set_option maxRecDepth 65536 in
theorem w_heap : heapFits about1 = true := by decide +kernel
set_option maxRecDepth 65536 in
theorem w_runnable : about1.curStatus? = some .runnable := by decide +kernel
set_option maxRecDepth 65536 in
theorem w_alone : about1.alone = true := by decide +kernel
set_option maxRecDepth 65536 in
theorem w_named : about1.methodNamed? x = some theMethod := by decide +kernel
set_option maxRecDepth 65536 in
theorem w_hears : about1.hears theMethod below0 = true := by decide +kernel
set_option maxRecDepth 65536 in
theorem w_ripe : about1.ripe theMethod args0 below0 = true := by decide +kernel
theorem w_running : about1.status = .running := rfl
set_option maxRecDepth 65536 in
theorem w_room : about1.hasRoom e0.platform room_1 = true :=
  launch0.hasRoom_least _ room_1 (by decide +kernel) (by decide +kernel) (by decide +kernel) (by decide +kernel) (by decide +kernel) (by decide +kernel)
theorem allAtoms_all (ts : List Jvm.Cond) (a : Array Jvm.Value) (st : Jvm.State) : (allAtoms ts).before a st = ts.all (fun c => c.before a st) := by
  induction ts with
  | nil => rfl
  | cons c t ih =>
    show (Jvm.Cond.and c (allAtoms t)).before a st = _
    rw [Jvm.Cond.before_and, ih, List.all_cons]
def words1 : List Jvm.Cond := Jvm.Cond.code x code maxLocals ret :: tables_1
/-- a 'code' word, met by the world's own term for the bytes: nothing is compared byte by byte -/
theorem code_word {y : MethodName} {bytes : ByteArray} {mx : Nat} {rt : Option FieldType} {a : Array Value} {s : State} {m : MethodId} {meth : Method} {c : Code} (h1 : s.methodNamed? y = some m) (h2 : s.vm.method? m = some meth) (h3 : meth.code = some c) (h4 : c.code = bytes)
    (h5 : (c.maxLocals == mx && c.exceptionTable.isEmpty && decide (c.maxStack ≤ mostOperands) && decide (meth.sig.returnType = rt) && !meth.locks && decide (parseMethodDescriptor y.desc = some meth.sig)) = true) : (Jvm.Cond.code y bytes mx rt).before a s = true := by
  simp only [Bool.and_eq_true, beq_iff_eq, Bool.not_eq_true', decide_eq_true_eq] at h5
  obtain ⟨⟨⟨⟨⟨g1, g2⟩, g3⟩, g4⟩, g5⟩, g6⟩ := h5
  simp [Cond.before, Cond.holds, Cond.value, h1, h2, h3, h4, g1, g2, g3, g4, g5, g6]
def isCode : Jvm.Cond → Bool
  | .code _ _ _ _ => true
  | _ => false
theorem all_split {L : List Jvm.Cond} {P : Jvm.Cond → Bool} (h1 : L.all (fun c => isCode c || P c) = true) (h2 : ∀ c ∈ L.filter isCode, P c = true) : L.all P = true := by
  refine List.all_eq_true.mpr fun c hc => ?_
  have h := List.all_eq_true.mp h1 c hc
  rcases Bool.eq_false_or_eq_true (isCode c) with hi | hi
  · exact h2 c (List.mem_filter.mpr ⟨hc, hi⟩)
  · simpa [hi] using h
set_option maxRecDepth 65536 in
theorem w_c0 : (Jvm.Cond.code x code maxLocals ret).before args0 about1 = true := code_word (m := ⟨1, 1⟩) (meth := k1m1) (c := k1c1) (by decide +kernel) rfl rfl rfl (by decide +kernel)
set_option maxRecDepth 65536 in
theorem w_c1 : (Jvm.Cond.code ({ cls := "java/lang/String", name := "<init>", desc := "([C)V" } : Jvm.MethodName) jdk_42_method_3_code (2 : Nat) (Option.none : Option Jvm.ClassFile.FieldType)).before args0 about1 = true := code_word (m := ⟨9, 1⟩) (meth := k9m1) (c := k9c1) (by decide +kernel) rfl rfl rfl (by decide +kernel)
set_option maxRecDepth 65536 in
theorem w_c2 : (Jvm.Cond.code ({ cls := "java/lang/String", name := "<init>", desc := "([CIILjava/lang/Void;)V" } : Jvm.MethodName) jdk_42_method_149_code (6 : Nat) (Option.none : Option Jvm.ClassFile.FieldType)).before args0 about1 = true := code_word (m := ⟨9, 3⟩) (meth := k9m3) (c := k9c3) (by decide +kernel) rfl rfl rfl (by decide +kernel)
set_option maxRecDepth 65536 in
theorem w_c3 : (Jvm.Cond.code ({ cls := "java/lang/Object", name := "<init>", desc := "()V" } : Jvm.MethodName) object_method_1_code (1 : Nat) (Option.none : Option Jvm.ClassFile.FieldType)).before args0 about1 = true := code_word (m := ⟨0, 0⟩) (meth := k0m0) (c := k0c0) (by decide +kernel) rfl rfl rfl (by decide +kernel)
set_option maxRecDepth 65536 in
theorem w_c4 : (Jvm.Cond.code ({ cls := "java/lang/StringUTF16", name := "compress", desc := "([CII)[B" } : Jvm.MethodName) jdk_52_method_16_code (6 : Nat) (Option.some (Jvm.ClassFile.FieldType.array Jvm.ClassFile.FieldType.byte))).before args0 about1 = true := code_word (m := ⟨10, 2⟩) (meth := k10m2) (c := k10c2) (by decide +kernel) rfl rfl rfl (by decide +kernel)
set_option maxRecDepth 65536 in
theorem w_c5 : (Jvm.Cond.code ({ cls := "java/lang/StringUTF16", name := "compress", desc := "([CI[BII)I" } : Jvm.MethodName) jdk_52_method_21_code (7 : Nat) (Option.some Jvm.ClassFile.FieldType.int)).before args0 about1 = true := code_word (m := ⟨10, 3⟩) (meth := k10m3) (c := k10c3) (by decide +kernel) rfl rfl rfl (by decide +kernel)
set_option maxRecDepth 65536 in
theorem w_c6 : (Jvm.Cond.code ({ cls := "java/lang/StringUTF16", name := "coderFromArrayLen", desc := "([BI)B" } : Jvm.MethodName) jdk_52_method_15_code (2 : Nat) (Option.some Jvm.ClassFile.FieldType.byte)).before args0 about1 = true := code_word (m := ⟨10, 1⟩) (meth := k10m1) (c := k10c1) (by decide +kernel) rfl rfl rfl (by decide +kernel)
set_option maxRecDepth 65536 in
theorem w_c7 : (Jvm.Cond.code ({ cls := "com/example/valentia/valentia/state/Update", name := "<init>", desc := "(Ljava/lang/String;[B)V" } : Jvm.MethodName) prog_62_method_1_code (3 : Nat) (Option.none : Option Jvm.ClassFile.FieldType)).before args0 about1 = true := code_word (m := ⟨3, 0⟩) (meth := k3m0) (c := k3c0) (by decide +kernel) rfl rfl rfl (by decide +kernel)
set_option maxRecDepth 65536 in
theorem w_c8 : (Jvm.Cond.code ({ cls := "java/lang/Record", name := "<init>", desc := "()V" } : Jvm.MethodName) jdk_30_method_1_code (1 : Nat) (Option.none : Option Jvm.ClassFile.FieldType)).before args0 about1 = true := code_word (m := ⟨2, 0⟩) (meth := k2m0) (c := k2c0) (by decide +kernel) rfl rfl rfl (by decide +kernel)
set_option maxRecDepth 65536 in
theorem w_c9 : (Jvm.Cond.code ({ cls := "java/util/Objects", name := "requireNonNull", desc := "(Ljava/lang/Object;Ljava/lang/String;)Ljava/lang/Object;" } : Jvm.MethodName) jdk_31_method_11_code (2 : Nat) (Option.some (Jvm.ClassFile.FieldType.object "java/lang/Object"))).before args0 about1 = true := code_word (m := ⟨11, 1⟩) (meth := k11m1) (c := k11c1) (by decide +kernel) rfl rfl rfl (by decide +kernel)
set_option maxRecDepth 65536 in
theorem w_c10 : (Jvm.Cond.code ({ cls := "java/lang/String", name := "isEmpty", desc := "()Z" } : Jvm.MethodName) jdk_42_method_55_code (1 : Nat) (Option.some Jvm.ClassFile.FieldType.boolean)).before args0 about1 = true := code_word (m := ⟨9, 2⟩) (meth := k9m2) (c := k9c2) (by decide +kernel) rfl rfl rfl (by decide +kernel)
set_option maxRecDepth 65536 in
theorem w_c11 : (Jvm.Cond.code ({ cls := "com/example/valentia/valentia/state/Update", name := "isDeletion", desc := "()Z" } : Jvm.MethodName) prog_62_method_4_code (1 : Nat) (Option.some Jvm.ClassFile.FieldType.boolean)).before args0 about1 = true := code_word (m := ⟨3, 1⟩) (meth := k3m1) (c := k3c1) (by decide +kernel) rfl rfl rfl (by decide +kernel)
def codes1 : List Jvm.Cond := [Jvm.Cond.code x code maxLocals ret, Jvm.Cond.code ({ cls := "java/lang/String", name := "<init>", desc := "([C)V" } : Jvm.MethodName) jdk_42_method_3_code (2 : Nat) (Option.none : Option Jvm.ClassFile.FieldType), Jvm.Cond.code ({ cls := "java/lang/String", name := "<init>", desc := "([CIILjava/lang/Void;)V" } : Jvm.MethodName) jdk_42_method_149_code (6 : Nat) (Option.none : Option Jvm.ClassFile.FieldType), Jvm.Cond.code ({ cls := "java/lang/Object", name := "<init>", desc := "()V" } : Jvm.MethodName) object_method_1_code (1 : Nat) (Option.none : Option Jvm.ClassFile.FieldType), Jvm.Cond.code ({ cls := "java/lang/StringUTF16", name := "compress", desc := "([CII)[B" } : Jvm.MethodName) jdk_52_method_16_code (6 : Nat) (Option.some (Jvm.ClassFile.FieldType.array Jvm.ClassFile.FieldType.byte)), Jvm.Cond.code ({ cls := "java/lang/StringUTF16", name := "compress", desc := "([CI[BII)I" } : Jvm.MethodName) jdk_52_method_21_code (7 : Nat) (Option.some Jvm.ClassFile.FieldType.int), Jvm.Cond.code ({ cls := "java/lang/StringUTF16", name := "coderFromArrayLen", desc := "([BI)B" } : Jvm.MethodName) jdk_52_method_15_code (2 : Nat) (Option.some Jvm.ClassFile.FieldType.byte), Jvm.Cond.code ({ cls := "com/example/valentia/valentia/state/Update", name := "<init>", desc := "(Ljava/lang/String;[B)V" } : Jvm.MethodName) prog_62_method_1_code (3 : Nat) (Option.none : Option Jvm.ClassFile.FieldType), Jvm.Cond.code ({ cls := "java/lang/Record", name := "<init>", desc := "()V" } : Jvm.MethodName) jdk_30_method_1_code (1 : Nat) (Option.none : Option Jvm.ClassFile.FieldType), Jvm.Cond.code ({ cls := "java/util/Objects", name := "requireNonNull", desc := "(Ljava/lang/Object;Ljava/lang/String;)Ljava/lang/Object;" } : Jvm.MethodName) jdk_31_method_11_code (2 : Nat) (Option.some (Jvm.ClassFile.FieldType.object "java/lang/Object")), Jvm.Cond.code ({ cls := "java/lang/String", name := "isEmpty", desc := "()Z" } : Jvm.MethodName) jdk_42_method_55_code (1 : Nat) (Option.some Jvm.ClassFile.FieldType.boolean), Jvm.Cond.code ({ cls := "com/example/valentia/valentia/state/Update", name := "isDeletion", desc := "()Z" } : Jvm.MethodName) prog_62_method_4_code (1 : Nat) (Option.some Jvm.ClassFile.FieldType.boolean)]
set_option maxRecDepth 65536 in
theorem codes_eq : words1.filter isCode = codes1 := rfl
theorem w_codes : ∀ c ∈ words1.filter isCode, c.before args0 about1 = true := by
  rw [codes_eq]
  intro c hc
  simp only [codes1, List.mem_cons, List.not_mem_nil, or_false] at hc
  rcases hc with rfl | rfl | rfl | rfl | rfl | rfl | rfl | rfl | rfl | rfl | rfl | rfl
  · exact w_c0
  · exact w_c1
  · exact w_c2
  · exact w_c3
  · exact w_c4
  · exact w_c5
  · exact w_c6
  · exact w_c7
  · exact w_c8
  · exact w_c9
  · exact w_c10
  · exact w_c11
set_option maxRecDepth 65536 in
theorem w_t1 : (words1.take 24).all (fun c => isCode c || c.before args0 about1) = true := by decide +kernel
set_option maxRecDepth 65536 in
theorem w_t2 : ((words1.drop 24).take 24).all (fun c => isCode c || c.before args0 about1) = true := by decide +kernel
set_option maxRecDepth 65536 in
theorem w_t3 : (((words1.drop 24).drop 24).take 24).all (fun c => isCode c || c.before args0 about1) = true := by decide +kernel
set_option maxRecDepth 65536 in
theorem w_t4 : (((words1.drop 24).drop 24).drop 24).all (fun c => isCode c || c.before args0 about1) = true := by decide +kernel
theorem w_tables : (allAtoms (Jvm.Cond.code x code maxLocals ret :: tables_1)).before args0 about1 = true := by
  rw [allAtoms_all]
  show words1.all (fun c => c.before args0 about1) = true
  refine all_split ?_ w_codes
  rw [← List.take_append_drop 24 words1, List.all_append, w_t1, ← List.take_append_drop 24 (words1.drop 24), List.all_append, w_t2, ← List.take_append_drop 24 ((words1.drop 24).drop 24), List.all_append, w_t3, w_t4]
  rfl
set_option maxRecDepth 65536 in
theorem w_rest : rest_1_c.before args0 about1 = true := by decide +kernel
set_option maxRecDepth 65536 in
theorem w_case : (Jvm.Cond.and given_1 narrow_1).before args0 about1 = true := by decide +kernel
theorem w_applies : (headSpec (Jvm.Cond.code x code maxLocals ret :: tables_1) room_1).applies x e0.platform about1 = true :=
  (Spec.applies_iff w_frames).mpr ⟨w_running, w_runnable, w_alone, w_named, w_hears, w_ripe, w_room, w_tables⟩
theorem atStart : AtStart classFile x code maxLocals ret World_1 tables_1 room_1 Calls_1 rest_1 Pre_1 launch0 p0 e0 about1 theMethod args0 below0 :=
  ⟨lists_1, trivial, launch0.admits_env _ _ _, launch0.least_env, fairChoices_fair.cas, fairChoices_fair.clock, w_frames, w_args, w_heap, w_applies, trivial, w_rest, w_case⟩
end start1
theorem witness_1 : WitnessClaimed_1 := ⟨start1.p0, start1.e0, start1.about1, start1.theMethod, start1.args0, start1.below0, start1.atStart⟩
end Jvm.Pilot.@@N@@
