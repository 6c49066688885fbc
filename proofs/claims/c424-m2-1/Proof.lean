import JvmDerived
import JvmDerived.Pilot.@@N@@Statement
import JvmDerived.Pilot.@@N@@Code
set_option linter.unusedVariables false
set_option linter.unusedSimpArgs false
namespace Jvm.Pilot.@@N@@
open Jvm Jvm.ClassFile Sem Op Lib Jvm.Free Jvm.Stand Jvm.LawKit Jvm.RoadKit Bundle Jvm.Pilot.@@N@@.Jvm.D
def own_Q (r : Option Value) (h0 : Heap) (n0 : Nat) (v : Option Value) (h : Heap) (L : List Loc) : Prop := v = r ∧ Fr n0 L ∧ h = h0
def own_R (r : Option Value) (n0 : Nat) (v : Option Value) (h : Heap) (L : List Loc) : Prop := v = r ∧ Fr n0 L
theorem own_fld {s : State} {args : Array Value} {t : Term} {a : Addr} {C n d : String} {k : Int32} (ev : t.eval args s none [] s = some (.ref a)) (h : (Jvm.Cond.eq (Jvm.Term.field t C n d) (Jvm.Term.int k)).value args s none s [] = some true) : Fld s s.heap a C n d (.int k) := by
  obtain ⟨x, y, hx, hy, hk, hk'⟩ := cmp_v (Or.inl h)
  have hy' : y = .int k := (Option.some.inj hy).symm
  subst hy'
  obtain ⟨z, rfl⟩ := hk'
  have e : z = k := by simpa [Cond.value, hx, hy] using h
  subst e
  exact Fld.start (by rw [← fld_at ev]; exact hx)
theorem own_nefld {Z : State} {h : Heap} {a b : Addr} {C n d : String} {v w : Value} (F : Fld Z h a C n d v) (G : Fld Z h b C n d w) (q : v ≠ w) : a ≠ b := fun e => by
  subst e
  obtain ⟨c1, f1, k1, i1, g1, a1, a2, a3, a4, a5, a6, a7⟩ := F
  obtain ⟨c2, f2, k2, i2, g2, b1, b2, b3, b4, b5, b6, b7⟩ := G
  cases a1.symm.trans b1
  cases a2.symm.trans b2
  exact q (Option.some.inj (a7.symm.trans b7))
def own_G (Z : State) (w_BOOLEAN w_INT8 w_INT16 w_INT32 w_INT64 w_STRING w_BYTES w_RECORDS w_ARRAY : Addr) : Prop := Sta Z Z.heap "com/example/strict_wire/strictwire/wire/FieldType" "BOOLEAN" "Lcom/example/strict_wire/strictwire/wire/FieldType;" (.ref w_BOOLEAN) ∧ Exa Z Z.heap w_BOOLEAN "com/example/strict_wire/strictwire/wire/FieldType" ∧ Sta Z Z.heap "com/example/strict_wire/strictwire/wire/FieldType" "INT8" "Lcom/example/strict_wire/strictwire/wire/FieldType;" (.ref w_INT8) ∧ Exa Z Z.heap w_INT8 "com/example/strict_wire/strictwire/wire/FieldType" ∧ Sta Z Z.heap "com/example/strict_wire/strictwire/wire/FieldType" "INT16" "Lcom/example/strict_wire/strictwire/wire/FieldType;" (.ref w_INT16) ∧ Exa Z Z.heap w_INT16 "com/example/strict_wire/strictwire/wire/FieldType" ∧ Sta Z Z.heap "com/example/strict_wire/strictwire/wire/FieldType" "INT32" "Lcom/example/strict_wire/strictwire/wire/FieldType;" (.ref w_INT32) ∧ Exa Z Z.heap w_INT32 "com/example/strict_wire/strictwire/wire/FieldType" ∧ Sta Z Z.heap "com/example/strict_wire/strictwire/wire/FieldType" "INT64" "Lcom/example/strict_wire/strictwire/wire/FieldType;" (.ref w_INT64) ∧ Exa Z Z.heap w_INT64 "com/example/strict_wire/strictwire/wire/FieldType" ∧ Sta Z Z.heap "com/example/strict_wire/strictwire/wire/FieldType" "STRING" "Lcom/example/strict_wire/strictwire/wire/FieldType;" (.ref w_STRING) ∧ Exa Z Z.heap w_STRING "com/example/strict_wire/strictwire/wire/FieldType" ∧ Sta Z Z.heap "com/example/strict_wire/strictwire/wire/FieldType" "BYTES" "Lcom/example/strict_wire/strictwire/wire/FieldType;" (.ref w_BYTES) ∧ Exa Z Z.heap w_BYTES "com/example/strict_wire/strictwire/wire/FieldType" ∧ Sta Z Z.heap "com/example/strict_wire/strictwire/wire/FieldType" "RECORDS" "Lcom/example/strict_wire/strictwire/wire/FieldType;" (.ref w_RECORDS) ∧ Exa Z Z.heap w_RECORDS "com/example/strict_wire/strictwire/wire/FieldType" ∧ Sta Z Z.heap "com/example/strict_wire/strictwire/wire/FieldType" "ARRAY" "Lcom/example/strict_wire/strictwire/wire/FieldType;" (.ref w_ARRAY) ∧ Exa Z Z.heap w_ARRAY "com/example/strict_wire/strictwire/wire/FieldType" ∧ Fld Z Z.heap w_BOOLEAN "java/lang/Enum" "ordinal" "I" (.int (0 : Int32)) ∧ Fld Z Z.heap w_INT8 "java/lang/Enum" "ordinal" "I" (.int (1 : Int32)) ∧ Fld Z Z.heap w_INT16 "java/lang/Enum" "ordinal" "I" (.int (2 : Int32)) ∧ Fld Z Z.heap w_INT32 "java/lang/Enum" "ordinal" "I" (.int (3 : Int32)) ∧ Fld Z Z.heap w_INT64 "java/lang/Enum" "ordinal" "I" (.int (4 : Int32)) ∧ Fld Z Z.heap w_RECORDS "java/lang/Enum" "ordinal" "I" (.int (7 : Int32)) ∧ Fld Z Z.heap w_ARRAY "java/lang/Enum" "ordinal" "I" (.int (8 : Int32)) ∧ Fld Z Z.heap w_BYTES "java/lang/Enum" "ordinal" "I" (.int (6 : Int32)) ∧ Fld Z Z.heap w_STRING "java/lang/Enum" "ordinal" "I" (.int (5 : Int32))
theorem pn_0 : plainName "com/example/strict_wire/strictwire/wire/FieldType" = true := by first | (simp [plainName, overriddenIn]; done) | decide +kernel
theorem ef_rm1 (m : MethodId) (x0 : Addr) : entryFrame m #[(.ref x0)] 1 = mkF m 0 #[.val (.ref x0)] [] := by first | (simp [entryFrame, mkF, argsToLocals, Value.category]; done) | rfl
theorem d1_0 : decode prog_43_method_6_code 0 = .ok (.aload_n 0, 1) := by decide +kernel
theorem d1_1 : decode prog_43_method_6_code 1 = .ok (.getstatic 7, 3) := by decide +kernel
theorem d1_4 : decode prog_43_method_6_code 4 = .ok (.if_acmp .eq 24, 3) := by decide +kernel
theorem d1_28 : decode prog_43_method_6_code 28 = .ok (.iconst 1, 1) := by decide +kernel
theorem d1_29 : decode prog_43_method_6_code 29 = .ok (.goto 4, 3) := by decide +kernel
theorem d1_33 : decode prog_43_method_6_code 33 = .ok (.ireturn, 1) := by decide +kernel
theorem d1_7 : decode prog_43_method_6_code 7 = .ok (.aload_n 0, 1) := by decide +kernel
theorem d1_8 : decode prog_43_method_6_code 8 = .ok (.getstatic 10, 3) := by decide +kernel
theorem d1_11 : decode prog_43_method_6_code 11 = .ok (.if_acmp .eq 17, 3) := by decide +kernel
theorem d1_14 : decode prog_43_method_6_code 14 = .ok (.aload_n 0, 1) := by decide +kernel
theorem d1_15 : decode prog_43_method_6_code 15 = .ok (.getstatic 13, 3) := by decide +kernel
theorem d1_18 : decode prog_43_method_6_code 18 = .ok (.if_acmp .eq 10, 3) := by decide +kernel
theorem d1_21 : decode prog_43_method_6_code 21 = .ok (.aload_n 0, 1) := by decide +kernel
theorem d1_22 : decode prog_43_method_6_code 22 = .ok (.getstatic 16, 3) := by decide +kernel
theorem d1_25 : decode prog_43_method_6_code 25 = .ok (.if_acmp .ne 7, 3) := by decide +kernel
theorem d1_32 : decode prog_43_method_6_code 32 = .ok (.iconst 0, 1) := by decide +kernel
def own_f1 (r0 : Addr) (w_BOOLEAN w_INT8 w_INT16 w_INT32 w_INT64 w_STRING w_BYTES w_RECORDS w_ARRAY : Addr) : Int32 := (if r0 = w_INT8 then (1 : Int32) else (if r0 = w_INT16 then (1 : Int32) else (if r0 = w_INT32 then (1 : Int32) else (if r0 = w_INT64 then (1 : Int32) else (0 : Int32)))))
set_option maxRecDepth 65536 in
set_option maxHeartbeats 40000000 in
theorem rm1 (l : Launch) (Z : State) (a0 : Array Value) (hw : ∀ d ∈ tables_1, d.before a0 Z = true) (ws : List Jvm.Cond) (r0 : Addr) (w_BOOLEAN w_INT8 w_INT16 w_INT32 w_INT64 w_STRING w_BYTES w_RECORDS w_ARRAY : Addr) (h0 : Heap) (n0 : Nat) (hG : own_G Z w_BOOLEAN w_INT8 w_INT16 w_INT32 w_INT64 w_STRING w_BYTES w_RECORDS w_ARRAY) (O0 : Old Z n0 h0) :
    MetFree l (⟨"com/example/strict_wire/strictwire/wire/FieldType", "isInteger", "()Z"⟩ : MethodName) (head1 (Jvm.Cond.code (⟨"com/example/strict_wire/strictwire/wire/FieldType", "isInteger", "()Z"⟩ : MethodName) prog_43_method_6_code 1 (some .boolean) :: ws) ({ frames := 0, cells := 0, slots := 0, locals := 0 } : Room)) (fun a U => a = #[(.ref r0)] ∧ Z.Warmed39 U.vm ∧ U.heap = h0) (fun _ _ _ _ _ => True) (fun _ U o U' => ∃ v L, o = .returned v ∧ own_Q (some (.int (own_f1 r0 w_BOOLEAN w_INT8 w_INT16 w_INT32 w_INT64 w_STRING w_BYTES w_RECORDS w_ARRAY))) h0 n0 v U'.heap L ∧ FrameEnd U o U' L ({ frames := 0, cells := 0, slots := 0, locals := 0 } : Room).cells ({ frames := 0, cells := 0, slots := 0, locals := 0 } : Room).slots) := by
  refine MetFree.of_bodySF (plainFor_of_name pn_0) hisR ?_
  intro p e s m args below meth c s₁ Bd hml0 hP hK
  obtain ⟨rfl, hZ, hh⟩ := hP
  have hx := Bd.exec
  have hby := Bd.bytes
  have hml : c.maxLocals = 1 := hml0
  have hown : s.vm.findClass "com/example/strict_wire/strictwire/wire/FieldType" = some m.cls := findClass_of_methodNamed Bd.named
  have hnm := (name_of_methodNamed Bd.named Bd.method).1
  have X0 : Stand p l e ({ frames := 0, cells := 0, slots := 0, locals := 0 } : Room) s m #[(.ref r0)] below meth c s₁ [] 0 0 := Stand.of_body Bd
  have e0 : s₁.heap = h0 := by rw [← hh, Bd.state]; rfl
  have N0 := Fr.nil n0
  have pre0 : ∀ t, Steps p.tables e below (s₁.setTop (mkF m 0 #[.val (.ref r0)] [])) t → Steps p.tables e below (s₁.setTop (entryFrame m #[(.ref r0)] 1)) t := fun t k => castTop (ef_rm1 m r0) k
  obtain ⟨S_BOOLEAN, E_BOOLEAN, S_INT8, E_INT8, S_INT16, E_INT16, S_INT32, E_INT32, S_INT64, E_INT64, S_STRING, E_STRING, S_BYTES, E_BYTES, S_RECORDS, E_RECORDS, S_ARRAY, E_ARRAY, F_BOOLEAN_ordinal, F_INT8_ordinal, F_INT16_ordinal, F_INT32_ordinal, F_INT64_ordinal, F_RECORDS_ordinal, F_ARRAY_ordinal, F_BYTES_ordinal, F_STRING_ordinal⟩ := hG
  obtain ⟨T1, X1, e1, st1⟩ := getS2 X0 hx hZ hown (host := "") (Or.inl (hw _ (List.mem_of_getElem? (i := 28) rfl))) Via.refl e0 (S_INT8.ext O0.2) (g := (mkF m 1 #[.val (.ref r0)] [(.ref r0)])) rfl (hb hby d1_1)
  have k2 : ∀ t, Steps p.tables e below (T1.setTop (mkF m 4 #[.val (.ref r0)] [(.ref w_INT8), (.ref r0)])) t → Steps p.tables e below (s₁.setTop (entryFrame m #[(.ref r0)] 1)) t := by
    intro t k
    refine pre0 _ ?_
    show Steps p.tables e below (s₁.setTop (mkF m 0 #[.val (.ref r0)] [])) _
    refine XS.aloadN X0.here hx rfl (hb hby d1_0) rfl rfl ?_
    show Steps p.tables e below (s₁.setTop (mkF m 1 #[.val (.ref r0)] [(.ref r0)])) _
    refine st1 _ ?_
    exact k
  by_cases hc4_1 : r0 = w_INT8
  · have k3 : ∀ t, Steps p.tables e below (T1.setTop (mkF m 33 #[.val (.ref r0)] [(.int (1 : Int32))])) t → Steps p.tables e below (s₁.setTop (entryFrame m #[(.ref r0)] 1)) t := by
      intro t k
      refine k2 _ ?_
      show Steps p.tables e below (T1.setTop (mkF m 4 #[.val (.ref r0)] [(.ref w_INT8), (.ref r0)])) _
      refine Jvm.RoadKit.acmp (g := (mkF m 4 #[.val (.ref r0)] [(.ref w_INT8), (.ref r0)])) X1 hx rfl rfl rfl (pc0 := 4) (pc' := 28) (same := true) rfl (hb hby d1_4) rfl (decide_eq_true (congrArg Value.ref hc4_1)) (by decide) (by decide) ?_
      show Steps p.tables e below (T1.setTop (mkF m 28 #[.val (.ref r0)] [])) _
      refine XS.iconst X1.here hx rfl (hb hby d1_28) ?_
      show Steps p.tables e below (T1.setTop (mkF m 29 #[.val (.ref r0)] [(.int (1 : Int32))])) _
      refine XS.goto X1.here hx rfl (pc0 := 29) (pc' := 33) rfl (hb hby d1_29) (by decide) (by decide) ?_
      exact k
    obtain ⟨fs, hr, hrun, hended, hW, hsame⟩ := X1.leave (v := some (.int (1 : Int32))) (fun h => by rw [Bd.returns] at h; cases h)
    refine ⟨_, _, k3 _ ?_, hrun, hended, _, _, rfl, ?_, ⟨_, rfl⟩, hW, hsame.mono (by decide) (by decide)⟩
    · exact retN X1 hx (t := .boolean) Bd.returns (by simp) (hb hby d1_33) hr
    · show own_Q (some (.int (own_f1 r0 w_BOOLEAN w_INT8 w_INT16 w_INT32 w_INT64 w_STRING w_BYTES w_RECORDS w_ARRAY))) h0 n0 _ T1.heap _
      rw [e1]
      exact ⟨by simp only [own_f1, if_pos hc4_1], N0, rfl⟩
  · obtain ⟨T4, X4, e4, st4⟩ := getS2 X1 hx hZ hown (host := "") (Or.inl (hw _ (List.mem_of_getElem? (i := 29) rfl))) Via.refl e1 (S_INT16.ext O0.2) (g := (mkF m 8 #[.val (.ref r0)] [(.ref r0)])) rfl (hb hby d1_8)
    have k5 : ∀ t, Steps p.tables e below (T4.setTop (mkF m 11 #[.val (.ref r0)] [(.ref w_INT16), (.ref r0)])) t → Steps p.tables e below (s₁.setTop (entryFrame m #[(.ref r0)] 1)) t := by
      intro t k
      refine k2 _ ?_
      show Steps p.tables e below (T1.setTop (mkF m 4 #[.val (.ref r0)] [(.ref w_INT8), (.ref r0)])) _
      refine Jvm.RoadKit.acmp (g := (mkF m 4 #[.val (.ref r0)] [(.ref w_INT8), (.ref r0)])) X1 hx rfl rfl rfl (pc0 := 4) (pc' := 7) (same := false) rfl (hb hby d1_4) rfl (decide_eq_false fun q => hc4_1 (Value.ref.inj q)) (by decide) (by decide) ?_
      show Steps p.tables e below (T1.setTop (mkF m 7 #[.val (.ref r0)] [])) _
      refine XS.aloadN X1.here hx rfl (hb hby d1_7) rfl rfl ?_
      show Steps p.tables e below (T1.setTop (mkF m 8 #[.val (.ref r0)] [(.ref r0)])) _
      refine st4 _ ?_
      exact k
    by_cases hc11_2 : r0 = w_INT16
    · have k6 : ∀ t, Steps p.tables e below (T4.setTop (mkF m 33 #[.val (.ref r0)] [(.int (1 : Int32))])) t → Steps p.tables e below (s₁.setTop (entryFrame m #[(.ref r0)] 1)) t := by
        intro t k
        refine k5 _ ?_
        show Steps p.tables e below (T4.setTop (mkF m 11 #[.val (.ref r0)] [(.ref w_INT16), (.ref r0)])) _
        refine Jvm.RoadKit.acmp (g := (mkF m 11 #[.val (.ref r0)] [(.ref w_INT16), (.ref r0)])) X4 hx rfl rfl rfl (pc0 := 11) (pc' := 28) (same := true) rfl (hb hby d1_11) rfl (decide_eq_true (congrArg Value.ref hc11_2)) (by decide) (by decide) ?_
        show Steps p.tables e below (T4.setTop (mkF m 28 #[.val (.ref r0)] [])) _
        refine XS.iconst X4.here hx rfl (hb hby d1_28) ?_
        show Steps p.tables e below (T4.setTop (mkF m 29 #[.val (.ref r0)] [(.int (1 : Int32))])) _
        refine XS.goto X4.here hx rfl (pc0 := 29) (pc' := 33) rfl (hb hby d1_29) (by decide) (by decide) ?_
        exact k
      obtain ⟨fs, hr, hrun, hended, hW, hsame⟩ := X4.leave (v := some (.int (1 : Int32))) (fun h => by rw [Bd.returns] at h; cases h)
      refine ⟨_, _, k6 _ ?_, hrun, hended, _, _, rfl, ?_, ⟨_, rfl⟩, hW, hsame.mono (by decide) (by decide)⟩
      · exact retN X4 hx (t := .boolean) Bd.returns (by simp) (hb hby d1_33) hr
      · show own_Q (some (.int (own_f1 r0 w_BOOLEAN w_INT8 w_INT16 w_INT32 w_INT64 w_STRING w_BYTES w_RECORDS w_ARRAY))) h0 n0 _ T4.heap _
        rw [e4]
        exact ⟨by simp only [own_f1, if_neg hc4_1, if_pos hc11_2], N0, rfl⟩
    · obtain ⟨T7, X7, e7, st7⟩ := getS2 X4 hx hZ hown (host := "") (Or.inl (hw _ (List.mem_of_getElem? (i := 30) rfl))) Via.refl e4 (S_INT32.ext O0.2) (g := (mkF m 15 #[.val (.ref r0)] [(.ref r0)])) rfl (hb hby d1_15)
      have k8 : ∀ t, Steps p.tables e below (T7.setTop (mkF m 18 #[.val (.ref r0)] [(.ref w_INT32), (.ref r0)])) t → Steps p.tables e below (s₁.setTop (entryFrame m #[(.ref r0)] 1)) t := by
        intro t k
        refine k5 _ ?_
        show Steps p.tables e below (T4.setTop (mkF m 11 #[.val (.ref r0)] [(.ref w_INT16), (.ref r0)])) _
        refine Jvm.RoadKit.acmp (g := (mkF m 11 #[.val (.ref r0)] [(.ref w_INT16), (.ref r0)])) X4 hx rfl rfl rfl (pc0 := 11) (pc' := 14) (same := false) rfl (hb hby d1_11) rfl (decide_eq_false fun q => hc11_2 (Value.ref.inj q)) (by decide) (by decide) ?_
        show Steps p.tables e below (T4.setTop (mkF m 14 #[.val (.ref r0)] [])) _
        refine XS.aloadN X4.here hx rfl (hb hby d1_14) rfl rfl ?_
        show Steps p.tables e below (T4.setTop (mkF m 15 #[.val (.ref r0)] [(.ref r0)])) _
        refine st7 _ ?_
        exact k
      by_cases hc18_3 : r0 = w_INT32
      · have k9 : ∀ t, Steps p.tables e below (T7.setTop (mkF m 33 #[.val (.ref r0)] [(.int (1 : Int32))])) t → Steps p.tables e below (s₁.setTop (entryFrame m #[(.ref r0)] 1)) t := by
          intro t k
          refine k8 _ ?_
          show Steps p.tables e below (T7.setTop (mkF m 18 #[.val (.ref r0)] [(.ref w_INT32), (.ref r0)])) _
          refine Jvm.RoadKit.acmp (g := (mkF m 18 #[.val (.ref r0)] [(.ref w_INT32), (.ref r0)])) X7 hx rfl rfl rfl (pc0 := 18) (pc' := 28) (same := true) rfl (hb hby d1_18) rfl (decide_eq_true (congrArg Value.ref hc18_3)) (by decide) (by decide) ?_
          show Steps p.tables e below (T7.setTop (mkF m 28 #[.val (.ref r0)] [])) _
          refine XS.iconst X7.here hx rfl (hb hby d1_28) ?_
          show Steps p.tables e below (T7.setTop (mkF m 29 #[.val (.ref r0)] [(.int (1 : Int32))])) _
          refine XS.goto X7.here hx rfl (pc0 := 29) (pc' := 33) rfl (hb hby d1_29) (by decide) (by decide) ?_
          exact k
        obtain ⟨fs, hr, hrun, hended, hW, hsame⟩ := X7.leave (v := some (.int (1 : Int32))) (fun h => by rw [Bd.returns] at h; cases h)
        refine ⟨_, _, k9 _ ?_, hrun, hended, _, _, rfl, ?_, ⟨_, rfl⟩, hW, hsame.mono (by decide) (by decide)⟩
        · exact retN X7 hx (t := .boolean) Bd.returns (by simp) (hb hby d1_33) hr
        · show own_Q (some (.int (own_f1 r0 w_BOOLEAN w_INT8 w_INT16 w_INT32 w_INT64 w_STRING w_BYTES w_RECORDS w_ARRAY))) h0 n0 _ T7.heap _
          rw [e7]
          exact ⟨by simp only [own_f1, if_neg hc4_1, if_neg hc11_2, if_pos hc18_3], N0, rfl⟩
      · obtain ⟨T10, X10, e10, st10⟩ := getS2 X7 hx hZ hown (host := "") (Or.inl (hw _ (List.mem_of_getElem? (i := 31) rfl))) Via.refl e7 (S_INT64.ext O0.2) (g := (mkF m 22 #[.val (.ref r0)] [(.ref r0)])) rfl (hb hby d1_22)
        have k11 : ∀ t, Steps p.tables e below (T10.setTop (mkF m 25 #[.val (.ref r0)] [(.ref w_INT64), (.ref r0)])) t → Steps p.tables e below (s₁.setTop (entryFrame m #[(.ref r0)] 1)) t := by
          intro t k
          refine k8 _ ?_
          show Steps p.tables e below (T7.setTop (mkF m 18 #[.val (.ref r0)] [(.ref w_INT32), (.ref r0)])) _
          refine Jvm.RoadKit.acmp (g := (mkF m 18 #[.val (.ref r0)] [(.ref w_INT32), (.ref r0)])) X7 hx rfl rfl rfl (pc0 := 18) (pc' := 21) (same := false) rfl (hb hby d1_18) rfl (decide_eq_false fun q => hc18_3 (Value.ref.inj q)) (by decide) (by decide) ?_
          show Steps p.tables e below (T7.setTop (mkF m 21 #[.val (.ref r0)] [])) _
          refine XS.aloadN X7.here hx rfl (hb hby d1_21) rfl rfl ?_
          show Steps p.tables e below (T7.setTop (mkF m 22 #[.val (.ref r0)] [(.ref r0)])) _
          refine st10 _ ?_
          exact k
        by_cases hc25_4 : r0 = w_INT64
        · have k12 : ∀ t, Steps p.tables e below (T10.setTop (mkF m 33 #[.val (.ref r0)] [(.int (1 : Int32))])) t → Steps p.tables e below (s₁.setTop (entryFrame m #[(.ref r0)] 1)) t := by
            intro t k
            refine k11 _ ?_
            show Steps p.tables e below (T10.setTop (mkF m 25 #[.val (.ref r0)] [(.ref w_INT64), (.ref r0)])) _
            refine Jvm.RoadKit.acmp (g := (mkF m 25 #[.val (.ref r0)] [(.ref w_INT64), (.ref r0)])) X10 hx rfl rfl rfl (pc0 := 25) (pc' := 28) (same := true) rfl (hb hby d1_25) rfl (decide_eq_true (congrArg Value.ref hc25_4)) (by decide) (by decide) ?_
            show Steps p.tables e below (T10.setTop (mkF m 28 #[.val (.ref r0)] [])) _
            refine XS.iconst X10.here hx rfl (hb hby d1_28) ?_
            show Steps p.tables e below (T10.setTop (mkF m 29 #[.val (.ref r0)] [(.int (1 : Int32))])) _
            refine XS.goto X10.here hx rfl (pc0 := 29) (pc' := 33) rfl (hb hby d1_29) (by decide) (by decide) ?_
            exact k
          obtain ⟨fs, hr, hrun, hended, hW, hsame⟩ := X10.leave (v := some (.int (1 : Int32))) (fun h => by rw [Bd.returns] at h; cases h)
          refine ⟨_, _, k12 _ ?_, hrun, hended, _, _, rfl, ?_, ⟨_, rfl⟩, hW, hsame.mono (by decide) (by decide)⟩
          · exact retN X10 hx (t := .boolean) Bd.returns (by simp) (hb hby d1_33) hr
          · show own_Q (some (.int (own_f1 r0 w_BOOLEAN w_INT8 w_INT16 w_INT32 w_INT64 w_STRING w_BYTES w_RECORDS w_ARRAY))) h0 n0 _ T10.heap _
            rw [e10]
            exact ⟨by simp only [own_f1, if_neg hc4_1, if_neg hc11_2, if_neg hc18_3, if_pos hc25_4], N0, rfl⟩
        · have k13 : ∀ t, Steps p.tables e below (T10.setTop (mkF m 33 #[.val (.ref r0)] [(.int (0 : Int32))])) t → Steps p.tables e below (s₁.setTop (entryFrame m #[(.ref r0)] 1)) t := by
            intro t k
            refine k11 _ ?_
            show Steps p.tables e below (T10.setTop (mkF m 25 #[.val (.ref r0)] [(.ref w_INT64), (.ref r0)])) _
            refine Jvm.RoadKit.acmp (g := (mkF m 25 #[.val (.ref r0)] [(.ref w_INT64), (.ref r0)])) X10 hx rfl rfl rfl (pc0 := 25) (pc' := 32) (same := false) rfl (hb hby d1_25) rfl (decide_eq_false fun q => hc25_4 (Value.ref.inj q)) (by decide) (by decide) ?_
            show Steps p.tables e below (T10.setTop (mkF m 32 #[.val (.ref r0)] [])) _
            refine XS.iconst X10.here hx rfl (hb hby d1_32) ?_
            exact k
          obtain ⟨fs, hr, hrun, hended, hW, hsame⟩ := X10.leave (v := some (.int (0 : Int32))) (fun h => by rw [Bd.returns] at h; cases h)
          refine ⟨_, _, k13 _ ?_, hrun, hended, _, _, rfl, ?_, ⟨_, rfl⟩, hW, hsame.mono (by decide) (by decide)⟩
          · exact retN X10 hx (t := .boolean) Bd.returns (by simp) (hb hby d1_33) hr
          · show own_Q (some (.int (own_f1 r0 w_BOOLEAN w_INT8 w_INT16 w_INT32 w_INT64 w_STRING w_BYTES w_RECORDS w_ARRAY))) h0 n0 _ T10.heap _
            rw [e10]
            exact ⟨by simp only [own_f1, if_neg hc4_1, if_neg hc11_2, if_neg hc18_3, if_neg hc25_4], N0, rfl⟩
theorem own_k (x : Int32) : ((x &&& (2147483647 : Int32)) % (9 : Int32)) = (0 : Int32) ∨ ((x &&& (2147483647 : Int32)) % (9 : Int32)) = (1 : Int32) ∨ ((x &&& (2147483647 : Int32)) % (9 : Int32)) = (2 : Int32) ∨ ((x &&& (2147483647 : Int32)) % (9 : Int32)) = (3 : Int32) ∨ ((x &&& (2147483647 : Int32)) % (9 : Int32)) = (4 : Int32) ∨ ((x &&& (2147483647 : Int32)) % (9 : Int32)) = (5 : Int32) ∨ ((x &&& (2147483647 : Int32)) % (9 : Int32)) = (6 : Int32) ∨ ((x &&& (2147483647 : Int32)) % (9 : Int32)) = (7 : Int32) ∨ ((x &&& (2147483647 : Int32)) % (9 : Int32)) = (8 : Int32) := by
  have a := c_mask x 2147483647 31 (by decide) (by decide)
  have r := c_irem (x &&& 2147483647) 9 9 (by decide)
  have z0 : (0 : Int32).toInt = 0 := by decide
  have z1 : (1 : Int32).toInt = 1 := by decide
  have z2 : (2 : Int32).toInt = 2 := by decide
  have z3 : (3 : Int32).toInt = 3 := by decide
  have z4 : (4 : Int32).toInt = 4 := by decide
  have z5 : (5 : Int32).toInt = 5 := by decide
  have z6 : (6 : Int32).toInt = 6 := by decide
  have z7 : (7 : Int32).toInt = 7 := by decide
  have z8 : (8 : Int32).toInt = 8 := by decide
  simp only [← Int32.toInt_inj]
  omega
theorem pn_1 : plainName "com/example/strict_wire/strictwire/wire/FieldTypeIsIntegerPinLaw" = true := by first | (simp [plainName, overriddenIn]; done) | decide +kernel
theorem ef_rm0 (m : MethodId) (x0 : Int32) : entryFrame m #[(.int x0)] maxLocals = mkF m 0 #[.val (.int x0), .unset, .unset, .unset] [] := by first | (simp [entryFrame, mkF, argsToLocals, Value.category, maxLocals]; done) | rfl
theorem pd_0 : parseMethodDescriptor "()Z" = some ⟨[], some .boolean⟩ := by decide +kernel
theorem own_p_BOOLEAN {Z : State} (w_BOOLEAN w_INT8 w_INT16 w_INT32 w_INT64 w_STRING w_BYTES w_RECORDS w_ARRAY : Addr) (hG : own_G Z w_BOOLEAN w_INT8 w_INT16 w_INT32 w_INT64 w_STRING w_BYTES w_RECORDS w_ARRAY) : (own_f1 w_BOOLEAN w_BOOLEAN w_INT8 w_INT16 w_INT32 w_INT64 w_STRING w_BYTES w_RECORDS w_ARRAY) = (0 : Int32) := by
  obtain ⟨S_BOOLEAN, E_BOOLEAN, S_INT8, E_INT8, S_INT16, E_INT16, S_INT32, E_INT32, S_INT64, E_INT64, S_STRING, E_STRING, S_BYTES, E_BYTES, S_RECORDS, E_RECORDS, S_ARRAY, E_ARRAY, F_BOOLEAN_ordinal, F_INT8_ordinal, F_INT16_ordinal, F_INT32_ordinal, F_INT64_ordinal, F_RECORDS_ordinal, F_ARRAY_ordinal, F_BYTES_ordinal, F_STRING_ordinal⟩ := hG
  have n_INT8 : w_BOOLEAN ≠ w_INT8 := (own_nefld F_BOOLEAN_ordinal F_INT8_ordinal (by decide))
  have n_INT16 : w_BOOLEAN ≠ w_INT16 := (own_nefld F_BOOLEAN_ordinal F_INT16_ordinal (by decide))
  have n_INT32 : w_BOOLEAN ≠ w_INT32 := (own_nefld F_BOOLEAN_ordinal F_INT32_ordinal (by decide))
  have n_INT64 : w_BOOLEAN ≠ w_INT64 := (own_nefld F_BOOLEAN_ordinal F_INT64_ordinal (by decide))
  simp [own_f1, n_INT8, n_INT16, n_INT32, n_INT64]
theorem own_p_INT8 {Z : State} (w_BOOLEAN w_INT8 w_INT16 w_INT32 w_INT64 w_STRING w_BYTES w_RECORDS w_ARRAY : Addr) (hG : own_G Z w_BOOLEAN w_INT8 w_INT16 w_INT32 w_INT64 w_STRING w_BYTES w_RECORDS w_ARRAY) : (own_f1 w_INT8 w_BOOLEAN w_INT8 w_INT16 w_INT32 w_INT64 w_STRING w_BYTES w_RECORDS w_ARRAY) = (1 : Int32) := by
  obtain ⟨S_BOOLEAN, E_BOOLEAN, S_INT8, E_INT8, S_INT16, E_INT16, S_INT32, E_INT32, S_INT64, E_INT64, S_STRING, E_STRING, S_BYTES, E_BYTES, S_RECORDS, E_RECORDS, S_ARRAY, E_ARRAY, F_BOOLEAN_ordinal, F_INT8_ordinal, F_INT16_ordinal, F_INT32_ordinal, F_INT64_ordinal, F_RECORDS_ordinal, F_ARRAY_ordinal, F_BYTES_ordinal, F_STRING_ordinal⟩ := hG
  have n_INT16 : w_INT8 ≠ w_INT16 := (own_nefld F_INT8_ordinal F_INT16_ordinal (by decide))
  have n_INT32 : w_INT8 ≠ w_INT32 := (own_nefld F_INT8_ordinal F_INT32_ordinal (by decide))
  have n_INT64 : w_INT8 ≠ w_INT64 := (own_nefld F_INT8_ordinal F_INT64_ordinal (by decide))
  simp [own_f1, n_INT16, n_INT32, n_INT64]
theorem own_p_INT16 {Z : State} (w_BOOLEAN w_INT8 w_INT16 w_INT32 w_INT64 w_STRING w_BYTES w_RECORDS w_ARRAY : Addr) (hG : own_G Z w_BOOLEAN w_INT8 w_INT16 w_INT32 w_INT64 w_STRING w_BYTES w_RECORDS w_ARRAY) : (own_f1 w_INT16 w_BOOLEAN w_INT8 w_INT16 w_INT32 w_INT64 w_STRING w_BYTES w_RECORDS w_ARRAY) = (1 : Int32) := by
  obtain ⟨S_BOOLEAN, E_BOOLEAN, S_INT8, E_INT8, S_INT16, E_INT16, S_INT32, E_INT32, S_INT64, E_INT64, S_STRING, E_STRING, S_BYTES, E_BYTES, S_RECORDS, E_RECORDS, S_ARRAY, E_ARRAY, F_BOOLEAN_ordinal, F_INT8_ordinal, F_INT16_ordinal, F_INT32_ordinal, F_INT64_ordinal, F_RECORDS_ordinal, F_ARRAY_ordinal, F_BYTES_ordinal, F_STRING_ordinal⟩ := hG
  have n_INT8 : w_INT16 ≠ w_INT8 := (own_nefld F_INT16_ordinal F_INT8_ordinal (by decide))
  have n_INT32 : w_INT16 ≠ w_INT32 := (own_nefld F_INT16_ordinal F_INT32_ordinal (by decide))
  have n_INT64 : w_INT16 ≠ w_INT64 := (own_nefld F_INT16_ordinal F_INT64_ordinal (by decide))
  simp [own_f1, n_INT8, n_INT32, n_INT64]
theorem own_p_INT32 {Z : State} (w_BOOLEAN w_INT8 w_INT16 w_INT32 w_INT64 w_STRING w_BYTES w_RECORDS w_ARRAY : Addr) (hG : own_G Z w_BOOLEAN w_INT8 w_INT16 w_INT32 w_INT64 w_STRING w_BYTES w_RECORDS w_ARRAY) : (own_f1 w_INT32 w_BOOLEAN w_INT8 w_INT16 w_INT32 w_INT64 w_STRING w_BYTES w_RECORDS w_ARRAY) = (1 : Int32) := by
  obtain ⟨S_BOOLEAN, E_BOOLEAN, S_INT8, E_INT8, S_INT16, E_INT16, S_INT32, E_INT32, S_INT64, E_INT64, S_STRING, E_STRING, S_BYTES, E_BYTES, S_RECORDS, E_RECORDS, S_ARRAY, E_ARRAY, F_BOOLEAN_ordinal, F_INT8_ordinal, F_INT16_ordinal, F_INT32_ordinal, F_INT64_ordinal, F_RECORDS_ordinal, F_ARRAY_ordinal, F_BYTES_ordinal, F_STRING_ordinal⟩ := hG
  have n_INT8 : w_INT32 ≠ w_INT8 := (own_nefld F_INT32_ordinal F_INT8_ordinal (by decide))
  have n_INT16 : w_INT32 ≠ w_INT16 := (own_nefld F_INT32_ordinal F_INT16_ordinal (by decide))
  have n_INT64 : w_INT32 ≠ w_INT64 := (own_nefld F_INT32_ordinal F_INT64_ordinal (by decide))
  simp [own_f1, n_INT8, n_INT16, n_INT64]
theorem own_p_INT64 {Z : State} (w_BOOLEAN w_INT8 w_INT16 w_INT32 w_INT64 w_STRING w_BYTES w_RECORDS w_ARRAY : Addr) (hG : own_G Z w_BOOLEAN w_INT8 w_INT16 w_INT32 w_INT64 w_STRING w_BYTES w_RECORDS w_ARRAY) : (own_f1 w_INT64 w_BOOLEAN w_INT8 w_INT16 w_INT32 w_INT64 w_STRING w_BYTES w_RECORDS w_ARRAY) = (1 : Int32) := by
  obtain ⟨S_BOOLEAN, E_BOOLEAN, S_INT8, E_INT8, S_INT16, E_INT16, S_INT32, E_INT32, S_INT64, E_INT64, S_STRING, E_STRING, S_BYTES, E_BYTES, S_RECORDS, E_RECORDS, S_ARRAY, E_ARRAY, F_BOOLEAN_ordinal, F_INT8_ordinal, F_INT16_ordinal, F_INT32_ordinal, F_INT64_ordinal, F_RECORDS_ordinal, F_ARRAY_ordinal, F_BYTES_ordinal, F_STRING_ordinal⟩ := hG
  have n_INT8 : w_INT64 ≠ w_INT8 := (own_nefld F_INT64_ordinal F_INT8_ordinal (by decide))
  have n_INT16 : w_INT64 ≠ w_INT16 := (own_nefld F_INT64_ordinal F_INT16_ordinal (by decide))
  have n_INT32 : w_INT64 ≠ w_INT32 := (own_nefld F_INT64_ordinal F_INT32_ordinal (by decide))
  simp [own_f1, n_INT8, n_INT16, n_INT32]
theorem own_p_STRING {Z : State} (w_BOOLEAN w_INT8 w_INT16 w_INT32 w_INT64 w_STRING w_BYTES w_RECORDS w_ARRAY : Addr) (hG : own_G Z w_BOOLEAN w_INT8 w_INT16 w_INT32 w_INT64 w_STRING w_BYTES w_RECORDS w_ARRAY) : (own_f1 w_STRING w_BOOLEAN w_INT8 w_INT16 w_INT32 w_INT64 w_STRING w_BYTES w_RECORDS w_ARRAY) = (0 : Int32) := by
  obtain ⟨S_BOOLEAN, E_BOOLEAN, S_INT8, E_INT8, S_INT16, E_INT16, S_INT32, E_INT32, S_INT64, E_INT64, S_STRING, E_STRING, S_BYTES, E_BYTES, S_RECORDS, E_RECORDS, S_ARRAY, E_ARRAY, F_BOOLEAN_ordinal, F_INT8_ordinal, F_INT16_ordinal, F_INT32_ordinal, F_INT64_ordinal, F_RECORDS_ordinal, F_ARRAY_ordinal, F_BYTES_ordinal, F_STRING_ordinal⟩ := hG
  have n_INT8 : w_STRING ≠ w_INT8 := (own_nefld F_STRING_ordinal F_INT8_ordinal (by decide))
  have n_INT16 : w_STRING ≠ w_INT16 := (own_nefld F_STRING_ordinal F_INT16_ordinal (by decide))
  have n_INT32 : w_STRING ≠ w_INT32 := (own_nefld F_STRING_ordinal F_INT32_ordinal (by decide))
  have n_INT64 : w_STRING ≠ w_INT64 := (own_nefld F_STRING_ordinal F_INT64_ordinal (by decide))
  simp [own_f1, n_INT8, n_INT16, n_INT32, n_INT64]
theorem own_p_BYTES {Z : State} (w_BOOLEAN w_INT8 w_INT16 w_INT32 w_INT64 w_STRING w_BYTES w_RECORDS w_ARRAY : Addr) (hG : own_G Z w_BOOLEAN w_INT8 w_INT16 w_INT32 w_INT64 w_STRING w_BYTES w_RECORDS w_ARRAY) : (own_f1 w_BYTES w_BOOLEAN w_INT8 w_INT16 w_INT32 w_INT64 w_STRING w_BYTES w_RECORDS w_ARRAY) = (0 : Int32) := by
  obtain ⟨S_BOOLEAN, E_BOOLEAN, S_INT8, E_INT8, S_INT16, E_INT16, S_INT32, E_INT32, S_INT64, E_INT64, S_STRING, E_STRING, S_BYTES, E_BYTES, S_RECORDS, E_RECORDS, S_ARRAY, E_ARRAY, F_BOOLEAN_ordinal, F_INT8_ordinal, F_INT16_ordinal, F_INT32_ordinal, F_INT64_ordinal, F_RECORDS_ordinal, F_ARRAY_ordinal, F_BYTES_ordinal, F_STRING_ordinal⟩ := hG
  have n_INT8 : w_BYTES ≠ w_INT8 := (own_nefld F_BYTES_ordinal F_INT8_ordinal (by decide))
  have n_INT16 : w_BYTES ≠ w_INT16 := (own_nefld F_BYTES_ordinal F_INT16_ordinal (by decide))
  have n_INT32 : w_BYTES ≠ w_INT32 := (own_nefld F_BYTES_ordinal F_INT32_ordinal (by decide))
  have n_INT64 : w_BYTES ≠ w_INT64 := (own_nefld F_BYTES_ordinal F_INT64_ordinal (by decide))
  simp [own_f1, n_INT8, n_INT16, n_INT32, n_INT64]
theorem own_p_RECORDS {Z : State} (w_BOOLEAN w_INT8 w_INT16 w_INT32 w_INT64 w_STRING w_BYTES w_RECORDS w_ARRAY : Addr) (hG : own_G Z w_BOOLEAN w_INT8 w_INT16 w_INT32 w_INT64 w_STRING w_BYTES w_RECORDS w_ARRAY) : (own_f1 w_RECORDS w_BOOLEAN w_INT8 w_INT16 w_INT32 w_INT64 w_STRING w_BYTES w_RECORDS w_ARRAY) = (0 : Int32) := by
  obtain ⟨S_BOOLEAN, E_BOOLEAN, S_INT8, E_INT8, S_INT16, E_INT16, S_INT32, E_INT32, S_INT64, E_INT64, S_STRING, E_STRING, S_BYTES, E_BYTES, S_RECORDS, E_RECORDS, S_ARRAY, E_ARRAY, F_BOOLEAN_ordinal, F_INT8_ordinal, F_INT16_ordinal, F_INT32_ordinal, F_INT64_ordinal, F_RECORDS_ordinal, F_ARRAY_ordinal, F_BYTES_ordinal, F_STRING_ordinal⟩ := hG
  have n_INT8 : w_RECORDS ≠ w_INT8 := (own_nefld F_RECORDS_ordinal F_INT8_ordinal (by decide))
  have n_INT16 : w_RECORDS ≠ w_INT16 := (own_nefld F_RECORDS_ordinal F_INT16_ordinal (by decide))
  have n_INT32 : w_RECORDS ≠ w_INT32 := (own_nefld F_RECORDS_ordinal F_INT32_ordinal (by decide))
  have n_INT64 : w_RECORDS ≠ w_INT64 := (own_nefld F_RECORDS_ordinal F_INT64_ordinal (by decide))
  simp [own_f1, n_INT8, n_INT16, n_INT32, n_INT64]
theorem own_p_ARRAY {Z : State} (w_BOOLEAN w_INT8 w_INT16 w_INT32 w_INT64 w_STRING w_BYTES w_RECORDS w_ARRAY : Addr) (hG : own_G Z w_BOOLEAN w_INT8 w_INT16 w_INT32 w_INT64 w_STRING w_BYTES w_RECORDS w_ARRAY) : (own_f1 w_ARRAY w_BOOLEAN w_INT8 w_INT16 w_INT32 w_INT64 w_STRING w_BYTES w_RECORDS w_ARRAY) = (0 : Int32) := by
  obtain ⟨S_BOOLEAN, E_BOOLEAN, S_INT8, E_INT8, S_INT16, E_INT16, S_INT32, E_INT32, S_INT64, E_INT64, S_STRING, E_STRING, S_BYTES, E_BYTES, S_RECORDS, E_RECORDS, S_ARRAY, E_ARRAY, F_BOOLEAN_ordinal, F_INT8_ordinal, F_INT16_ordinal, F_INT32_ordinal, F_INT64_ordinal, F_RECORDS_ordinal, F_ARRAY_ordinal, F_BYTES_ordinal, F_STRING_ordinal⟩ := hG
  have n_INT8 : w_ARRAY ≠ w_INT8 := (own_nefld F_ARRAY_ordinal F_INT8_ordinal (by decide))
  have n_INT16 : w_ARRAY ≠ w_INT16 := (own_nefld F_ARRAY_ordinal F_INT16_ordinal (by decide))
  have n_INT32 : w_ARRAY ≠ w_INT32 := (own_nefld F_ARRAY_ordinal F_INT32_ordinal (by decide))
  have n_INT64 : w_ARRAY ≠ w_INT64 := (own_nefld F_ARRAY_ordinal F_INT64_ordinal (by decide))
  simp [own_f1, n_INT8, n_INT16, n_INT32, n_INT64]
set_option maxRecDepth 65536 in
set_option maxHeartbeats 40000000 in
theorem rm0 (l : Launch) (Z : State) (a0 : Array Value) (hw : ∀ d ∈ tables_1, d.before a0 Z = true) (ws : List Jvm.Cond) (p0 : Int32) (w_BOOLEAN w_INT8 w_INT16 w_INT32 w_INT64 w_STRING w_BYTES w_RECORDS w_ARRAY : Addr) (h0 : Heap) (n0 : Nat) (hG : own_G Z w_BOOLEAN w_INT8 w_INT16 w_INT32 w_INT64 w_STRING w_BYTES w_RECORDS w_ARRAY) (O0 : Old Z n0 h0) :
    MetFree l x (head1 (Jvm.Cond.code x code maxLocals ret :: ws) room_1) (fun a U => a = #[(.int p0)] ∧ Z.Warmed39 U.vm ∧ U.heap = h0) (fun _ _ _ _ _ => True) (fun _ U o U' => ∃ v L, o = .returned v ∧ own_R (some (.int 1)) n0 v U'.heap L ∧ FrameEnd U o U' L room_1.cells room_1.slots) := by
  refine MetFree.of_bodySF (plainFor_of_name pn_1) hisR ?_
  intro p e s m args below meth c s₁ Bd hml0 hP hK
  obtain ⟨rfl, hZ, hh⟩ := hP
  have hx := Bd.exec
  have hby := Bd.bytes
  have hml : c.maxLocals = 4 := hml0
  have hown : s.vm.findClass "com/example/strict_wire/strictwire/wire/FieldTypeIsIntegerPinLaw" = some m.cls := findClass_of_methodNamed Bd.named
  have hnm := (name_of_methodNamed Bd.named Bd.method).1
  have X0 : Stand p l e room_1 s m #[(.int p0)] below meth c s₁ [] 0 0 := Stand.of_body Bd
  have e0 : s₁.heap = h0 := by rw [← hh, Bd.state]; rfl
  have N0 := Fr.nil n0
  have pre0 : ∀ t, Steps p.tables e below (s₁.setTop (mkF m 0 #[.val (.int p0), .unset, .unset, .unset] [])) t → Steps p.tables e below (s₁.setTop (entryFrame m #[(.int p0)] maxLocals)) t := fun t k => castTop (ef_rm0 m p0) k
  have hG' := hG
  obtain ⟨S_BOOLEAN, E_BOOLEAN, S_INT8, E_INT8, S_INT16, E_INT16, S_INT32, E_INT32, S_INT64, E_INT64, S_STRING, E_STRING, S_BYTES, E_BYTES, S_RECORDS, E_RECORDS, S_ARRAY, E_ARRAY, F_BOOLEAN_ordinal, F_INT8_ordinal, F_INT16_ordinal, F_INT32_ordinal, F_INT64_ordinal, F_RECORDS_ordinal, F_ARRAY_ordinal, F_BYTES_ordinal, F_STRING_ordinal⟩ := hG'
  obtain ⟨T1, h1, c1, X1, e1, E1, A1, O1, st1⟩ := newR X0 hx hZ hown (hw _ (List.mem_of_getElem? (i := 0) rfl)) (hw _ (List.mem_of_getElem? (i := 1) rfl)) e0 (g := (mkF m 2 #[.val (.int p0), .unset, .unset, .unset] [(.int (9 : Int32))])) rfl (hb hby at_2) rfl (by decide) (cap := 9) (by decide) (by decide) (by decide) (by decide)
  obtain ⟨b1, g1⟩ : ∃ z, z = h0.size := ⟨_, rfl⟩
  rw [← g1] at A1 st1
  have gn_b1 : n0 ≤ b1 := Nat.le_trans (O0.1 ▸ O0.2.1) (Nat.le_of_eq g1.symm)
  replace O0 := O0.ext E1
  have V_b1 : Arv Z h1 b1 c1 (.object "com/example/strict_wire/strictwire/wire/FieldType") (9 : Int32) [.null, .null, .null, .null, .null, .null, .null, .null, .null] .null := (Arv.new A1 (by decide)).pad (pad_rep [] .null 9)
  obtain ⟨T2, X2, e2, st2⟩ := getS2 X1 hx hZ hown (host := "") (Or.inl (hw _ (List.mem_of_getElem? (i := 2) rfl))) Via.refl e1 (S_BOOLEAN.ext O0.2) (g := (mkF m 7 #[.val (.int p0), .unset, .unset, .unset] [(.int (0 : Int32)), (.ref b1), (.ref b1)])) rfl (hb hby at_7)
  obtain ⟨cl_3, Ar_3, q_3, S_3, N_3, H_3, G_3⟩ := id V_b1
  have hin_3 : ¬ ((0 : Int32) < 0 ∨ cl_3.slots.size ≤ ((0 : Int32)).toNatClampNeg) := inb_of S_3 ⟨by decide, by decide⟩
  obtain ⟨T3, h3, X3, e3, W3, st3⟩ := stR X2 hx hZ e2 Ar_3 (j := (0 : Int32)) hin_3 rfl (Sto.ofV Ar_3 q_3 O1 (Ins.self (E_BOOLEAN.ext O0.2))) (g := (mkF m 10 #[.val (.int p0), .unset, .unset, .unset] [(.ref w_BOOLEAN), (.int (0 : Int32)), (.ref b1), (.ref b1)])) rfl rfl (hb hby at_10)
  have Vn3 : Arv Z h3 b1 c1 (.object "com/example/strict_wire/strictwire/wire/FieldType") (9 : Int32) [(.ref w_BOOLEAN), .null, .null, .null, .null, .null, .null, .null, .null] .null := Arv.set Ar_3 q_3 S_3 N_3 H_3 G_3 rfl W3 0 rfl (Nat.le_of_ble_eq_true rfl)
  replace O0 := O0.wr W3 gn_b1
  replace V_b1 := Vn3
  have N3 := Fr.snoc X3 N0 gn_b1
  obtain ⟨T4, X4, e4, st4⟩ := getS2 X3 hx hZ hown (host := "") (Or.inl (hw _ (List.mem_of_getElem? (i := 6) rfl))) Via.refl e3 (S_INT8.ext O0.2) (g := (mkF m 13 #[.val (.int p0), .unset, .unset, .unset] [(.int (1 : Int32)), (.ref b1), (.ref b1)])) rfl (hb hby at_13)
  obtain ⟨cl_5, Ar_5, q_5, S_5, N_5, H_5, G_5⟩ := id V_b1
  have hin_5 : ¬ ((1 : Int32) < 0 ∨ cl_5.slots.size ≤ ((1 : Int32)).toNatClampNeg) := inb_of S_5 ⟨by decide, by decide⟩
  obtain ⟨T5, h5, X5, e5, W5, st5⟩ := stR X4 hx hZ e4 Ar_5 (j := (1 : Int32)) hin_5 rfl (Sto.ofV Ar_5 q_5 O1 (Ins.self (E_INT8.ext O0.2))) (g := (mkF m 16 #[.val (.int p0), .unset, .unset, .unset] [(.ref w_INT8), (.int (1 : Int32)), (.ref b1), (.ref b1)])) rfl rfl (hb hby at_16)
  have Vn5 : Arv Z h5 b1 c1 (.object "com/example/strict_wire/strictwire/wire/FieldType") (9 : Int32) [(.ref w_BOOLEAN), (.ref w_INT8), .null, .null, .null, .null, .null, .null, .null] .null := Arv.set Ar_5 q_5 S_5 N_5 H_5 G_5 rfl W5 1 rfl (Nat.le_of_ble_eq_true rfl)
  replace O0 := O0.wr W5 gn_b1
  replace V_b1 := Vn5
  have N5 := Fr.snoc X5 N3 gn_b1
  obtain ⟨T6, X6, e6, st6⟩ := getS2 X5 hx hZ hown (host := "") (Or.inl (hw _ (List.mem_of_getElem? (i := 8) rfl))) Via.refl e5 (S_INT16.ext O0.2) (g := (mkF m 19 #[.val (.int p0), .unset, .unset, .unset] [(.int (2 : Int32)), (.ref b1), (.ref b1)])) rfl (hb hby at_19)
  obtain ⟨cl_7, Ar_7, q_7, S_7, N_7, H_7, G_7⟩ := id V_b1
  have hin_7 : ¬ ((2 : Int32) < 0 ∨ cl_7.slots.size ≤ ((2 : Int32)).toNatClampNeg) := inb_of S_7 ⟨by decide, by decide⟩
  obtain ⟨T7, h7, X7, e7, W7, st7⟩ := stR X6 hx hZ e6 Ar_7 (j := (2 : Int32)) hin_7 rfl (Sto.ofV Ar_7 q_7 O1 (Ins.self (E_INT16.ext O0.2))) (g := (mkF m 22 #[.val (.int p0), .unset, .unset, .unset] [(.ref w_INT16), (.int (2 : Int32)), (.ref b1), (.ref b1)])) rfl rfl (hb hby at_22)
  have Vn7 : Arv Z h7 b1 c1 (.object "com/example/strict_wire/strictwire/wire/FieldType") (9 : Int32) [(.ref w_BOOLEAN), (.ref w_INT8), (.ref w_INT16), .null, .null, .null, .null, .null, .null] .null := Arv.set Ar_7 q_7 S_7 N_7 H_7 G_7 rfl W7 2 rfl (Nat.le_of_ble_eq_true rfl)
  replace O0 := O0.wr W7 gn_b1
  replace V_b1 := Vn7
  have N7 := Fr.snoc X7 N5 gn_b1
  obtain ⟨T8, X8, e8, st8⟩ := getS2 X7 hx hZ hown (host := "") (Or.inl (hw _ (List.mem_of_getElem? (i := 10) rfl))) Via.refl e7 (S_INT32.ext O0.2) (g := (mkF m 25 #[.val (.int p0), .unset, .unset, .unset] [(.int (3 : Int32)), (.ref b1), (.ref b1)])) rfl (hb hby at_25)
  obtain ⟨cl_9, Ar_9, q_9, S_9, N_9, H_9, G_9⟩ := id V_b1
  have hin_9 : ¬ ((3 : Int32) < 0 ∨ cl_9.slots.size ≤ ((3 : Int32)).toNatClampNeg) := inb_of S_9 ⟨by decide, by decide⟩
  obtain ⟨T9, h9, X9, e9, W9, st9⟩ := stR X8 hx hZ e8 Ar_9 (j := (3 : Int32)) hin_9 rfl (Sto.ofV Ar_9 q_9 O1 (Ins.self (E_INT32.ext O0.2))) (g := (mkF m 28 #[.val (.int p0), .unset, .unset, .unset] [(.ref w_INT32), (.int (3 : Int32)), (.ref b1), (.ref b1)])) rfl rfl (hb hby at_28)
  have Vn9 : Arv Z h9 b1 c1 (.object "com/example/strict_wire/strictwire/wire/FieldType") (9 : Int32) [(.ref w_BOOLEAN), (.ref w_INT8), (.ref w_INT16), (.ref w_INT32), .null, .null, .null, .null, .null] .null := Arv.set Ar_9 q_9 S_9 N_9 H_9 G_9 rfl W9 3 rfl (Nat.le_of_ble_eq_true rfl)
  replace O0 := O0.wr W9 gn_b1
  replace V_b1 := Vn9
  have N9 := Fr.snoc X9 N7 gn_b1
  obtain ⟨T10, X10, e10, st10⟩ := getS2 X9 hx hZ hown (host := "") (Or.inl (hw _ (List.mem_of_getElem? (i := 12) rfl))) Via.refl e9 (S_INT64.ext O0.2) (g := (mkF m 31 #[.val (.int p0), .unset, .unset, .unset] [(.int (4 : Int32)), (.ref b1), (.ref b1)])) rfl (hb hby at_31)
  obtain ⟨cl_11, Ar_11, q_11, S_11, N_11, H_11, G_11⟩ := id V_b1
  have hin_11 : ¬ ((4 : Int32) < 0 ∨ cl_11.slots.size ≤ ((4 : Int32)).toNatClampNeg) := inb_of S_11 ⟨by decide, by decide⟩
  obtain ⟨T11, h11, X11, e11, W11, st11⟩ := stR X10 hx hZ e10 Ar_11 (j := (4 : Int32)) hin_11 rfl (Sto.ofV Ar_11 q_11 O1 (Ins.self (E_INT64.ext O0.2))) (g := (mkF m 34 #[.val (.int p0), .unset, .unset, .unset] [(.ref w_INT64), (.int (4 : Int32)), (.ref b1), (.ref b1)])) rfl rfl (hb hby at_34)
  have Vn11 : Arv Z h11 b1 c1 (.object "com/example/strict_wire/strictwire/wire/FieldType") (9 : Int32) [(.ref w_BOOLEAN), (.ref w_INT8), (.ref w_INT16), (.ref w_INT32), (.ref w_INT64), .null, .null, .null, .null] .null := Arv.set Ar_11 q_11 S_11 N_11 H_11 G_11 rfl W11 4 rfl (Nat.le_of_ble_eq_true rfl)
  replace O0 := O0.wr W11 gn_b1
  replace V_b1 := Vn11
  have N11 := Fr.snoc X11 N9 gn_b1
  obtain ⟨T12, X12, e12, st12⟩ := getS2 X11 hx hZ hown (host := "") (Or.inl (hw _ (List.mem_of_getElem? (i := 14) rfl))) Via.refl e11 (S_STRING.ext O0.2) (g := (mkF m 37 #[.val (.int p0), .unset, .unset, .unset] [(.int (5 : Int32)), (.ref b1), (.ref b1)])) rfl (hb hby at_37)
  obtain ⟨cl_13, Ar_13, q_13, S_13, N_13, H_13, G_13⟩ := id V_b1
  have hin_13 : ¬ ((5 : Int32) < 0 ∨ cl_13.slots.size ≤ ((5 : Int32)).toNatClampNeg) := inb_of S_13 ⟨by decide, by decide⟩
  obtain ⟨T13, h13, X13, e13, W13, st13⟩ := stR X12 hx hZ e12 Ar_13 (j := (5 : Int32)) hin_13 rfl (Sto.ofV Ar_13 q_13 O1 (Ins.self (E_STRING.ext O0.2))) (g := (mkF m 40 #[.val (.int p0), .unset, .unset, .unset] [(.ref w_STRING), (.int (5 : Int32)), (.ref b1), (.ref b1)])) rfl rfl (hb hby at_40)
  have Vn13 : Arv Z h13 b1 c1 (.object "com/example/strict_wire/strictwire/wire/FieldType") (9 : Int32) [(.ref w_BOOLEAN), (.ref w_INT8), (.ref w_INT16), (.ref w_INT32), (.ref w_INT64), (.ref w_STRING), .null, .null, .null] .null := Arv.set Ar_13 q_13 S_13 N_13 H_13 G_13 rfl W13 5 rfl (Nat.le_of_ble_eq_true rfl)
  replace O0 := O0.wr W13 gn_b1
  replace V_b1 := Vn13
  have N13 := Fr.snoc X13 N11 gn_b1
  obtain ⟨T14, X14, e14, st14⟩ := getS2 X13 hx hZ hown (host := "") (Or.inl (hw _ (List.mem_of_getElem? (i := 16) rfl))) Via.refl e13 (S_BYTES.ext O0.2) (g := (mkF m 44 #[.val (.int p0), .unset, .unset, .unset] [(.int (6 : Int32)), (.ref b1), (.ref b1)])) rfl (hb hby at_44)
  obtain ⟨cl_15, Ar_15, q_15, S_15, N_15, H_15, G_15⟩ := id V_b1
  have hin_15 : ¬ ((6 : Int32) < 0 ∨ cl_15.slots.size ≤ ((6 : Int32)).toNatClampNeg) := inb_of S_15 ⟨by decide, by decide⟩
  obtain ⟨T15, h15, X15, e15, W15, st15⟩ := stR X14 hx hZ e14 Ar_15 (j := (6 : Int32)) hin_15 rfl (Sto.ofV Ar_15 q_15 O1 (Ins.self (E_BYTES.ext O0.2))) (g := (mkF m 47 #[.val (.int p0), .unset, .unset, .unset] [(.ref w_BYTES), (.int (6 : Int32)), (.ref b1), (.ref b1)])) rfl rfl (hb hby at_47)
  have Vn15 : Arv Z h15 b1 c1 (.object "com/example/strict_wire/strictwire/wire/FieldType") (9 : Int32) [(.ref w_BOOLEAN), (.ref w_INT8), (.ref w_INT16), (.ref w_INT32), (.ref w_INT64), (.ref w_STRING), (.ref w_BYTES), .null, .null] .null := Arv.set Ar_15 q_15 S_15 N_15 H_15 G_15 rfl W15 6 rfl (Nat.le_of_ble_eq_true rfl)
  replace O0 := O0.wr W15 gn_b1
  replace V_b1 := Vn15
  have N15 := Fr.snoc X15 N13 gn_b1
  obtain ⟨T16, X16, e16, st16⟩ := getS2 X15 hx hZ hown (host := "") (Or.inl (hw _ (List.mem_of_getElem? (i := 18) rfl))) Via.refl e15 (S_RECORDS.ext O0.2) (g := (mkF m 51 #[.val (.int p0), .unset, .unset, .unset] [(.int (7 : Int32)), (.ref b1), (.ref b1)])) rfl (hb hby at_51)
  obtain ⟨cl_17, Ar_17, q_17, S_17, N_17, H_17, G_17⟩ := id V_b1
  have hin_17 : ¬ ((7 : Int32) < 0 ∨ cl_17.slots.size ≤ ((7 : Int32)).toNatClampNeg) := inb_of S_17 ⟨by decide, by decide⟩
  obtain ⟨T17, h17, X17, e17, W17, st17⟩ := stR X16 hx hZ e16 Ar_17 (j := (7 : Int32)) hin_17 rfl (Sto.ofV Ar_17 q_17 O1 (Ins.self (E_RECORDS.ext O0.2))) (g := (mkF m 54 #[.val (.int p0), .unset, .unset, .unset] [(.ref w_RECORDS), (.int (7 : Int32)), (.ref b1), (.ref b1)])) rfl rfl (hb hby at_54)
  have Vn17 : Arv Z h17 b1 c1 (.object "com/example/strict_wire/strictwire/wire/FieldType") (9 : Int32) [(.ref w_BOOLEAN), (.ref w_INT8), (.ref w_INT16), (.ref w_INT32), (.ref w_INT64), (.ref w_STRING), (.ref w_BYTES), (.ref w_RECORDS), .null] .null := Arv.set Ar_17 q_17 S_17 N_17 H_17 G_17 rfl W17 7 rfl (Nat.le_of_ble_eq_true rfl)
  replace O0 := O0.wr W17 gn_b1
  replace V_b1 := Vn17
  have N17 := Fr.snoc X17 N15 gn_b1
  obtain ⟨T18, X18, e18, st18⟩ := getS2 X17 hx hZ hown (host := "") (Or.inl (hw _ (List.mem_of_getElem? (i := 20) rfl))) Via.refl e17 (S_ARRAY.ext O0.2) (g := (mkF m 58 #[.val (.int p0), .unset, .unset, .unset] [(.int (8 : Int32)), (.ref b1), (.ref b1)])) rfl (hb hby at_58)
  obtain ⟨cl_19, Ar_19, q_19, S_19, N_19, H_19, G_19⟩ := id V_b1
  have hin_19 : ¬ ((8 : Int32) < 0 ∨ cl_19.slots.size ≤ ((8 : Int32)).toNatClampNeg) := inb_of S_19 ⟨by decide, by decide⟩
  obtain ⟨T19, h19, X19, e19, W19, st19⟩ := stR X18 hx hZ e18 Ar_19 (j := (8 : Int32)) hin_19 rfl (Sto.ofV Ar_19 q_19 O1 (Ins.self (E_ARRAY.ext O0.2))) (g := (mkF m 61 #[.val (.int p0), .unset, .unset, .unset] [(.ref w_ARRAY), (.int (8 : Int32)), (.ref b1), (.ref b1)])) rfl rfl (hb hby at_61)
  have Vn19 : Arv Z h19 b1 c1 (.object "com/example/strict_wire/strictwire/wire/FieldType") (9 : Int32) [(.ref w_BOOLEAN), (.ref w_INT8), (.ref w_INT16), (.ref w_INT32), (.ref w_INT64), (.ref w_STRING), (.ref w_BYTES), (.ref w_RECORDS), (.ref w_ARRAY)] .null := Arv.set Ar_19 q_19 S_19 N_19 H_19 G_19 rfl W19 8 rfl (Nat.le_of_ble_eq_true rfl)
  replace O0 := O0.wr W19 gn_b1
  replace V_b1 := Vn19
  have N19 := Fr.snoc X19 N17 gn_b1
  have k20 : ∀ t, Steps p.tables e below (T19.setTop (mkF m 71 #[.val (.int p0), .val (.ref b1), .val (.int ((p0 &&& (2147483647 : Int32)) % (9 : Int32))), .unset] [])) t → Steps p.tables e below (s₁.setTop (entryFrame m #[(.int p0)] maxLocals)) t := by
    intro t k
    refine pre0 _ ?_
    show Steps p.tables e below (s₁.setTop (mkF m 0 #[.val (.int p0), .unset, .unset, .unset] [])) _
    refine XS.bipush X0.here hx rfl (hb hby at_0) ?_
    show Steps p.tables e below (s₁.setTop (mkF m 2 #[.val (.int p0), .unset, .unset, .unset] [(.int (9 : Int32))])) _
    refine st1 _ ?_
    show Steps p.tables e below (T1.setTop (mkF m 5 #[.val (.int p0), .unset, .unset, .unset] [(.ref b1)])) _
    refine XS.dup X1.here hx rfl (hb hby at_5) rfl rfl ?_
    show Steps p.tables e below (T1.setTop (mkF m 6 #[.val (.int p0), .unset, .unset, .unset] [(.ref b1), (.ref b1)])) _
    refine XS.iconst X1.here hx rfl (hb hby at_6) ?_
    show Steps p.tables e below (T1.setTop (mkF m 7 #[.val (.int p0), .unset, .unset, .unset] [(.int (0 : Int32)), (.ref b1), (.ref b1)])) _
    refine st2 _ ?_
    show Steps p.tables e below (T2.setTop (mkF m 10 #[.val (.int p0), .unset, .unset, .unset] [(.ref w_BOOLEAN), (.int (0 : Int32)), (.ref b1), (.ref b1)])) _
    refine st3 _ ?_
    show Steps p.tables e below (T3.setTop (mkF m 11 #[.val (.int p0), .unset, .unset, .unset] [(.ref b1)])) _
    refine XS.dup X3.here hx rfl (hb hby at_11) rfl rfl ?_
    show Steps p.tables e below (T3.setTop (mkF m 12 #[.val (.int p0), .unset, .unset, .unset] [(.ref b1), (.ref b1)])) _
    refine XS.iconst X3.here hx rfl (hb hby at_12) ?_
    show Steps p.tables e below (T3.setTop (mkF m 13 #[.val (.int p0), .unset, .unset, .unset] [(.int (1 : Int32)), (.ref b1), (.ref b1)])) _
    refine st4 _ ?_
    show Steps p.tables e below (T4.setTop (mkF m 16 #[.val (.int p0), .unset, .unset, .unset] [(.ref w_INT8), (.int (1 : Int32)), (.ref b1), (.ref b1)])) _
    refine st5 _ ?_
    show Steps p.tables e below (T5.setTop (mkF m 17 #[.val (.int p0), .unset, .unset, .unset] [(.ref b1)])) _
    refine XS.dup X5.here hx rfl (hb hby at_17) rfl rfl ?_
    show Steps p.tables e below (T5.setTop (mkF m 18 #[.val (.int p0), .unset, .unset, .unset] [(.ref b1), (.ref b1)])) _
    refine XS.iconst X5.here hx rfl (hb hby at_18) ?_
    show Steps p.tables e below (T5.setTop (mkF m 19 #[.val (.int p0), .unset, .unset, .unset] [(.int (2 : Int32)), (.ref b1), (.ref b1)])) _
    refine st6 _ ?_
    show Steps p.tables e below (T6.setTop (mkF m 22 #[.val (.int p0), .unset, .unset, .unset] [(.ref w_INT16), (.int (2 : Int32)), (.ref b1), (.ref b1)])) _
    refine st7 _ ?_
    show Steps p.tables e below (T7.setTop (mkF m 23 #[.val (.int p0), .unset, .unset, .unset] [(.ref b1)])) _
    refine XS.dup X7.here hx rfl (hb hby at_23) rfl rfl ?_
    show Steps p.tables e below (T7.setTop (mkF m 24 #[.val (.int p0), .unset, .unset, .unset] [(.ref b1), (.ref b1)])) _
    refine XS.iconst X7.here hx rfl (hb hby at_24) ?_
    show Steps p.tables e below (T7.setTop (mkF m 25 #[.val (.int p0), .unset, .unset, .unset] [(.int (3 : Int32)), (.ref b1), (.ref b1)])) _
    refine st8 _ ?_
    show Steps p.tables e below (T8.setTop (mkF m 28 #[.val (.int p0), .unset, .unset, .unset] [(.ref w_INT32), (.int (3 : Int32)), (.ref b1), (.ref b1)])) _
    refine st9 _ ?_
    show Steps p.tables e below (T9.setTop (mkF m 29 #[.val (.int p0), .unset, .unset, .unset] [(.ref b1)])) _
    refine XS.dup X9.here hx rfl (hb hby at_29) rfl rfl ?_
    show Steps p.tables e below (T9.setTop (mkF m 30 #[.val (.int p0), .unset, .unset, .unset] [(.ref b1), (.ref b1)])) _
    refine XS.iconst X9.here hx rfl (hb hby at_30) ?_
    show Steps p.tables e below (T9.setTop (mkF m 31 #[.val (.int p0), .unset, .unset, .unset] [(.int (4 : Int32)), (.ref b1), (.ref b1)])) _
    refine st10 _ ?_
    show Steps p.tables e below (T10.setTop (mkF m 34 #[.val (.int p0), .unset, .unset, .unset] [(.ref w_INT64), (.int (4 : Int32)), (.ref b1), (.ref b1)])) _
    refine st11 _ ?_
    show Steps p.tables e below (T11.setTop (mkF m 35 #[.val (.int p0), .unset, .unset, .unset] [(.ref b1)])) _
    refine XS.dup X11.here hx rfl (hb hby at_35) rfl rfl ?_
    show Steps p.tables e below (T11.setTop (mkF m 36 #[.val (.int p0), .unset, .unset, .unset] [(.ref b1), (.ref b1)])) _
    refine XS.iconst X11.here hx rfl (hb hby at_36) ?_
    show Steps p.tables e below (T11.setTop (mkF m 37 #[.val (.int p0), .unset, .unset, .unset] [(.int (5 : Int32)), (.ref b1), (.ref b1)])) _
    refine st12 _ ?_
    show Steps p.tables e below (T12.setTop (mkF m 40 #[.val (.int p0), .unset, .unset, .unset] [(.ref w_STRING), (.int (5 : Int32)), (.ref b1), (.ref b1)])) _
    refine st13 _ ?_
    show Steps p.tables e below (T13.setTop (mkF m 41 #[.val (.int p0), .unset, .unset, .unset] [(.ref b1)])) _
    refine XS.dup X13.here hx rfl (hb hby at_41) rfl rfl ?_
    show Steps p.tables e below (T13.setTop (mkF m 42 #[.val (.int p0), .unset, .unset, .unset] [(.ref b1), (.ref b1)])) _
    refine XS.bipush X13.here hx rfl (hb hby at_42) ?_
    show Steps p.tables e below (T13.setTop (mkF m 44 #[.val (.int p0), .unset, .unset, .unset] [(.int (6 : Int32)), (.ref b1), (.ref b1)])) _
    refine st14 _ ?_
    show Steps p.tables e below (T14.setTop (mkF m 47 #[.val (.int p0), .unset, .unset, .unset] [(.ref w_BYTES), (.int (6 : Int32)), (.ref b1), (.ref b1)])) _
    refine st15 _ ?_
    show Steps p.tables e below (T15.setTop (mkF m 48 #[.val (.int p0), .unset, .unset, .unset] [(.ref b1)])) _
    refine XS.dup X15.here hx rfl (hb hby at_48) rfl rfl ?_
    show Steps p.tables e below (T15.setTop (mkF m 49 #[.val (.int p0), .unset, .unset, .unset] [(.ref b1), (.ref b1)])) _
    refine XS.bipush X15.here hx rfl (hb hby at_49) ?_
    show Steps p.tables e below (T15.setTop (mkF m 51 #[.val (.int p0), .unset, .unset, .unset] [(.int (7 : Int32)), (.ref b1), (.ref b1)])) _
    refine st16 _ ?_
    show Steps p.tables e below (T16.setTop (mkF m 54 #[.val (.int p0), .unset, .unset, .unset] [(.ref w_RECORDS), (.int (7 : Int32)), (.ref b1), (.ref b1)])) _
    refine st17 _ ?_
    show Steps p.tables e below (T17.setTop (mkF m 55 #[.val (.int p0), .unset, .unset, .unset] [(.ref b1)])) _
    refine XS.dup X17.here hx rfl (hb hby at_55) rfl rfl ?_
    show Steps p.tables e below (T17.setTop (mkF m 56 #[.val (.int p0), .unset, .unset, .unset] [(.ref b1), (.ref b1)])) _
    refine XS.bipush X17.here hx rfl (hb hby at_56) ?_
    show Steps p.tables e below (T17.setTop (mkF m 58 #[.val (.int p0), .unset, .unset, .unset] [(.int (8 : Int32)), (.ref b1), (.ref b1)])) _
    refine st18 _ ?_
    show Steps p.tables e below (T18.setTop (mkF m 61 #[.val (.int p0), .unset, .unset, .unset] [(.ref w_ARRAY), (.int (8 : Int32)), (.ref b1), (.ref b1)])) _
    refine st19 _ ?_
    show Steps p.tables e below (T19.setTop (mkF m 62 #[.val (.int p0), .unset, .unset, .unset] [(.ref b1)])) _
    refine XS.astoreN X19.here hx rfl (hb hby at_62) rfl rfl (l' := #[.val (.int p0), .val (.ref b1), .unset, .unset]) rfl ?_
    show Steps p.tables e below (T19.setTop (mkF m 63 #[.val (.int p0), .val (.ref b1), .unset, .unset] [])) _
    refine XS.iloadN X19.here hx rfl (hb hby at_63) rfl ?_
    show Steps p.tables e below (T19.setTop (mkF m 64 #[.val (.int p0), .val (.ref b1), .unset, .unset] [(.int p0)])) _
    refine X19.ldcInt hx hown (mvT hZ (hw _ (List.mem_of_getElem? (i := 22) rfl))) (g := (mkF m 64 #[.val (.int p0), .val (.ref b1), .unset, .unset] [(.int p0)])) rfl (hb hby at_64) _ ?_
    show Steps p.tables e below (T19.setTop (mkF m 66 #[.val (.int p0), .val (.ref b1), .unset, .unset] [(.int (2147483647 : Int32)), (.int p0)])) _
    refine XS.iand X19.here hx rfl (hb hby at_66) rfl ?_
    show Steps p.tables e below (T19.setTop (mkF m 67 #[.val (.int p0), .val (.ref b1), .unset, .unset] [(.int (p0 &&& (2147483647 : Int32)))])) _
    refine XS.bipush X19.here hx rfl (hb hby at_67) ?_
    show Steps p.tables e below (T19.setTop (mkF m 69 #[.val (.int p0), .val (.ref b1), .unset, .unset] [(.int (9 : Int32)), (.int (p0 &&& (2147483647 : Int32)))])) _
    refine iremM X19 hx rfl (hb hby at_69) rfl (by decide) ?_
    show Steps p.tables e below (T19.setTop (mkF m 70 #[.val (.int p0), .val (.ref b1), .unset, .unset] [(.int ((p0 &&& (2147483647 : Int32)) % (9 : Int32)))])) _
    refine XS.istoreN X19.here hx rfl (hb hby at_70) rfl (l' := #[.val (.int p0), .val (.ref b1), .val (.int ((p0 &&& (2147483647 : Int32)) % (9 : Int32))), .unset]) rfl ?_
    exact k
  rcases own_k p0 with hk | hk | hk | hk | hk | hk | hk | hk | hk
  · have k21 : ∀ t, Steps p.tables e below (T19.setTop (mkF m 71 #[.val (.int p0), .val (.ref b1), .val (.int (0 : Int32)), .unset] [])) t → Steps p.tables e below (s₁.setTop (entryFrame m #[(.int p0)] maxLocals)) t := by
      intro t k
      refine k20 _ ?_
      rw [hk]
      exact k
    obtain ⟨cq23, kq23, q23a, q23b, q23c⟩ := isOf hZ e19 (E_BOOLEAN.ext O0.2)
    obtain ⟨_, _, ⟨T23, L23, k23_, n23⟩, -, X23, ⟨Lc23, hQ23, l23, y23, z23⟩, st23⟩ := X19.virtualBack hx (y := (⟨"com/example/strict_wire/strictwire/wire/FieldType", "isInteger", "()Z"⟩ : MethodName)) (z := (⟨"com/example/strict_wire/strictwire/wire/FieldType", "isInteger", "()Z"⟩ : MethodName)) hown (mvT hZ (hw _ (List.mem_of_getElem? (i := 23) rfl))) (mvT hZ (hw _ (List.mem_of_getElem? (i := 24) rfl))) (notFace_of_selects (args := #[]) (mvT hZ (hw _ (List.mem_of_getElem? (i := 26) rfl)))) (mvT hZ (hw _ (List.mem_of_getElem? (i := 26) rfl))) (mvT hZ (hw _ (List.mem_of_getElem? (i := 25) rfl))) (by decide) (backOf (W := 0) (rm1 l Z a0 hw [] w_BOOLEAN w_BOOLEAN w_INT8 w_INT16 w_INT32 w_INT64 w_STRING w_BYTES w_RECORDS w_ARRAY h19 n0 hG O0) hZ (hw _ (List.mem_of_getElem? (i := 27) rfl)) (hw _ (List.mem_of_getElem? (i := 3) rfl)) (by decide) (by decide)) q23a q23c (g := (mkF m 90 #[.val (.int p0), .val (.ref b1), .val (.int (0 : Int32)), .val (.int (0 : Int32))] [(.ref w_BOOLEAN)])) rfl (by rw [hml]; rfl) (Steps.refl _) (argsL := []) (rest := []) (lenOf pd_0 rfl) rfl (by show 2 * 0 + _ ≤ _; exact Nat.le_of_eq rfl) (hb hby at_90) (fun _ _ => ⟨rfl, e19, (by decide : 1 + 0 ≤ _), (by decide : 9 + 0 ≤ _)⟩)
    dsimp only [Pt.U, Pt.locs, Pt.cells, Pt.slots] at X23 l23 y23 z23 st23 hQ23
    subst l23 y23 z23
    obtain ⟨rfl, Nq23, e23⟩ := hQ23
    have N23 := Fr.app N19 Nq23
    have k24 : ∀ t, Steps p.tables e below (T23.setTop (mkF m 102 #[.val (.int p0), .val (.ref b1), .val (.int (0 : Int32)), .val (.int (0 : Int32))] [(.int (1 : Int32))])) t → Steps p.tables e below (s₁.setTop (entryFrame m #[(.int p0)] maxLocals)) t := by
      intro t k
      refine k21 _ ?_
      show Steps p.tables e below (T19.setTop (mkF m 71 #[.val (.int p0), .val (.ref b1), .val (.int (0 : Int32)), .unset] [])) _
      refine XS.iloadN X19.here hx rfl (hb hby at_71) rfl ?_
      show Steps p.tables e below (T19.setTop (mkF m 72 #[.val (.int p0), .val (.ref b1), .val (.int (0 : Int32)), .unset] [(.int (0 : Int32))])) _
      refine XS.iconst X19.here hx rfl (hb hby at_72) ?_
      show Steps p.tables e below (T19.setTop (mkF m 73 #[.val (.int p0), .val (.ref b1), .val (.int (0 : Int32)), .unset] [(.int (1 : Int32)), (.int (0 : Int32))])) _
      refine XS.icmpYes X19.here hx rfl (pc0 := 73) (pc' := 85) rfl (hb hby at_73) rfl (tlt (by decide)).1 (by decide) (by decide) ?_
      show Steps p.tables e below (T19.setTop (mkF m 85 #[.val (.int p0), .val (.ref b1), .val (.int (0 : Int32)), .unset] [])) _
      refine XS.iconst X19.here hx rfl (hb hby at_85) ?_
      show Steps p.tables e below (T19.setTop (mkF m 86 #[.val (.int p0), .val (.ref b1), .val (.int (0 : Int32)), .unset] [(.int (0 : Int32))])) _
      refine XS.istoreN X19.here hx rfl (hb hby at_86) rfl (l' := #[.val (.int p0), .val (.ref b1), .val (.int (0 : Int32)), .val (.int (0 : Int32))]) rfl ?_
      show Steps p.tables e below (T19.setTop (mkF m 87 #[.val (.int p0), .val (.ref b1), .val (.int (0 : Int32)), .val (.int (0 : Int32))] [])) _
      refine XS.aloadN X19.here hx rfl (hb hby at_87) rfl rfl ?_
      show Steps p.tables e below (T19.setTop (mkF m 88 #[.val (.int p0), .val (.ref b1), .val (.int (0 : Int32)), .val (.int (0 : Int32))] [(.ref b1)])) _
      refine XS.iloadN X19.here hx rfl (hb hby at_88) rfl ?_
      show Steps p.tables e below (T19.setTop (mkF m 89 #[.val (.int p0), .val (.ref b1), .val (.int (0 : Int32)), .val (.int (0 : Int32))] [(.int (0 : Int32)), (.ref b1)])) _
      obtain ⟨cl_22, Ar_22, q_22, S_22, N_22, H_22, G_22⟩ := id V_b1
      have hin_22 : ¬ ((0 : Int32) < 0 ∨ cl_22.slots.size ≤ ((0 : Int32)).toNatClampNeg) := inb_of S_22 ⟨by decide, by decide⟩
      refine X19.aaload hx (j := (0 : Int32)) (v := (.ref w_BOOLEAN)) (by rw [e19]; exact Ar_22.1) (State.isArrayOf_alike hZ.alike Ar_22.2.1) rfl Ar_22.2.2 hin_22 (Has.at H_22 hin_22 rfl) (g := (mkF m 89 #[.val (.int p0), .val (.ref b1), .val (.int (0 : Int32)), .val (.int (0 : Int32))] [(.int (0 : Int32)), (.ref b1)])) rfl rfl (hb hby at_89) _ ?_
      show Steps p.tables e below (T19.setTop (mkF m 90 #[.val (.int p0), .val (.ref b1), .val (.int (0 : Int32)), .val (.int (0 : Int32))] [(.ref w_BOOLEAN)])) _
      refine st23.trans ?_
      show Steps p.tables e below (T23.setTop (mkF m 93 #[.val (.int p0), .val (.ref b1), .val (.int (0 : Int32)), .val (.int (0 : Int32))] [(.int (own_f1 w_BOOLEAN w_BOOLEAN w_INT8 w_INT16 w_INT32 w_INT64 w_STRING w_BYTES w_RECORDS w_ARRAY))])) _
      refine XS.iloadN X23.here hx rfl (hb hby at_93) rfl ?_
      show Steps p.tables e below (T23.setTop (mkF m 94 #[.val (.int p0), .val (.ref b1), .val (.int (0 : Int32)), .val (.int (0 : Int32))] [(.int (0 : Int32)), (.int (own_f1 w_BOOLEAN w_BOOLEAN w_INT8 w_INT16 w_INT32 w_INT64 w_STRING w_BYTES w_RECORDS w_ARRAY))])) _
      refine XS.icmpNo X23.here hx rfl (hb hby at_94) rfl (teq (own_p_BOOLEAN w_BOOLEAN w_INT8 w_INT16 w_INT32 w_INT64 w_STRING w_BYTES w_RECORDS w_ARRAY hG)).2 ?_
      show Steps p.tables e below (T23.setTop (mkF m 97 #[.val (.int p0), .val (.ref b1), .val (.int (0 : Int32)), .val (.int (0 : Int32))] [])) _
      refine XS.iconst X23.here hx rfl (hb hby at_97) ?_
      show Steps p.tables e below (T23.setTop (mkF m 98 #[.val (.int p0), .val (.ref b1), .val (.int (0 : Int32)), .val (.int (0 : Int32))] [(.int (1 : Int32))])) _
      refine XS.goto X23.here hx rfl (pc0 := 98) (pc' := 102) rfl (hb hby at_98) (by decide) (by decide) ?_
      exact k
    obtain ⟨fs, hr, hrun, hended, hW, hsame⟩ := X23.leave (v := some (.int (1 : Int32))) (fun h => by rw [Bd.returns] at h; cases h)
    refine ⟨_, _, k24 _ ?_, hrun, hended, _, _, rfl, ?_, ⟨_, rfl⟩, hW, hsame.mono (by decide) (by decide)⟩
    · exact retN X23 hx (t := .boolean) Bd.returns (by simp) (hb hby at_102) hr
    · show own_R (some (.int 1)) n0 _ T23.heap _
      rw [e23]
      exact ⟨rfl, N23⟩
  · have k25 : ∀ t, Steps p.tables e below (T19.setTop (mkF m 71 #[.val (.int p0), .val (.ref b1), .val (.int (1 : Int32)), .unset] [])) t → Steps p.tables e below (s₁.setTop (entryFrame m #[(.int p0)] maxLocals)) t := by
      intro t k
      refine k20 _ ?_
      rw [hk]
      exact k
    obtain ⟨cq27, kq27, q27a, q27b, q27c⟩ := isOf hZ e19 (E_INT8.ext O0.2)
    obtain ⟨_, _, ⟨T27, L27, k27_, n27⟩, -, X27, ⟨Lc27, hQ27, l27, y27, z27⟩, st27⟩ := X19.virtualBack hx (y := (⟨"com/example/strict_wire/strictwire/wire/FieldType", "isInteger", "()Z"⟩ : MethodName)) (z := (⟨"com/example/strict_wire/strictwire/wire/FieldType", "isInteger", "()Z"⟩ : MethodName)) hown (mvT hZ (hw _ (List.mem_of_getElem? (i := 23) rfl))) (mvT hZ (hw _ (List.mem_of_getElem? (i := 24) rfl))) (notFace_of_selects (args := #[]) (mvT hZ (hw _ (List.mem_of_getElem? (i := 26) rfl)))) (mvT hZ (hw _ (List.mem_of_getElem? (i := 26) rfl))) (mvT hZ (hw _ (List.mem_of_getElem? (i := 25) rfl))) (by decide) (backOf (W := 0) (rm1 l Z a0 hw [] w_INT8 w_BOOLEAN w_INT8 w_INT16 w_INT32 w_INT64 w_STRING w_BYTES w_RECORDS w_ARRAY h19 n0 hG O0) hZ (hw _ (List.mem_of_getElem? (i := 27) rfl)) (hw _ (List.mem_of_getElem? (i := 3) rfl)) (by decide) (by decide)) q27a q27c (g := (mkF m 90 #[.val (.int p0), .val (.ref b1), .val (.int (1 : Int32)), .val (.int (1 : Int32))] [(.ref w_INT8)])) rfl (by rw [hml]; rfl) (Steps.refl _) (argsL := []) (rest := []) (lenOf pd_0 rfl) rfl (by show 2 * 0 + _ ≤ _; exact Nat.le_of_eq rfl) (hb hby at_90) (fun _ _ => ⟨rfl, e19, (by decide : 1 + 0 ≤ _), (by decide : 9 + 0 ≤ _)⟩)
    dsimp only [Pt.U, Pt.locs, Pt.cells, Pt.slots] at X27 l27 y27 z27 st27 hQ27
    subst l27 y27 z27
    obtain ⟨rfl, Nq27, e27⟩ := hQ27
    have N27 := Fr.app N19 Nq27
    have k28 : ∀ t, Steps p.tables e below (T27.setTop (mkF m 102 #[.val (.int p0), .val (.ref b1), .val (.int (1 : Int32)), .val (.int (1 : Int32))] [(.int (1 : Int32))])) t → Steps p.tables e below (s₁.setTop (entryFrame m #[(.int p0)] maxLocals)) t := by
      intro t k
      refine k25 _ ?_
      show Steps p.tables e below (T19.setTop (mkF m 71 #[.val (.int p0), .val (.ref b1), .val (.int (1 : Int32)), .unset] [])) _
      refine XS.iloadN X19.here hx rfl (hb hby at_71) rfl ?_
      show Steps p.tables e below (T19.setTop (mkF m 72 #[.val (.int p0), .val (.ref b1), .val (.int (1 : Int32)), .unset] [(.int (1 : Int32))])) _
      refine XS.iconst X19.here hx rfl (hb hby at_72) ?_
      show Steps p.tables e below (T19.setTop (mkF m 73 #[.val (.int p0), .val (.ref b1), .val (.int (1 : Int32)), .unset] [(.int (1 : Int32)), (.int (1 : Int32))])) _
      refine XS.icmpNo X19.here hx rfl (hb hby at_73) rfl (flt (by decide)).1 ?_
      show Steps p.tables e below (T19.setTop (mkF m 76 #[.val (.int p0), .val (.ref b1), .val (.int (1 : Int32)), .unset] [])) _
      refine XS.iloadN X19.here hx rfl (hb hby at_76) rfl ?_
      show Steps p.tables e below (T19.setTop (mkF m 77 #[.val (.int p0), .val (.ref b1), .val (.int (1 : Int32)), .unset] [(.int (1 : Int32))])) _
      refine XS.iconst X19.here hx rfl (hb hby at_77) ?_
      show Steps p.tables e below (T19.setTop (mkF m 78 #[.val (.int p0), .val (.ref b1), .val (.int (1 : Int32)), .unset] [(.int (4 : Int32)), (.int (1 : Int32))])) _
      refine XS.icmpNo X19.here hx rfl (hb hby at_78) rfl (flt (by decide)).2.2.1 ?_
      show Steps p.tables e below (T19.setTop (mkF m 81 #[.val (.int p0), .val (.ref b1), .val (.int (1 : Int32)), .unset] [])) _
      refine XS.iconst X19.here hx rfl (hb hby at_81) ?_
      show Steps p.tables e below (T19.setTop (mkF m 82 #[.val (.int p0), .val (.ref b1), .val (.int (1 : Int32)), .unset] [(.int (1 : Int32))])) _
      refine XS.goto X19.here hx rfl (pc0 := 82) (pc' := 86) rfl (hb hby at_82) (by decide) (by decide) ?_
      show Steps p.tables e below (T19.setTop (mkF m 86 #[.val (.int p0), .val (.ref b1), .val (.int (1 : Int32)), .unset] [(.int (1 : Int32))])) _
      refine XS.istoreN X19.here hx rfl (hb hby at_86) rfl (l' := #[.val (.int p0), .val (.ref b1), .val (.int (1 : Int32)), .val (.int (1 : Int32))]) rfl ?_
      show Steps p.tables e below (T19.setTop (mkF m 87 #[.val (.int p0), .val (.ref b1), .val (.int (1 : Int32)), .val (.int (1 : Int32))] [])) _
      refine XS.aloadN X19.here hx rfl (hb hby at_87) rfl rfl ?_
      show Steps p.tables e below (T19.setTop (mkF m 88 #[.val (.int p0), .val (.ref b1), .val (.int (1 : Int32)), .val (.int (1 : Int32))] [(.ref b1)])) _
      refine XS.iloadN X19.here hx rfl (hb hby at_88) rfl ?_
      show Steps p.tables e below (T19.setTop (mkF m 89 #[.val (.int p0), .val (.ref b1), .val (.int (1 : Int32)), .val (.int (1 : Int32))] [(.int (1 : Int32)), (.ref b1)])) _
      obtain ⟨cl_26, Ar_26, q_26, S_26, N_26, H_26, G_26⟩ := id V_b1
      have hin_26 : ¬ ((1 : Int32) < 0 ∨ cl_26.slots.size ≤ ((1 : Int32)).toNatClampNeg) := inb_of S_26 ⟨by decide, by decide⟩
      refine X19.aaload hx (j := (1 : Int32)) (v := (.ref w_INT8)) (by rw [e19]; exact Ar_26.1) (State.isArrayOf_alike hZ.alike Ar_26.2.1) rfl Ar_26.2.2 hin_26 (Has.at H_26 hin_26 rfl) (g := (mkF m 89 #[.val (.int p0), .val (.ref b1), .val (.int (1 : Int32)), .val (.int (1 : Int32))] [(.int (1 : Int32)), (.ref b1)])) rfl rfl (hb hby at_89) _ ?_
      show Steps p.tables e below (T19.setTop (mkF m 90 #[.val (.int p0), .val (.ref b1), .val (.int (1 : Int32)), .val (.int (1 : Int32))] [(.ref w_INT8)])) _
      refine st27.trans ?_
      show Steps p.tables e below (T27.setTop (mkF m 93 #[.val (.int p0), .val (.ref b1), .val (.int (1 : Int32)), .val (.int (1 : Int32))] [(.int (own_f1 w_INT8 w_BOOLEAN w_INT8 w_INT16 w_INT32 w_INT64 w_STRING w_BYTES w_RECORDS w_ARRAY))])) _
      refine XS.iloadN X27.here hx rfl (hb hby at_93) rfl ?_
      show Steps p.tables e below (T27.setTop (mkF m 94 #[.val (.int p0), .val (.ref b1), .val (.int (1 : Int32)), .val (.int (1 : Int32))] [(.int (1 : Int32)), (.int (own_f1 w_INT8 w_BOOLEAN w_INT8 w_INT16 w_INT32 w_INT64 w_STRING w_BYTES w_RECORDS w_ARRAY))])) _
      refine XS.icmpNo X27.here hx rfl (hb hby at_94) rfl (teq (own_p_INT8 w_BOOLEAN w_INT8 w_INT16 w_INT32 w_INT64 w_STRING w_BYTES w_RECORDS w_ARRAY hG)).2 ?_
      show Steps p.tables e below (T27.setTop (mkF m 97 #[.val (.int p0), .val (.ref b1), .val (.int (1 : Int32)), .val (.int (1 : Int32))] [])) _
      refine XS.iconst X27.here hx rfl (hb hby at_97) ?_
      show Steps p.tables e below (T27.setTop (mkF m 98 #[.val (.int p0), .val (.ref b1), .val (.int (1 : Int32)), .val (.int (1 : Int32))] [(.int (1 : Int32))])) _
      refine XS.goto X27.here hx rfl (pc0 := 98) (pc' := 102) rfl (hb hby at_98) (by decide) (by decide) ?_
      exact k
    obtain ⟨fs, hr, hrun, hended, hW, hsame⟩ := X27.leave (v := some (.int (1 : Int32))) (fun h => by rw [Bd.returns] at h; cases h)
    refine ⟨_, _, k28 _ ?_, hrun, hended, _, _, rfl, ?_, ⟨_, rfl⟩, hW, hsame.mono (by decide) (by decide)⟩
    · exact retN X27 hx (t := .boolean) Bd.returns (by simp) (hb hby at_102) hr
    · show own_R (some (.int 1)) n0 _ T27.heap _
      rw [e27]
      exact ⟨rfl, N27⟩
  · have k29 : ∀ t, Steps p.tables e below (T19.setTop (mkF m 71 #[.val (.int p0), .val (.ref b1), .val (.int (2 : Int32)), .unset] [])) t → Steps p.tables e below (s₁.setTop (entryFrame m #[(.int p0)] maxLocals)) t := by
      intro t k
      refine k20 _ ?_
      rw [hk]
      exact k
    obtain ⟨cq31, kq31, q31a, q31b, q31c⟩ := isOf hZ e19 (E_INT16.ext O0.2)
    obtain ⟨_, _, ⟨T31, L31, k31_, n31⟩, -, X31, ⟨Lc31, hQ31, l31, y31, z31⟩, st31⟩ := X19.virtualBack hx (y := (⟨"com/example/strict_wire/strictwire/wire/FieldType", "isInteger", "()Z"⟩ : MethodName)) (z := (⟨"com/example/strict_wire/strictwire/wire/FieldType", "isInteger", "()Z"⟩ : MethodName)) hown (mvT hZ (hw _ (List.mem_of_getElem? (i := 23) rfl))) (mvT hZ (hw _ (List.mem_of_getElem? (i := 24) rfl))) (notFace_of_selects (args := #[]) (mvT hZ (hw _ (List.mem_of_getElem? (i := 26) rfl)))) (mvT hZ (hw _ (List.mem_of_getElem? (i := 26) rfl))) (mvT hZ (hw _ (List.mem_of_getElem? (i := 25) rfl))) (by decide) (backOf (W := 0) (rm1 l Z a0 hw [] w_INT16 w_BOOLEAN w_INT8 w_INT16 w_INT32 w_INT64 w_STRING w_BYTES w_RECORDS w_ARRAY h19 n0 hG O0) hZ (hw _ (List.mem_of_getElem? (i := 27) rfl)) (hw _ (List.mem_of_getElem? (i := 3) rfl)) (by decide) (by decide)) q31a q31c (g := (mkF m 90 #[.val (.int p0), .val (.ref b1), .val (.int (2 : Int32)), .val (.int (1 : Int32))] [(.ref w_INT16)])) rfl (by rw [hml]; rfl) (Steps.refl _) (argsL := []) (rest := []) (lenOf pd_0 rfl) rfl (by show 2 * 0 + _ ≤ _; exact Nat.le_of_eq rfl) (hb hby at_90) (fun _ _ => ⟨rfl, e19, (by decide : 1 + 0 ≤ _), (by decide : 9 + 0 ≤ _)⟩)
    dsimp only [Pt.U, Pt.locs, Pt.cells, Pt.slots] at X31 l31 y31 z31 st31 hQ31
    subst l31 y31 z31
    obtain ⟨rfl, Nq31, e31⟩ := hQ31
    have N31 := Fr.app N19 Nq31
    have k32 : ∀ t, Steps p.tables e below (T31.setTop (mkF m 102 #[.val (.int p0), .val (.ref b1), .val (.int (2 : Int32)), .val (.int (1 : Int32))] [(.int (1 : Int32))])) t → Steps p.tables e below (s₁.setTop (entryFrame m #[(.int p0)] maxLocals)) t := by
      intro t k
      refine k29 _ ?_
      show Steps p.tables e below (T19.setTop (mkF m 71 #[.val (.int p0), .val (.ref b1), .val (.int (2 : Int32)), .unset] [])) _
      refine XS.iloadN X19.here hx rfl (hb hby at_71) rfl ?_
      show Steps p.tables e below (T19.setTop (mkF m 72 #[.val (.int p0), .val (.ref b1), .val (.int (2 : Int32)), .unset] [(.int (2 : Int32))])) _
      refine XS.iconst X19.here hx rfl (hb hby at_72) ?_
      show Steps p.tables e below (T19.setTop (mkF m 73 #[.val (.int p0), .val (.ref b1), .val (.int (2 : Int32)), .unset] [(.int (1 : Int32)), (.int (2 : Int32))])) _
      refine XS.icmpNo X19.here hx rfl (hb hby at_73) rfl (flt (by decide)).1 ?_
      show Steps p.tables e below (T19.setTop (mkF m 76 #[.val (.int p0), .val (.ref b1), .val (.int (2 : Int32)), .unset] [])) _
      refine XS.iloadN X19.here hx rfl (hb hby at_76) rfl ?_
      show Steps p.tables e below (T19.setTop (mkF m 77 #[.val (.int p0), .val (.ref b1), .val (.int (2 : Int32)), .unset] [(.int (2 : Int32))])) _
      refine XS.iconst X19.here hx rfl (hb hby at_77) ?_
      show Steps p.tables e below (T19.setTop (mkF m 78 #[.val (.int p0), .val (.ref b1), .val (.int (2 : Int32)), .unset] [(.int (4 : Int32)), (.int (2 : Int32))])) _
      refine XS.icmpNo X19.here hx rfl (hb hby at_78) rfl (flt (by decide)).2.2.1 ?_
      show Steps p.tables e below (T19.setTop (mkF m 81 #[.val (.int p0), .val (.ref b1), .val (.int (2 : Int32)), .unset] [])) _
      refine XS.iconst X19.here hx rfl (hb hby at_81) ?_
      show Steps p.tables e below (T19.setTop (mkF m 82 #[.val (.int p0), .val (.ref b1), .val (.int (2 : Int32)), .unset] [(.int (1 : Int32))])) _
      refine XS.goto X19.here hx rfl (pc0 := 82) (pc' := 86) rfl (hb hby at_82) (by decide) (by decide) ?_
      show Steps p.tables e below (T19.setTop (mkF m 86 #[.val (.int p0), .val (.ref b1), .val (.int (2 : Int32)), .unset] [(.int (1 : Int32))])) _
      refine XS.istoreN X19.here hx rfl (hb hby at_86) rfl (l' := #[.val (.int p0), .val (.ref b1), .val (.int (2 : Int32)), .val (.int (1 : Int32))]) rfl ?_
      show Steps p.tables e below (T19.setTop (mkF m 87 #[.val (.int p0), .val (.ref b1), .val (.int (2 : Int32)), .val (.int (1 : Int32))] [])) _
      refine XS.aloadN X19.here hx rfl (hb hby at_87) rfl rfl ?_
      show Steps p.tables e below (T19.setTop (mkF m 88 #[.val (.int p0), .val (.ref b1), .val (.int (2 : Int32)), .val (.int (1 : Int32))] [(.ref b1)])) _
      refine XS.iloadN X19.here hx rfl (hb hby at_88) rfl ?_
      show Steps p.tables e below (T19.setTop (mkF m 89 #[.val (.int p0), .val (.ref b1), .val (.int (2 : Int32)), .val (.int (1 : Int32))] [(.int (2 : Int32)), (.ref b1)])) _
      obtain ⟨cl_30, Ar_30, q_30, S_30, N_30, H_30, G_30⟩ := id V_b1
      have hin_30 : ¬ ((2 : Int32) < 0 ∨ cl_30.slots.size ≤ ((2 : Int32)).toNatClampNeg) := inb_of S_30 ⟨by decide, by decide⟩
      refine X19.aaload hx (j := (2 : Int32)) (v := (.ref w_INT16)) (by rw [e19]; exact Ar_30.1) (State.isArrayOf_alike hZ.alike Ar_30.2.1) rfl Ar_30.2.2 hin_30 (Has.at H_30 hin_30 rfl) (g := (mkF m 89 #[.val (.int p0), .val (.ref b1), .val (.int (2 : Int32)), .val (.int (1 : Int32))] [(.int (2 : Int32)), (.ref b1)])) rfl rfl (hb hby at_89) _ ?_
      show Steps p.tables e below (T19.setTop (mkF m 90 #[.val (.int p0), .val (.ref b1), .val (.int (2 : Int32)), .val (.int (1 : Int32))] [(.ref w_INT16)])) _
      refine st31.trans ?_
      show Steps p.tables e below (T31.setTop (mkF m 93 #[.val (.int p0), .val (.ref b1), .val (.int (2 : Int32)), .val (.int (1 : Int32))] [(.int (own_f1 w_INT16 w_BOOLEAN w_INT8 w_INT16 w_INT32 w_INT64 w_STRING w_BYTES w_RECORDS w_ARRAY))])) _
      refine XS.iloadN X31.here hx rfl (hb hby at_93) rfl ?_
      show Steps p.tables e below (T31.setTop (mkF m 94 #[.val (.int p0), .val (.ref b1), .val (.int (2 : Int32)), .val (.int (1 : Int32))] [(.int (1 : Int32)), (.int (own_f1 w_INT16 w_BOOLEAN w_INT8 w_INT16 w_INT32 w_INT64 w_STRING w_BYTES w_RECORDS w_ARRAY))])) _
      refine XS.icmpNo X31.here hx rfl (hb hby at_94) rfl (teq (own_p_INT16 w_BOOLEAN w_INT8 w_INT16 w_INT32 w_INT64 w_STRING w_BYTES w_RECORDS w_ARRAY hG)).2 ?_
      show Steps p.tables e below (T31.setTop (mkF m 97 #[.val (.int p0), .val (.ref b1), .val (.int (2 : Int32)), .val (.int (1 : Int32))] [])) _
      refine XS.iconst X31.here hx rfl (hb hby at_97) ?_
      show Steps p.tables e below (T31.setTop (mkF m 98 #[.val (.int p0), .val (.ref b1), .val (.int (2 : Int32)), .val (.int (1 : Int32))] [(.int (1 : Int32))])) _
      refine XS.goto X31.here hx rfl (pc0 := 98) (pc' := 102) rfl (hb hby at_98) (by decide) (by decide) ?_
      exact k
    obtain ⟨fs, hr, hrun, hended, hW, hsame⟩ := X31.leave (v := some (.int (1 : Int32))) (fun h => by rw [Bd.returns] at h; cases h)
    refine ⟨_, _, k32 _ ?_, hrun, hended, _, _, rfl, ?_, ⟨_, rfl⟩, hW, hsame.mono (by decide) (by decide)⟩
    · exact retN X31 hx (t := .boolean) Bd.returns (by simp) (hb hby at_102) hr
    · show own_R (some (.int 1)) n0 _ T31.heap _
      rw [e31]
      exact ⟨rfl, N31⟩
  · have k33 : ∀ t, Steps p.tables e below (T19.setTop (mkF m 71 #[.val (.int p0), .val (.ref b1), .val (.int (3 : Int32)), .unset] [])) t → Steps p.tables e below (s₁.setTop (entryFrame m #[(.int p0)] maxLocals)) t := by
      intro t k
      refine k20 _ ?_
      rw [hk]
      exact k
    obtain ⟨cq35, kq35, q35a, q35b, q35c⟩ := isOf hZ e19 (E_INT32.ext O0.2)
    obtain ⟨_, _, ⟨T35, L35, k35_, n35⟩, -, X35, ⟨Lc35, hQ35, l35, y35, z35⟩, st35⟩ := X19.virtualBack hx (y := (⟨"com/example/strict_wire/strictwire/wire/FieldType", "isInteger", "()Z"⟩ : MethodName)) (z := (⟨"com/example/strict_wire/strictwire/wire/FieldType", "isInteger", "()Z"⟩ : MethodName)) hown (mvT hZ (hw _ (List.mem_of_getElem? (i := 23) rfl))) (mvT hZ (hw _ (List.mem_of_getElem? (i := 24) rfl))) (notFace_of_selects (args := #[]) (mvT hZ (hw _ (List.mem_of_getElem? (i := 26) rfl)))) (mvT hZ (hw _ (List.mem_of_getElem? (i := 26) rfl))) (mvT hZ (hw _ (List.mem_of_getElem? (i := 25) rfl))) (by decide) (backOf (W := 0) (rm1 l Z a0 hw [] w_INT32 w_BOOLEAN w_INT8 w_INT16 w_INT32 w_INT64 w_STRING w_BYTES w_RECORDS w_ARRAY h19 n0 hG O0) hZ (hw _ (List.mem_of_getElem? (i := 27) rfl)) (hw _ (List.mem_of_getElem? (i := 3) rfl)) (by decide) (by decide)) q35a q35c (g := (mkF m 90 #[.val (.int p0), .val (.ref b1), .val (.int (3 : Int32)), .val (.int (1 : Int32))] [(.ref w_INT32)])) rfl (by rw [hml]; rfl) (Steps.refl _) (argsL := []) (rest := []) (lenOf pd_0 rfl) rfl (by show 2 * 0 + _ ≤ _; exact Nat.le_of_eq rfl) (hb hby at_90) (fun _ _ => ⟨rfl, e19, (by decide : 1 + 0 ≤ _), (by decide : 9 + 0 ≤ _)⟩)
    dsimp only [Pt.U, Pt.locs, Pt.cells, Pt.slots] at X35 l35 y35 z35 st35 hQ35
    subst l35 y35 z35
    obtain ⟨rfl, Nq35, e35⟩ := hQ35
    have N35 := Fr.app N19 Nq35
    have k36 : ∀ t, Steps p.tables e below (T35.setTop (mkF m 102 #[.val (.int p0), .val (.ref b1), .val (.int (3 : Int32)), .val (.int (1 : Int32))] [(.int (1 : Int32))])) t → Steps p.tables e below (s₁.setTop (entryFrame m #[(.int p0)] maxLocals)) t := by
      intro t k
      refine k33 _ ?_
      show Steps p.tables e below (T19.setTop (mkF m 71 #[.val (.int p0), .val (.ref b1), .val (.int (3 : Int32)), .unset] [])) _
      refine XS.iloadN X19.here hx rfl (hb hby at_71) rfl ?_
      show Steps p.tables e below (T19.setTop (mkF m 72 #[.val (.int p0), .val (.ref b1), .val (.int (3 : Int32)), .unset] [(.int (3 : Int32))])) _
      refine XS.iconst X19.here hx rfl (hb hby at_72) ?_
      show Steps p.tables e below (T19.setTop (mkF m 73 #[.val (.int p0), .val (.ref b1), .val (.int (3 : Int32)), .unset] [(.int (1 : Int32)), (.int (3 : Int32))])) _
      refine XS.icmpNo X19.here hx rfl (hb hby at_73) rfl (flt (by decide)).1 ?_
      show Steps p.tables e below (T19.setTop (mkF m 76 #[.val (.int p0), .val (.ref b1), .val (.int (3 : Int32)), .unset] [])) _
      refine XS.iloadN X19.here hx rfl (hb hby at_76) rfl ?_
      show Steps p.tables e below (T19.setTop (mkF m 77 #[.val (.int p0), .val (.ref b1), .val (.int (3 : Int32)), .unset] [(.int (3 : Int32))])) _
      refine XS.iconst X19.here hx rfl (hb hby at_77) ?_
      show Steps p.tables e below (T19.setTop (mkF m 78 #[.val (.int p0), .val (.ref b1), .val (.int (3 : Int32)), .unset] [(.int (4 : Int32)), (.int (3 : Int32))])) _
      refine XS.icmpNo X19.here hx rfl (hb hby at_78) rfl (flt (by decide)).2.2.1 ?_
      show Steps p.tables e below (T19.setTop (mkF m 81 #[.val (.int p0), .val (.ref b1), .val (.int (3 : Int32)), .unset] [])) _
      refine XS.iconst X19.here hx rfl (hb hby at_81) ?_
      show Steps p.tables e below (T19.setTop (mkF m 82 #[.val (.int p0), .val (.ref b1), .val (.int (3 : Int32)), .unset] [(.int (1 : Int32))])) _
      refine XS.goto X19.here hx rfl (pc0 := 82) (pc' := 86) rfl (hb hby at_82) (by decide) (by decide) ?_
      show Steps p.tables e below (T19.setTop (mkF m 86 #[.val (.int p0), .val (.ref b1), .val (.int (3 : Int32)), .unset] [(.int (1 : Int32))])) _
      refine XS.istoreN X19.here hx rfl (hb hby at_86) rfl (l' := #[.val (.int p0), .val (.ref b1), .val (.int (3 : Int32)), .val (.int (1 : Int32))]) rfl ?_
      show Steps p.tables e below (T19.setTop (mkF m 87 #[.val (.int p0), .val (.ref b1), .val (.int (3 : Int32)), .val (.int (1 : Int32))] [])) _
      refine XS.aloadN X19.here hx rfl (hb hby at_87) rfl rfl ?_
      show Steps p.tables e below (T19.setTop (mkF m 88 #[.val (.int p0), .val (.ref b1), .val (.int (3 : Int32)), .val (.int (1 : Int32))] [(.ref b1)])) _
      refine XS.iloadN X19.here hx rfl (hb hby at_88) rfl ?_
      show Steps p.tables e below (T19.setTop (mkF m 89 #[.val (.int p0), .val (.ref b1), .val (.int (3 : Int32)), .val (.int (1 : Int32))] [(.int (3 : Int32)), (.ref b1)])) _
      obtain ⟨cl_34, Ar_34, q_34, S_34, N_34, H_34, G_34⟩ := id V_b1
      have hin_34 : ¬ ((3 : Int32) < 0 ∨ cl_34.slots.size ≤ ((3 : Int32)).toNatClampNeg) := inb_of S_34 ⟨by decide, by decide⟩
      refine X19.aaload hx (j := (3 : Int32)) (v := (.ref w_INT32)) (by rw [e19]; exact Ar_34.1) (State.isArrayOf_alike hZ.alike Ar_34.2.1) rfl Ar_34.2.2 hin_34 (Has.at H_34 hin_34 rfl) (g := (mkF m 89 #[.val (.int p0), .val (.ref b1), .val (.int (3 : Int32)), .val (.int (1 : Int32))] [(.int (3 : Int32)), (.ref b1)])) rfl rfl (hb hby at_89) _ ?_
      show Steps p.tables e below (T19.setTop (mkF m 90 #[.val (.int p0), .val (.ref b1), .val (.int (3 : Int32)), .val (.int (1 : Int32))] [(.ref w_INT32)])) _
      refine st35.trans ?_
      show Steps p.tables e below (T35.setTop (mkF m 93 #[.val (.int p0), .val (.ref b1), .val (.int (3 : Int32)), .val (.int (1 : Int32))] [(.int (own_f1 w_INT32 w_BOOLEAN w_INT8 w_INT16 w_INT32 w_INT64 w_STRING w_BYTES w_RECORDS w_ARRAY))])) _
      refine XS.iloadN X35.here hx rfl (hb hby at_93) rfl ?_
      show Steps p.tables e below (T35.setTop (mkF m 94 #[.val (.int p0), .val (.ref b1), .val (.int (3 : Int32)), .val (.int (1 : Int32))] [(.int (1 : Int32)), (.int (own_f1 w_INT32 w_BOOLEAN w_INT8 w_INT16 w_INT32 w_INT64 w_STRING w_BYTES w_RECORDS w_ARRAY))])) _
      refine XS.icmpNo X35.here hx rfl (hb hby at_94) rfl (teq (own_p_INT32 w_BOOLEAN w_INT8 w_INT16 w_INT32 w_INT64 w_STRING w_BYTES w_RECORDS w_ARRAY hG)).2 ?_
      show Steps p.tables e below (T35.setTop (mkF m 97 #[.val (.int p0), .val (.ref b1), .val (.int (3 : Int32)), .val (.int (1 : Int32))] [])) _
      refine XS.iconst X35.here hx rfl (hb hby at_97) ?_
      show Steps p.tables e below (T35.setTop (mkF m 98 #[.val (.int p0), .val (.ref b1), .val (.int (3 : Int32)), .val (.int (1 : Int32))] [(.int (1 : Int32))])) _
      refine XS.goto X35.here hx rfl (pc0 := 98) (pc' := 102) rfl (hb hby at_98) (by decide) (by decide) ?_
      exact k
    obtain ⟨fs, hr, hrun, hended, hW, hsame⟩ := X35.leave (v := some (.int (1 : Int32))) (fun h => by rw [Bd.returns] at h; cases h)
    refine ⟨_, _, k36 _ ?_, hrun, hended, _, _, rfl, ?_, ⟨_, rfl⟩, hW, hsame.mono (by decide) (by decide)⟩
    · exact retN X35 hx (t := .boolean) Bd.returns (by simp) (hb hby at_102) hr
    · show own_R (some (.int 1)) n0 _ T35.heap _
      rw [e35]
      exact ⟨rfl, N35⟩
  · have k37 : ∀ t, Steps p.tables e below (T19.setTop (mkF m 71 #[.val (.int p0), .val (.ref b1), .val (.int (4 : Int32)), .unset] [])) t → Steps p.tables e below (s₁.setTop (entryFrame m #[(.int p0)] maxLocals)) t := by
      intro t k
      refine k20 _ ?_
      rw [hk]
      exact k
    obtain ⟨cq39, kq39, q39a, q39b, q39c⟩ := isOf hZ e19 (E_INT64.ext O0.2)
    obtain ⟨_, _, ⟨T39, L39, k39_, n39⟩, -, X39, ⟨Lc39, hQ39, l39, y39, z39⟩, st39⟩ := X19.virtualBack hx (y := (⟨"com/example/strict_wire/strictwire/wire/FieldType", "isInteger", "()Z"⟩ : MethodName)) (z := (⟨"com/example/strict_wire/strictwire/wire/FieldType", "isInteger", "()Z"⟩ : MethodName)) hown (mvT hZ (hw _ (List.mem_of_getElem? (i := 23) rfl))) (mvT hZ (hw _ (List.mem_of_getElem? (i := 24) rfl))) (notFace_of_selects (args := #[]) (mvT hZ (hw _ (List.mem_of_getElem? (i := 26) rfl)))) (mvT hZ (hw _ (List.mem_of_getElem? (i := 26) rfl))) (mvT hZ (hw _ (List.mem_of_getElem? (i := 25) rfl))) (by decide) (backOf (W := 0) (rm1 l Z a0 hw [] w_INT64 w_BOOLEAN w_INT8 w_INT16 w_INT32 w_INT64 w_STRING w_BYTES w_RECORDS w_ARRAY h19 n0 hG O0) hZ (hw _ (List.mem_of_getElem? (i := 27) rfl)) (hw _ (List.mem_of_getElem? (i := 3) rfl)) (by decide) (by decide)) q39a q39c (g := (mkF m 90 #[.val (.int p0), .val (.ref b1), .val (.int (4 : Int32)), .val (.int (1 : Int32))] [(.ref w_INT64)])) rfl (by rw [hml]; rfl) (Steps.refl _) (argsL := []) (rest := []) (lenOf pd_0 rfl) rfl (by show 2 * 0 + _ ≤ _; exact Nat.le_of_eq rfl) (hb hby at_90) (fun _ _ => ⟨rfl, e19, (by decide : 1 + 0 ≤ _), (by decide : 9 + 0 ≤ _)⟩)
    dsimp only [Pt.U, Pt.locs, Pt.cells, Pt.slots] at X39 l39 y39 z39 st39 hQ39
    subst l39 y39 z39
    obtain ⟨rfl, Nq39, e39⟩ := hQ39
    have N39 := Fr.app N19 Nq39
    have k40 : ∀ t, Steps p.tables e below (T39.setTop (mkF m 102 #[.val (.int p0), .val (.ref b1), .val (.int (4 : Int32)), .val (.int (1 : Int32))] [(.int (1 : Int32))])) t → Steps p.tables e below (s₁.setTop (entryFrame m #[(.int p0)] maxLocals)) t := by
      intro t k
      refine k37 _ ?_
      show Steps p.tables e below (T19.setTop (mkF m 71 #[.val (.int p0), .val (.ref b1), .val (.int (4 : Int32)), .unset] [])) _
      refine XS.iloadN X19.here hx rfl (hb hby at_71) rfl ?_
      show Steps p.tables e below (T19.setTop (mkF m 72 #[.val (.int p0), .val (.ref b1), .val (.int (4 : Int32)), .unset] [(.int (4 : Int32))])) _
      refine XS.iconst X19.here hx rfl (hb hby at_72) ?_
      show Steps p.tables e below (T19.setTop (mkF m 73 #[.val (.int p0), .val (.ref b1), .val (.int (4 : Int32)), .unset] [(.int (1 : Int32)), (.int (4 : Int32))])) _
      refine XS.icmpNo X19.here hx rfl (hb hby at_73) rfl (flt (by decide)).1 ?_
      show Steps p.tables e below (T19.setTop (mkF m 76 #[.val (.int p0), .val (.ref b1), .val (.int (4 : Int32)), .unset] [])) _
      refine XS.iloadN X19.here hx rfl (hb hby at_76) rfl ?_
      show Steps p.tables e below (T19.setTop (mkF m 77 #[.val (.int p0), .val (.ref b1), .val (.int (4 : Int32)), .unset] [(.int (4 : Int32))])) _
      refine XS.iconst X19.here hx rfl (hb hby at_77) ?_
      show Steps p.tables e below (T19.setTop (mkF m 78 #[.val (.int p0), .val (.ref b1), .val (.int (4 : Int32)), .unset] [(.int (4 : Int32)), (.int (4 : Int32))])) _
      refine XS.icmpNo X19.here hx rfl (hb hby at_78) rfl (flt (by decide)).2.2.1 ?_
      show Steps p.tables e below (T19.setTop (mkF m 81 #[.val (.int p0), .val (.ref b1), .val (.int (4 : Int32)), .unset] [])) _
      refine XS.iconst X19.here hx rfl (hb hby at_81) ?_
      show Steps p.tables e below (T19.setTop (mkF m 82 #[.val (.int p0), .val (.ref b1), .val (.int (4 : Int32)), .unset] [(.int (1 : Int32))])) _
      refine XS.goto X19.here hx rfl (pc0 := 82) (pc' := 86) rfl (hb hby at_82) (by decide) (by decide) ?_
      show Steps p.tables e below (T19.setTop (mkF m 86 #[.val (.int p0), .val (.ref b1), .val (.int (4 : Int32)), .unset] [(.int (1 : Int32))])) _
      refine XS.istoreN X19.here hx rfl (hb hby at_86) rfl (l' := #[.val (.int p0), .val (.ref b1), .val (.int (4 : Int32)), .val (.int (1 : Int32))]) rfl ?_
      show Steps p.tables e below (T19.setTop (mkF m 87 #[.val (.int p0), .val (.ref b1), .val (.int (4 : Int32)), .val (.int (1 : Int32))] [])) _
      refine XS.aloadN X19.here hx rfl (hb hby at_87) rfl rfl ?_
      show Steps p.tables e below (T19.setTop (mkF m 88 #[.val (.int p0), .val (.ref b1), .val (.int (4 : Int32)), .val (.int (1 : Int32))] [(.ref b1)])) _
      refine XS.iloadN X19.here hx rfl (hb hby at_88) rfl ?_
      show Steps p.tables e below (T19.setTop (mkF m 89 #[.val (.int p0), .val (.ref b1), .val (.int (4 : Int32)), .val (.int (1 : Int32))] [(.int (4 : Int32)), (.ref b1)])) _
      obtain ⟨cl_38, Ar_38, q_38, S_38, N_38, H_38, G_38⟩ := id V_b1
      have hin_38 : ¬ ((4 : Int32) < 0 ∨ cl_38.slots.size ≤ ((4 : Int32)).toNatClampNeg) := inb_of S_38 ⟨by decide, by decide⟩
      refine X19.aaload hx (j := (4 : Int32)) (v := (.ref w_INT64)) (by rw [e19]; exact Ar_38.1) (State.isArrayOf_alike hZ.alike Ar_38.2.1) rfl Ar_38.2.2 hin_38 (Has.at H_38 hin_38 rfl) (g := (mkF m 89 #[.val (.int p0), .val (.ref b1), .val (.int (4 : Int32)), .val (.int (1 : Int32))] [(.int (4 : Int32)), (.ref b1)])) rfl rfl (hb hby at_89) _ ?_
      show Steps p.tables e below (T19.setTop (mkF m 90 #[.val (.int p0), .val (.ref b1), .val (.int (4 : Int32)), .val (.int (1 : Int32))] [(.ref w_INT64)])) _
      refine st39.trans ?_
      show Steps p.tables e below (T39.setTop (mkF m 93 #[.val (.int p0), .val (.ref b1), .val (.int (4 : Int32)), .val (.int (1 : Int32))] [(.int (own_f1 w_INT64 w_BOOLEAN w_INT8 w_INT16 w_INT32 w_INT64 w_STRING w_BYTES w_RECORDS w_ARRAY))])) _
      refine XS.iloadN X39.here hx rfl (hb hby at_93) rfl ?_
      show Steps p.tables e below (T39.setTop (mkF m 94 #[.val (.int p0), .val (.ref b1), .val (.int (4 : Int32)), .val (.int (1 : Int32))] [(.int (1 : Int32)), (.int (own_f1 w_INT64 w_BOOLEAN w_INT8 w_INT16 w_INT32 w_INT64 w_STRING w_BYTES w_RECORDS w_ARRAY))])) _
      refine XS.icmpNo X39.here hx rfl (hb hby at_94) rfl (teq (own_p_INT64 w_BOOLEAN w_INT8 w_INT16 w_INT32 w_INT64 w_STRING w_BYTES w_RECORDS w_ARRAY hG)).2 ?_
      show Steps p.tables e below (T39.setTop (mkF m 97 #[.val (.int p0), .val (.ref b1), .val (.int (4 : Int32)), .val (.int (1 : Int32))] [])) _
      refine XS.iconst X39.here hx rfl (hb hby at_97) ?_
      show Steps p.tables e below (T39.setTop (mkF m 98 #[.val (.int p0), .val (.ref b1), .val (.int (4 : Int32)), .val (.int (1 : Int32))] [(.int (1 : Int32))])) _
      refine XS.goto X39.here hx rfl (pc0 := 98) (pc' := 102) rfl (hb hby at_98) (by decide) (by decide) ?_
      exact k
    obtain ⟨fs, hr, hrun, hended, hW, hsame⟩ := X39.leave (v := some (.int (1 : Int32))) (fun h => by rw [Bd.returns] at h; cases h)
    refine ⟨_, _, k40 _ ?_, hrun, hended, _, _, rfl, ?_, ⟨_, rfl⟩, hW, hsame.mono (by decide) (by decide)⟩
    · exact retN X39 hx (t := .boolean) Bd.returns (by simp) (hb hby at_102) hr
    · show own_R (some (.int 1)) n0 _ T39.heap _
      rw [e39]
      exact ⟨rfl, N39⟩
  · have k41 : ∀ t, Steps p.tables e below (T19.setTop (mkF m 71 #[.val (.int p0), .val (.ref b1), .val (.int (5 : Int32)), .unset] [])) t → Steps p.tables e below (s₁.setTop (entryFrame m #[(.int p0)] maxLocals)) t := by
      intro t k
      refine k20 _ ?_
      rw [hk]
      exact k
    obtain ⟨cq43, kq43, q43a, q43b, q43c⟩ := isOf hZ e19 (E_STRING.ext O0.2)
    obtain ⟨_, _, ⟨T43, L43, k43_, n43⟩, -, X43, ⟨Lc43, hQ43, l43, y43, z43⟩, st43⟩ := X19.virtualBack hx (y := (⟨"com/example/strict_wire/strictwire/wire/FieldType", "isInteger", "()Z"⟩ : MethodName)) (z := (⟨"com/example/strict_wire/strictwire/wire/FieldType", "isInteger", "()Z"⟩ : MethodName)) hown (mvT hZ (hw _ (List.mem_of_getElem? (i := 23) rfl))) (mvT hZ (hw _ (List.mem_of_getElem? (i := 24) rfl))) (notFace_of_selects (args := #[]) (mvT hZ (hw _ (List.mem_of_getElem? (i := 26) rfl)))) (mvT hZ (hw _ (List.mem_of_getElem? (i := 26) rfl))) (mvT hZ (hw _ (List.mem_of_getElem? (i := 25) rfl))) (by decide) (backOf (W := 0) (rm1 l Z a0 hw [] w_STRING w_BOOLEAN w_INT8 w_INT16 w_INT32 w_INT64 w_STRING w_BYTES w_RECORDS w_ARRAY h19 n0 hG O0) hZ (hw _ (List.mem_of_getElem? (i := 27) rfl)) (hw _ (List.mem_of_getElem? (i := 3) rfl)) (by decide) (by decide)) q43a q43c (g := (mkF m 90 #[.val (.int p0), .val (.ref b1), .val (.int (5 : Int32)), .val (.int (0 : Int32))] [(.ref w_STRING)])) rfl (by rw [hml]; rfl) (Steps.refl _) (argsL := []) (rest := []) (lenOf pd_0 rfl) rfl (by show 2 * 0 + _ ≤ _; exact Nat.le_of_eq rfl) (hb hby at_90) (fun _ _ => ⟨rfl, e19, (by decide : 1 + 0 ≤ _), (by decide : 9 + 0 ≤ _)⟩)
    dsimp only [Pt.U, Pt.locs, Pt.cells, Pt.slots] at X43 l43 y43 z43 st43 hQ43
    subst l43 y43 z43
    obtain ⟨rfl, Nq43, e43⟩ := hQ43
    have N43 := Fr.app N19 Nq43
    have k44 : ∀ t, Steps p.tables e below (T43.setTop (mkF m 102 #[.val (.int p0), .val (.ref b1), .val (.int (5 : Int32)), .val (.int (0 : Int32))] [(.int (1 : Int32))])) t → Steps p.tables e below (s₁.setTop (entryFrame m #[(.int p0)] maxLocals)) t := by
      intro t k
      refine k41 _ ?_
      show Steps p.tables e below (T19.setTop (mkF m 71 #[.val (.int p0), .val (.ref b1), .val (.int (5 : Int32)), .unset] [])) _
      refine XS.iloadN X19.here hx rfl (hb hby at_71) rfl ?_
      show Steps p.tables e below (T19.setTop (mkF m 72 #[.val (.int p0), .val (.ref b1), .val (.int (5 : Int32)), .unset] [(.int (5 : Int32))])) _
      refine XS.iconst X19.here hx rfl (hb hby at_72) ?_
      show Steps p.tables e below (T19.setTop (mkF m 73 #[.val (.int p0), .val (.ref b1), .val (.int (5 : Int32)), .unset] [(.int (1 : Int32)), (.int (5 : Int32))])) _
      refine XS.icmpNo X19.here hx rfl (hb hby at_73) rfl (flt (by decide)).1 ?_
      show Steps p.tables e below (T19.setTop (mkF m 76 #[.val (.int p0), .val (.ref b1), .val (.int (5 : Int32)), .unset] [])) _
      refine XS.iloadN X19.here hx rfl (hb hby at_76) rfl ?_
      show Steps p.tables e below (T19.setTop (mkF m 77 #[.val (.int p0), .val (.ref b1), .val (.int (5 : Int32)), .unset] [(.int (5 : Int32))])) _
      refine XS.iconst X19.here hx rfl (hb hby at_77) ?_
      show Steps p.tables e below (T19.setTop (mkF m 78 #[.val (.int p0), .val (.ref b1), .val (.int (5 : Int32)), .unset] [(.int (4 : Int32)), (.int (5 : Int32))])) _
      refine XS.icmpYes X19.here hx rfl (pc0 := 78) (pc' := 85) rfl (hb hby at_78) rfl (tlt (by decide)).2.2.1 (by decide) (by decide) ?_
      show Steps p.tables e below (T19.setTop (mkF m 85 #[.val (.int p0), .val (.ref b1), .val (.int (5 : Int32)), .unset] [])) _
      refine XS.iconst X19.here hx rfl (hb hby at_85) ?_
      show Steps p.tables e below (T19.setTop (mkF m 86 #[.val (.int p0), .val (.ref b1), .val (.int (5 : Int32)), .unset] [(.int (0 : Int32))])) _
      refine XS.istoreN X19.here hx rfl (hb hby at_86) rfl (l' := #[.val (.int p0), .val (.ref b1), .val (.int (5 : Int32)), .val (.int (0 : Int32))]) rfl ?_
      show Steps p.tables e below (T19.setTop (mkF m 87 #[.val (.int p0), .val (.ref b1), .val (.int (5 : Int32)), .val (.int (0 : Int32))] [])) _
      refine XS.aloadN X19.here hx rfl (hb hby at_87) rfl rfl ?_
      show Steps p.tables e below (T19.setTop (mkF m 88 #[.val (.int p0), .val (.ref b1), .val (.int (5 : Int32)), .val (.int (0 : Int32))] [(.ref b1)])) _
      refine XS.iloadN X19.here hx rfl (hb hby at_88) rfl ?_
      show Steps p.tables e below (T19.setTop (mkF m 89 #[.val (.int p0), .val (.ref b1), .val (.int (5 : Int32)), .val (.int (0 : Int32))] [(.int (5 : Int32)), (.ref b1)])) _
      obtain ⟨cl_42, Ar_42, q_42, S_42, N_42, H_42, G_42⟩ := id V_b1
      have hin_42 : ¬ ((5 : Int32) < 0 ∨ cl_42.slots.size ≤ ((5 : Int32)).toNatClampNeg) := inb_of S_42 ⟨by decide, by decide⟩
      refine X19.aaload hx (j := (5 : Int32)) (v := (.ref w_STRING)) (by rw [e19]; exact Ar_42.1) (State.isArrayOf_alike hZ.alike Ar_42.2.1) rfl Ar_42.2.2 hin_42 (Has.at H_42 hin_42 rfl) (g := (mkF m 89 #[.val (.int p0), .val (.ref b1), .val (.int (5 : Int32)), .val (.int (0 : Int32))] [(.int (5 : Int32)), (.ref b1)])) rfl rfl (hb hby at_89) _ ?_
      show Steps p.tables e below (T19.setTop (mkF m 90 #[.val (.int p0), .val (.ref b1), .val (.int (5 : Int32)), .val (.int (0 : Int32))] [(.ref w_STRING)])) _
      refine st43.trans ?_
      show Steps p.tables e below (T43.setTop (mkF m 93 #[.val (.int p0), .val (.ref b1), .val (.int (5 : Int32)), .val (.int (0 : Int32))] [(.int (own_f1 w_STRING w_BOOLEAN w_INT8 w_INT16 w_INT32 w_INT64 w_STRING w_BYTES w_RECORDS w_ARRAY))])) _
      refine XS.iloadN X43.here hx rfl (hb hby at_93) rfl ?_
      show Steps p.tables e below (T43.setTop (mkF m 94 #[.val (.int p0), .val (.ref b1), .val (.int (5 : Int32)), .val (.int (0 : Int32))] [(.int (0 : Int32)), (.int (own_f1 w_STRING w_BOOLEAN w_INT8 w_INT16 w_INT32 w_INT64 w_STRING w_BYTES w_RECORDS w_ARRAY))])) _
      refine XS.icmpNo X43.here hx rfl (hb hby at_94) rfl (teq (own_p_STRING w_BOOLEAN w_INT8 w_INT16 w_INT32 w_INT64 w_STRING w_BYTES w_RECORDS w_ARRAY hG)).2 ?_
      show Steps p.tables e below (T43.setTop (mkF m 97 #[.val (.int p0), .val (.ref b1), .val (.int (5 : Int32)), .val (.int (0 : Int32))] [])) _
      refine XS.iconst X43.here hx rfl (hb hby at_97) ?_
      show Steps p.tables e below (T43.setTop (mkF m 98 #[.val (.int p0), .val (.ref b1), .val (.int (5 : Int32)), .val (.int (0 : Int32))] [(.int (1 : Int32))])) _
      refine XS.goto X43.here hx rfl (pc0 := 98) (pc' := 102) rfl (hb hby at_98) (by decide) (by decide) ?_
      exact k
    obtain ⟨fs, hr, hrun, hended, hW, hsame⟩ := X43.leave (v := some (.int (1 : Int32))) (fun h => by rw [Bd.returns] at h; cases h)
    refine ⟨_, _, k44 _ ?_, hrun, hended, _, _, rfl, ?_, ⟨_, rfl⟩, hW, hsame.mono (by decide) (by decide)⟩
    · exact retN X43 hx (t := .boolean) Bd.returns (by simp) (hb hby at_102) hr
    · show own_R (some (.int 1)) n0 _ T43.heap _
      rw [e43]
      exact ⟨rfl, N43⟩
  · have k45 : ∀ t, Steps p.tables e below (T19.setTop (mkF m 71 #[.val (.int p0), .val (.ref b1), .val (.int (6 : Int32)), .unset] [])) t → Steps p.tables e below (s₁.setTop (entryFrame m #[(.int p0)] maxLocals)) t := by
      intro t k
      refine k20 _ ?_
      rw [hk]
      exact k
    obtain ⟨cq47, kq47, q47a, q47b, q47c⟩ := isOf hZ e19 (E_BYTES.ext O0.2)
    obtain ⟨_, _, ⟨T47, L47, k47_, n47⟩, -, X47, ⟨Lc47, hQ47, l47, y47, z47⟩, st47⟩ := X19.virtualBack hx (y := (⟨"com/example/strict_wire/strictwire/wire/FieldType", "isInteger", "()Z"⟩ : MethodName)) (z := (⟨"com/example/strict_wire/strictwire/wire/FieldType", "isInteger", "()Z"⟩ : MethodName)) hown (mvT hZ (hw _ (List.mem_of_getElem? (i := 23) rfl))) (mvT hZ (hw _ (List.mem_of_getElem? (i := 24) rfl))) (notFace_of_selects (args := #[]) (mvT hZ (hw _ (List.mem_of_getElem? (i := 26) rfl)))) (mvT hZ (hw _ (List.mem_of_getElem? (i := 26) rfl))) (mvT hZ (hw _ (List.mem_of_getElem? (i := 25) rfl))) (by decide) (backOf (W := 0) (rm1 l Z a0 hw [] w_BYTES w_BOOLEAN w_INT8 w_INT16 w_INT32 w_INT64 w_STRING w_BYTES w_RECORDS w_ARRAY h19 n0 hG O0) hZ (hw _ (List.mem_of_getElem? (i := 27) rfl)) (hw _ (List.mem_of_getElem? (i := 3) rfl)) (by decide) (by decide)) q47a q47c (g := (mkF m 90 #[.val (.int p0), .val (.ref b1), .val (.int (6 : Int32)), .val (.int (0 : Int32))] [(.ref w_BYTES)])) rfl (by rw [hml]; rfl) (Steps.refl _) (argsL := []) (rest := []) (lenOf pd_0 rfl) rfl (by show 2 * 0 + _ ≤ _; exact Nat.le_of_eq rfl) (hb hby at_90) (fun _ _ => ⟨rfl, e19, (by decide : 1 + 0 ≤ _), (by decide : 9 + 0 ≤ _)⟩)
    dsimp only [Pt.U, Pt.locs, Pt.cells, Pt.slots] at X47 l47 y47 z47 st47 hQ47
    subst l47 y47 z47
    obtain ⟨rfl, Nq47, e47⟩ := hQ47
    have N47 := Fr.app N19 Nq47
    have k48 : ∀ t, Steps p.tables e below (T47.setTop (mkF m 102 #[.val (.int p0), .val (.ref b1), .val (.int (6 : Int32)), .val (.int (0 : Int32))] [(.int (1 : Int32))])) t → Steps p.tables e below (s₁.setTop (entryFrame m #[(.int p0)] maxLocals)) t := by
      intro t k
      refine k45 _ ?_
      show Steps p.tables e below (T19.setTop (mkF m 71 #[.val (.int p0), .val (.ref b1), .val (.int (6 : Int32)), .unset] [])) _
      refine XS.iloadN X19.here hx rfl (hb hby at_71) rfl ?_
      show Steps p.tables e below (T19.setTop (mkF m 72 #[.val (.int p0), .val (.ref b1), .val (.int (6 : Int32)), .unset] [(.int (6 : Int32))])) _
      refine XS.iconst X19.here hx rfl (hb hby at_72) ?_
      show Steps p.tables e below (T19.setTop (mkF m 73 #[.val (.int p0), .val (.ref b1), .val (.int (6 : Int32)), .unset] [(.int (1 : Int32)), (.int (6 : Int32))])) _
      refine XS.icmpNo X19.here hx rfl (hb hby at_73) rfl (flt (by decide)).1 ?_
      show Steps p.tables e below (T19.setTop (mkF m 76 #[.val (.int p0), .val (.ref b1), .val (.int (6 : Int32)), .unset] [])) _
      refine XS.iloadN X19.here hx rfl (hb hby at_76) rfl ?_
      show Steps p.tables e below (T19.setTop (mkF m 77 #[.val (.int p0), .val (.ref b1), .val (.int (6 : Int32)), .unset] [(.int (6 : Int32))])) _
      refine XS.iconst X19.here hx rfl (hb hby at_77) ?_
      show Steps p.tables e below (T19.setTop (mkF m 78 #[.val (.int p0), .val (.ref b1), .val (.int (6 : Int32)), .unset] [(.int (4 : Int32)), (.int (6 : Int32))])) _
      refine XS.icmpYes X19.here hx rfl (pc0 := 78) (pc' := 85) rfl (hb hby at_78) rfl (tlt (by decide)).2.2.1 (by decide) (by decide) ?_
      show Steps p.tables e below (T19.setTop (mkF m 85 #[.val (.int p0), .val (.ref b1), .val (.int (6 : Int32)), .unset] [])) _
      refine XS.iconst X19.here hx rfl (hb hby at_85) ?_
      show Steps p.tables e below (T19.setTop (mkF m 86 #[.val (.int p0), .val (.ref b1), .val (.int (6 : Int32)), .unset] [(.int (0 : Int32))])) _
      refine XS.istoreN X19.here hx rfl (hb hby at_86) rfl (l' := #[.val (.int p0), .val (.ref b1), .val (.int (6 : Int32)), .val (.int (0 : Int32))]) rfl ?_
      show Steps p.tables e below (T19.setTop (mkF m 87 #[.val (.int p0), .val (.ref b1), .val (.int (6 : Int32)), .val (.int (0 : Int32))] [])) _
      refine XS.aloadN X19.here hx rfl (hb hby at_87) rfl rfl ?_
      show Steps p.tables e below (T19.setTop (mkF m 88 #[.val (.int p0), .val (.ref b1), .val (.int (6 : Int32)), .val (.int (0 : Int32))] [(.ref b1)])) _
      refine XS.iloadN X19.here hx rfl (hb hby at_88) rfl ?_
      show Steps p.tables e below (T19.setTop (mkF m 89 #[.val (.int p0), .val (.ref b1), .val (.int (6 : Int32)), .val (.int (0 : Int32))] [(.int (6 : Int32)), (.ref b1)])) _
      obtain ⟨cl_46, Ar_46, q_46, S_46, N_46, H_46, G_46⟩ := id V_b1
      have hin_46 : ¬ ((6 : Int32) < 0 ∨ cl_46.slots.size ≤ ((6 : Int32)).toNatClampNeg) := inb_of S_46 ⟨by decide, by decide⟩
      refine X19.aaload hx (j := (6 : Int32)) (v := (.ref w_BYTES)) (by rw [e19]; exact Ar_46.1) (State.isArrayOf_alike hZ.alike Ar_46.2.1) rfl Ar_46.2.2 hin_46 (Has.at H_46 hin_46 rfl) (g := (mkF m 89 #[.val (.int p0), .val (.ref b1), .val (.int (6 : Int32)), .val (.int (0 : Int32))] [(.int (6 : Int32)), (.ref b1)])) rfl rfl (hb hby at_89) _ ?_
      show Steps p.tables e below (T19.setTop (mkF m 90 #[.val (.int p0), .val (.ref b1), .val (.int (6 : Int32)), .val (.int (0 : Int32))] [(.ref w_BYTES)])) _
      refine st47.trans ?_
      show Steps p.tables e below (T47.setTop (mkF m 93 #[.val (.int p0), .val (.ref b1), .val (.int (6 : Int32)), .val (.int (0 : Int32))] [(.int (own_f1 w_BYTES w_BOOLEAN w_INT8 w_INT16 w_INT32 w_INT64 w_STRING w_BYTES w_RECORDS w_ARRAY))])) _
      refine XS.iloadN X47.here hx rfl (hb hby at_93) rfl ?_
      show Steps p.tables e below (T47.setTop (mkF m 94 #[.val (.int p0), .val (.ref b1), .val (.int (6 : Int32)), .val (.int (0 : Int32))] [(.int (0 : Int32)), (.int (own_f1 w_BYTES w_BOOLEAN w_INT8 w_INT16 w_INT32 w_INT64 w_STRING w_BYTES w_RECORDS w_ARRAY))])) _
      refine XS.icmpNo X47.here hx rfl (hb hby at_94) rfl (teq (own_p_BYTES w_BOOLEAN w_INT8 w_INT16 w_INT32 w_INT64 w_STRING w_BYTES w_RECORDS w_ARRAY hG)).2 ?_
      show Steps p.tables e below (T47.setTop (mkF m 97 #[.val (.int p0), .val (.ref b1), .val (.int (6 : Int32)), .val (.int (0 : Int32))] [])) _
      refine XS.iconst X47.here hx rfl (hb hby at_97) ?_
      show Steps p.tables e below (T47.setTop (mkF m 98 #[.val (.int p0), .val (.ref b1), .val (.int (6 : Int32)), .val (.int (0 : Int32))] [(.int (1 : Int32))])) _
      refine XS.goto X47.here hx rfl (pc0 := 98) (pc' := 102) rfl (hb hby at_98) (by decide) (by decide) ?_
      exact k
    obtain ⟨fs, hr, hrun, hended, hW, hsame⟩ := X47.leave (v := some (.int (1 : Int32))) (fun h => by rw [Bd.returns] at h; cases h)
    refine ⟨_, _, k48 _ ?_, hrun, hended, _, _, rfl, ?_, ⟨_, rfl⟩, hW, hsame.mono (by decide) (by decide)⟩
    · exact retN X47 hx (t := .boolean) Bd.returns (by simp) (hb hby at_102) hr
    · show own_R (some (.int 1)) n0 _ T47.heap _
      rw [e47]
      exact ⟨rfl, N47⟩
  · have k49 : ∀ t, Steps p.tables e below (T19.setTop (mkF m 71 #[.val (.int p0), .val (.ref b1), .val (.int (7 : Int32)), .unset] [])) t → Steps p.tables e below (s₁.setTop (entryFrame m #[(.int p0)] maxLocals)) t := by
      intro t k
      refine k20 _ ?_
      rw [hk]
      exact k
    obtain ⟨cq51, kq51, q51a, q51b, q51c⟩ := isOf hZ e19 (E_RECORDS.ext O0.2)
    obtain ⟨_, _, ⟨T51, L51, k51_, n51⟩, -, X51, ⟨Lc51, hQ51, l51, y51, z51⟩, st51⟩ := X19.virtualBack hx (y := (⟨"com/example/strict_wire/strictwire/wire/FieldType", "isInteger", "()Z"⟩ : MethodName)) (z := (⟨"com/example/strict_wire/strictwire/wire/FieldType", "isInteger", "()Z"⟩ : MethodName)) hown (mvT hZ (hw _ (List.mem_of_getElem? (i := 23) rfl))) (mvT hZ (hw _ (List.mem_of_getElem? (i := 24) rfl))) (notFace_of_selects (args := #[]) (mvT hZ (hw _ (List.mem_of_getElem? (i := 26) rfl)))) (mvT hZ (hw _ (List.mem_of_getElem? (i := 26) rfl))) (mvT hZ (hw _ (List.mem_of_getElem? (i := 25) rfl))) (by decide) (backOf (W := 0) (rm1 l Z a0 hw [] w_RECORDS w_BOOLEAN w_INT8 w_INT16 w_INT32 w_INT64 w_STRING w_BYTES w_RECORDS w_ARRAY h19 n0 hG O0) hZ (hw _ (List.mem_of_getElem? (i := 27) rfl)) (hw _ (List.mem_of_getElem? (i := 3) rfl)) (by decide) (by decide)) q51a q51c (g := (mkF m 90 #[.val (.int p0), .val (.ref b1), .val (.int (7 : Int32)), .val (.int (0 : Int32))] [(.ref w_RECORDS)])) rfl (by rw [hml]; rfl) (Steps.refl _) (argsL := []) (rest := []) (lenOf pd_0 rfl) rfl (by show 2 * 0 + _ ≤ _; exact Nat.le_of_eq rfl) (hb hby at_90) (fun _ _ => ⟨rfl, e19, (by decide : 1 + 0 ≤ _), (by decide : 9 + 0 ≤ _)⟩)
    dsimp only [Pt.U, Pt.locs, Pt.cells, Pt.slots] at X51 l51 y51 z51 st51 hQ51
    subst l51 y51 z51
    obtain ⟨rfl, Nq51, e51⟩ := hQ51
    have N51 := Fr.app N19 Nq51
    have k52 : ∀ t, Steps p.tables e below (T51.setTop (mkF m 102 #[.val (.int p0), .val (.ref b1), .val (.int (7 : Int32)), .val (.int (0 : Int32))] [(.int (1 : Int32))])) t → Steps p.tables e below (s₁.setTop (entryFrame m #[(.int p0)] maxLocals)) t := by
      intro t k
      refine k49 _ ?_
      show Steps p.tables e below (T19.setTop (mkF m 71 #[.val (.int p0), .val (.ref b1), .val (.int (7 : Int32)), .unset] [])) _
      refine XS.iloadN X19.here hx rfl (hb hby at_71) rfl ?_
      show Steps p.tables e below (T19.setTop (mkF m 72 #[.val (.int p0), .val (.ref b1), .val (.int (7 : Int32)), .unset] [(.int (7 : Int32))])) _
      refine XS.iconst X19.here hx rfl (hb hby at_72) ?_
      show Steps p.tables e below (T19.setTop (mkF m 73 #[.val (.int p0), .val (.ref b1), .val (.int (7 : Int32)), .unset] [(.int (1 : Int32)), (.int (7 : Int32))])) _
      refine XS.icmpNo X19.here hx rfl (hb hby at_73) rfl (flt (by decide)).1 ?_
      show Steps p.tables e below (T19.setTop (mkF m 76 #[.val (.int p0), .val (.ref b1), .val (.int (7 : Int32)), .unset] [])) _
      refine XS.iloadN X19.here hx rfl (hb hby at_76) rfl ?_
      show Steps p.tables e below (T19.setTop (mkF m 77 #[.val (.int p0), .val (.ref b1), .val (.int (7 : Int32)), .unset] [(.int (7 : Int32))])) _
      refine XS.iconst X19.here hx rfl (hb hby at_77) ?_
      show Steps p.tables e below (T19.setTop (mkF m 78 #[.val (.int p0), .val (.ref b1), .val (.int (7 : Int32)), .unset] [(.int (4 : Int32)), (.int (7 : Int32))])) _
      refine XS.icmpYes X19.here hx rfl (pc0 := 78) (pc' := 85) rfl (hb hby at_78) rfl (tlt (by decide)).2.2.1 (by decide) (by decide) ?_
      show Steps p.tables e below (T19.setTop (mkF m 85 #[.val (.int p0), .val (.ref b1), .val (.int (7 : Int32)), .unset] [])) _
      refine XS.iconst X19.here hx rfl (hb hby at_85) ?_
      show Steps p.tables e below (T19.setTop (mkF m 86 #[.val (.int p0), .val (.ref b1), .val (.int (7 : Int32)), .unset] [(.int (0 : Int32))])) _
      refine XS.istoreN X19.here hx rfl (hb hby at_86) rfl (l' := #[.val (.int p0), .val (.ref b1), .val (.int (7 : Int32)), .val (.int (0 : Int32))]) rfl ?_
      show Steps p.tables e below (T19.setTop (mkF m 87 #[.val (.int p0), .val (.ref b1), .val (.int (7 : Int32)), .val (.int (0 : Int32))] [])) _
      refine XS.aloadN X19.here hx rfl (hb hby at_87) rfl rfl ?_
      show Steps p.tables e below (T19.setTop (mkF m 88 #[.val (.int p0), .val (.ref b1), .val (.int (7 : Int32)), .val (.int (0 : Int32))] [(.ref b1)])) _
      refine XS.iloadN X19.here hx rfl (hb hby at_88) rfl ?_
      show Steps p.tables e below (T19.setTop (mkF m 89 #[.val (.int p0), .val (.ref b1), .val (.int (7 : Int32)), .val (.int (0 : Int32))] [(.int (7 : Int32)), (.ref b1)])) _
      obtain ⟨cl_50, Ar_50, q_50, S_50, N_50, H_50, G_50⟩ := id V_b1
      have hin_50 : ¬ ((7 : Int32) < 0 ∨ cl_50.slots.size ≤ ((7 : Int32)).toNatClampNeg) := inb_of S_50 ⟨by decide, by decide⟩
      refine X19.aaload hx (j := (7 : Int32)) (v := (.ref w_RECORDS)) (by rw [e19]; exact Ar_50.1) (State.isArrayOf_alike hZ.alike Ar_50.2.1) rfl Ar_50.2.2 hin_50 (Has.at H_50 hin_50 rfl) (g := (mkF m 89 #[.val (.int p0), .val (.ref b1), .val (.int (7 : Int32)), .val (.int (0 : Int32))] [(.int (7 : Int32)), (.ref b1)])) rfl rfl (hb hby at_89) _ ?_
      show Steps p.tables e below (T19.setTop (mkF m 90 #[.val (.int p0), .val (.ref b1), .val (.int (7 : Int32)), .val (.int (0 : Int32))] [(.ref w_RECORDS)])) _
      refine st51.trans ?_
      show Steps p.tables e below (T51.setTop (mkF m 93 #[.val (.int p0), .val (.ref b1), .val (.int (7 : Int32)), .val (.int (0 : Int32))] [(.int (own_f1 w_RECORDS w_BOOLEAN w_INT8 w_INT16 w_INT32 w_INT64 w_STRING w_BYTES w_RECORDS w_ARRAY))])) _
      refine XS.iloadN X51.here hx rfl (hb hby at_93) rfl ?_
      show Steps p.tables e below (T51.setTop (mkF m 94 #[.val (.int p0), .val (.ref b1), .val (.int (7 : Int32)), .val (.int (0 : Int32))] [(.int (0 : Int32)), (.int (own_f1 w_RECORDS w_BOOLEAN w_INT8 w_INT16 w_INT32 w_INT64 w_STRING w_BYTES w_RECORDS w_ARRAY))])) _
      refine XS.icmpNo X51.here hx rfl (hb hby at_94) rfl (teq (own_p_RECORDS w_BOOLEAN w_INT8 w_INT16 w_INT32 w_INT64 w_STRING w_BYTES w_RECORDS w_ARRAY hG)).2 ?_
      show Steps p.tables e below (T51.setTop (mkF m 97 #[.val (.int p0), .val (.ref b1), .val (.int (7 : Int32)), .val (.int (0 : Int32))] [])) _
      refine XS.iconst X51.here hx rfl (hb hby at_97) ?_
      show Steps p.tables e below (T51.setTop (mkF m 98 #[.val (.int p0), .val (.ref b1), .val (.int (7 : Int32)), .val (.int (0 : Int32))] [(.int (1 : Int32))])) _
      refine XS.goto X51.here hx rfl (pc0 := 98) (pc' := 102) rfl (hb hby at_98) (by decide) (by decide) ?_
      exact k
    obtain ⟨fs, hr, hrun, hended, hW, hsame⟩ := X51.leave (v := some (.int (1 : Int32))) (fun h => by rw [Bd.returns] at h; cases h)
    refine ⟨_, _, k52 _ ?_, hrun, hended, _, _, rfl, ?_, ⟨_, rfl⟩, hW, hsame.mono (by decide) (by decide)⟩
    · exact retN X51 hx (t := .boolean) Bd.returns (by simp) (hb hby at_102) hr
    · show own_R (some (.int 1)) n0 _ T51.heap _
      rw [e51]
      exact ⟨rfl, N51⟩
  · have k53 : ∀ t, Steps p.tables e below (T19.setTop (mkF m 71 #[.val (.int p0), .val (.ref b1), .val (.int (8 : Int32)), .unset] [])) t → Steps p.tables e below (s₁.setTop (entryFrame m #[(.int p0)] maxLocals)) t := by
      intro t k
      refine k20 _ ?_
      rw [hk]
      exact k
    obtain ⟨cq55, kq55, q55a, q55b, q55c⟩ := isOf hZ e19 (E_ARRAY.ext O0.2)
    obtain ⟨_, _, ⟨T55, L55, k55_, n55⟩, -, X55, ⟨Lc55, hQ55, l55, y55, z55⟩, st55⟩ := X19.virtualBack hx (y := (⟨"com/example/strict_wire/strictwire/wire/FieldType", "isInteger", "()Z"⟩ : MethodName)) (z := (⟨"com/example/strict_wire/strictwire/wire/FieldType", "isInteger", "()Z"⟩ : MethodName)) hown (mvT hZ (hw _ (List.mem_of_getElem? (i := 23) rfl))) (mvT hZ (hw _ (List.mem_of_getElem? (i := 24) rfl))) (notFace_of_selects (args := #[]) (mvT hZ (hw _ (List.mem_of_getElem? (i := 26) rfl)))) (mvT hZ (hw _ (List.mem_of_getElem? (i := 26) rfl))) (mvT hZ (hw _ (List.mem_of_getElem? (i := 25) rfl))) (by decide) (backOf (W := 0) (rm1 l Z a0 hw [] w_ARRAY w_BOOLEAN w_INT8 w_INT16 w_INT32 w_INT64 w_STRING w_BYTES w_RECORDS w_ARRAY h19 n0 hG O0) hZ (hw _ (List.mem_of_getElem? (i := 27) rfl)) (hw _ (List.mem_of_getElem? (i := 3) rfl)) (by decide) (by decide)) q55a q55c (g := (mkF m 90 #[.val (.int p0), .val (.ref b1), .val (.int (8 : Int32)), .val (.int (0 : Int32))] [(.ref w_ARRAY)])) rfl (by rw [hml]; rfl) (Steps.refl _) (argsL := []) (rest := []) (lenOf pd_0 rfl) rfl (by show 2 * 0 + _ ≤ _; exact Nat.le_of_eq rfl) (hb hby at_90) (fun _ _ => ⟨rfl, e19, (by decide : 1 + 0 ≤ _), (by decide : 9 + 0 ≤ _)⟩)
    dsimp only [Pt.U, Pt.locs, Pt.cells, Pt.slots] at X55 l55 y55 z55 st55 hQ55
    subst l55 y55 z55
    obtain ⟨rfl, Nq55, e55⟩ := hQ55
    have N55 := Fr.app N19 Nq55
    have k56 : ∀ t, Steps p.tables e below (T55.setTop (mkF m 102 #[.val (.int p0), .val (.ref b1), .val (.int (8 : Int32)), .val (.int (0 : Int32))] [(.int (1 : Int32))])) t → Steps p.tables e below (s₁.setTop (entryFrame m #[(.int p0)] maxLocals)) t := by
      intro t k
      refine k53 _ ?_
      show Steps p.tables e below (T19.setTop (mkF m 71 #[.val (.int p0), .val (.ref b1), .val (.int (8 : Int32)), .unset] [])) _
      refine XS.iloadN X19.here hx rfl (hb hby at_71) rfl ?_
      show Steps p.tables e below (T19.setTop (mkF m 72 #[.val (.int p0), .val (.ref b1), .val (.int (8 : Int32)), .unset] [(.int (8 : Int32))])) _
      refine XS.iconst X19.here hx rfl (hb hby at_72) ?_
      show Steps p.tables e below (T19.setTop (mkF m 73 #[.val (.int p0), .val (.ref b1), .val (.int (8 : Int32)), .unset] [(.int (1 : Int32)), (.int (8 : Int32))])) _
      refine XS.icmpNo X19.here hx rfl (hb hby at_73) rfl (flt (by decide)).1 ?_
      show Steps p.tables e below (T19.setTop (mkF m 76 #[.val (.int p0), .val (.ref b1), .val (.int (8 : Int32)), .unset] [])) _
      refine XS.iloadN X19.here hx rfl (hb hby at_76) rfl ?_
      show Steps p.tables e below (T19.setTop (mkF m 77 #[.val (.int p0), .val (.ref b1), .val (.int (8 : Int32)), .unset] [(.int (8 : Int32))])) _
      refine XS.iconst X19.here hx rfl (hb hby at_77) ?_
      show Steps p.tables e below (T19.setTop (mkF m 78 #[.val (.int p0), .val (.ref b1), .val (.int (8 : Int32)), .unset] [(.int (4 : Int32)), (.int (8 : Int32))])) _
      refine XS.icmpYes X19.here hx rfl (pc0 := 78) (pc' := 85) rfl (hb hby at_78) rfl (tlt (by decide)).2.2.1 (by decide) (by decide) ?_
      show Steps p.tables e below (T19.setTop (mkF m 85 #[.val (.int p0), .val (.ref b1), .val (.int (8 : Int32)), .unset] [])) _
      refine XS.iconst X19.here hx rfl (hb hby at_85) ?_
      show Steps p.tables e below (T19.setTop (mkF m 86 #[.val (.int p0), .val (.ref b1), .val (.int (8 : Int32)), .unset] [(.int (0 : Int32))])) _
      refine XS.istoreN X19.here hx rfl (hb hby at_86) rfl (l' := #[.val (.int p0), .val (.ref b1), .val (.int (8 : Int32)), .val (.int (0 : Int32))]) rfl ?_
      show Steps p.tables e below (T19.setTop (mkF m 87 #[.val (.int p0), .val (.ref b1), .val (.int (8 : Int32)), .val (.int (0 : Int32))] [])) _
      refine XS.aloadN X19.here hx rfl (hb hby at_87) rfl rfl ?_
      show Steps p.tables e below (T19.setTop (mkF m 88 #[.val (.int p0), .val (.ref b1), .val (.int (8 : Int32)), .val (.int (0 : Int32))] [(.ref b1)])) _
      refine XS.iloadN X19.here hx rfl (hb hby at_88) rfl ?_
      show Steps p.tables e below (T19.setTop (mkF m 89 #[.val (.int p0), .val (.ref b1), .val (.int (8 : Int32)), .val (.int (0 : Int32))] [(.int (8 : Int32)), (.ref b1)])) _
      obtain ⟨cl_54, Ar_54, q_54, S_54, N_54, H_54, G_54⟩ := id V_b1
      have hin_54 : ¬ ((8 : Int32) < 0 ∨ cl_54.slots.size ≤ ((8 : Int32)).toNatClampNeg) := inb_of S_54 ⟨by decide, by decide⟩
      refine X19.aaload hx (j := (8 : Int32)) (v := (.ref w_ARRAY)) (by rw [e19]; exact Ar_54.1) (State.isArrayOf_alike hZ.alike Ar_54.2.1) rfl Ar_54.2.2 hin_54 (Has.at H_54 hin_54 rfl) (g := (mkF m 89 #[.val (.int p0), .val (.ref b1), .val (.int (8 : Int32)), .val (.int (0 : Int32))] [(.int (8 : Int32)), (.ref b1)])) rfl rfl (hb hby at_89) _ ?_
      show Steps p.tables e below (T19.setTop (mkF m 90 #[.val (.int p0), .val (.ref b1), .val (.int (8 : Int32)), .val (.int (0 : Int32))] [(.ref w_ARRAY)])) _
      refine st55.trans ?_
      show Steps p.tables e below (T55.setTop (mkF m 93 #[.val (.int p0), .val (.ref b1), .val (.int (8 : Int32)), .val (.int (0 : Int32))] [(.int (own_f1 w_ARRAY w_BOOLEAN w_INT8 w_INT16 w_INT32 w_INT64 w_STRING w_BYTES w_RECORDS w_ARRAY))])) _
      refine XS.iloadN X55.here hx rfl (hb hby at_93) rfl ?_
      show Steps p.tables e below (T55.setTop (mkF m 94 #[.val (.int p0), .val (.ref b1), .val (.int (8 : Int32)), .val (.int (0 : Int32))] [(.int (0 : Int32)), (.int (own_f1 w_ARRAY w_BOOLEAN w_INT8 w_INT16 w_INT32 w_INT64 w_STRING w_BYTES w_RECORDS w_ARRAY))])) _
      refine XS.icmpNo X55.here hx rfl (hb hby at_94) rfl (teq (own_p_ARRAY w_BOOLEAN w_INT8 w_INT16 w_INT32 w_INT64 w_STRING w_BYTES w_RECORDS w_ARRAY hG)).2 ?_
      show Steps p.tables e below (T55.setTop (mkF m 97 #[.val (.int p0), .val (.ref b1), .val (.int (8 : Int32)), .val (.int (0 : Int32))] [])) _
      refine XS.iconst X55.here hx rfl (hb hby at_97) ?_
      show Steps p.tables e below (T55.setTop (mkF m 98 #[.val (.int p0), .val (.ref b1), .val (.int (8 : Int32)), .val (.int (0 : Int32))] [(.int (1 : Int32))])) _
      refine XS.goto X55.here hx rfl (pc0 := 98) (pc' := 102) rfl (hb hby at_98) (by decide) (by decide) ?_
      exact k
    obtain ⟨fs, hr, hrun, hended, hW, hsame⟩ := X55.leave (v := some (.int (1 : Int32))) (fun h => by rw [Bd.returns] at h; cases h)
    refine ⟨_, _, k56 _ ?_, hrun, hended, _, _, rfl, ?_, ⟨_, rfl⟩, hW, hsame.mono (by decide) (by decide)⟩
    · exact retN X55 hx (t := .boolean) Bd.returns (by simp) (hb hby at_102) hr
    · show own_R (some (.int 1)) n0 _ T55.heap _
      rw [e55]
      exact ⟨rfl, N55⟩
set_option maxRecDepth 65536 in
set_option maxHeartbeats 40000000 in
theorem comes_1 {Post : Tables → Env → Array Value → State → Outcome → State → Prop} (hpost : ∀ tb e args s v u, (limb_1_1.after args s (.returned v) u = true ∧ limb_1_2.after args s (.returned v) u = true ∧ True) → FrameEnd s (.returned v) u (Jvm.fieldLocs frame_1_writes args s ++ Jvm.arrayLocs frame_1_arrays args s ++ Jvm.staticLocs frame_1_statics s) 16 128 → Post tb e args s (.returned v) u) :
    ArmFor flags0 classFile x code maxLocals ret World_1 tables_1 room_1 Calls_1 rest_1 Pre_1 Post := by
  intro l hfl _ _ p e ha hc hk s m args below hf hA hF happ hP
  obtain ⟨hcalls, hrest, hpre⟩ := hP
  obtain ⟨-, -, -, hnamed, -, -, -, hat⟩ := (Spec.applies_iff hf).mp happ
  obtain ⟨hg, hn⟩ := and_e (Cond.before_iff.mp (show (Jvm.Cond.and given_1 narrow_1).before args s = true from hpre))
  obtain ⟨g0a, g0b⟩ := and_e hg
  obtain ⟨w0, rfl⟩ : ∃ w0 : Value, args = #[w0] := by
    have hs : args.size = 1 := by simpa [Cond.value, given_1] using g0a
    obtain ⟨L⟩ := args
    match L, hs with
    | [w0], _ => exact ⟨w0, rfl⟩
  have hw := fun d (hd : d ∈ tables_1) => atoms_spec (ws := Jvm.Cond.code x code maxLocals ret :: tables_1) hat d (List.mem_cons_of_mem _ hd)
  have hfit : Fit s := fun {y c} hc i hi => by
    obtain ⟨ha, rfl⟩ := Array.getElem?_eq_some_iff.mp hc
    have q := List.all_eq_true.mp ((Array.all_eq_true_iff_forall_mem.mp hF) _ (Array.getElem_mem ha)) i (List.mem_range.mpr hi)
    simpa [Array.getElem?_eq_getElem hi] using q
  obtain ⟨i0, ei0⟩ := is_v g0b
  obtain rfl : w0 = (.int i0) := Option.some.inj ei0
  obtain ⟨nv0, nr0⟩ := and_e hn
  obtain ⟨nv1, nr1⟩ := and_e nr0
  obtain ⟨nv2, nr2⟩ := and_e nr1
  obtain ⟨nv3, nr3⟩ := and_e nr2
  obtain ⟨nv4, nr4⟩ := and_e nr3
  obtain ⟨nv5, nr5⟩ := and_e nr4
  obtain ⟨nv6, nr6⟩ := and_e nr5
  obtain ⟨nv7, nr7⟩ := and_e nr6
  obtain ⟨nv8, nr8⟩ := and_e nr7
  obtain ⟨nv9, nr9⟩ := and_e nr8
  obtain ⟨nv10, nr10⟩ := and_e nr9
  obtain ⟨nv11, nr11⟩ := and_e nr10
  obtain ⟨nv12, nr12⟩ := and_e nr11
  obtain ⟨nv13, nr13⟩ := and_e nr12
  obtain ⟨nv14, nr14⟩ := and_e nr13
  obtain ⟨nv15, nr15⟩ := and_e nr14
  obtain ⟨nv16, nr16⟩ := and_e nr15
  have nv17 := nr16
  obtain ⟨w_BOOLEAN, ew_BOOLEAN⟩ := exa_v nv0
  have E_BOOLEAN := Exa.start ew_BOOLEAN nv0
  have S_BOOLEAN := Sta.start ew_BOOLEAN (Or.inr ⟨(hw _ (List.mem_of_getElem? (i := 3) rfl)), (hw _ (List.mem_of_getElem? (i := 4) rfl))⟩)
  obtain ⟨w_INT8, ew_INT8⟩ := exa_v nv1
  have E_INT8 := Exa.start ew_INT8 nv1
  have S_INT8 := Sta.start ew_INT8 (Or.inr ⟨(hw _ (List.mem_of_getElem? (i := 3) rfl)), (hw _ (List.mem_of_getElem? (i := 7) rfl))⟩)
  obtain ⟨w_INT16, ew_INT16⟩ := exa_v nv2
  have E_INT16 := Exa.start ew_INT16 nv2
  have S_INT16 := Sta.start ew_INT16 (Or.inr ⟨(hw _ (List.mem_of_getElem? (i := 3) rfl)), (hw _ (List.mem_of_getElem? (i := 9) rfl))⟩)
  obtain ⟨w_INT32, ew_INT32⟩ := exa_v nv3
  have E_INT32 := Exa.start ew_INT32 nv3
  have S_INT32 := Sta.start ew_INT32 (Or.inr ⟨(hw _ (List.mem_of_getElem? (i := 3) rfl)), (hw _ (List.mem_of_getElem? (i := 11) rfl))⟩)
  obtain ⟨w_INT64, ew_INT64⟩ := exa_v nv4
  have E_INT64 := Exa.start ew_INT64 nv4
  have S_INT64 := Sta.start ew_INT64 (Or.inr ⟨(hw _ (List.mem_of_getElem? (i := 3) rfl)), (hw _ (List.mem_of_getElem? (i := 13) rfl))⟩)
  obtain ⟨w_STRING, ew_STRING⟩ := exa_v nv5
  have E_STRING := Exa.start ew_STRING nv5
  have S_STRING := Sta.start ew_STRING (Or.inr ⟨(hw _ (List.mem_of_getElem? (i := 3) rfl)), (hw _ (List.mem_of_getElem? (i := 15) rfl))⟩)
  obtain ⟨w_BYTES, ew_BYTES⟩ := exa_v nv6
  have E_BYTES := Exa.start ew_BYTES nv6
  have S_BYTES := Sta.start ew_BYTES (Or.inr ⟨(hw _ (List.mem_of_getElem? (i := 3) rfl)), (hw _ (List.mem_of_getElem? (i := 17) rfl))⟩)
  obtain ⟨w_RECORDS, ew_RECORDS⟩ := exa_v nv7
  have E_RECORDS := Exa.start ew_RECORDS nv7
  have S_RECORDS := Sta.start ew_RECORDS (Or.inr ⟨(hw _ (List.mem_of_getElem? (i := 3) rfl)), (hw _ (List.mem_of_getElem? (i := 19) rfl))⟩)
  obtain ⟨w_ARRAY, ew_ARRAY⟩ := exa_v nv8
  have E_ARRAY := Exa.start ew_ARRAY nv8
  have S_ARRAY := Sta.start ew_ARRAY (Or.inr ⟨(hw _ (List.mem_of_getElem? (i := 3) rfl)), (hw _ (List.mem_of_getElem? (i := 21) rfl))⟩)
  have F_BOOLEAN_ordinal := own_fld ew_BOOLEAN nv9
  have F_INT8_ordinal := own_fld ew_INT8 nv10
  have F_INT16_ordinal := own_fld ew_INT16 nv11
  have F_INT32_ordinal := own_fld ew_INT32 nv12
  have F_INT64_ordinal := own_fld ew_INT64 nv13
  have F_RECORDS_ordinal := own_fld ew_RECORDS nv14
  have F_ARRAY_ordinal := own_fld ew_ARRAY nv15
  have F_BYTES_ordinal := own_fld ew_BYTES nv16
  have F_STRING_ordinal := own_fld ew_STRING nv17
  obtain ⟨n, o, h1, h2, h3, _, L, rfl, ⟨rfl, N⟩, hq⟩ := rm0 l s _ hw tables_1 i0 w_BOOLEAN w_INT8 w_INT16 w_INT32 w_INT64 w_STRING w_BYTES w_RECORDS w_ARRAY s.heap s.heap.size (⟨S_BOOLEAN, E_BOOLEAN, S_INT8, E_INT8, S_INT16, E_INT16, S_INT32, E_INT32, S_INT64, E_INT64, S_STRING, E_STRING, S_BYTES, E_BYTES, S_RECORDS, E_RECORDS, S_ARRAY, E_ARRAY, F_BOOLEAN_ordinal, F_INT8_ordinal, F_INT16_ordinal, F_INT32_ordinal, F_INT64_ordinal, F_RECORDS_ordinal, F_ARRAY_ordinal, F_BYTES_ordinal, F_STRING_ordinal⟩ : own_G s w_BOOLEAN w_INT8 w_INT16 w_INT32 w_INT64 w_STRING w_BYTES w_RECORDS w_ARRAY) (Old.start s) p e ha hc hk s m _ below hf ((Spec.applies_iff_loose hf).mp happ).1 ⟨rfl, State.Warmed39.refl s, rfl⟩ trivial
  refine ⟨n, _, h1, h2, h3, hpost _ _ _ _ _ _ ⟨Cond.after_iff.mpr rfl, Cond.after_iff.mpr (eq_i res_at (Term.int_eval (1)) rfl), trivial⟩ ⟨hq.1, hq.2.1, (hq.2.2.sift fun y hy => Or.inr (N y hy)).mono (by decide) (by decide)⟩⟩
theorem main_1_1 : Claimed_1_1 := comes_1 fun _ _ _ _ _ _ h hF => ⟨h.1, hF⟩
theorem main_1_2 : Claimed_1_2 := comes_1 fun _ _ _ _ _ _ h hF => ⟨h.2.1, hF⟩
end Jvm.Pilot.@@N@@
namespace Jvm.Pilot.@@N@@
open Jvm Jvm.ClassFile Sem Op Lib Jvm.Free Jvm.Stand Jvm.Pilot.@@N@@.Jvm.D
/-! MADE BY PROGRAM (witnessworld.py) out of the Statement's table words and the real class files: 13 classes; the members and pool entries that the words name. The judged class is class 1, her method 1. -/
namespace start1
open Jvm.ClassFile
def u (s : String) : CpInfo := .utf8 (stringToUtf16 s)
/-- a pool by its gaps: so many unusable entries, then the entry; so many at the end -/
def gap : Nat → List CpInfo → List CpInfo
  | 0, r => r
  | n + 1, r => .unusable :: gap n r
def poolList (es : List (Nat × CpInfo)) (last : Nat) : List CpInfo := es.foldr (fun e r => gap e.1 (e.2 :: r)) (gap last [])
def pool (es : List (Nat × CpInfo)) (last : Nat) : Array CpInfo := ⟨poolList es last⟩
def fileOf (pool : Array CpInfo) (this : Nat) (attrs : Array Attribute := #[]) (ms : Array MethodInfo := #[]) (fl : Nat := 33) (sup : Nat := 0) (ifs : Array Nat := #[]) (fds : Array FieldInfo := #[]) : ClassFile where
  minorVersion := 0
  majorVersion := 65
  constantPool := pool
  accessFlags := fl
  thisClass := this
  superClass := sup
  interfaces := ifs
  fields := fds
  methods := ms
  attributes := attrs
def plain (name : String) (sup : Option ClassId) : Class where
  name := name
  kind := .ordinary
  loader := none
  accessFlags := 33
  super := sup
  interfaces := #[]
  cf := none
  fields := #[]
  methods := #[]
  instanceTypes := #[]
  staticTypes := #[]
  resolved := #[]
  callSites := []
  init := .initialized
  statics := none
  mirror := none

def pool0 : Array CpInfo := pool [(5, u "<init>"), (0, u "()V"), (1, .class_ 10), (1, u "java/lang/Object")] 113

def k0m0 : Method := { name := "<init>", desc := "()V", sig := { parameters := [], returnType := none }, accessFlags := 1, code := none }
/-- java/lang/Object -/
def k0 : Class := { plain "java/lang/Object" none with
  accessFlags := 33
  interfaces := #[]
  cf := some (fileOf pool0 8 #[] #[{ accessFlags := 1, nameIndex := 5, descriptorIndex := 6, attributes := #[] }] 33 0 #[] #[])
  fields := #[]
  methods := #[k0m0]
  instanceTypes := #[]
  staticTypes := #[]
  resolved := Array.replicate 124 none
  statics := none }

def pool1 : Array CpInfo := pool [(2, .class_ 4), (1, u "java/lang/Object"), (0, u "<init>"), (0, u "()V"), (0, .class_ 8), (0, u "com/example/strict_wire/strictwire/wire/FieldType"), (0, .fieldref 7 10), (0, .nameAndType 11 12), (0, u "BOOLEAN"), (0, u "Lcom/example/strict_wire/strictwire/wire/FieldType;"), (0, .fieldref 7 14), (0, .nameAndType 15 12), (0, u "INT8"), (0, .fieldref 7 17), (0, .nameAndType 18 12), (0, u "INT16"), (0, .fieldref 7 20), (0, .nameAndType 21 12), (0, u "INT32"), (0, .fieldref 7 23), (0, .nameAndType 24 12), (0, u "INT64"), (0, .fieldref 7 26), (0, .nameAndType 27 12), (0, u "STRING"), (0, .fieldref 7 29), (0, .nameAndType 30 12), (0, u "BYTES"), (0, .fieldref 7 32), (0, .nameAndType 33 12), (0, u "RECORDS"), (0, .fieldref 7 35), (0, .nameAndType 36 12), (0, u "ARRAY"), (0, .integer 2147483647), (0, .methodref 7 39), (0, .nameAndType 40 41), (0, u "isInteger"), (0, u "()Z"), (0, .class_ 43), (0, u "com/example/strict_wire/strictwire/wire/FieldTypeIsIntegerPinLaw"), (2, u "law"), (0, u "(I)Z")] 5

def k1m0 : Method := { name := "<init>", desc := "()V", sig := { parameters := [], returnType := none }, accessFlags := 1, code := none }
def k1c1 : Code := { maxStack := 4, maxLocals := 4, code := code, exceptionTable := #[], attributes := #[] }
def k1m1 : Method := { name := "law", desc := "(I)Z", sig := { parameters := [.int], returnType := some .boolean }, accessFlags := 9, code := some k1c1 }
/-- com/example/strict_wire/strictwire/wire/FieldTypeIsIntegerPinLaw -/
def k1 : Class := { plain "com/example/strict_wire/strictwire/wire/FieldTypeIsIntegerPinLaw" (some 0) with
  accessFlags := 49
  interfaces := #[]
  cf := some (fileOf pool1 42 #[] #[{ accessFlags := 1, nameIndex := 5, descriptorIndex := 6, attributes := #[] }, { accessFlags := 9, nameIndex := 46, descriptorIndex := 47, attributes := #[] }] 49 2 #[] #[])
  fields := #[]
  methods := #[k1m0, k1m1]
  instanceTypes := #[]
  staticTypes := #[]
  resolved := Array.replicate 53 none
  statics := none }

def pool2 : Array CpInfo := pool [(1, .class_ 2), (0, u "java/lang/constant/Constable"), (0, .class_ 4), (0, u "java/lang/Object")] 6

/-- java/lang/constant/Constable -/
def k2 : Class := { plain "java/lang/constant/Constable" (some 0) with
  accessFlags := 1537
  interfaces := #[]
  cf := some (fileOf pool2 1 #[] #[] 1537 3 #[] #[])
  fields := #[]
  methods := #[]
  instanceTypes := #[]
  staticTypes := #[]
  resolved := Array.replicate 11 none
  statics := none }

def pool3 : Array CpInfo := pool [(1, .class_ 2), (0, u "java/lang/Comparable"), (0, .class_ 4), (0, u "java/lang/Object")] 7

/-- java/lang/Comparable -/
def k3 : Class := { plain "java/lang/Comparable" (some 0) with
  accessFlags := 1537
  interfaces := #[]
  cf := some (fileOf pool3 1 #[] #[] 1537 3 #[] #[])
  fields := #[]
  methods := #[]
  instanceTypes := #[]
  staticTypes := #[]
  resolved := Array.replicate 12 none
  statics := none }

def pool4 : Array CpInfo := pool [(1, .class_ 2), (0, u "java/io/Serializable"), (0, .class_ 4), (0, u "java/lang/Object")] 2

/-- java/io/Serializable -/
def k4 : Class := { plain "java/io/Serializable" (some 0) with
  accessFlags := 1537
  interfaces := #[]
  cf := some (fileOf pool4 1 #[] #[] 1537 3 #[] #[])
  fields := #[]
  methods := #[]
  instanceTypes := #[]
  staticTypes := #[]
  resolved := Array.replicate 7 none
  statics := none }

def pool5 : Array CpInfo := pool [(2, .class_ 4), (1, u "java/lang/Enum"), (0, u "name"), (0, u "Ljava/lang/String;"), (2, u "ordinal"), (0, u "I"), (1, .class_ 14), (1, u "java/lang/Object"), (4, u "hash"), (86, .class_ 108), (1, u "java/lang/Enum$EnumDesc"), (2, .class_ 112), (0, u "java/lang/constant/Constable"), (0, .class_ 114), (0, u "java/lang/Comparable"), (0, .class_ 116), (0, u "java/io/Serializable")] 87

/-- java/lang/Enum -/
def k5 : Class := { plain "java/lang/Enum" (some 0) with
  accessFlags := 1057
  interfaces := #[2, 3, 4]
  cf := some (fileOf pool5 2 #[.nestMembers #[106]] #[] 1057 12 #[111, 113, 115] #[{ accessFlags := 18, nameIndex := 5, descriptorIndex := 6, attributes := #[] }, { accessFlags := 18, nameIndex := 9, descriptorIndex := 10, attributes := #[] }, { accessFlags := 2, nameIndex := 19, descriptorIndex := 10, attributes := #[] }])
  fields := #[{ name := "name", type := (.object "java/lang/String"), accessFlags := 18, slot := 0, constantValue := 0 }, { name := "ordinal", type := .int, accessFlags := 18, slot := 1, constantValue := 0 }, { name := "hash", type := .int, accessFlags := 2, slot := 2, constantValue := 0 }]
  methods := #[]
  instanceTypes := #[(.object "java/lang/String"), .int, .int]
  staticTypes := #[]
  resolved := Array.replicate 204 none
  statics := none }

def pool6 : Array CpInfo := pool [(1, .class_ 2), (0, u "com/example/strict_wire/strictwire/wire/FieldType"), (2, u "BOOLEAN"), (0, u "Lcom/example/strict_wire/strictwire/wire/FieldType;"), (0, .fieldref 1 8), (0, .nameAndType 9 6), (0, u "INT8"), (0, .fieldref 1 11), (0, .nameAndType 12 6), (0, u "INT16"), (0, .fieldref 1 14), (0, .nameAndType 15 6), (0, u "INT32"), (0, .fieldref 1 17), (0, .nameAndType 18 6), (0, u "INT64"), (2, u "STRING"), (2, u "BYTES"), (2, u "RECORDS"), (2, u "ARRAY"), (2, u "$VALUES"), (0, u "[Lcom/example/strict_wire/strictwire/wire/FieldType;"), (6, .class_ 43), (1, u "java/lang/Enum"), (8, u "smallestBytes"), (0, u "I"), (2, u "isInteger"), (0, u "()Z")] 41

def k6c0 : Code := { maxStack := 2, maxLocals := 1, code := prog_43_method_6_code, exceptionTable := #[], attributes := #[] }
def k6m0 : Method := { name := "isInteger", desc := "()Z", sig := { parameters := [], returnType := some .boolean }, accessFlags := 0, code := some k6c0 }
/-- com/example/strict_wire/strictwire/wire/FieldType -/
def k6 : Class := { plain "com/example/strict_wire/strictwire/wire/FieldType" (some 5) with
  accessFlags := 16432
  interfaces := #[]
  cf := some (fileOf pool6 1 #[] #[{ accessFlags := 0, nameIndex := 56, descriptorIndex := 57, attributes := #[] }] 16432 41 #[] #[{ accessFlags := 16409, nameIndex := 5, descriptorIndex := 6, attributes := #[] }, { accessFlags := 16409, nameIndex := 9, descriptorIndex := 6, attributes := #[] }, { accessFlags := 16409, nameIndex := 12, descriptorIndex := 6, attributes := #[] }, { accessFlags := 16409, nameIndex := 15, descriptorIndex := 6, attributes := #[] }, { accessFlags := 16409, nameIndex := 18, descriptorIndex := 6, attributes := #[] }, { accessFlags := 16409, nameIndex := 21, descriptorIndex := 6, attributes := #[] }, { accessFlags := 16409, nameIndex := 24, descriptorIndex := 6, attributes := #[] }, { accessFlags := 16409, nameIndex := 27, descriptorIndex := 6, attributes := #[] }, { accessFlags := 16409, nameIndex := 30, descriptorIndex := 6, attributes := #[] }, { accessFlags := 18, nameIndex := 52, descriptorIndex := 53, attributes := #[] }, { accessFlags := 4122, nameIndex := 33, descriptorIndex := 34, attributes := #[] }])
  fields := #[{ name := "BOOLEAN", type := (.object "com/example/strict_wire/strictwire/wire/FieldType"), accessFlags := 16409, slot := 0, constantValue := 0 }, { name := "INT8", type := (.object "com/example/strict_wire/strictwire/wire/FieldType"), accessFlags := 16409, slot := 1, constantValue := 0 }, { name := "INT16", type := (.object "com/example/strict_wire/strictwire/wire/FieldType"), accessFlags := 16409, slot := 2, constantValue := 0 }, { name := "INT32", type := (.object "com/example/strict_wire/strictwire/wire/FieldType"), accessFlags := 16409, slot := 3, constantValue := 0 }, { name := "INT64", type := (.object "com/example/strict_wire/strictwire/wire/FieldType"), accessFlags := 16409, slot := 4, constantValue := 0 }, { name := "STRING", type := (.object "com/example/strict_wire/strictwire/wire/FieldType"), accessFlags := 16409, slot := 5, constantValue := 0 }, { name := "BYTES", type := (.object "com/example/strict_wire/strictwire/wire/FieldType"), accessFlags := 16409, slot := 6, constantValue := 0 }, { name := "RECORDS", type := (.object "com/example/strict_wire/strictwire/wire/FieldType"), accessFlags := 16409, slot := 7, constantValue := 0 }, { name := "ARRAY", type := (.object "com/example/strict_wire/strictwire/wire/FieldType"), accessFlags := 16409, slot := 8, constantValue := 0 }, { name := "smallestBytes", type := .int, accessFlags := 18, slot := 3, constantValue := 0 }, { name := "$VALUES", type := (.array (.object "com/example/strict_wire/strictwire/wire/FieldType")), accessFlags := 4122, slot := 9, constantValue := 0 }]
  methods := #[k6m0]
  instanceTypes := #[(.object "java/lang/String"), .int, .int, .int]
  staticTypes := #[(.object "com/example/strict_wire/strictwire/wire/FieldType"), (.object "com/example/strict_wire/strictwire/wire/FieldType"), (.object "com/example/strict_wire/strictwire/wire/FieldType"), (.object "com/example/strict_wire/strictwire/wire/FieldType"), (.object "com/example/strict_wire/strictwire/wire/FieldType"), (.object "com/example/strict_wire/strictwire/wire/FieldType"), (.object "com/example/strict_wire/strictwire/wire/FieldType"), (.object "com/example/strict_wire/strictwire/wire/FieldType"), (.object "com/example/strict_wire/strictwire/wire/FieldType"), (.array (.object "com/example/strict_wire/strictwire/wire/FieldType"))]
  resolved := Array.replicate 99 none
  statics := some 0 }

def pool7 : Array CpInfo := pool [(1, u "java/lang/Cloneable"), (0, .class_ 1), (0, u "java/lang/Object"), (0, .class_ 3)] 3

/-- java/lang/Cloneable -/
def k7 : Class := { plain "java/lang/Cloneable" (some 0) with
  accessFlags := 1537
  interfaces := #[]
  cf := some (fileOf pool7 2 #[] #[] 1537 4 #[] #[])
  fields := #[]
  methods := #[]
  instanceTypes := #[]
  staticTypes := #[]
  resolved := Array.replicate 8 none
  statics := none }

/-- the primitive byte -/
def k8 : Class := { plain "byte" none with kind := .primitive 'B', accessFlags := 0x411 }
/-- [B -/
def k9 : Class := { plain "[B" (some 0) with kind := .array 8 .byte, interfaces := #[7, 4], accessFlags := 1041 }

/-- the primitive int -/
def k10 : Class := { plain "int" none with kind := .primitive 'I', accessFlags := 0x411 }
/-- [I -/
def k11 : Class := { plain "[I" (some 0) with kind := .array 10 .int, interfaces := #[7, 4], accessFlags := 1041 }

/-- [Lcom/example/strict_wire/strictwire/wire/FieldType; -/
def k12 : Class := { plain "[Lcom/example/strict_wire/strictwire/wire/FieldType;" (some 0) with kind := .array 6 (.object "com/example/strict_wire/strictwire/wire/FieldType"), interfaces := #[7, 4], accessFlags := 1041 }

def heap : Heap := #[{ cls := 6, slots := #[.ref 1, .ref 2, .ref 3, .ref 4, .ref 5, .ref 6, .ref 7, .ref 8, .ref 9, .null], vm := .statics 6 },
  { cls := 6, slots := #[.null, .int 0, .int 0, .int 0], vm := .none },
  { cls := 6, slots := #[.null, .int 1, .int 0, .int 0], vm := .none },
  { cls := 6, slots := #[.null, .int 2, .int 0, .int 0], vm := .none },
  { cls := 6, slots := #[.null, .int 3, .int 0, .int 0], vm := .none },
  { cls := 6, slots := #[.null, .int 4, .int 0, .int 0], vm := .none },
  { cls := 6, slots := #[.null, .int 5, .int 0, .int 0], vm := .none },
  { cls := 6, slots := #[.null, .int 6, .int 0, .int 0], vm := .none },
  { cls := 6, slots := #[.null, .int 7, .int 0, .int 0], vm := .none },
  { cls := 6, slots := #[.null, .int 8, .int 0, .int 0], vm := .none }]
def classes : Array Class := #[k0, k1, k2, k3, k4, k5, k6, k7, k8, k9, k10, k11, k12]
def interned : List (Array UInt16 × Addr) := []
def slotsUsed : Nat := 46
def theMethod : MethodId := ⟨1, 1⟩
def args0 : Array Value := #[.int 5]
def aboutOver (below : List Frame) : State where
  vm := { classes := classes, interned := interned.toArray }
  heap := heap
  slotsUsed := slotsUsed
  threads := #[{ frames := .invoking theMethod args0 :: below }]
def below0 : List Frame := [.native { method := ⟨0, 0⟩, args := #[] }]
def about1 : State := aboutOver below0
def p0 : Program := .bare "" "" ""
def e0 : Env := launch0.env 0 0 0
theorem w_frames : about1.frames = Frame.invoking theMethod args0 :: below0 := rfl
set_option maxRecDepth 65536 in
theorem w_args : argsFit about1.vm theMethod args0 = true := by decide +kernel
set_option maxRecDepth 65536 in
theorem w_heap : heapFits about1 = true := by decide +kernel
set_option maxRecDepth 65536 in
theorem w_runnable : about1.curStatus? = some .runnable := by decide +kernel
set_option maxRecDepth 65536 in
theorem w_alone : about1.alone = true := by decide +kernel
set_option maxRecDepth 65536 in
theorem w_named : about1.methodNamed? x = some theMethod := by decide +kernel
set_option maxRecDepth 65536 in
theorem w_hears : about1.hears theMethod below0 = true := by decide +kernel
set_option maxRecDepth 65536 in
theorem w_ripe : about1.ripe theMethod args0 below0 = true := by decide +kernel
theorem w_running : about1.status = .running := rfl
set_option maxRecDepth 65536 in
theorem w_room : about1.hasRoom e0.platform room_1 = true :=
  launch0.hasRoom_least _ room_1 (by decide +kernel) (by decide +kernel) (by decide +kernel) (by decide +kernel) (by decide +kernel) (by decide +kernel)
theorem allAtoms_all (ts : List Jvm.Cond) (a : Array Jvm.Value) (st : Jvm.State) : (allAtoms ts).before a st = ts.all (fun c => c.before a st) := by
  induction ts with
  | nil => rfl
  | cons c t ih =>
    show (Jvm.Cond.and c (allAtoms t)).before a st = _
    rw [Jvm.Cond.before_and, ih, List.all_cons]
def words1 : List Jvm.Cond := Jvm.Cond.code x code maxLocals ret :: tables_1
/-- a 'code' word, met by the world's own term for the bytes: nothing is compared byte by byte -/
theorem code_word {y : MethodName} {bytes : ByteArray} {mx : Nat} {rt : Option FieldType} {a : Array Value} {s : State} {m : MethodId} {meth : Method} {c : Code} (h1 : s.methodNamed? y = some m) (h2 : s.vm.method? m = some meth) (h3 : meth.code = some c) (h4 : c.code = bytes)
    (h5 : (c.maxLocals == mx && c.exceptionTable.isEmpty && decide (c.maxStack ≤ mostOperands) && decide (meth.sig.returnType = rt) && !meth.locks && decide (parseMethodDescriptor y.desc = some meth.sig)) = true) : (Jvm.Cond.code y bytes mx rt).before a s = true := by
  simp only [Bool.and_eq_true, beq_iff_eq, Bool.not_eq_true', decide_eq_true_eq] at h5
  obtain ⟨⟨⟨⟨⟨g1, g2⟩, g3⟩, g4⟩, g5⟩, g6⟩ := h5
  simp [Cond.before, Cond.holds, Cond.value, h1, h2, h3, h4, g1, g2, g3, g4, g5, g6]
def isCode : Jvm.Cond → Bool
  | .code _ _ _ _ => true
  | _ => false
theorem all_split {L : List Jvm.Cond} {P : Jvm.Cond → Bool} (h1 : L.all (fun c => isCode c || P c) = true) (h2 : ∀ c ∈ L.filter isCode, P c = true) : L.all P = true := by
  refine List.all_eq_true.mpr fun c hc => ?_
  have h := List.all_eq_true.mp h1 c hc
  rcases Bool.eq_false_or_eq_true (isCode c) with hi | hi
  · exact h2 c (List.mem_filter.mpr ⟨hc, hi⟩)
  · simpa [hi] using h
set_option maxRecDepth 65536 in
theorem w_c0 : (Jvm.Cond.code x code maxLocals ret).before args0 about1 = true := code_word (m := ⟨1, 1⟩) (meth := k1m1) (c := k1c1) (by decide +kernel) rfl rfl rfl (by decide +kernel)
set_option maxRecDepth 65536 in
theorem w_c1 : (Jvm.Cond.code ({ cls := "com/example/strict_wire/strictwire/wire/FieldType", name := "isInteger", desc := "()Z" } : Jvm.MethodName) prog_43_method_6_code (1 : Nat) (Option.some Jvm.ClassFile.FieldType.boolean)).before args0 about1 = true := code_word (m := ⟨6, 0⟩) (meth := k6m0) (c := k6c0) (by decide +kernel) rfl rfl rfl (by decide +kernel)
def codes1 : List Jvm.Cond := [Jvm.Cond.code x code maxLocals ret, Jvm.Cond.code ({ cls := "com/example/strict_wire/strictwire/wire/FieldType", name := "isInteger", desc := "()Z" } : Jvm.MethodName) prog_43_method_6_code (1 : Nat) (Option.some Jvm.ClassFile.FieldType.boolean)]
set_option maxRecDepth 65536 in
theorem codes_eq : words1.filter isCode = codes1 := rfl
theorem w_codes : ∀ c ∈ words1.filter isCode, c.before args0 about1 = true := by
  rw [codes_eq]
  intro c hc
  simp only [codes1, List.mem_cons, List.not_mem_nil, or_false] at hc
  rcases hc with rfl | rfl
  · exact w_c0
  · exact w_c1
set_option maxRecDepth 65536 in
theorem w_t1 : (words1.take 24).all (fun c => isCode c || c.before args0 about1) = true := by decide +kernel
set_option maxRecDepth 65536 in
theorem w_t2 : (words1.drop 24).all (fun c => isCode c || c.before args0 about1) = true := by decide +kernel
theorem w_tables : (allAtoms (Jvm.Cond.code x code maxLocals ret :: tables_1)).before args0 about1 = true := by
  rw [allAtoms_all]
  show words1.all (fun c => c.before args0 about1) = true
  refine all_split ?_ w_codes
  rw [← List.take_append_drop 24 words1, List.all_append, w_t1, w_t2]
  rfl
set_option maxRecDepth 65536 in
theorem w_case : (Jvm.Cond.and given_1 narrow_1).before args0 about1 = true := by decide +kernel
theorem w_applies : (headSpec (Jvm.Cond.code x code maxLocals ret :: tables_1) room_1).applies x e0.platform about1 = true :=
  (Spec.applies_iff w_frames).mpr ⟨w_running, w_runnable, w_alone, w_named, w_hears, w_ripe, w_room, w_tables⟩
theorem atStart : AtStart classFile x code maxLocals ret World_1 tables_1 room_1 Calls_1 rest_1 Pre_1 launch0 p0 e0 about1 theMethod args0 below0 :=
  ⟨lists_1, trivial, launch0.admits_env _ _ _, launch0.least_env, fairChoices_fair.cas, fairChoices_fair.clock, w_frames, w_args, w_heap, w_applies, trivial, trivial, w_case⟩
end start1
theorem witness_1 : WitnessClaimed_1 := ⟨start1.p0, start1.e0, start1.about1, start1.theMethod, start1.args0, start1.below0, start1.atStart⟩
end Jvm.Pilot.@@N@@
