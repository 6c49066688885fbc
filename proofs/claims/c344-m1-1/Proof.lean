import JvmDerived
import JvmDerived.Pilot.@@N@@Statement
import JvmDerived.Pilot.@@N@@Code
set_option linter.unusedVariables false
set_option linter.unusedSimpArgs false
namespace Jvm.Pilot.@@N@@
open Jvm Jvm.ClassFile Sem Op Lib Jvm.Free Jvm.Stand Jvm.LawKit Jvm.RoadKit Bundle Jvm.Pilot.@@N@@.Jvm.D
def own_Q (r : Option Value) (h0 : Heap) (n0 : Nat) (v : Option Value) (h : Heap) (L : List Loc) : Prop := v = r ∧ Fr n0 L ∧ h = h0
def own_R (r : Option Value) (n0 : Nat) (v : Option Value) (h : Heap) (L : List Loc) : Prop := v = r ∧ Fr n0 L
theorem own_fld {s : State} {args : Array Value} {t : Term} {a : Addr} {C n d : String} {k : Int32} (ev : t.eval args s none [] s = some (.ref a)) (h : (Jvm.Cond.eq (Jvm.Term.field t C n d) (Jvm.Term.int k)).value args s none s [] = some true) : Fld s s.heap a C n d (.int k) := by
  obtain ⟨x, y, hx, hy, hk, hk'⟩ := cmp_v (Or.inl h)
  have hy' : y = .int k := (Option.some.inj hy).symm
  subst hy'
  obtain ⟨z, rfl⟩ := hk'
  have e : z = k := by simpa [Cond.value, hx, hy] using h
  subst e
  exact Fld.start (by rw [← fld_at ev]; exact hx)
theorem own_nefld {Z : State} {h : Heap} {a b : Addr} {C n d : String} {v w : Value} (F : Fld Z h a C n d v) (G : Fld Z h b C n d w) (q : v ≠ w) : a ≠ b := fun e => by
  subst e
  obtain ⟨c1, f1, k1, i1, g1, a1, a2, a3, a4, a5, a6, a7⟩ := F
  obtain ⟨c2, f2, k2, i2, g2, b1, b2, b3, b4, b5, b6, b7⟩ := G
  cases a1.symm.trans b1
  cases a2.symm.trans b2
  exact q (Option.some.inj (a7.symm.trans b7))
def own_G (Z : State) (w_CDATA w_ID w_IDREF w_IDREFS w_ENTITY w_ENTITIES w_NMTOKEN w_NMTOKENS w_NOTATION w_ENUMERATION : Addr) : Prop := Sta Z Z.heap "com/example/infoset_reader/infosetreader/AttributeType" "CDATA" "Lcom/example/infoset_reader/infosetreader/AttributeType;" (.ref w_CDATA) ∧ Exa Z Z.heap w_CDATA "com/example/infoset_reader/infosetreader/AttributeType" ∧ Sta Z Z.heap "com/example/infoset_reader/infosetreader/AttributeType" "ID" "Lcom/example/infoset_reader/infosetreader/AttributeType;" (.ref w_ID) ∧ Exa Z Z.heap w_ID "com/example/infoset_reader/infosetreader/AttributeType" ∧ Sta Z Z.heap "com/example/infoset_reader/infosetreader/AttributeType" "IDREF" "Lcom/example/infoset_reader/infosetreader/AttributeType;" (.ref w_IDREF) ∧ Exa Z Z.heap w_IDREF "com/example/infoset_reader/infosetreader/AttributeType" ∧ Sta Z Z.heap "com/example/infoset_reader/infosetreader/AttributeType" "IDREFS" "Lcom/example/infoset_reader/infosetreader/AttributeType;" (.ref w_IDREFS) ∧ Exa Z Z.heap w_IDREFS "com/example/infoset_reader/infosetreader/AttributeType" ∧ Sta Z Z.heap "com/example/infoset_reader/infosetreader/AttributeType" "ENTITY" "Lcom/example/infoset_reader/infosetreader/AttributeType;" (.ref w_ENTITY) ∧ Exa Z Z.heap w_ENTITY "com/example/infoset_reader/infosetreader/AttributeType" ∧ Sta Z Z.heap "com/example/infoset_reader/infosetreader/AttributeType" "ENTITIES" "Lcom/example/infoset_reader/infosetreader/AttributeType;" (.ref w_ENTITIES) ∧ Exa Z Z.heap w_ENTITIES "com/example/infoset_reader/infosetreader/AttributeType" ∧ Sta Z Z.heap "com/example/infoset_reader/infosetreader/AttributeType" "NMTOKEN" "Lcom/example/infoset_reader/infosetreader/AttributeType;" (.ref w_NMTOKEN) ∧ Exa Z Z.heap w_NMTOKEN "com/example/infoset_reader/infosetreader/AttributeType" ∧ Sta Z Z.heap "com/example/infoset_reader/infosetreader/AttributeType" "NMTOKENS" "Lcom/example/infoset_reader/infosetreader/AttributeType;" (.ref w_NMTOKENS) ∧ Exa Z Z.heap w_NMTOKENS "com/example/infoset_reader/infosetreader/AttributeType" ∧ Sta Z Z.heap "com/example/infoset_reader/infosetreader/AttributeType" "NOTATION" "Lcom/example/infoset_reader/infosetreader/AttributeType;" (.ref w_NOTATION) ∧ Exa Z Z.heap w_NOTATION "com/example/infoset_reader/infosetreader/AttributeType" ∧ Sta Z Z.heap "com/example/infoset_reader/infosetreader/AttributeType" "ENUMERATION" "Lcom/example/infoset_reader/infosetreader/AttributeType;" (.ref w_ENUMERATION) ∧ Exa Z Z.heap w_ENUMERATION "com/example/infoset_reader/infosetreader/AttributeType" ∧ Fld Z Z.heap w_CDATA "java/lang/Enum" "ordinal" "I" (.int (0 : Int32)) ∧ Fld Z Z.heap w_IDREF "java/lang/Enum" "ordinal" "I" (.int (2 : Int32)) ∧ Fld Z Z.heap w_IDREFS "java/lang/Enum" "ordinal" "I" (.int (3 : Int32)) ∧ Fld Z Z.heap w_ENTITY "java/lang/Enum" "ordinal" "I" (.int (4 : Int32)) ∧ Fld Z Z.heap w_ENTITIES "java/lang/Enum" "ordinal" "I" (.int (5 : Int32)) ∧ Fld Z Z.heap w_NOTATION "java/lang/Enum" "ordinal" "I" (.int (8 : Int32)) ∧ Fld Z Z.heap w_ID "java/lang/Enum" "ordinal" "I" (.int (1 : Int32)) ∧ Fld Z Z.heap w_NMTOKENS "java/lang/Enum" "ordinal" "I" (.int (7 : Int32)) ∧ Fld Z Z.heap w_ENUMERATION "java/lang/Enum" "ordinal" "I" (.int (9 : Int32)) ∧ Fld Z Z.heap w_NMTOKEN "java/lang/Enum" "ordinal" "I" (.int (6 : Int32))
theorem pn_0 : plainName "com/example/infoset_reader/infosetreader/AttributeType" = true := by first | (simp [plainName, overriddenIn]; done) | decide +kernel
theorem ef_rm1 (m : MethodId) (x0 : Addr) : entryFrame m #[(.ref x0)] 1 = mkF m 0 #[.val (.ref x0)] [] := by first | (simp [entryFrame, mkF, argsToLocals, Value.category]; done) | rfl
theorem d1_0 : decode prog_3_method_5_code 0 = .ok (.aload_n 0, 1) := by decide +kernel
theorem d1_1 : decode prog_3_method_5_code 1 = .ok (.getstatic 10, 3) := by decide +kernel
theorem d1_4 : decode prog_3_method_5_code 4 = .ok (.if_acmp .eq 31, 3) := by decide +kernel
theorem d1_35 : decode prog_3_method_5_code 35 = .ok (.iconst 1, 1) := by decide +kernel
theorem d1_36 : decode prog_3_method_5_code 36 = .ok (.goto 4, 3) := by decide +kernel
theorem d1_40 : decode prog_3_method_5_code 40 = .ok (.ireturn, 1) := by decide +kernel
theorem d1_7 : decode prog_3_method_5_code 7 = .ok (.aload_n 0, 1) := by decide +kernel
theorem d1_8 : decode prog_3_method_5_code 8 = .ok (.getstatic 13, 3) := by decide +kernel
theorem d1_11 : decode prog_3_method_5_code 11 = .ok (.if_acmp .eq 24, 3) := by decide +kernel
theorem d1_14 : decode prog_3_method_5_code 14 = .ok (.aload_n 0, 1) := by decide +kernel
theorem d1_15 : decode prog_3_method_5_code 15 = .ok (.getstatic 16, 3) := by decide +kernel
theorem d1_18 : decode prog_3_method_5_code 18 = .ok (.if_acmp .eq 17, 3) := by decide +kernel
theorem d1_21 : decode prog_3_method_5_code 21 = .ok (.aload_n 0, 1) := by decide +kernel
theorem d1_22 : decode prog_3_method_5_code 22 = .ok (.getstatic 19, 3) := by decide +kernel
theorem d1_25 : decode prog_3_method_5_code 25 = .ok (.if_acmp .eq 10, 3) := by decide +kernel
theorem d1_28 : decode prog_3_method_5_code 28 = .ok (.aload_n 0, 1) := by decide +kernel
theorem d1_29 : decode prog_3_method_5_code 29 = .ok (.getstatic 28, 3) := by decide +kernel
theorem d1_32 : decode prog_3_method_5_code 32 = .ok (.if_acmp .ne 7, 3) := by decide +kernel
theorem d1_39 : decode prog_3_method_5_code 39 = .ok (.iconst 0, 1) := by decide +kernel
def own_f1 (r0 : Addr) (w_CDATA w_ID w_IDREF w_IDREFS w_ENTITY w_ENTITIES w_NMTOKEN w_NMTOKENS w_NOTATION w_ENUMERATION : Addr) : Int32 := (if r0 = w_IDREF then (1 : Int32) else (if r0 = w_IDREFS then (1 : Int32) else (if r0 = w_ENTITY then (1 : Int32) else (if r0 = w_ENTITIES then (1 : Int32) else (if r0 = w_NOTATION then (1 : Int32) else (0 : Int32))))))
set_option maxRecDepth 65536 in
set_option maxHeartbeats 40000000 in
theorem rm1 (l : Launch) (Z : State) (a0 : Array Value) (hw : ∀ d ∈ tables_1, d.before a0 Z = true) (ws : List Jvm.Cond) (r0 : Addr) (w_CDATA w_ID w_IDREF w_IDREFS w_ENTITY w_ENTITIES w_NMTOKEN w_NMTOKENS w_NOTATION w_ENUMERATION : Addr) (h0 : Heap) (n0 : Nat) (hG : own_G Z w_CDATA w_ID w_IDREF w_IDREFS w_ENTITY w_ENTITIES w_NMTOKEN w_NMTOKENS w_NOTATION w_ENUMERATION) (O0 : Old Z n0 h0) :
    MetFree l (⟨"com/example/infoset_reader/infosetreader/AttributeType", "namesItems", "()Z"⟩ : MethodName) (head1 (Jvm.Cond.code (⟨"com/example/infoset_reader/infosetreader/AttributeType", "namesItems", "()Z"⟩ : MethodName) prog_3_method_5_code 1 (some .boolean) :: ws) ({ frames := 0, cells := 0, slots := 0, locals := 0 } : Room)) (fun a U => a = #[(.ref r0)] ∧ Z.Warmed39 U.vm ∧ U.heap = h0) (fun _ _ _ _ _ => True) (fun _ U o U' => ∃ v L, o = .returned v ∧ own_Q (some (.int (own_f1 r0 w_CDATA w_ID w_IDREF w_IDREFS w_ENTITY w_ENTITIES w_NMTOKEN w_NMTOKENS w_NOTATION w_ENUMERATION))) h0 n0 v U'.heap L ∧ FrameEnd U o U' L ({ frames := 0, cells := 0, slots := 0, locals := 0 } : Room).cells ({ frames := 0, cells := 0, slots := 0, locals := 0 } : Room).slots) := by
  refine MetFree.of_bodySF (plainFor_of_name pn_0) hisR ?_
  intro p e s m args below meth c s₁ Bd hml0 hP hK
  obtain ⟨rfl, hZ, hh⟩ := hP
  have hx := Bd.exec
  have hby := Bd.bytes
  have hml : c.maxLocals = 1 := hml0
  have hown : s.vm.findClass "com/example/infoset_reader/infosetreader/AttributeType" = some m.cls := findClass_of_methodNamed Bd.named
  have hnm := (name_of_methodNamed Bd.named Bd.method).1
  have X0 : Stand p l e ({ frames := 0, cells := 0, slots := 0, locals := 0 } : Room) s m #[(.ref r0)] below meth c s₁ [] 0 0 := Stand.of_body Bd
  have e0 : s₁.heap = h0 := by rw [← hh, Bd.state]; rfl
  have N0 := Fr.nil n0
  have pre0 : ∀ t, Steps p.tables e below (s₁.setTop (mkF m 0 #[.val (.ref r0)] [])) t → Steps p.tables e below (s₁.setTop (entryFrame m #[(.ref r0)] 1)) t := fun t k => castTop (ef_rm1 m r0) k
  obtain ⟨S_CDATA, E_CDATA, S_ID, E_ID, S_IDREF, E_IDREF, S_IDREFS, E_IDREFS, S_ENTITY, E_ENTITY, S_ENTITIES, E_ENTITIES, S_NMTOKEN, E_NMTOKEN, S_NMTOKENS, E_NMTOKENS, S_NOTATION, E_NOTATION, S_ENUMERATION, E_ENUMERATION, F_CDATA_ordinal, F_IDREF_ordinal, F_IDREFS_ordinal, F_ENTITY_ordinal, F_ENTITIES_ordinal, F_NOTATION_ordinal, F_ID_ordinal, F_NMTOKENS_ordinal, F_ENUMERATION_ordinal, F_NMTOKEN_ordinal⟩ := hG
  obtain ⟨T1, X1, e1, st1⟩ := getS2 X0 hx hZ hown (host := "") (Or.inl (hw _ (List.mem_of_getElem? (i := 31) rfl))) Via.refl e0 (S_IDREF.ext O0.2) (g := (mkF m 1 #[.val (.ref r0)] [(.ref r0)])) rfl (hb hby d1_1)
  have k2 : ∀ t, Steps p.tables e below (T1.setTop (mkF m 4 #[.val (.ref r0)] [(.ref w_IDREF), (.ref r0)])) t → Steps p.tables e below (s₁.setTop (entryFrame m #[(.ref r0)] 1)) t := by
    intro t k
    refine pre0 _ ?_
    show Steps p.tables e below (s₁.setTop (mkF m 0 #[.val (.ref r0)] [])) _
    refine XS.aloadN X0.here hx rfl (hb hby d1_0) rfl rfl ?_
    show Steps p.tables e below (s₁.setTop (mkF m 1 #[.val (.ref r0)] [(.ref r0)])) _
    refine st1 _ ?_
    exact k
  by_cases hc4_1 : r0 = w_IDREF
  · have k3 : ∀ t, Steps p.tables e below (T1.setTop (mkF m 40 #[.val (.ref r0)] [(.int (1 : Int32))])) t → Steps p.tables e below (s₁.setTop (entryFrame m #[(.ref r0)] 1)) t := by
      intro t k
      refine k2 _ ?_
      show Steps p.tables e below (T1.setTop (mkF m 4 #[.val (.ref r0)] [(.ref w_IDREF), (.ref r0)])) _
      refine Jvm.RoadKit.acmp (g := (mkF m 4 #[.val (.ref r0)] [(.ref w_IDREF), (.ref r0)])) X1 hx rfl rfl rfl (pc0 := 4) (pc' := 35) (same := true) rfl (hb hby d1_4) rfl (decide_eq_true (congrArg Value.ref hc4_1)) (by decide) (by decide) ?_
      show Steps p.tables e below (T1.setTop (mkF m 35 #[.val (.ref r0)] [])) _
      refine XS.iconst X1.here hx rfl (hb hby d1_35) ?_
      show Steps p.tables e below (T1.setTop (mkF m 36 #[.val (.ref r0)] [(.int (1 : Int32))])) _
      refine XS.goto X1.here hx rfl (pc0 := 36) (pc' := 40) rfl (hb hby d1_36) (by decide) (by decide) ?_
      exact k
    obtain ⟨fs, hr, hrun, hended, hW, hsame⟩ := X1.leave (v := some (.int (1 : Int32))) (fun h => by rw [Bd.returns] at h; cases h)
    refine ⟨_, _, k3 _ ?_, hrun, hended, _, _, rfl, ?_, ⟨_, rfl⟩, hW, hsame.mono (by decide) (by decide)⟩
    · exact retN X1 hx (t := .boolean) Bd.returns (by simp) (hb hby d1_40) hr
    · show own_Q (some (.int (own_f1 r0 w_CDATA w_ID w_IDREF w_IDREFS w_ENTITY w_ENTITIES w_NMTOKEN w_NMTOKENS w_NOTATION w_ENUMERATION))) h0 n0 _ T1.heap _
      rw [e1]
      exact ⟨by simp only [own_f1, if_pos hc4_1], N0, rfl⟩
  · obtain ⟨T4, X4, e4, st4⟩ := getS2 X1 hx hZ hown (host := "") (Or.inl (hw _ (List.mem_of_getElem? (i := 32) rfl))) Via.refl e1 (S_IDREFS.ext O0.2) (g := (mkF m 8 #[.val (.ref r0)] [(.ref r0)])) rfl (hb hby d1_8)
    have k5 : ∀ t, Steps p.tables e below (T4.setTop (mkF m 11 #[.val (.ref r0)] [(.ref w_IDREFS), (.ref r0)])) t → Steps p.tables e below (s₁.setTop (entryFrame m #[(.ref r0)] 1)) t := by
      intro t k
      refine k2 _ ?_
      show Steps p.tables e below (T1.setTop (mkF m 4 #[.val (.ref r0)] [(.ref w_IDREF), (.ref r0)])) _
      refine Jvm.RoadKit.acmp (g := (mkF m 4 #[.val (.ref r0)] [(.ref w_IDREF), (.ref r0)])) X1 hx rfl rfl rfl (pc0 := 4) (pc' := 7) (same := false) rfl (hb hby d1_4) rfl (decide_eq_false fun q => hc4_1 (Value.ref.inj q)) (by decide) (by decide) ?_
      show Steps p.tables e below (T1.setTop (mkF m 7 #[.val (.ref r0)] [])) _
      refine XS.aloadN X1.here hx rfl (hb hby d1_7) rfl rfl ?_
      show Steps p.tables e below (T1.setTop (mkF m 8 #[.val (.ref r0)] [(.ref r0)])) _
      refine st4 _ ?_
      exact k
    by_cases hc11_2 : r0 = w_IDREFS
    · have k6 : ∀ t, Steps p.tables e below (T4.setTop (mkF m 40 #[.val (.ref r0)] [(.int (1 : Int32))])) t → Steps p.tables e below (s₁.setTop (entryFrame m #[(.ref r0)] 1)) t := by
        intro t k
        refine k5 _ ?_
        show Steps p.tables e below (T4.setTop (mkF m 11 #[.val (.ref r0)] [(.ref w_IDREFS), (.ref r0)])) _
        refine Jvm.RoadKit.acmp (g := (mkF m 11 #[.val (.ref r0)] [(.ref w_IDREFS), (.ref r0)])) X4 hx rfl rfl rfl (pc0 := 11) (pc' := 35) (same := true) rfl (hb hby d1_11) rfl (decide_eq_true (congrArg Value.ref hc11_2)) (by decide) (by decide) ?_
        show Steps p.tables e below (T4.setTop (mkF m 35 #[.val (.ref r0)] [])) _
        refine XS.iconst X4.here hx rfl (hb hby d1_35) ?_
        show Steps p.tables e below (T4.setTop (mkF m 36 #[.val (.ref r0)] [(.int (1 : Int32))])) _
        refine XS.goto X4.here hx rfl (pc0 := 36) (pc' := 40) rfl (hb hby d1_36) (by decide) (by decide) ?_
        exact k
      obtain ⟨fs, hr, hrun, hended, hW, hsame⟩ := X4.leave (v := some (.int (1 : Int32))) (fun h => by rw [Bd.returns] at h; cases h)
      refine ⟨_, _, k6 _ ?_, hrun, hended, _, _, rfl, ?_, ⟨_, rfl⟩, hW, hsame.mono (by decide) (by decide)⟩
      · exact retN X4 hx (t := .boolean) Bd.returns (by simp) (hb hby d1_40) hr
      · show own_Q (some (.int (own_f1 r0 w_CDATA w_ID w_IDREF w_IDREFS w_ENTITY w_ENTITIES w_NMTOKEN w_NMTOKENS w_NOTATION w_ENUMERATION))) h0 n0 _ T4.heap _
        rw [e4]
        exact ⟨by simp only [own_f1, if_neg hc4_1, if_pos hc11_2], N0, rfl⟩
    · obtain ⟨T7, X7, e7, st7⟩ := getS2 X4 hx hZ hown (host := "") (Or.inl (hw _ (List.mem_of_getElem? (i := 33) rfl))) Via.refl e4 (S_ENTITY.ext O0.2) (g := (mkF m 15 #[.val (.ref r0)] [(.ref r0)])) rfl (hb hby d1_15)
      have k8 : ∀ t, Steps p.tables e below (T7.setTop (mkF m 18 #[.val (.ref r0)] [(.ref w_ENTITY), (.ref r0)])) t → Steps p.tables e below (s₁.setTop (entryFrame m #[(.ref r0)] 1)) t := by
        intro t k
        refine k5 _ ?_
        show Steps p.tables e below (T4.setTop (mkF m 11 #[.val (.ref r0)] [(.ref w_IDREFS), (.ref r0)])) _
        refine Jvm.RoadKit.acmp (g := (mkF m 11 #[.val (.ref r0)] [(.ref w_IDREFS), (.ref r0)])) X4 hx rfl rfl rfl (pc0 := 11) (pc' := 14) (same := false) rfl (hb hby d1_11) rfl (decide_eq_false fun q => hc11_2 (Value.ref.inj q)) (by decide) (by decide) ?_
        show Steps p.tables e below (T4.setTop (mkF m 14 #[.val (.ref r0)] [])) _
        refine XS.aloadN X4.here hx rfl (hb hby d1_14) rfl rfl ?_
        show Steps p.tables e below (T4.setTop (mkF m 15 #[.val (.ref r0)] [(.ref r0)])) _
        refine st7 _ ?_
        exact k
      by_cases hc18_3 : r0 = w_ENTITY
      · have k9 : ∀ t, Steps p.tables e below (T7.setTop (mkF m 40 #[.val (.ref r0)] [(.int (1 : Int32))])) t → Steps p.tables e below (s₁.setTop (entryFrame m #[(.ref r0)] 1)) t := by
          intro t k
          refine k8 _ ?_
          show Steps p.tables e below (T7.setTop (mkF m 18 #[.val (.ref r0)] [(.ref w_ENTITY), (.ref r0)])) _
          refine Jvm.RoadKit.acmp (g := (mkF m 18 #[.val (.ref r0)] [(.ref w_ENTITY), (.ref r0)])) X7 hx rfl rfl rfl (pc0 := 18) (pc' := 35) (same := true) rfl (hb hby d1_18) rfl (decide_eq_true (congrArg Value.ref hc18_3)) (by decide) (by decide) ?_
          show Steps p.tables e below (T7.setTop (mkF m 35 #[.val (.ref r0)] [])) _
          refine XS.iconst X7.here hx rfl (hb hby d1_35) ?_
          show Steps p.tables e below (T7.setTop (mkF m 36 #[.val (.ref r0)] [(.int (1 : Int32))])) _
          refine XS.goto X7.here hx rfl (pc0 := 36) (pc' := 40) rfl (hb hby d1_36) (by decide) (by decide) ?_
          exact k
        obtain ⟨fs, hr, hrun, hended, hW, hsame⟩ := X7.leave (v := some (.int (1 : Int32))) (fun h => by rw [Bd.returns] at h; cases h)
        refine ⟨_, _, k9 _ ?_, hrun, hended, _, _, rfl, ?_, ⟨_, rfl⟩, hW, hsame.mono (by decide) (by decide)⟩
        · exact retN X7 hx (t := .boolean) Bd.returns (by simp) (hb hby d1_40) hr
        · show own_Q (some (.int (own_f1 r0 w_CDATA w_ID w_IDREF w_IDREFS w_ENTITY w_ENTITIES w_NMTOKEN w_NMTOKENS w_NOTATION w_ENUMERATION))) h0 n0 _ T7.heap _
          rw [e7]
          exact ⟨by simp only [own_f1, if_neg hc4_1, if_neg hc11_2, if_pos hc18_3], N0, rfl⟩
      · obtain ⟨T10, X10, e10, st10⟩ := getS2 X7 hx hZ hown (host := "") (Or.inl (hw _ (List.mem_of_getElem? (i := 34) rfl))) Via.refl e7 (S_ENTITIES.ext O0.2) (g := (mkF m 22 #[.val (.ref r0)] [(.ref r0)])) rfl (hb hby d1_22)
        have k11 : ∀ t, Steps p.tables e below (T10.setTop (mkF m 25 #[.val (.ref r0)] [(.ref w_ENTITIES), (.ref r0)])) t → Steps p.tables e below (s₁.setTop (entryFrame m #[(.ref r0)] 1)) t := by
          intro t k
          refine k8 _ ?_
          show Steps p.tables e below (T7.setTop (mkF m 18 #[.val (.ref r0)] [(.ref w_ENTITY), (.ref r0)])) _
          refine Jvm.RoadKit.acmp (g := (mkF m 18 #[.val (.ref r0)] [(.ref w_ENTITY), (.ref r0)])) X7 hx rfl rfl rfl (pc0 := 18) (pc' := 21) (same := false) rfl (hb hby d1_18) rfl (decide_eq_false fun q => hc18_3 (Value.ref.inj q)) (by decide) (by decide) ?_
          show Steps p.tables e below (T7.setTop (mkF m 21 #[.val (.ref r0)] [])) _
          refine XS.aloadN X7.here hx rfl (hb hby d1_21) rfl rfl ?_
          show Steps p.tables e below (T7.setTop (mkF m 22 #[.val (.ref r0)] [(.ref r0)])) _
          refine st10 _ ?_
          exact k
        by_cases hc25_4 : r0 = w_ENTITIES
        · have k12 : ∀ t, Steps p.tables e below (T10.setTop (mkF m 40 #[.val (.ref r0)] [(.int (1 : Int32))])) t → Steps p.tables e below (s₁.setTop (entryFrame m #[(.ref r0)] 1)) t := by
            intro t k
            refine k11 _ ?_
            show Steps p.tables e below (T10.setTop (mkF m 25 #[.val (.ref r0)] [(.ref w_ENTITIES), (.ref r0)])) _
            refine Jvm.RoadKit.acmp (g := (mkF m 25 #[.val (.ref r0)] [(.ref w_ENTITIES), (.ref r0)])) X10 hx rfl rfl rfl (pc0 := 25) (pc' := 35) (same := true) rfl (hb hby d1_25) rfl (decide_eq_true (congrArg Value.ref hc25_4)) (by decide) (by decide) ?_
            show Steps p.tables e below (T10.setTop (mkF m 35 #[.val (.ref r0)] [])) _
            refine XS.iconst X10.here hx rfl (hb hby d1_35) ?_
            show Steps p.tables e below (T10.setTop (mkF m 36 #[.val (.ref r0)] [(.int (1 : Int32))])) _
            refine XS.goto X10.here hx rfl (pc0 := 36) (pc' := 40) rfl (hb hby d1_36) (by decide) (by decide) ?_
            exact k
          obtain ⟨fs, hr, hrun, hended, hW, hsame⟩ := X10.leave (v := some (.int (1 : Int32))) (fun h => by rw [Bd.returns] at h; cases h)
          refine ⟨_, _, k12 _ ?_, hrun, hended, _, _, rfl, ?_, ⟨_, rfl⟩, hW, hsame.mono (by decide) (by decide)⟩
          · exact retN X10 hx (t := .boolean) Bd.returns (by simp) (hb hby d1_40) hr
          · show own_Q (some (.int (own_f1 r0 w_CDATA w_ID w_IDREF w_IDREFS w_ENTITY w_ENTITIES w_NMTOKEN w_NMTOKENS w_NOTATION w_ENUMERATION))) h0 n0 _ T10.heap _
            rw [e10]
            exact ⟨by simp only [own_f1, if_neg hc4_1, if_neg hc11_2, if_neg hc18_3, if_pos hc25_4], N0, rfl⟩
        · obtain ⟨T13, X13, e13, st13⟩ := getS2 X10 hx hZ hown (host := "") (Or.inl (hw _ (List.mem_of_getElem? (i := 35) rfl))) Via.refl e10 (S_NOTATION.ext O0.2) (g := (mkF m 29 #[.val (.ref r0)] [(.ref r0)])) rfl (hb hby d1_29)
          have k14 : ∀ t, Steps p.tables e below (T13.setTop (mkF m 32 #[.val (.ref r0)] [(.ref w_NOTATION), (.ref r0)])) t → Steps p.tables e below (s₁.setTop (entryFrame m #[(.ref r0)] 1)) t := by
            intro t k
            refine k11 _ ?_
            show Steps p.tables e below (T10.setTop (mkF m 25 #[.val (.ref r0)] [(.ref w_ENTITIES), (.ref r0)])) _
            refine Jvm.RoadKit.acmp (g := (mkF m 25 #[.val (.ref r0)] [(.ref w_ENTITIES), (.ref r0)])) X10 hx rfl rfl rfl (pc0 := 25) (pc' := 28) (same := false) rfl (hb hby d1_25) rfl (decide_eq_false fun q => hc25_4 (Value.ref.inj q)) (by decide) (by decide) ?_
            show Steps p.tables e below (T10.setTop (mkF m 28 #[.val (.ref r0)] [])) _
            refine XS.aloadN X10.here hx rfl (hb hby d1_28) rfl rfl ?_
            show Steps p.tables e below (T10.setTop (mkF m 29 #[.val (.ref r0)] [(.ref r0)])) _
            refine st13 _ ?_
            exact k
          by_cases hc32_5 : r0 = w_NOTATION
          · have k15 : ∀ t, Steps p.tables e below (T13.setTop (mkF m 40 #[.val (.ref r0)] [(.int (1 : Int32))])) t → Steps p.tables e below (s₁.setTop (entryFrame m #[(.ref r0)] 1)) t := by
              intro t k
              refine k14 _ ?_
              show Steps p.tables e below (T13.setTop (mkF m 32 #[.val (.ref r0)] [(.ref w_NOTATION), (.ref r0)])) _
              refine Jvm.RoadKit.acmp (g := (mkF m 32 #[.val (.ref r0)] [(.ref w_NOTATION), (.ref r0)])) X13 hx rfl rfl rfl (pc0 := 32) (pc' := 35) (same := true) rfl (hb hby d1_32) rfl (decide_eq_true (congrArg Value.ref hc32_5)) (by decide) (by decide) ?_
              show Steps p.tables e below (T13.setTop (mkF m 35 #[.val (.ref r0)] [])) _
              refine XS.iconst X13.here hx rfl (hb hby d1_35) ?_
              show Steps p.tables e below (T13.setTop (mkF m 36 #[.val (.ref r0)] [(.int (1 : Int32))])) _
              refine XS.goto X13.here hx rfl (pc0 := 36) (pc' := 40) rfl (hb hby d1_36) (by decide) (by decide) ?_
              exact k
            obtain ⟨fs, hr, hrun, hended, hW, hsame⟩ := X13.leave (v := some (.int (1 : Int32))) (fun h => by rw [Bd.returns] at h; cases h)
            refine ⟨_, _, k15 _ ?_, hrun, hended, _, _, rfl, ?_, ⟨_, rfl⟩, hW, hsame.mono (by decide) (by decide)⟩
            · exact retN X13 hx (t := .boolean) Bd.returns (by simp) (hb hby d1_40) hr
            · show own_Q (some (.int (own_f1 r0 w_CDATA w_ID w_IDREF w_IDREFS w_ENTITY w_ENTITIES w_NMTOKEN w_NMTOKENS w_NOTATION w_ENUMERATION))) h0 n0 _ T13.heap _
              rw [e13]
              exact ⟨by simp only [own_f1, if_neg hc4_1, if_neg hc11_2, if_neg hc18_3, if_neg hc25_4, if_pos hc32_5], N0, rfl⟩
          · have k16 : ∀ t, Steps p.tables e below (T13.setTop (mkF m 40 #[.val (.ref r0)] [(.int (0 : Int32))])) t → Steps p.tables e below (s₁.setTop (entryFrame m #[(.ref r0)] 1)) t := by
              intro t k
              refine k14 _ ?_
              show Steps p.tables e below (T13.setTop (mkF m 32 #[.val (.ref r0)] [(.ref w_NOTATION), (.ref r0)])) _
              refine Jvm.RoadKit.acmp (g := (mkF m 32 #[.val (.ref r0)] [(.ref w_NOTATION), (.ref r0)])) X13 hx rfl rfl rfl (pc0 := 32) (pc' := 39) (same := false) rfl (hb hby d1_32) rfl (decide_eq_false fun q => hc32_5 (Value.ref.inj q)) (by decide) (by decide) ?_
              show Steps p.tables e below (T13.setTop (mkF m 39 #[.val (.ref r0)] [])) _
              refine XS.iconst X13.here hx rfl (hb hby d1_39) ?_
              exact k
            obtain ⟨fs, hr, hrun, hended, hW, hsame⟩ := X13.leave (v := some (.int (0 : Int32))) (fun h => by rw [Bd.returns] at h; cases h)
            refine ⟨_, _, k16 _ ?_, hrun, hended, _, _, rfl, ?_, ⟨_, rfl⟩, hW, hsame.mono (by decide) (by decide)⟩
            · exact retN X13 hx (t := .boolean) Bd.returns (by simp) (hb hby d1_40) hr
            · show own_Q (some (.int (own_f1 r0 w_CDATA w_ID w_IDREF w_IDREFS w_ENTITY w_ENTITIES w_NMTOKEN w_NMTOKENS w_NOTATION w_ENUMERATION))) h0 n0 _ T13.heap _
              rw [e13]
              exact ⟨by simp only [own_f1, if_neg hc4_1, if_neg hc11_2, if_neg hc18_3, if_neg hc25_4, if_neg hc32_5], N0, rfl⟩
theorem own_k (x : Int32) : ((x &&& (2147483647 : Int32)) % (10 : Int32)) = (0 : Int32) ∨ ((x &&& (2147483647 : Int32)) % (10 : Int32)) = (1 : Int32) ∨ ((x &&& (2147483647 : Int32)) % (10 : Int32)) = (2 : Int32) ∨ ((x &&& (2147483647 : Int32)) % (10 : Int32)) = (3 : Int32) ∨ ((x &&& (2147483647 : Int32)) % (10 : Int32)) = (4 : Int32) ∨ ((x &&& (2147483647 : Int32)) % (10 : Int32)) = (5 : Int32) ∨ ((x &&& (2147483647 : Int32)) % (10 : Int32)) = (6 : Int32) ∨ ((x &&& (2147483647 : Int32)) % (10 : Int32)) = (7 : Int32) ∨ ((x &&& (2147483647 : Int32)) % (10 : Int32)) = (8 : Int32) ∨ ((x &&& (2147483647 : Int32)) % (10 : Int32)) = (9 : Int32) := by
  have a := c_mask x 2147483647 31 (by decide) (by decide)
  have r := c_irem (x &&& 2147483647) 10 10 (by decide)
  have z0 : (0 : Int32).toInt = 0 := by decide
  have z1 : (1 : Int32).toInt = 1 := by decide
  have z2 : (2 : Int32).toInt = 2 := by decide
  have z3 : (3 : Int32).toInt = 3 := by decide
  have z4 : (4 : Int32).toInt = 4 := by decide
  have z5 : (5 : Int32).toInt = 5 := by decide
  have z6 : (6 : Int32).toInt = 6 := by decide
  have z7 : (7 : Int32).toInt = 7 := by decide
  have z8 : (8 : Int32).toInt = 8 := by decide
  have z9 : (9 : Int32).toInt = 9 := by decide
  simp only [← Int32.toInt_inj]
  omega
theorem pn_1 : plainName "com/example/infoset_reader/infosetreader/AttributeTypeNamesItemsPinLaw" = true := by first | (simp [plainName, overriddenIn]; done) | decide +kernel
theorem ef_rm0 (m : MethodId) (x0 : Int32) : entryFrame m #[(.int x0)] maxLocals = mkF m 0 #[.val (.int x0), .unset, .unset, .unset] [] := by first | (simp [entryFrame, mkF, argsToLocals, Value.category, maxLocals]; done) | rfl
theorem pd_0 : parseMethodDescriptor "()Z" = some ⟨[], some .boolean⟩ := by decide +kernel
theorem own_p_CDATA {Z : State} (w_CDATA w_ID w_IDREF w_IDREFS w_ENTITY w_ENTITIES w_NMTOKEN w_NMTOKENS w_NOTATION w_ENUMERATION : Addr) (hG : own_G Z w_CDATA w_ID w_IDREF w_IDREFS w_ENTITY w_ENTITIES w_NMTOKEN w_NMTOKENS w_NOTATION w_ENUMERATION) : (own_f1 w_CDATA w_CDATA w_ID w_IDREF w_IDREFS w_ENTITY w_ENTITIES w_NMTOKEN w_NMTOKENS w_NOTATION w_ENUMERATION) = (0 : Int32) := by
  obtain ⟨S_CDATA, E_CDATA, S_ID, E_ID, S_IDREF, E_IDREF, S_IDREFS, E_IDREFS, S_ENTITY, E_ENTITY, S_ENTITIES, E_ENTITIES, S_NMTOKEN, E_NMTOKEN, S_NMTOKENS, E_NMTOKENS, S_NOTATION, E_NOTATION, S_ENUMERATION, E_ENUMERATION, F_CDATA_ordinal, F_IDREF_ordinal, F_IDREFS_ordinal, F_ENTITY_ordinal, F_ENTITIES_ordinal, F_NOTATION_ordinal, F_ID_ordinal, F_NMTOKENS_ordinal, F_ENUMERATION_ordinal, F_NMTOKEN_ordinal⟩ := hG
  have n_IDREF : w_CDATA ≠ w_IDREF := (own_nefld F_CDATA_ordinal F_IDREF_ordinal (by decide))
  have n_IDREFS : w_CDATA ≠ w_IDREFS := (own_nefld F_CDATA_ordinal F_IDREFS_ordinal (by decide))
  have n_ENTITY : w_CDATA ≠ w_ENTITY := (own_nefld F_CDATA_ordinal F_ENTITY_ordinal (by decide))
  have n_ENTITIES : w_CDATA ≠ w_ENTITIES := (own_nefld F_CDATA_ordinal F_ENTITIES_ordinal (by decide))
  have n_NOTATION : w_CDATA ≠ w_NOTATION := (own_nefld F_CDATA_ordinal F_NOTATION_ordinal (by decide))
  simp [own_f1, n_IDREF, n_IDREFS, n_ENTITY, n_ENTITIES, n_NOTATION]
theorem own_p_ID {Z : State} (w_CDATA w_ID w_IDREF w_IDREFS w_ENTITY w_ENTITIES w_NMTOKEN w_NMTOKENS w_NOTATION w_ENUMERATION : Addr) (hG : own_G Z w_CDATA w_ID w_IDREF w_IDREFS w_ENTITY w_ENTITIES w_NMTOKEN w_NMTOKENS w_NOTATION w_ENUMERATION) : (own_f1 w_ID w_CDATA w_ID w_IDREF w_IDREFS w_ENTITY w_ENTITIES w_NMTOKEN w_NMTOKENS w_NOTATION w_ENUMERATION) = (0 : Int32) := by
  obtain ⟨S_CDATA, E_CDATA, S_ID, E_ID, S_IDREF, E_IDREF, S_IDREFS, E_IDREFS, S_ENTITY, E_ENTITY, S_ENTITIES, E_ENTITIES, S_NMTOKEN, E_NMTOKEN, S_NMTOKENS, E_NMTOKENS, S_NOTATION, E_NOTATION, S_ENUMERATION, E_ENUMERATION, F_CDATA_ordinal, F_IDREF_ordinal, F_IDREFS_ordinal, F_ENTITY_ordinal, F_ENTITIES_ordinal, F_NOTATION_ordinal, F_ID_ordinal, F_NMTOKENS_ordinal, F_ENUMERATION_ordinal, F_NMTOKEN_ordinal⟩ := hG
  have n_IDREF : w_ID ≠ w_IDREF := (own_nefld F_ID_ordinal F_IDREF_ordinal (by decide))
  have n_IDREFS : w_ID ≠ w_IDREFS := (own_nefld F_ID_ordinal F_IDREFS_ordinal (by decide))
  have n_ENTITY : w_ID ≠ w_ENTITY := (own_nefld F_ID_ordinal F_ENTITY_ordinal (by decide))
  have n_ENTITIES : w_ID ≠ w_ENTITIES := (own_nefld F_ID_ordinal F_ENTITIES_ordinal (by decide))
  have n_NOTATION : w_ID ≠ w_NOTATION := (own_nefld F_ID_ordinal F_NOTATION_ordinal (by decide))
  simp [own_f1, n_IDREF, n_IDREFS, n_ENTITY, n_ENTITIES, n_NOTATION]
theorem own_p_IDREF {Z : State} (w_CDATA w_ID w_IDREF w_IDREFS w_ENTITY w_ENTITIES w_NMTOKEN w_NMTOKENS w_NOTATION w_ENUMERATION : Addr) (hG : own_G Z w_CDATA w_ID w_IDREF w_IDREFS w_ENTITY w_ENTITIES w_NMTOKEN w_NMTOKENS w_NOTATION w_ENUMERATION) : (own_f1 w_IDREF w_CDATA w_ID w_IDREF w_IDREFS w_ENTITY w_ENTITIES w_NMTOKEN w_NMTOKENS w_NOTATION w_ENUMERATION) = (1 : Int32) := by
  obtain ⟨S_CDATA, E_CDATA, S_ID, E_ID, S_IDREF, E_IDREF, S_IDREFS, E_IDREFS, S_ENTITY, E_ENTITY, S_ENTITIES, E_ENTITIES, S_NMTOKEN, E_NMTOKEN, S_NMTOKENS, E_NMTOKENS, S_NOTATION, E_NOTATION, S_ENUMERATION, E_ENUMERATION, F_CDATA_ordinal, F_IDREF_ordinal, F_IDREFS_ordinal, F_ENTITY_ordinal, F_ENTITIES_ordinal, F_NOTATION_ordinal, F_ID_ordinal, F_NMTOKENS_ordinal, F_ENUMERATION_ordinal, F_NMTOKEN_ordinal⟩ := hG
  have n_IDREFS : w_IDREF ≠ w_IDREFS := (own_nefld F_IDREF_ordinal F_IDREFS_ordinal (by decide))
  have n_ENTITY : w_IDREF ≠ w_ENTITY := (own_nefld F_IDREF_ordinal F_ENTITY_ordinal (by decide))
  have n_ENTITIES : w_IDREF ≠ w_ENTITIES := (own_nefld F_IDREF_ordinal F_ENTITIES_ordinal (by decide))
  have n_NOTATION : w_IDREF ≠ w_NOTATION := (own_nefld F_IDREF_ordinal F_NOTATION_ordinal (by decide))
  simp [own_f1, n_IDREFS, n_ENTITY, n_ENTITIES, n_NOTATION]
theorem own_p_IDREFS {Z : State} (w_CDATA w_ID w_IDREF w_IDREFS w_ENTITY w_ENTITIES w_NMTOKEN w_NMTOKENS w_NOTATION w_ENUMERATION : Addr) (hG : own_G Z w_CDATA w_ID w_IDREF w_IDREFS w_ENTITY w_ENTITIES w_NMTOKEN w_NMTOKENS w_NOTATION w_ENUMERATION) : (own_f1 w_IDREFS w_CDATA w_ID w_IDREF w_IDREFS w_ENTITY w_ENTITIES w_NMTOKEN w_NMTOKENS w_NOTATION w_ENUMERATION) = (1 : Int32) := by
  obtain ⟨S_CDATA, E_CDATA, S_ID, E_ID, S_IDREF, E_IDREF, S_IDREFS, E_IDREFS, S_ENTITY, E_ENTITY, S_ENTITIES, E_ENTITIES, S_NMTOKEN, E_NMTOKEN, S_NMTOKENS, E_NMTOKENS, S_NOTATION, E_NOTATION, S_ENUMERATION, E_ENUMERATION, F_CDATA_ordinal, F_IDREF_ordinal, F_IDREFS_ordinal, F_ENTITY_ordinal, F_ENTITIES_ordinal, F_NOTATION_ordinal, F_ID_ordinal, F_NMTOKENS_ordinal, F_ENUMERATION_ordinal, F_NMTOKEN_ordinal⟩ := hG
  have n_IDREF : w_IDREFS ≠ w_IDREF := (own_nefld F_IDREFS_ordinal F_IDREF_ordinal (by decide))
  have n_ENTITY : w_IDREFS ≠ w_ENTITY := (own_nefld F_IDREFS_ordinal F_ENTITY_ordinal (by decide))
  have n_ENTITIES : w_IDREFS ≠ w_ENTITIES := (own_nefld F_IDREFS_ordinal F_ENTITIES_ordinal (by decide))
  have n_NOTATION : w_IDREFS ≠ w_NOTATION := (own_nefld F_IDREFS_ordinal F_NOTATION_ordinal (by decide))
  simp [own_f1, n_IDREF, n_ENTITY, n_ENTITIES, n_NOTATION]
theorem own_p_ENTITY {Z : State} (w_CDATA w_ID w_IDREF w_IDREFS w_ENTITY w_ENTITIES w_NMTOKEN w_NMTOKENS w_NOTATION w_ENUMERATION : Addr) (hG : own_G Z w_CDATA w_ID w_IDREF w_IDREFS w_ENTITY w_ENTITIES w_NMTOKEN w_NMTOKENS w_NOTATION w_ENUMERATION) : (own_f1 w_ENTITY w_CDATA w_ID w_IDREF w_IDREFS w_ENTITY w_ENTITIES w_NMTOKEN w_NMTOKENS w_NOTATION w_ENUMERATION) = (1 : Int32) := by
  obtain ⟨S_CDATA, E_CDATA, S_ID, E_ID, S_IDREF, E_IDREF, S_IDREFS, E_IDREFS, S_ENTITY, E_ENTITY, S_ENTITIES, E_ENTITIES, S_NMTOKEN, E_NMTOKEN, S_NMTOKENS, E_NMTOKENS, S_NOTATION, E_NOTATION, S_ENUMERATION, E_ENUMERATION, F_CDATA_ordinal, F_IDREF_ordinal, F_IDREFS_ordinal, F_ENTITY_ordinal, F_ENTITIES_ordinal, F_NOTATION_ordinal, F_ID_ordinal, F_NMTOKENS_ordinal, F_ENUMERATION_ordinal, F_NMTOKEN_ordinal⟩ := hG
  have n_IDREF : w_ENTITY ≠ w_IDREF := (own_nefld F_ENTITY_ordinal F_IDREF_ordinal (by decide))
  have n_IDREFS : w_ENTITY ≠ w_IDREFS := (own_nefld F_ENTITY_ordinal F_IDREFS_ordinal (by decide))
  have n_ENTITIES : w_ENTITY ≠ w_ENTITIES := (own_nefld F_ENTITY_ordinal F_ENTITIES_ordinal (by decide))
  have n_NOTATION : w_ENTITY ≠ w_NOTATION := (own_nefld F_ENTITY_ordinal F_NOTATION_ordinal (by decide))
  simp [own_f1, n_IDREF, n_IDREFS, n_ENTITIES, n_NOTATION]
theorem own_p_ENTITIES {Z : State} (w_CDATA w_ID w_IDREF w_IDREFS w_ENTITY w_ENTITIES w_NMTOKEN w_NMTOKENS w_NOTATION w_ENUMERATION : Addr) (hG : own_G Z w_CDATA w_ID w_IDREF w_IDREFS w_ENTITY w_ENTITIES w_NMTOKEN w_NMTOKENS w_NOTATION w_ENUMERATION) : (own_f1 w_ENTITIES w_CDATA w_ID w_IDREF w_IDREFS w_ENTITY w_ENTITIES w_NMTOKEN w_NMTOKENS w_NOTATION w_ENUMERATION) = (1 : Int32) := by
  obtain ⟨S_CDATA, E_CDATA, S_ID, E_ID, S_IDREF, E_IDREF, S_IDREFS, E_IDREFS, S_ENTITY, E_ENTITY, S_ENTITIES, E_ENTITIES, S_NMTOKEN, E_NMTOKEN, S_NMTOKENS, E_NMTOKENS, S_NOTATION, E_NOTATION, S_ENUMERATION, E_ENUMERATION, F_CDATA_ordinal, F_IDREF_ordinal, F_IDREFS_ordinal, F_ENTITY_ordinal, F_ENTITIES_ordinal, F_NOTATION_ordinal, F_ID_ordinal, F_NMTOKENS_ordinal, F_ENUMERATION_ordinal, F_NMTOKEN_ordinal⟩ := hG
  have n_IDREF : w_ENTITIES ≠ w_IDREF := (own_nefld F_ENTITIES_ordinal F_IDREF_ordinal (by decide))
  have n_IDREFS : w_ENTITIES ≠ w_IDREFS := (own_nefld F_ENTITIES_ordinal F_IDREFS_ordinal (by decide))
  have n_ENTITY : w_ENTITIES ≠ w_ENTITY := (own_nefld F_ENTITIES_ordinal F_ENTITY_ordinal (by decide))
  have n_NOTATION : w_ENTITIES ≠ w_NOTATION := (own_nefld F_ENTITIES_ordinal F_NOTATION_ordinal (by decide))
  simp [own_f1, n_IDREF, n_IDREFS, n_ENTITY, n_NOTATION]
theorem own_p_NMTOKEN {Z : State} (w_CDATA w_ID w_IDREF w_IDREFS w_ENTITY w_ENTITIES w_NMTOKEN w_NMTOKENS w_NOTATION w_ENUMERATION : Addr) (hG : own_G Z w_CDATA w_ID w_IDREF w_IDREFS w_ENTITY w_ENTITIES w_NMTOKEN w_NMTOKENS w_NOTATION w_ENUMERATION) : (own_f1 w_NMTOKEN w_CDATA w_ID w_IDREF w_IDREFS w_ENTITY w_ENTITIES w_NMTOKEN w_NMTOKENS w_NOTATION w_ENUMERATION) = (0 : Int32) := by
  obtain ⟨S_CDATA, E_CDATA, S_ID, E_ID, S_IDREF, E_IDREF, S_IDREFS, E_IDREFS, S_ENTITY, E_ENTITY, S_ENTITIES, E_ENTITIES, S_NMTOKEN, E_NMTOKEN, S_NMTOKENS, E_NMTOKENS, S_NOTATION, E_NOTATION, S_ENUMERATION, E_ENUMERATION, F_CDATA_ordinal, F_IDREF_ordinal, F_IDREFS_ordinal, F_ENTITY_ordinal, F_ENTITIES_ordinal, F_NOTATION_ordinal, F_ID_ordinal, F_NMTOKENS_ordinal, F_ENUMERATION_ordinal, F_NMTOKEN_ordinal⟩ := hG
  have n_IDREF : w_NMTOKEN ≠ w_IDREF := (own_nefld F_NMTOKEN_ordinal F_IDREF_ordinal (by decide))
  have n_IDREFS : w_NMTOKEN ≠ w_IDREFS := (own_nefld F_NMTOKEN_ordinal F_IDREFS_ordinal (by decide))
  have n_ENTITY : w_NMTOKEN ≠ w_ENTITY := (own_nefld F_NMTOKEN_ordinal F_ENTITY_ordinal (by decide))
  have n_ENTITIES : w_NMTOKEN ≠ w_ENTITIES := (own_nefld F_NMTOKEN_ordinal F_ENTITIES_ordinal (by decide))
  have n_NOTATION : w_NMTOKEN ≠ w_NOTATION := (own_nefld F_NMTOKEN_ordinal F_NOTATION_ordinal (by decide))
  simp [own_f1, n_IDREF, n_IDREFS, n_ENTITY, n_ENTITIES, n_NOTATION]
theorem own_p_NMTOKENS {Z : State} (w_CDATA w_ID w_IDREF w_IDREFS w_ENTITY w_ENTITIES w_NMTOKEN w_NMTOKENS w_NOTATION w_ENUMERATION : Addr) (hG : own_G Z w_CDATA w_ID w_IDREF w_IDREFS w_ENTITY w_ENTITIES w_NMTOKEN w_NMTOKENS w_NOTATION w_ENUMERATION) : (own_f1 w_NMTOKENS w_CDATA w_ID w_IDREF w_IDREFS w_ENTITY w_ENTITIES w_NMTOKEN w_NMTOKENS w_NOTATION w_ENUMERATION) = (0 : Int32) := by
  obtain ⟨S_CDATA, E_CDATA, S_ID, E_ID, S_IDREF, E_IDREF, S_IDREFS, E_IDREFS, S_ENTITY, E_ENTITY, S_ENTITIES, E_ENTITIES, S_NMTOKEN, E_NMTOKEN, S_NMTOKENS, E_NMTOKENS, S_NOTATION, E_NOTATION, S_ENUMERATION, E_ENUMERATION, F_CDATA_ordinal, F_IDREF_ordinal, F_IDREFS_ordinal, F_ENTITY_ordinal, F_ENTITIES_ordinal, F_NOTATION_ordinal, F_ID_ordinal, F_NMTOKENS_ordinal, F_ENUMERATION_ordinal, F_NMTOKEN_ordinal⟩ := hG
  have n_IDREF : w_NMTOKENS ≠ w_IDREF := (own_nefld F_NMTOKENS_ordinal F_IDREF_ordinal (by decide))
  have n_IDREFS : w_NMTOKENS ≠ w_IDREFS := (own_nefld F_NMTOKENS_ordinal F_IDREFS_ordinal (by decide))
  have n_ENTITY : w_NMTOKENS ≠ w_ENTITY := (own_nefld F_NMTOKENS_ordinal F_ENTITY_ordinal (by decide))
  have n_ENTITIES : w_NMTOKENS ≠ w_ENTITIES := (own_nefld F_NMTOKENS_ordinal F_ENTITIES_ordinal (by decide))
  have n_NOTATION : w_NMTOKENS ≠ w_NOTATION := (own_nefld F_NMTOKENS_ordinal F_NOTATION_ordinal (by decide))
  simp [own_f1, n_IDREF, n_IDREFS, n_ENTITY, n_ENTITIES, n_NOTATION]
theorem own_p_NOTATION {Z : State} (w_CDATA w_ID w_IDREF w_IDREFS w_ENTITY w_ENTITIES w_NMTOKEN w_NMTOKENS w_NOTATION w_ENUMERATION : Addr) (hG : own_G Z w_CDATA w_ID w_IDREF w_IDREFS w_ENTITY w_ENTITIES w_NMTOKEN w_NMTOKENS w_NOTATION w_ENUMERATION) : (own_f1 w_NOTATION w_CDATA w_ID w_IDREF w_IDREFS w_ENTITY w_ENTITIES w_NMTOKEN w_NMTOKENS w_NOTATION w_ENUMERATION) = (1 : Int32) := by
  obtain ⟨S_CDATA, E_CDATA, S_ID, E_ID, S_IDREF, E_IDREF, S_IDREFS, E_IDREFS, S_ENTITY, E_ENTITY, S_ENTITIES, E_ENTITIES, S_NMTOKEN, E_NMTOKEN, S_NMTOKENS, E_NMTOKENS, S_NOTATION, E_NOTATION, S_ENUMERATION, E_ENUMERATION, F_CDATA_ordinal, F_IDREF_ordinal, F_IDREFS_ordinal, F_ENTITY_ordinal, F_ENTITIES_ordinal, F_NOTATION_ordinal, F_ID_ordinal, F_NMTOKENS_ordinal, F_ENUMERATION_ordinal, F_NMTOKEN_ordinal⟩ := hG
  have n_IDREF : w_NOTATION ≠ w_IDREF := (own_nefld F_NOTATION_ordinal F_IDREF_ordinal (by decide))
  have n_IDREFS : w_NOTATION ≠ w_IDREFS := (own_nefld F_NOTATION_ordinal F_IDREFS_ordinal (by decide))
  have n_ENTITY : w_NOTATION ≠ w_ENTITY := (own_nefld F_NOTATION_ordinal F_ENTITY_ordinal (by decide))
  have n_ENTITIES : w_NOTATION ≠ w_ENTITIES := (own_nefld F_NOTATION_ordinal F_ENTITIES_ordinal (by decide))
  simp [own_f1, n_IDREF, n_IDREFS, n_ENTITY, n_ENTITIES]
theorem own_p_ENUMERATION {Z : State} (w_CDATA w_ID w_IDREF w_IDREFS w_ENTITY w_ENTITIES w_NMTOKEN w_NMTOKENS w_NOTATION w_ENUMERATION : Addr) (hG : own_G Z w_CDATA w_ID w_IDREF w_IDREFS w_ENTITY w_ENTITIES w_NMTOKEN w_NMTOKENS w_NOTATION w_ENUMERATION) : (own_f1 w_ENUMERATION w_CDATA w_ID w_IDREF w_IDREFS w_ENTITY w_ENTITIES w_NMTOKEN w_NMTOKENS w_NOTATION w_ENUMERATION) = (0 : Int32) := by
  obtain ⟨S_CDATA, E_CDATA, S_ID, E_ID, S_IDREF, E_IDREF, S_IDREFS, E_IDREFS, S_ENTITY, E_ENTITY, S_ENTITIES, E_ENTITIES, S_NMTOKEN, E_NMTOKEN, S_NMTOKENS, E_NMTOKENS, S_NOTATION, E_NOTATION, S_ENUMERATION, E_ENUMERATION, F_CDATA_ordinal, F_IDREF_ordinal, F_IDREFS_ordinal, F_ENTITY_ordinal, F_ENTITIES_ordinal, F_NOTATION_ordinal, F_ID_ordinal, F_NMTOKENS_ordinal, F_ENUMERATION_ordinal, F_NMTOKEN_ordinal⟩ := hG
  have n_IDREF : w_ENUMERATION ≠ w_IDREF := (own_nefld F_ENUMERATION_ordinal F_IDREF_ordinal (by decide))
  have n_IDREFS : w_ENUMERATION ≠ w_IDREFS := (own_nefld F_ENUMERATION_ordinal F_IDREFS_ordinal (by decide))
  have n_ENTITY : w_ENUMERATION ≠ w_ENTITY := (own_nefld F_ENUMERATION_ordinal F_ENTITY_ordinal (by decide))
  have n_ENTITIES : w_ENUMERATION ≠ w_ENTITIES := (own_nefld F_ENUMERATION_ordinal F_ENTITIES_ordinal (by decide))
  have n_NOTATION : w_ENUMERATION ≠ w_NOTATION := (own_nefld F_ENUMERATION_ordinal F_NOTATION_ordinal (by decide))
  simp [own_f1, n_IDREF, n_IDREFS, n_ENTITY, n_ENTITIES, n_NOTATION]
set_option maxRecDepth 65536 in
set_option maxHeartbeats 40000000 in
theorem rm0 (l : Launch) (Z : State) (a0 : Array Value) (hw : ∀ d ∈ tables_1, d.before a0 Z = true) (ws : List Jvm.Cond) (p0 : Int32) (w_CDATA w_ID w_IDREF w_IDREFS w_ENTITY w_ENTITIES w_NMTOKEN w_NMTOKENS w_NOTATION w_ENUMERATION : Addr) (h0 : Heap) (n0 : Nat) (hG : own_G Z w_CDATA w_ID w_IDREF w_IDREFS w_ENTITY w_ENTITIES w_NMTOKEN w_NMTOKENS w_NOTATION w_ENUMERATION) (O0 : Old Z n0 h0) :
    MetFree l x (head1 (Jvm.Cond.code x code maxLocals ret :: ws) room_1) (fun a U => a = #[(.int p0)] ∧ Z.Warmed39 U.vm ∧ U.heap = h0) (fun _ _ _ _ _ => True) (fun _ U o U' => ∃ v L, o = .returned v ∧ own_R (some (.int 1)) n0 v U'.heap L ∧ FrameEnd U o U' L room_1.cells room_1.slots) := by
  refine MetFree.of_bodySF (plainFor_of_name pn_1) hisR ?_
  intro p e s m args below meth c s₁ Bd hml0 hP hK
  obtain ⟨rfl, hZ, hh⟩ := hP
  have hx := Bd.exec
  have hby := Bd.bytes
  have hml : c.maxLocals = 4 := hml0
  have hown : s.vm.findClass "com/example/infoset_reader/infosetreader/AttributeTypeNamesItemsPinLaw" = some m.cls := findClass_of_methodNamed Bd.named
  have hnm := (name_of_methodNamed Bd.named Bd.method).1
  have X0 : Stand p l e room_1 s m #[(.int p0)] below meth c s₁ [] 0 0 := Stand.of_body Bd
  have e0 : s₁.heap = h0 := by rw [← hh, Bd.state]; rfl
  have N0 := Fr.nil n0
  have pre0 : ∀ t, Steps p.tables e below (s₁.setTop (mkF m 0 #[.val (.int p0), .unset, .unset, .unset] [])) t → Steps p.tables e below (s₁.setTop (entryFrame m #[(.int p0)] maxLocals)) t := fun t k => castTop (ef_rm0 m p0) k
  have hG' := hG
  obtain ⟨S_CDATA, E_CDATA, S_ID, E_ID, S_IDREF, E_IDREF, S_IDREFS, E_IDREFS, S_ENTITY, E_ENTITY, S_ENTITIES, E_ENTITIES, S_NMTOKEN, E_NMTOKEN, S_NMTOKENS, E_NMTOKENS, S_NOTATION, E_NOTATION, S_ENUMERATION, E_ENUMERATION, F_CDATA_ordinal, F_IDREF_ordinal, F_IDREFS_ordinal, F_ENTITY_ordinal, F_ENTITIES_ordinal, F_NOTATION_ordinal, F_ID_ordinal, F_NMTOKENS_ordinal, F_ENUMERATION_ordinal, F_NMTOKEN_ordinal⟩ := hG'
  obtain ⟨T1, h1, c1, X1, e1, E1, A1, O1, st1⟩ := newR X0 hx hZ hown (hw _ (List.mem_of_getElem? (i := 0) rfl)) (hw _ (List.mem_of_getElem? (i := 1) rfl)) e0 (g := (mkF m 2 #[.val (.int p0), .unset, .unset, .unset] [(.int (10 : Int32))])) rfl (hb hby at_2) rfl (by decide) (cap := 10) (by decide) (by decide) (by decide) (by decide)
  obtain ⟨b1, g1⟩ : ∃ z, z = h0.size := ⟨_, rfl⟩
  rw [← g1] at A1 st1
  have gn_b1 : n0 ≤ b1 := Nat.le_trans (O0.1 ▸ O0.2.1) (Nat.le_of_eq g1.symm)
  replace O0 := O0.ext E1
  have V_b1 : Arv Z h1 b1 c1 (.object "com/example/infoset_reader/infosetreader/AttributeType") (10 : Int32) [.null, .null, .null, .null, .null, .null, .null, .null, .null, .null] .null := (Arv.new A1 (by decide)).pad (pad_rep [] .null 10)
  obtain ⟨T2, X2, e2, st2⟩ := getS2 X1 hx hZ hown (host := "") (Or.inl (hw _ (List.mem_of_getElem? (i := 2) rfl))) Via.refl e1 (S_CDATA.ext O0.2) (g := (mkF m 7 #[.val (.int p0), .unset, .unset, .unset] [(.int (0 : Int32)), (.ref b1), (.ref b1)])) rfl (hb hby at_7)
  obtain ⟨cl_3, Ar_3, q_3, S_3, N_3, H_3, G_3⟩ := id V_b1
  have hin_3 : ¬ ((0 : Int32) < 0 ∨ cl_3.slots.size ≤ ((0 : Int32)).toNatClampNeg) := inb_of S_3 ⟨by decide, by decide⟩
  obtain ⟨T3, h3, X3, e3, W3, st3⟩ := stR X2 hx hZ e2 Ar_3 (j := (0 : Int32)) hin_3 rfl (Sto.ofV Ar_3 q_3 O1 (Ins.self (E_CDATA.ext O0.2))) (g := (mkF m 10 #[.val (.int p0), .unset, .unset, .unset] [(.ref w_CDATA), (.int (0 : Int32)), (.ref b1), (.ref b1)])) rfl rfl (hb hby at_10)
  have Vn3 : Arv Z h3 b1 c1 (.object "com/example/infoset_reader/infosetreader/AttributeType") (10 : Int32) [(.ref w_CDATA), .null, .null, .null, .null, .null, .null, .null, .null, .null] .null := Arv.set Ar_3 q_3 S_3 N_3 H_3 G_3 rfl W3 0 rfl (Nat.le_of_ble_eq_true rfl)
  replace O0 := O0.wr W3 gn_b1
  replace V_b1 := Vn3
  have N3 := Fr.snoc X3 N0 gn_b1
  obtain ⟨T4, X4, e4, st4⟩ := getS2 X3 hx hZ hown (host := "") (Or.inl (hw _ (List.mem_of_getElem? (i := 6) rfl))) Via.refl e3 (S_ID.ext O0.2) (g := (mkF m 13 #[.val (.int p0), .unset, .unset, .unset] [(.int (1 : Int32)), (.ref b1), (.ref b1)])) rfl (hb hby at_13)
  obtain ⟨cl_5, Ar_5, q_5, S_5, N_5, H_5, G_5⟩ := id V_b1
  have hin_5 : ¬ ((1 : Int32) < 0 ∨ cl_5.slots.size ≤ ((1 : Int32)).toNatClampNeg) := inb_of S_5 ⟨by decide, by decide⟩
  obtain ⟨T5, h5, X5, e5, W5, st5⟩ := stR X4 hx hZ e4 Ar_5 (j := (1 : Int32)) hin_5 rfl (Sto.ofV Ar_5 q_5 O1 (Ins.self (E_ID.ext O0.2))) (g := (mkF m 16 #[.val (.int p0), .unset, .unset, .unset] [(.ref w_ID), (.int (1 : Int32)), (.ref b1), (.ref b1)])) rfl rfl (hb hby at_16)
  have Vn5 : Arv Z h5 b1 c1 (.object "com/example/infoset_reader/infosetreader/AttributeType") (10 : Int32) [(.ref w_CDATA), (.ref w_ID), .null, .null, .null, .null, .null, .null, .null, .null] .null := Arv.set Ar_5 q_5 S_5 N_5 H_5 G_5 rfl W5 1 rfl (Nat.le_of_ble_eq_true rfl)
  replace O0 := O0.wr W5 gn_b1
  replace V_b1 := Vn5
  have N5 := Fr.snoc X5 N3 gn_b1
  obtain ⟨T6, X6, e6, st6⟩ := getS2 X5 hx hZ hown (host := "") (Or.inl (hw _ (List.mem_of_getElem? (i := 8) rfl))) Via.refl e5 (S_IDREF.ext O0.2) (g := (mkF m 19 #[.val (.int p0), .unset, .unset, .unset] [(.int (2 : Int32)), (.ref b1), (.ref b1)])) rfl (hb hby at_19)
  obtain ⟨cl_7, Ar_7, q_7, S_7, N_7, H_7, G_7⟩ := id V_b1
  have hin_7 : ¬ ((2 : Int32) < 0 ∨ cl_7.slots.size ≤ ((2 : Int32)).toNatClampNeg) := inb_of S_7 ⟨by decide, by decide⟩
  obtain ⟨T7, h7, X7, e7, W7, st7⟩ := stR X6 hx hZ e6 Ar_7 (j := (2 : Int32)) hin_7 rfl (Sto.ofV Ar_7 q_7 O1 (Ins.self (E_IDREF.ext O0.2))) (g := (mkF m 22 #[.val (.int p0), .unset, .unset, .unset] [(.ref w_IDREF), (.int (2 : Int32)), (.ref b1), (.ref b1)])) rfl rfl (hb hby at_22)
  have Vn7 : Arv Z h7 b1 c1 (.object "com/example/infoset_reader/infosetreader/AttributeType") (10 : Int32) [(.ref w_CDATA), (.ref w_ID), (.ref w_IDREF), .null, .null, .null, .null, .null, .null, .null] .null := Arv.set Ar_7 q_7 S_7 N_7 H_7 G_7 rfl W7 2 rfl (Nat.le_of_ble_eq_true rfl)
  replace O0 := O0.wr W7 gn_b1
  replace V_b1 := Vn7
  have N7 := Fr.snoc X7 N5 gn_b1
  obtain ⟨T8, X8, e8, st8⟩ := getS2 X7 hx hZ hown (host := "") (Or.inl (hw _ (List.mem_of_getElem? (i := 10) rfl))) Via.refl e7 (S_IDREFS.ext O0.2) (g := (mkF m 25 #[.val (.int p0), .unset, .unset, .unset] [(.int (3 : Int32)), (.ref b1), (.ref b1)])) rfl (hb hby at_25)
  obtain ⟨cl_9, Ar_9, q_9, S_9, N_9, H_9, G_9⟩ := id V_b1
  have hin_9 : ¬ ((3 : Int32) < 0 ∨ cl_9.slots.size ≤ ((3 : Int32)).toNatClampNeg) := inb_of S_9 ⟨by decide, by decide⟩
  obtain ⟨T9, h9, X9, e9, W9, st9⟩ := stR X8 hx hZ e8 Ar_9 (j := (3 : Int32)) hin_9 rfl (Sto.ofV Ar_9 q_9 O1 (Ins.self (E_IDREFS.ext O0.2))) (g := (mkF m 28 #[.val (.int p0), .unset, .unset, .unset] [(.ref w_IDREFS), (.int (3 : Int32)), (.ref b1), (.ref b1)])) rfl rfl (hb hby at_28)
  have Vn9 : Arv Z h9 b1 c1 (.object "com/example/infoset_reader/infosetreader/AttributeType") (10 : Int32) [(.ref w_CDATA), (.ref w_ID), (.ref w_IDREF), (.ref w_IDREFS), .null, .null, .null, .null, .null, .null] .null := Arv.set Ar_9 q_9 S_9 N_9 H_9 G_9 rfl W9 3 rfl (Nat.le_of_ble_eq_true rfl)
  replace O0 := O0.wr W9 gn_b1
  replace V_b1 := Vn9
  have N9 := Fr.snoc X9 N7 gn_b1
  obtain ⟨T10, X10, e10, st10⟩ := getS2 X9 hx hZ hown (host := "") (Or.inl (hw _ (List.mem_of_getElem? (i := 12) rfl))) Via.refl e9 (S_ENTITY.ext O0.2) (g := (mkF m 31 #[.val (.int p0), .unset, .unset, .unset] [(.int (4 : Int32)), (.ref b1), (.ref b1)])) rfl (hb hby at_31)
  obtain ⟨cl_11, Ar_11, q_11, S_11, N_11, H_11, G_11⟩ := id V_b1
  have hin_11 : ¬ ((4 : Int32) < 0 ∨ cl_11.slots.size ≤ ((4 : Int32)).toNatClampNeg) := inb_of S_11 ⟨by decide, by decide⟩
  obtain ⟨T11, h11, X11, e11, W11, st11⟩ := stR X10 hx hZ e10 Ar_11 (j := (4 : Int32)) hin_11 rfl (Sto.ofV Ar_11 q_11 O1 (Ins.self (E_ENTITY.ext O0.2))) (g := (mkF m 34 #[.val (.int p0), .unset, .unset, .unset] [(.ref w_ENTITY), (.int (4 : Int32)), (.ref b1), (.ref b1)])) rfl rfl (hb hby at_34)
  have Vn11 : Arv Z h11 b1 c1 (.object "com/example/infoset_reader/infosetreader/AttributeType") (10 : Int32) [(.ref w_CDATA), (.ref w_ID), (.ref w_IDREF), (.ref w_IDREFS), (.ref w_ENTITY), .null, .null, .null, .null, .null] .null := Arv.set Ar_11 q_11 S_11 N_11 H_11 G_11 rfl W11 4 rfl (Nat.le_of_ble_eq_true rfl)
  replace O0 := O0.wr W11 gn_b1
  replace V_b1 := Vn11
  have N11 := Fr.snoc X11 N9 gn_b1
  obtain ⟨T12, X12, e12, st12⟩ := getS2 X11 hx hZ hown (host := "") (Or.inl (hw _ (List.mem_of_getElem? (i := 14) rfl))) Via.refl e11 (S_ENTITIES.ext O0.2) (g := (mkF m 37 #[.val (.int p0), .unset, .unset, .unset] [(.int (5 : Int32)), (.ref b1), (.ref b1)])) rfl (hb hby at_37)
  obtain ⟨cl_13, Ar_13, q_13, S_13, N_13, H_13, G_13⟩ := id V_b1
  have hin_13 : ¬ ((5 : Int32) < 0 ∨ cl_13.slots.size ≤ ((5 : Int32)).toNatClampNeg) := inb_of S_13 ⟨by decide, by decide⟩
  obtain ⟨T13, h13, X13, e13, W13, st13⟩ := stR X12 hx hZ e12 Ar_13 (j := (5 : Int32)) hin_13 rfl (Sto.ofV Ar_13 q_13 O1 (Ins.self (E_ENTITIES.ext O0.2))) (g := (mkF m 40 #[.val (.int p0), .unset, .unset, .unset] [(.ref w_ENTITIES), (.int (5 : Int32)), (.ref b1), (.ref b1)])) rfl rfl (hb hby at_40)
  have Vn13 : Arv Z h13 b1 c1 (.object "com/example/infoset_reader/infosetreader/AttributeType") (10 : Int32) [(.ref w_CDATA), (.ref w_ID), (.ref w_IDREF), (.ref w_IDREFS), (.ref w_ENTITY), (.ref w_ENTITIES), .null, .null, .null, .null] .null := Arv.set Ar_13 q_13 S_13 N_13 H_13 G_13 rfl W13 5 rfl (Nat.le_of_ble_eq_true rfl)
  replace O0 := O0.wr W13 gn_b1
  replace V_b1 := Vn13
  have N13 := Fr.snoc X13 N11 gn_b1
  obtain ⟨T14, X14, e14, st14⟩ := getS2 X13 hx hZ hown (host := "") (Or.inl (hw _ (List.mem_of_getElem? (i := 16) rfl))) Via.refl e13 (S_NMTOKEN.ext O0.2) (g := (mkF m 44 #[.val (.int p0), .unset, .unset, .unset] [(.int (6 : Int32)), (.ref b1), (.ref b1)])) rfl (hb hby at_44)
  obtain ⟨cl_15, Ar_15, q_15, S_15, N_15, H_15, G_15⟩ := id V_b1
  have hin_15 : ¬ ((6 : Int32) < 0 ∨ cl_15.slots.size ≤ ((6 : Int32)).toNatClampNeg) := inb_of S_15 ⟨by decide, by decide⟩
  obtain ⟨T15, h15, X15, e15, W15, st15⟩ := stR X14 hx hZ e14 Ar_15 (j := (6 : Int32)) hin_15 rfl (Sto.ofV Ar_15 q_15 O1 (Ins.self (E_NMTOKEN.ext O0.2))) (g := (mkF m 47 #[.val (.int p0), .unset, .unset, .unset] [(.ref w_NMTOKEN), (.int (6 : Int32)), (.ref b1), (.ref b1)])) rfl rfl (hb hby at_47)
  have Vn15 : Arv Z h15 b1 c1 (.object "com/example/infoset_reader/infosetreader/AttributeType") (10 : Int32) [(.ref w_CDATA), (.ref w_ID), (.ref w_IDREF), (.ref w_IDREFS), (.ref w_ENTITY), (.ref w_ENTITIES), (.ref w_NMTOKEN), .null, .null, .null] .null := Arv.set Ar_15 q_15 S_15 N_15 H_15 G_15 rfl W15 6 rfl (Nat.le_of_ble_eq_true rfl)
  replace O0 := O0.wr W15 gn_b1
  replace V_b1 := Vn15
  have N15 := Fr.snoc X15 N13 gn_b1
  obtain ⟨T16, X16, e16, st16⟩ := getS2 X15 hx hZ hown (host := "") (Or.inl (hw _ (List.mem_of_getElem? (i := 18) rfl))) Via.refl e15 (S_NMTOKENS.ext O0.2) (g := (mkF m 51 #[.val (.int p0), .unset, .unset, .unset] [(.int (7 : Int32)), (.ref b1), (.ref b1)])) rfl (hb hby at_51)
  obtain ⟨cl_17, Ar_17, q_17, S_17, N_17, H_17, G_17⟩ := id V_b1
  have hin_17 : ¬ ((7 : Int32) < 0 ∨ cl_17.slots.size ≤ ((7 : Int32)).toNatClampNeg) := inb_of S_17 ⟨by decide, by decide⟩
  obtain ⟨T17, h17, X17, e17, W17, st17⟩ := stR X16 hx hZ e16 Ar_17 (j := (7 : Int32)) hin_17 rfl (Sto.ofV Ar_17 q_17 O1 (Ins.self (E_NMTOKENS.ext O0.2))) (g := (mkF m 54 #[.val (.int p0), .unset, .unset, .unset] [(.ref w_NMTOKENS), (.int (7 : Int32)), (.ref b1), (.ref b1)])) rfl rfl (hb hby at_54)
  have Vn17 : Arv Z h17 b1 c1 (.object "com/example/infoset_reader/infosetreader/AttributeType") (10 : Int32) [(.ref w_CDATA), (.ref w_ID), (.ref w_IDREF), (.ref w_IDREFS), (.ref w_ENTITY), (.ref w_ENTITIES), (.ref w_NMTOKEN), (.ref w_NMTOKENS), .null, .null] .null := Arv.set Ar_17 q_17 S_17 N_17 H_17 G_17 rfl W17 7 rfl (Nat.le_of_ble_eq_true rfl)
  replace O0 := O0.wr W17 gn_b1
  replace V_b1 := Vn17
  have N17 := Fr.snoc X17 N15 gn_b1
  obtain ⟨T18, X18, e18, st18⟩ := getS2 X17 hx hZ hown (host := "") (Or.inl (hw _ (List.mem_of_getElem? (i := 20) rfl))) Via.refl e17 (S_NOTATION.ext O0.2) (g := (mkF m 58 #[.val (.int p0), .unset, .unset, .unset] [(.int (8 : Int32)), (.ref b1), (.ref b1)])) rfl (hb hby at_58)
  obtain ⟨cl_19, Ar_19, q_19, S_19, N_19, H_19, G_19⟩ := id V_b1
  have hin_19 : ¬ ((8 : Int32) < 0 ∨ cl_19.slots.size ≤ ((8 : Int32)).toNatClampNeg) := inb_of S_19 ⟨by decide, by decide⟩
  obtain ⟨T19, h19, X19, e19, W19, st19⟩ := stR X18 hx hZ e18 Ar_19 (j := (8 : Int32)) hin_19 rfl (Sto.ofV Ar_19 q_19 O1 (Ins.self (E_NOTATION.ext O0.2))) (g := (mkF m 61 #[.val (.int p0), .unset, .unset, .unset] [(.ref w_NOTATION), (.int (8 : Int32)), (.ref b1), (.ref b1)])) rfl rfl (hb hby at_61)
  have Vn19 : Arv Z h19 b1 c1 (.object "com/example/infoset_reader/infosetreader/AttributeType") (10 : Int32) [(.ref w_CDATA), (.ref w_ID), (.ref w_IDREF), (.ref w_IDREFS), (.ref w_ENTITY), (.ref w_ENTITIES), (.ref w_NMTOKEN), (.ref w_NMTOKENS), (.ref w_NOTATION), .null] .null := Arv.set Ar_19 q_19 S_19 N_19 H_19 G_19 rfl W19 8 rfl (Nat.le_of_ble_eq_true rfl)
  replace O0 := O0.wr W19 gn_b1
  replace V_b1 := Vn19
  have N19 := Fr.snoc X19 N17 gn_b1
  obtain ⟨T20, X20, e20, st20⟩ := getS2 X19 hx hZ hown (host := "") (Or.inl (hw _ (List.mem_of_getElem? (i := 22) rfl))) Via.refl e19 (S_ENUMERATION.ext O0.2) (g := (mkF m 65 #[.val (.int p0), .unset, .unset, .unset] [(.int (9 : Int32)), (.ref b1), (.ref b1)])) rfl (hb hby at_65)
  obtain ⟨cl_21, Ar_21, q_21, S_21, N_21, H_21, G_21⟩ := id V_b1
  have hin_21 : ¬ ((9 : Int32) < 0 ∨ cl_21.slots.size ≤ ((9 : Int32)).toNatClampNeg) := inb_of S_21 ⟨by decide, by decide⟩
  obtain ⟨T21, h21, X21, e21, W21, st21⟩ := stR X20 hx hZ e20 Ar_21 (j := (9 : Int32)) hin_21 rfl (Sto.ofV Ar_21 q_21 O1 (Ins.self (E_ENUMERATION.ext O0.2))) (g := (mkF m 68 #[.val (.int p0), .unset, .unset, .unset] [(.ref w_ENUMERATION), (.int (9 : Int32)), (.ref b1), (.ref b1)])) rfl rfl (hb hby at_68)
  have Vn21 : Arv Z h21 b1 c1 (.object "com/example/infoset_reader/infosetreader/AttributeType") (10 : Int32) [(.ref w_CDATA), (.ref w_ID), (.ref w_IDREF), (.ref w_IDREFS), (.ref w_ENTITY), (.ref w_ENTITIES), (.ref w_NMTOKEN), (.ref w_NMTOKENS), (.ref w_NOTATION), (.ref w_ENUMERATION)] .null := Arv.set Ar_21 q_21 S_21 N_21 H_21 G_21 rfl W21 9 rfl (Nat.le_of_ble_eq_true rfl)
  replace O0 := O0.wr W21 gn_b1
  replace V_b1 := Vn21
  have N21 := Fr.snoc X21 N19 gn_b1
  obtain ⟨T22, h22, c22, X22, e22, E22, A22, st22⟩ := newP X21 hx hZ (hw _ (List.mem_of_getElem? (i := 24) rfl)) e21 (g := (mkF m 72 #[.val (.int p0), .val (.ref b1), .unset, .unset] [(.int (10 : Int32))])) rfl (hb hby at_72) rfl (by decide) (cap := 10) (by decide) (by decide) (by decide) (by decide)
  obtain ⟨b22, g22⟩ : ∃ z, z = h21.size := ⟨_, rfl⟩
  rw [← g22] at A22 st22
  have ne_b1_b22 : b1 ≠ b22 := Nat.ne_of_lt (Nat.lt_of_lt_of_le V_b1.lt (Nat.le_of_eq g22.symm))
  have gn_b22 : n0 ≤ b22 := Nat.le_trans (O0.1 ▸ O0.2.1) (Nat.le_of_eq g22.symm)
  replace V_b1 := V_b1.ext E22
  replace O0 := O0.ext E22
  have V_b22 : Arv Z h22 b22 c22 .boolean (10 : Int32) [(.int (0 : Int32)), (.int (0 : Int32)), (.int (0 : Int32)), (.int (0 : Int32)), (.int (0 : Int32)), (.int (0 : Int32)), (.int (0 : Int32)), (.int (0 : Int32)), (.int (0 : Int32)), (.int (0 : Int32))] (.int (0 : Int32)) := (Arv.new A22 (by decide)).pad (pad_rep [] (.int (0 : Int32)) 10)
  obtain ⟨cl_23, Ar_23, q_23, S_23, N_23, H_23, G_23⟩ := id V_b22
  have hin_23 : ¬ ((0 : Int32) < 0 ∨ cl_23.slots.size ≤ ((0 : Int32)).toNatClampNeg) := inb_of S_23 ⟨by decide, by decide⟩
  obtain ⟨T23, h23, X23, e23, W23, st23⟩ := stZ X22 hx hZ e22 Ar_23 (j := (0 : Int32)) hin_23 (g := (mkF m 77 #[.val (.int p0), .val (.ref b1), .unset, .unset] [(.int (0 : Int32)), (.int (0 : Int32)), (.ref b22), (.ref b22)])) rfl rfl (hb hby at_77)
  have Vn23 : Arv Z h23 b22 c22 .boolean (10 : Int32) [(.int (nar .boolean (0 : Int32))), (.int (0 : Int32)), (.int (0 : Int32)), (.int (0 : Int32)), (.int (0 : Int32)), (.int (0 : Int32)), (.int (0 : Int32)), (.int (0 : Int32)), (.int (0 : Int32)), (.int (0 : Int32))] (.int (0 : Int32)) := Arv.set Ar_23 q_23 S_23 N_23 H_23 G_23 (fits_nar_bool _) W23 0 rfl (Nat.le_of_ble_eq_true rfl)
  rw [show (nar .boolean (0 : Int32)) = (0 : Int32) from by decide] at Vn23
  replace V_b1 := V_b1.other W23 ne_b1_b22
  replace O0 := O0.wr W23 gn_b22
  replace V_b22 := Vn23
  have N23 := Fr.snoc X23 N21 gn_b22
  obtain ⟨cl_24, Ar_24, q_24, S_24, N_24, H_24, G_24⟩ := id V_b22
  have hin_24 : ¬ ((1 : Int32) < 0 ∨ cl_24.slots.size ≤ ((1 : Int32)).toNatClampNeg) := inb_of S_24 ⟨by decide, by decide⟩
  obtain ⟨T24, h24, X24, e24, W24, st24⟩ := stZ X23 hx hZ e23 Ar_24 (j := (1 : Int32)) hin_24 (g := (mkF m 81 #[.val (.int p0), .val (.ref b1), .unset, .unset] [(.int (0 : Int32)), (.int (1 : Int32)), (.ref b22), (.ref b22)])) rfl rfl (hb hby at_81)
  have Vn24 : Arv Z h24 b22 c22 .boolean (10 : Int32) [(.int (0 : Int32)), (.int (nar .boolean (0 : Int32))), (.int (0 : Int32)), (.int (0 : Int32)), (.int (0 : Int32)), (.int (0 : Int32)), (.int (0 : Int32)), (.int (0 : Int32)), (.int (0 : Int32)), (.int (0 : Int32))] (.int (0 : Int32)) := Arv.set Ar_24 q_24 S_24 N_24 H_24 G_24 (fits_nar_bool _) W24 1 rfl (Nat.le_of_ble_eq_true rfl)
  rw [show (nar .boolean (0 : Int32)) = (0 : Int32) from by decide] at Vn24
  replace V_b1 := V_b1.other W24 ne_b1_b22
  replace O0 := O0.wr W24 gn_b22
  replace V_b22 := Vn24
  have N24 := Fr.snoc X24 N23 gn_b22
  obtain ⟨cl_25, Ar_25, q_25, S_25, N_25, H_25, G_25⟩ := id V_b22
  have hin_25 : ¬ ((2 : Int32) < 0 ∨ cl_25.slots.size ≤ ((2 : Int32)).toNatClampNeg) := inb_of S_25 ⟨by decide, by decide⟩
  obtain ⟨T25, h25, X25, e25, W25, st25⟩ := stZ X24 hx hZ e24 Ar_25 (j := (2 : Int32)) hin_25 (g := (mkF m 85 #[.val (.int p0), .val (.ref b1), .unset, .unset] [(.int (1 : Int32)), (.int (2 : Int32)), (.ref b22), (.ref b22)])) rfl rfl (hb hby at_85)
  have Vn25 : Arv Z h25 b22 c22 .boolean (10 : Int32) [(.int (0 : Int32)), (.int (0 : Int32)), (.int (nar .boolean (1 : Int32))), (.int (0 : Int32)), (.int (0 : Int32)), (.int (0 : Int32)), (.int (0 : Int32)), (.int (0 : Int32)), (.int (0 : Int32)), (.int (0 : Int32))] (.int (0 : Int32)) := Arv.set Ar_25 q_25 S_25 N_25 H_25 G_25 (fits_nar_bool _) W25 2 rfl (Nat.le_of_ble_eq_true rfl)
  rw [show (nar .boolean (1 : Int32)) = (1 : Int32) from by decide] at Vn25
  replace V_b1 := V_b1.other W25 ne_b1_b22
  replace O0 := O0.wr W25 gn_b22
  replace V_b22 := Vn25
  have N25 := Fr.snoc X25 N24 gn_b22
  obtain ⟨cl_26, Ar_26, q_26, S_26, N_26, H_26, G_26⟩ := id V_b22
  have hin_26 : ¬ ((3 : Int32) < 0 ∨ cl_26.slots.size ≤ ((3 : Int32)).toNatClampNeg) := inb_of S_26 ⟨by decide, by decide⟩
  obtain ⟨T26, h26, X26, e26, W26, st26⟩ := stZ X25 hx hZ e25 Ar_26 (j := (3 : Int32)) hin_26 (g := (mkF m 89 #[.val (.int p0), .val (.ref b1), .unset, .unset] [(.int (1 : Int32)), (.int (3 : Int32)), (.ref b22), (.ref b22)])) rfl rfl (hb hby at_89)
  have Vn26 : Arv Z h26 b22 c22 .boolean (10 : Int32) [(.int (0 : Int32)), (.int (0 : Int32)), (.int (1 : Int32)), (.int (nar .boolean (1 : Int32))), (.int (0 : Int32)), (.int (0 : Int32)), (.int (0 : Int32)), (.int (0 : Int32)), (.int (0 : Int32)), (.int (0 : Int32))] (.int (0 : Int32)) := Arv.set Ar_26 q_26 S_26 N_26 H_26 G_26 (fits_nar_bool _) W26 3 rfl (Nat.le_of_ble_eq_true rfl)
  rw [show (nar .boolean (1 : Int32)) = (1 : Int32) from by decide] at Vn26
  replace V_b1 := V_b1.other W26 ne_b1_b22
  replace O0 := O0.wr W26 gn_b22
  replace V_b22 := Vn26
  have N26 := Fr.snoc X26 N25 gn_b22
  obtain ⟨cl_27, Ar_27, q_27, S_27, N_27, H_27, G_27⟩ := id V_b22
  have hin_27 : ¬ ((4 : Int32) < 0 ∨ cl_27.slots.size ≤ ((4 : Int32)).toNatClampNeg) := inb_of S_27 ⟨by decide, by decide⟩
  obtain ⟨T27, h27, X27, e27, W27, st27⟩ := stZ X26 hx hZ e26 Ar_27 (j := (4 : Int32)) hin_27 (g := (mkF m 93 #[.val (.int p0), .val (.ref b1), .unset, .unset] [(.int (1 : Int32)), (.int (4 : Int32)), (.ref b22), (.ref b22)])) rfl rfl (hb hby at_93)
  have Vn27 : Arv Z h27 b22 c22 .boolean (10 : Int32) [(.int (0 : Int32)), (.int (0 : Int32)), (.int (1 : Int32)), (.int (1 : Int32)), (.int (nar .boolean (1 : Int32))), (.int (0 : Int32)), (.int (0 : Int32)), (.int (0 : Int32)), (.int (0 : Int32)), (.int (0 : Int32))] (.int (0 : Int32)) := Arv.set Ar_27 q_27 S_27 N_27 H_27 G_27 (fits_nar_bool _) W27 4 rfl (Nat.le_of_ble_eq_true rfl)
  rw [show (nar .boolean (1 : Int32)) = (1 : Int32) from by decide] at Vn27
  replace V_b1 := V_b1.other W27 ne_b1_b22
  replace O0 := O0.wr W27 gn_b22
  replace V_b22 := Vn27
  have N27 := Fr.snoc X27 N26 gn_b22
  obtain ⟨cl_28, Ar_28, q_28, S_28, N_28, H_28, G_28⟩ := id V_b22
  have hin_28 : ¬ ((5 : Int32) < 0 ∨ cl_28.slots.size ≤ ((5 : Int32)).toNatClampNeg) := inb_of S_28 ⟨by decide, by decide⟩
  obtain ⟨T28, h28, X28, e28, W28, st28⟩ := stZ X27 hx hZ e27 Ar_28 (j := (5 : Int32)) hin_28 (g := (mkF m 97 #[.val (.int p0), .val (.ref b1), .unset, .unset] [(.int (1 : Int32)), (.int (5 : Int32)), (.ref b22), (.ref b22)])) rfl rfl (hb hby at_97)
  have Vn28 : Arv Z h28 b22 c22 .boolean (10 : Int32) [(.int (0 : Int32)), (.int (0 : Int32)), (.int (1 : Int32)), (.int (1 : Int32)), (.int (1 : Int32)), (.int (nar .boolean (1 : Int32))), (.int (0 : Int32)), (.int (0 : Int32)), (.int (0 : Int32)), (.int (0 : Int32))] (.int (0 : Int32)) := Arv.set Ar_28 q_28 S_28 N_28 H_28 G_28 (fits_nar_bool _) W28 5 rfl (Nat.le_of_ble_eq_true rfl)
  rw [show (nar .boolean (1 : Int32)) = (1 : Int32) from by decide] at Vn28
  replace V_b1 := V_b1.other W28 ne_b1_b22
  replace O0 := O0.wr W28 gn_b22
  replace V_b22 := Vn28
  have N28 := Fr.snoc X28 N27 gn_b22
  obtain ⟨cl_29, Ar_29, q_29, S_29, N_29, H_29, G_29⟩ := id V_b22
  have hin_29 : ¬ ((6 : Int32) < 0 ∨ cl_29.slots.size ≤ ((6 : Int32)).toNatClampNeg) := inb_of S_29 ⟨by decide, by decide⟩
  obtain ⟨T29, h29, X29, e29, W29, st29⟩ := stZ X28 hx hZ e28 Ar_29 (j := (6 : Int32)) hin_29 (g := (mkF m 102 #[.val (.int p0), .val (.ref b1), .unset, .unset] [(.int (0 : Int32)), (.int (6 : Int32)), (.ref b22), (.ref b22)])) rfl rfl (hb hby at_102)
  have Vn29 : Arv Z h29 b22 c22 .boolean (10 : Int32) [(.int (0 : Int32)), (.int (0 : Int32)), (.int (1 : Int32)), (.int (1 : Int32)), (.int (1 : Int32)), (.int (1 : Int32)), (.int (nar .boolean (0 : Int32))), (.int (0 : Int32)), (.int (0 : Int32)), (.int (0 : Int32))] (.int (0 : Int32)) := Arv.set Ar_29 q_29 S_29 N_29 H_29 G_29 (fits_nar_bool _) W29 6 rfl (Nat.le_of_ble_eq_true rfl)
  rw [show (nar .boolean (0 : Int32)) = (0 : Int32) from by decide] at Vn29
  replace V_b1 := V_b1.other W29 ne_b1_b22
  replace O0 := O0.wr W29 gn_b22
  replace V_b22 := Vn29
  have N29 := Fr.snoc X29 N28 gn_b22
  obtain ⟨cl_30, Ar_30, q_30, S_30, N_30, H_30, G_30⟩ := id V_b22
  have hin_30 : ¬ ((7 : Int32) < 0 ∨ cl_30.slots.size ≤ ((7 : Int32)).toNatClampNeg) := inb_of S_30 ⟨by decide, by decide⟩
  obtain ⟨T30, h30, X30, e30, W30, st30⟩ := stZ X29 hx hZ e29 Ar_30 (j := (7 : Int32)) hin_30 (g := (mkF m 107 #[.val (.int p0), .val (.ref b1), .unset, .unset] [(.int (0 : Int32)), (.int (7 : Int32)), (.ref b22), (.ref b22)])) rfl rfl (hb hby at_107)
  have Vn30 : Arv Z h30 b22 c22 .boolean (10 : Int32) [(.int (0 : Int32)), (.int (0 : Int32)), (.int (1 : Int32)), (.int (1 : Int32)), (.int (1 : Int32)), (.int (1 : Int32)), (.int (0 : Int32)), (.int (nar .boolean (0 : Int32))), (.int (0 : Int32)), (.int (0 : Int32))] (.int (0 : Int32)) := Arv.set Ar_30 q_30 S_30 N_30 H_30 G_30 (fits_nar_bool _) W30 7 rfl (Nat.le_of_ble_eq_true rfl)
  rw [show (nar .boolean (0 : Int32)) = (0 : Int32) from by decide] at Vn30
  replace V_b1 := V_b1.other W30 ne_b1_b22
  replace O0 := O0.wr W30 gn_b22
  replace V_b22 := Vn30
  have N30 := Fr.snoc X30 N29 gn_b22
  obtain ⟨cl_31, Ar_31, q_31, S_31, N_31, H_31, G_31⟩ := id V_b22
  have hin_31 : ¬ ((8 : Int32) < 0 ∨ cl_31.slots.size ≤ ((8 : Int32)).toNatClampNeg) := inb_of S_31 ⟨by decide, by decide⟩
  obtain ⟨T31, h31, X31, e31, W31, st31⟩ := stZ X30 hx hZ e30 Ar_31 (j := (8 : Int32)) hin_31 (g := (mkF m 112 #[.val (.int p0), .val (.ref b1), .unset, .unset] [(.int (1 : Int32)), (.int (8 : Int32)), (.ref b22), (.ref b22)])) rfl rfl (hb hby at_112)
  have Vn31 : Arv Z h31 b22 c22 .boolean (10 : Int32) [(.int (0 : Int32)), (.int (0 : Int32)), (.int (1 : Int32)), (.int (1 : Int32)), (.int (1 : Int32)), (.int (1 : Int32)), (.int (0 : Int32)), (.int (0 : Int32)), (.int (nar .boolean (1 : Int32))), (.int (0 : Int32))] (.int (0 : Int32)) := Arv.set Ar_31 q_31 S_31 N_31 H_31 G_31 (fits_nar_bool _) W31 8 rfl (Nat.le_of_ble_eq_true rfl)
  rw [show (nar .boolean (1 : Int32)) = (1 : Int32) from by decide] at Vn31
  replace V_b1 := V_b1.other W31 ne_b1_b22
  replace O0 := O0.wr W31 gn_b22
  replace V_b22 := Vn31
  have N31 := Fr.snoc X31 N30 gn_b22
  obtain ⟨cl_32, Ar_32, q_32, S_32, N_32, H_32, G_32⟩ := id V_b22
  have hin_32 : ¬ ((9 : Int32) < 0 ∨ cl_32.slots.size ≤ ((9 : Int32)).toNatClampNeg) := inb_of S_32 ⟨by decide, by decide⟩
  obtain ⟨T32, h32, X32, e32, W32, st32⟩ := stZ X31 hx hZ e31 Ar_32 (j := (9 : Int32)) hin_32 (g := (mkF m 117 #[.val (.int p0), .val (.ref b1), .unset, .unset] [(.int (0 : Int32)), (.int (9 : Int32)), (.ref b22), (.ref b22)])) rfl rfl (hb hby at_117)
  have Vn32 : Arv Z h32 b22 c22 .boolean (10 : Int32) [(.int (0 : Int32)), (.int (0 : Int32)), (.int (1 : Int32)), (.int (1 : Int32)), (.int (1 : Int32)), (.int (1 : Int32)), (.int (0 : Int32)), (.int (0 : Int32)), (.int (1 : Int32)), (.int (nar .boolean (0 : Int32)))] (.int (0 : Int32)) := Arv.set Ar_32 q_32 S_32 N_32 H_32 G_32 (fits_nar_bool _) W32 9 rfl (Nat.le_of_ble_eq_true rfl)
  rw [show (nar .boolean (0 : Int32)) = (0 : Int32) from by decide] at Vn32
  replace V_b1 := V_b1.other W32 ne_b1_b22
  replace O0 := O0.wr W32 gn_b22
  replace V_b22 := Vn32
  have N32 := Fr.snoc X32 N31 gn_b22
  have k33 : ∀ t, Steps p.tables e below (T32.setTop (mkF m 127 #[.val (.int p0), .val (.ref b1), .val (.ref b22), .val (.int ((p0 &&& (2147483647 : Int32)) % (10 : Int32)))] [])) t → Steps p.tables e below (s₁.setTop (entryFrame m #[(.int p0)] maxLocals)) t := by
    intro t k
    refine pre0 _ ?_
    show Steps p.tables e below (s₁.setTop (mkF m 0 #[.val (.int p0), .unset, .unset, .unset] [])) _
    refine XS.bipush X0.here hx rfl (hb hby at_0) ?_
    show Steps p.tables e below (s₁.setTop (mkF m 2 #[.val (.int p0), .unset, .unset, .unset] [(.int (10 : Int32))])) _
    refine st1 _ ?_
    show Steps p.tables e below (T1.setTop (mkF m 5 #[.val (.int p0), .unset, .unset, .unset] [(.ref b1)])) _
    refine XS.dup X1.here hx rfl (hb hby at_5) rfl rfl ?_
    show Steps p.tables e below (T1.setTop (mkF m 6 #[.val (.int p0), .unset, .unset, .unset] [(.ref b1), (.ref b1)])) _
    refine XS.iconst X1.here hx rfl (hb hby at_6) ?_
    show Steps p.tables e below (T1.setTop (mkF m 7 #[.val (.int p0), .unset, .unset, .unset] [(.int (0 : Int32)), (.ref b1), (.ref b1)])) _
    refine st2 _ ?_
    show Steps p.tables e below (T2.setTop (mkF m 10 #[.val (.int p0), .unset, .unset, .unset] [(.ref w_CDATA), (.int (0 : Int32)), (.ref b1), (.ref b1)])) _
    refine st3 _ ?_
    show Steps p.tables e below (T3.setTop (mkF m 11 #[.val (.int p0), .unset, .unset, .unset] [(.ref b1)])) _
    refine XS.dup X3.here hx rfl (hb hby at_11) rfl rfl ?_
    show Steps p.tables e below (T3.setTop (mkF m 12 #[.val (.int p0), .unset, .unset, .unset] [(.ref b1), (.ref b1)])) _
    refine XS.iconst X3.here hx rfl (hb hby at_12) ?_
    show Steps p.tables e below (T3.setTop (mkF m 13 #[.val (.int p0), .unset, .unset, .unset] [(.int (1 : Int32)), (.ref b1), (.ref b1)])) _
    refine st4 _ ?_
    show Steps p.tables e below (T4.setTop (mkF m 16 #[.val (.int p0), .unset, .unset, .unset] [(.ref w_ID), (.int (1 : Int32)), (.ref b1), (.ref b1)])) _
    refine st5 _ ?_
    show Steps p.tables e below (T5.setTop (mkF m 17 #[.val (.int p0), .unset, .unset, .unset] [(.ref b1)])) _
    refine XS.dup X5.here hx rfl (hb hby at_17) rfl rfl ?_
    show Steps p.tables e below (T5.setTop (mkF m 18 #[.val (.int p0), .unset, .unset, .unset] [(.ref b1), (.ref b1)])) _
    refine XS.iconst X5.here hx rfl (hb hby at_18) ?_
    show Steps p.tables e below (T5.setTop (mkF m 19 #[.val (.int p0), .unset, .unset, .unset] [(.int (2 : Int32)), (.ref b1), (.ref b1)])) _
    refine st6 _ ?_
    show Steps p.tables e below (T6.setTop (mkF m 22 #[.val (.int p0), .unset, .unset, .unset] [(.ref w_IDREF), (.int (2 : Int32)), (.ref b1), (.ref b1)])) _
    refine st7 _ ?_
    show Steps p.tables e below (T7.setTop (mkF m 23 #[.val (.int p0), .unset, .unset, .unset] [(.ref b1)])) _
    refine XS.dup X7.here hx rfl (hb hby at_23) rfl rfl ?_
    show Steps p.tables e below (T7.setTop (mkF m 24 #[.val (.int p0), .unset, .unset, .unset] [(.ref b1), (.ref b1)])) _
    refine XS.iconst X7.here hx rfl (hb hby at_24) ?_
    show Steps p.tables e below (T7.setTop (mkF m 25 #[.val (.int p0), .unset, .unset, .unset] [(.int (3 : Int32)), (.ref b1), (.ref b1)])) _
    refine st8 _ ?_
    show Steps p.tables e below (T8.setTop (mkF m 28 #[.val (.int p0), .unset, .unset, .unset] [(.ref w_IDREFS), (.int (3 : Int32)), (.ref b1), (.ref b1)])) _
    refine st9 _ ?_
    show Steps p.tables e below (T9.setTop (mkF m 29 #[.val (.int p0), .unset, .unset, .unset] [(.ref b1)])) _
    refine XS.dup X9.here hx rfl (hb hby at_29) rfl rfl ?_
    show Steps p.tables e below (T9.setTop (mkF m 30 #[.val (.int p0), .unset, .unset, .unset] [(.ref b1), (.ref b1)])) _
    refine XS.iconst X9.here hx rfl (hb hby at_30) ?_
    show Steps p.tables e below (T9.setTop (mkF m 31 #[.val (.int p0), .unset, .unset, .unset] [(.int (4 : Int32)), (.ref b1), (.ref b1)])) _
    refine st10 _ ?_
    show Steps p.tables e below (T10.setTop (mkF m 34 #[.val (.int p0), .unset, .unset, .unset] [(.ref w_ENTITY), (.int (4 : Int32)), (.ref b1), (.ref b1)])) _
    refine st11 _ ?_
    show Steps p.tables e below (T11.setTop (mkF m 35 #[.val (.int p0), .unset, .unset, .unset] [(.ref b1)])) _
    refine XS.dup X11.here hx rfl (hb hby at_35) rfl rfl ?_
    show Steps p.tables e below (T11.setTop (mkF m 36 #[.val (.int p0), .unset, .unset, .unset] [(.ref b1), (.ref b1)])) _
    refine XS.iconst X11.here hx rfl (hb hby at_36) ?_
    show Steps p.tables e below (T11.setTop (mkF m 37 #[.val (.int p0), .unset, .unset, .unset] [(.int (5 : Int32)), (.ref b1), (.ref b1)])) _
    refine st12 _ ?_
    show Steps p.tables e below (T12.setTop (mkF m 40 #[.val (.int p0), .unset, .unset, .unset] [(.ref w_ENTITIES), (.int (5 : Int32)), (.ref b1), (.ref b1)])) _
    refine st13 _ ?_
    show Steps p.tables e below (T13.setTop (mkF m 41 #[.val (.int p0), .unset, .unset, .unset] [(.ref b1)])) _
    refine XS.dup X13.here hx rfl (hb hby at_41) rfl rfl ?_
    show Steps p.tables e below (T13.setTop (mkF m 42 #[.val (.int p0), .unset, .unset, .unset] [(.ref b1), (.ref b1)])) _
    refine XS.bipush X13.here hx rfl (hb hby at_42) ?_
    show Steps p.tables e below (T13.setTop (mkF m 44 #[.val (.int p0), .unset, .unset, .unset] [(.int (6 : Int32)), (.ref b1), (.ref b1)])) _
    refine st14 _ ?_
    show Steps p.tables e below (T14.setTop (mkF m 47 #[.val (.int p0), .unset, .unset, .unset] [(.ref w_NMTOKEN), (.int (6 : Int32)), (.ref b1), (.ref b1)])) _
    refine st15 _ ?_
    show Steps p.tables e below (T15.setTop (mkF m 48 #[.val (.int p0), .unset, .unset, .unset] [(.ref b1)])) _
    refine XS.dup X15.here hx rfl (hb hby at_48) rfl rfl ?_
    show Steps p.tables e below (T15.setTop (mkF m 49 #[.val (.int p0), .unset, .unset, .unset] [(.ref b1), (.ref b1)])) _
    refine XS.bipush X15.here hx rfl (hb hby at_49) ?_
    show Steps p.tables e below (T15.setTop (mkF m 51 #[.val (.int p0), .unset, .unset, .unset] [(.int (7 : Int32)), (.ref b1), (.ref b1)])) _
    refine st16 _ ?_
    show Steps p.tables e below (T16.setTop (mkF m 54 #[.val (.int p0), .unset, .unset, .unset] [(.ref w_NMTOKENS), (.int (7 : Int32)), (.ref b1), (.ref b1)])) _
    refine st17 _ ?_
    show Steps p.tables e below (T17.setTop (mkF m 55 #[.val (.int p0), .unset, .unset, .unset] [(.ref b1)])) _
    refine XS.dup X17.here hx rfl (hb hby at_55) rfl rfl ?_
    show Steps p.tables e below (T17.setTop (mkF m 56 #[.val (.int p0), .unset, .unset, .unset] [(.ref b1), (.ref b1)])) _
    refine XS.bipush X17.here hx rfl (hb hby at_56) ?_
    show Steps p.tables e below (T17.setTop (mkF m 58 #[.val (.int p0), .unset, .unset, .unset] [(.int (8 : Int32)), (.ref b1), (.ref b1)])) _
    refine st18 _ ?_
    show Steps p.tables e below (T18.setTop (mkF m 61 #[.val (.int p0), .unset, .unset, .unset] [(.ref w_NOTATION), (.int (8 : Int32)), (.ref b1), (.ref b1)])) _
    refine st19 _ ?_
    show Steps p.tables e below (T19.setTop (mkF m 62 #[.val (.int p0), .unset, .unset, .unset] [(.ref b1)])) _
    refine XS.dup X19.here hx rfl (hb hby at_62) rfl rfl ?_
    show Steps p.tables e below (T19.setTop (mkF m 63 #[.val (.int p0), .unset, .unset, .unset] [(.ref b1), (.ref b1)])) _
    refine XS.bipush X19.here hx rfl (hb hby at_63) ?_
    show Steps p.tables e below (T19.setTop (mkF m 65 #[.val (.int p0), .unset, .unset, .unset] [(.int (9 : Int32)), (.ref b1), (.ref b1)])) _
    refine st20 _ ?_
    show Steps p.tables e below (T20.setTop (mkF m 68 #[.val (.int p0), .unset, .unset, .unset] [(.ref w_ENUMERATION), (.int (9 : Int32)), (.ref b1), (.ref b1)])) _
    refine st21 _ ?_
    show Steps p.tables e below (T21.setTop (mkF m 69 #[.val (.int p0), .unset, .unset, .unset] [(.ref b1)])) _
    refine XS.astoreN X21.here hx rfl (hb hby at_69) rfl rfl (l' := #[.val (.int p0), .val (.ref b1), .unset, .unset]) rfl ?_
    show Steps p.tables e below (T21.setTop (mkF m 70 #[.val (.int p0), .val (.ref b1), .unset, .unset] [])) _
    refine XS.bipush X21.here hx rfl (hb hby at_70) ?_
    show Steps p.tables e below (T21.setTop (mkF m 72 #[.val (.int p0), .val (.ref b1), .unset, .unset] [(.int (10 : Int32))])) _
    refine st22 _ ?_
    show Steps p.tables e below (T22.setTop (mkF m 74 #[.val (.int p0), .val (.ref b1), .unset, .unset] [(.ref b22)])) _
    refine XS.dup X22.here hx rfl (hb hby at_74) rfl rfl ?_
    show Steps p.tables e below (T22.setTop (mkF m 75 #[.val (.int p0), .val (.ref b1), .unset, .unset] [(.ref b22), (.ref b22)])) _
    refine XS.iconst X22.here hx rfl (hb hby at_75) ?_
    show Steps p.tables e below (T22.setTop (mkF m 76 #[.val (.int p0), .val (.ref b1), .unset, .unset] [(.int (0 : Int32)), (.ref b22), (.ref b22)])) _
    refine XS.iconst X22.here hx rfl (hb hby at_76) ?_
    show Steps p.tables e below (T22.setTop (mkF m 77 #[.val (.int p0), .val (.ref b1), .unset, .unset] [(.int (0 : Int32)), (.int (0 : Int32)), (.ref b22), (.ref b22)])) _
    refine st23 _ ?_
    show Steps p.tables e below (T23.setTop (mkF m 78 #[.val (.int p0), .val (.ref b1), .unset, .unset] [(.ref b22)])) _
    refine XS.dup X23.here hx rfl (hb hby at_78) rfl rfl ?_
    show Steps p.tables e below (T23.setTop (mkF m 79 #[.val (.int p0), .val (.ref b1), .unset, .unset] [(.ref b22), (.ref b22)])) _
    refine XS.iconst X23.here hx rfl (hb hby at_79) ?_
    show Steps p.tables e below (T23.setTop (mkF m 80 #[.val (.int p0), .val (.ref b1), .unset, .unset] [(.int (1 : Int32)), (.ref b22), (.ref b22)])) _
    refine XS.iconst X23.here hx rfl (hb hby at_80) ?_
    show Steps p.tables e below (T23.setTop (mkF m 81 #[.val (.int p0), .val (.ref b1), .unset, .unset] [(.int (0 : Int32)), (.int (1 : Int32)), (.ref b22), (.ref b22)])) _
    refine st24 _ ?_
    show Steps p.tables e below (T24.setTop (mkF m 82 #[.val (.int p0), .val (.ref b1), .unset, .unset] [(.ref b22)])) _
    refine XS.dup X24.here hx rfl (hb hby at_82) rfl rfl ?_
    show Steps p.tables e below (T24.setTop (mkF m 83 #[.val (.int p0), .val (.ref b1), .unset, .unset] [(.ref b22), (.ref b22)])) _
    refine XS.iconst X24.here hx rfl (hb hby at_83) ?_
    show Steps p.tables e below (T24.setTop (mkF m 84 #[.val (.int p0), .val (.ref b1), .unset, .unset] [(.int (2 : Int32)), (.ref b22), (.ref b22)])) _
    refine XS.iconst X24.here hx rfl (hb hby at_84) ?_
    show Steps p.tables e below (T24.setTop (mkF m 85 #[.val (.int p0), .val (.ref b1), .unset, .unset] [(.int (1 : Int32)), (.int (2 : Int32)), (.ref b22), (.ref b22)])) _
    refine st25 _ ?_
    show Steps p.tables e below (T25.setTop (mkF m 86 #[.val (.int p0), .val (.ref b1), .unset, .unset] [(.ref b22)])) _
    refine XS.dup X25.here hx rfl (hb hby at_86) rfl rfl ?_
    show Steps p.tables e below (T25.setTop (mkF m 87 #[.val (.int p0), .val (.ref b1), .unset, .unset] [(.ref b22), (.ref b22)])) _
    refine XS.iconst X25.here hx rfl (hb hby at_87) ?_
    show Steps p.tables e below (T25.setTop (mkF m 88 #[.val (.int p0), .val (.ref b1), .unset, .unset] [(.int (3 : Int32)), (.ref b22), (.ref b22)])) _
    refine XS.iconst X25.here hx rfl (hb hby at_88) ?_
    show Steps p.tables e below (T25.setTop (mkF m 89 #[.val (.int p0), .val (.ref b1), .unset, .unset] [(.int (1 : Int32)), (.int (3 : Int32)), (.ref b22), (.ref b22)])) _
    refine st26 _ ?_
    show Steps p.tables e below (T26.setTop (mkF m 90 #[.val (.int p0), .val (.ref b1), .unset, .unset] [(.ref b22)])) _
    refine XS.dup X26.here hx rfl (hb hby at_90) rfl rfl ?_
    show Steps p.tables e below (T26.setTop (mkF m 91 #[.val (.int p0), .val (.ref b1), .unset, .unset] [(.ref b22), (.ref b22)])) _
    refine XS.iconst X26.here hx rfl (hb hby at_91) ?_
    show Steps p.tables e below (T26.setTop (mkF m 92 #[.val (.int p0), .val (.ref b1), .unset, .unset] [(.int (4 : Int32)), (.ref b22), (.ref b22)])) _
    refine XS.iconst X26.here hx rfl (hb hby at_92) ?_
    show Steps p.tables e below (T26.setTop (mkF m 93 #[.val (.int p0), .val (.ref b1), .unset, .unset] [(.int (1 : Int32)), (.int (4 : Int32)), (.ref b22), (.ref b22)])) _
    refine st27 _ ?_
    show Steps p.tables e below (T27.setTop (mkF m 94 #[.val (.int p0), .val (.ref b1), .unset, .unset] [(.ref b22)])) _
    refine XS.dup X27.here hx rfl (hb hby at_94) rfl rfl ?_
    show Steps p.tables e below (T27.setTop (mkF m 95 #[.val (.int p0), .val (.ref b1), .unset, .unset] [(.ref b22), (.ref b22)])) _
    refine XS.iconst X27.here hx rfl (hb hby at_95) ?_
    show Steps p.tables e below (T27.setTop (mkF m 96 #[.val (.int p0), .val (.ref b1), .unset, .unset] [(.int (5 : Int32)), (.ref b22), (.ref b22)])) _
    refine XS.iconst X27.here hx rfl (hb hby at_96) ?_
    show Steps p.tables e below (T27.setTop (mkF m 97 #[.val (.int p0), .val (.ref b1), .unset, .unset] [(.int (1 : Int32)), (.int (5 : Int32)), (.ref b22), (.ref b22)])) _
    refine st28 _ ?_
    show Steps p.tables e below (T28.setTop (mkF m 98 #[.val (.int p0), .val (.ref b1), .unset, .unset] [(.ref b22)])) _
    refine XS.dup X28.here hx rfl (hb hby at_98) rfl rfl ?_
    show Steps p.tables e below (T28.setTop (mkF m 99 #[.val (.int p0), .val (.ref b1), .unset, .unset] [(.ref b22), (.ref b22)])) _
    refine XS.bipush X28.here hx rfl (hb hby at_99) ?_
    show Steps p.tables e below (T28.setTop (mkF m 101 #[.val (.int p0), .val (.ref b1), .unset, .unset] [(.int (6 : Int32)), (.ref b22), (.ref b22)])) _
    refine XS.iconst X28.here hx rfl (hb hby at_101) ?_
    show Steps p.tables e below (T28.setTop (mkF m 102 #[.val (.int p0), .val (.ref b1), .unset, .unset] [(.int (0 : Int32)), (.int (6 : Int32)), (.ref b22), (.ref b22)])) _
    refine st29 _ ?_
    show Steps p.tables e below (T29.setTop (mkF m 103 #[.val (.int p0), .val (.ref b1), .unset, .unset] [(.ref b22)])) _
    refine XS.dup X29.here hx rfl (hb hby at_103) rfl rfl ?_
    show Steps p.tables e below (T29.setTop (mkF m 104 #[.val (.int p0), .val (.ref b1), .unset, .unset] [(.ref b22), (.ref b22)])) _
    refine XS.bipush X29.here hx rfl (hb hby at_104) ?_
    show Steps p.tables e below (T29.setTop (mkF m 106 #[.val (.int p0), .val (.ref b1), .unset, .unset] [(.int (7 : Int32)), (.ref b22), (.ref b22)])) _
    refine XS.iconst X29.here hx rfl (hb hby at_106) ?_
    show Steps p.tables e below (T29.setTop (mkF m 107 #[.val (.int p0), .val (.ref b1), .unset, .unset] [(.int (0 : Int32)), (.int (7 : Int32)), (.ref b22), (.ref b22)])) _
    refine st30 _ ?_
    show Steps p.tables e below (T30.setTop (mkF m 108 #[.val (.int p0), .val (.ref b1), .unset, .unset] [(.ref b22)])) _
    refine XS.dup X30.here hx rfl (hb hby at_108) rfl rfl ?_
    show Steps p.tables e below (T30.setTop (mkF m 109 #[.val (.int p0), .val (.ref b1), .unset, .unset] [(.ref b22), (.ref b22)])) _
    refine XS.bipush X30.here hx rfl (hb hby at_109) ?_
    show Steps p.tables e below (T30.setTop (mkF m 111 #[.val (.int p0), .val (.ref b1), .unset, .unset] [(.int (8 : Int32)), (.ref b22), (.ref b22)])) _
    refine XS.iconst X30.here hx rfl (hb hby at_111) ?_
    show Steps p.tables e below (T30.setTop (mkF m 112 #[.val (.int p0), .val (.ref b1), .unset, .unset] [(.int (1 : Int32)), (.int (8 : Int32)), (.ref b22), (.ref b22)])) _
    refine st31 _ ?_
    show Steps p.tables e below (T31.setTop (mkF m 113 #[.val (.int p0), .val (.ref b1), .unset, .unset] [(.ref b22)])) _
    refine XS.dup X31.here hx rfl (hb hby at_113) rfl rfl ?_
    show Steps p.tables e below (T31.setTop (mkF m 114 #[.val (.int p0), .val (.ref b1), .unset, .unset] [(.ref b22), (.ref b22)])) _
    refine XS.bipush X31.here hx rfl (hb hby at_114) ?_
    show Steps p.tables e below (T31.setTop (mkF m 116 #[.val (.int p0), .val (.ref b1), .unset, .unset] [(.int (9 : Int32)), (.ref b22), (.ref b22)])) _
    refine XS.iconst X31.here hx rfl (hb hby at_116) ?_
    show Steps p.tables e below (T31.setTop (mkF m 117 #[.val (.int p0), .val (.ref b1), .unset, .unset] [(.int (0 : Int32)), (.int (9 : Int32)), (.ref b22), (.ref b22)])) _
    refine st32 _ ?_
    show Steps p.tables e below (T32.setTop (mkF m 118 #[.val (.int p0), .val (.ref b1), .unset, .unset] [(.ref b22)])) _
    refine XS.astoreN X32.here hx rfl (hb hby at_118) rfl rfl (l' := #[.val (.int p0), .val (.ref b1), .val (.ref b22), .unset]) rfl ?_
    show Steps p.tables e below (T32.setTop (mkF m 119 #[.val (.int p0), .val (.ref b1), .val (.ref b22), .unset] [])) _
    refine XS.iloadN X32.here hx rfl (hb hby at_119) rfl ?_
    show Steps p.tables e below (T32.setTop (mkF m 120 #[.val (.int p0), .val (.ref b1), .val (.ref b22), .unset] [(.int p0)])) _
    refine X32.ldcInt hx hown (mvT hZ (hw _ (List.mem_of_getElem? (i := 25) rfl))) (g := (mkF m 120 #[.val (.int p0), .val (.ref b1), .val (.ref b22), .unset] [(.int p0)])) rfl (hb hby at_120) _ ?_
    show Steps p.tables e below (T32.setTop (mkF m 122 #[.val (.int p0), .val (.ref b1), .val (.ref b22), .unset] [(.int (2147483647 : Int32)), (.int p0)])) _
    refine XS.iand X32.here hx rfl (hb hby at_122) rfl ?_
    show Steps p.tables e below (T32.setTop (mkF m 123 #[.val (.int p0), .val (.ref b1), .val (.ref b22), .unset] [(.int (p0 &&& (2147483647 : Int32)))])) _
    refine XS.bipush X32.here hx rfl (hb hby at_123) ?_
    show Steps p.tables e below (T32.setTop (mkF m 125 #[.val (.int p0), .val (.ref b1), .val (.ref b22), .unset] [(.int (10 : Int32)), (.int (p0 &&& (2147483647 : Int32)))])) _
    refine iremM X32 hx rfl (hb hby at_125) rfl (by decide) ?_
    show Steps p.tables e below (T32.setTop (mkF m 126 #[.val (.int p0), .val (.ref b1), .val (.ref b22), .unset] [(.int ((p0 &&& (2147483647 : Int32)) % (10 : Int32)))])) _
    refine XS.istoreN X32.here hx rfl (hb hby at_126) rfl (l' := #[.val (.int p0), .val (.ref b1), .val (.ref b22), .val (.int ((p0 &&& (2147483647 : Int32)) % (10 : Int32)))]) rfl ?_
    exact k
  rcases own_k p0 with hk | hk | hk | hk | hk | hk | hk | hk | hk | hk
  · have k34 : ∀ t, Steps p.tables e below (T32.setTop (mkF m 127 #[.val (.int p0), .val (.ref b1), .val (.ref b22), .val (.int (0 : Int32))] [])) t → Steps p.tables e below (s₁.setTop (entryFrame m #[(.int p0)] maxLocals)) t := by
      intro t k
      refine k33 _ ?_
      rw [hk]
      exact k
    have k36 : ∀ t, Steps p.tables e below (T32.setTop (mkF m 130 #[.val (.int p0), .val (.ref b1), .val (.ref b22), .val (.int (0 : Int32))] [(.ref w_CDATA)])) t → Steps p.tables e below (s₁.setTop (entryFrame m #[(.int p0)] maxLocals)) t := by
      intro t k
      refine k34 _ ?_
      show Steps p.tables e below (T32.setTop (mkF m 127 #[.val (.int p0), .val (.ref b1), .val (.ref b22), .val (.int (0 : Int32))] [])) _
      refine XS.aloadN X32.here hx rfl (hb hby at_127) rfl rfl ?_
      show Steps p.tables e below (T32.setTop (mkF m 128 #[.val (.int p0), .val (.ref b1), .val (.ref b22), .val (.int (0 : Int32))] [(.ref b1)])) _
      refine XS.iloadN X32.here hx rfl (hb hby at_128) rfl ?_
      show Steps p.tables e below (T32.setTop (mkF m 129 #[.val (.int p0), .val (.ref b1), .val (.ref b22), .val (.int (0 : Int32))] [(.int (0 : Int32)), (.ref b1)])) _
      obtain ⟨cl_35, Ar_35, q_35, S_35, N_35, H_35, G_35⟩ := id V_b1
      have hin_35 : ¬ ((0 : Int32) < 0 ∨ cl_35.slots.size ≤ ((0 : Int32)).toNatClampNeg) := inb_of S_35 ⟨by decide, by decide⟩
      refine X32.aaload hx (j := (0 : Int32)) (v := (.ref w_CDATA)) (by rw [e32]; exact Ar_35.1) (State.isArrayOf_alike hZ.alike Ar_35.2.1) rfl Ar_35.2.2 hin_35 (Has.at H_35 hin_35 rfl) (g := (mkF m 129 #[.val (.int p0), .val (.ref b1), .val (.ref b22), .val (.int (0 : Int32))] [(.int (0 : Int32)), (.ref b1)])) rfl rfl (hb hby at_129) _ ?_
      exact k
    obtain ⟨Lz37, Xz37, Nz37⟩ : ∃ Lz, Stand p l e room_1 s m #[(.int p0)] below meth c T32 Lz 2 20 ∧ Fr n0 Lz := ⟨_, X32, N32⟩
    obtain ⟨cq38, kq38, q38a, q38b, q38c⟩ := isOf hZ e32 (E_CDATA.ext O0.2)
    obtain ⟨_, _, ⟨T38, L38, k38_, n38⟩, -, X38, ⟨Lc38, hQ38, l38, y38, z38⟩, st38⟩ := Xz37.virtualBack hx (y := (⟨"com/example/infoset_reader/infosetreader/AttributeType", "namesItems", "()Z"⟩ : MethodName)) (z := (⟨"com/example/infoset_reader/infosetreader/AttributeType", "namesItems", "()Z"⟩ : MethodName)) hown (mvT hZ (hw _ (List.mem_of_getElem? (i := 26) rfl))) (mvT hZ (hw _ (List.mem_of_getElem? (i := 27) rfl))) (notFace_of_selects (args := #[]) (mvT hZ (hw _ (List.mem_of_getElem? (i := 29) rfl)))) (mvT hZ (hw _ (List.mem_of_getElem? (i := 29) rfl))) (mvT hZ (hw _ (List.mem_of_getElem? (i := 28) rfl))) (by decide) (backOf (W := 0) (rm1 l Z a0 hw [] w_CDATA w_CDATA w_ID w_IDREF w_IDREFS w_ENTITY w_ENTITIES w_NMTOKEN w_NMTOKENS w_NOTATION w_ENUMERATION h32 n0 hG O0) hZ (hw _ (List.mem_of_getElem? (i := 30) rfl)) (hw _ (List.mem_of_getElem? (i := 3) rfl)) (by decide) (by decide)) q38a q38c (g := (mkF m 130 #[.val (.int p0), .val (.ref b1), .val (.ref b22), .val (.int (0 : Int32))] [(.ref w_CDATA)])) rfl (by rw [hml]; rfl) (Steps.refl _) (argsL := []) (rest := []) (lenOf pd_0 rfl) rfl (by show 2 * 0 + _ ≤ _; exact Nat.le_of_eq rfl) (hb hby at_130) (fun _ _ => ⟨rfl, e32, (by decide : 2 + 0 ≤ _), (by decide : 20 + 0 ≤ _)⟩)
    dsimp only [Pt.U, Pt.locs, Pt.cells, Pt.slots] at X38 l38 y38 z38 st38 hQ38
    subst l38 y38 z38
    obtain ⟨rfl, Nq38, e38⟩ := hQ38
    have N38 := Fr.app Nz37 Nq38
    have k40 : ∀ t, Steps p.tables e below (T38.setTop (mkF m 144 #[.val (.int p0), .val (.ref b1), .val (.ref b22), .val (.int (0 : Int32))] [(.int (1 : Int32))])) t → Steps p.tables e below (s₁.setTop (entryFrame m #[(.int p0)] maxLocals)) t := by
      intro t k
      refine k36 _ ?_
      show Steps p.tables e below (T32.setTop (mkF m 130 #[.val (.int p0), .val (.ref b1), .val (.ref b22), .val (.int (0 : Int32))] [(.ref w_CDATA)])) _
      refine st38.trans ?_
      show Steps p.tables e below (T38.setTop (mkF m 133 #[.val (.int p0), .val (.ref b1), .val (.ref b22), .val (.int (0 : Int32))] [(.int (own_f1 w_CDATA w_CDATA w_ID w_IDREF w_IDREFS w_ENTITY w_ENTITIES w_NMTOKEN w_NMTOKENS w_NOTATION w_ENUMERATION))])) _
      refine XS.aloadN X38.here hx rfl (hb hby at_133) rfl rfl ?_
      show Steps p.tables e below (T38.setTop (mkF m 134 #[.val (.int p0), .val (.ref b1), .val (.ref b22), .val (.int (0 : Int32))] [(.ref b22), (.int (own_f1 w_CDATA w_CDATA w_ID w_IDREF w_IDREFS w_ENTITY w_ENTITIES w_NMTOKEN w_NMTOKENS w_NOTATION w_ENUMERATION))])) _
      refine XS.iloadN X38.here hx rfl (hb hby at_134) rfl ?_
      show Steps p.tables e below (T38.setTop (mkF m 135 #[.val (.int p0), .val (.ref b1), .val (.ref b22), .val (.int (0 : Int32))] [(.int (0 : Int32)), (.ref b22), (.int (own_f1 w_CDATA w_CDATA w_ID w_IDREF w_IDREFS w_ENTITY w_ENTITIES w_NMTOKEN w_NMTOKENS w_NOTATION w_ENUMERATION))])) _
      obtain ⟨cl_39, Ar_39, q_39, S_39, N_39, H_39, G_39⟩ := id V_b22
      have hin_39 : ¬ ((0 : Int32) < 0 ∨ cl_39.slots.size ≤ ((0 : Int32)).toNatClampNeg) := inb_of S_39 ⟨by decide, by decide⟩
      refine X38.baloadBooleans hx (j := (0 : Int32)) (v := (.int (0 : Int32))) (by rw [e38]; exact Ar_39.1) (State.isArrayOf_alike hZ.alike Ar_39.2.1) Ar_39.2.2 hin_39 (Has.at H_39 hin_39 rfl) (g := (mkF m 135 #[.val (.int p0), .val (.ref b1), .val (.ref b22), .val (.int (0 : Int32))] [(.int (0 : Int32)), (.ref b22), (.int (own_f1 w_CDATA w_CDATA w_ID w_IDREF w_IDREFS w_ENTITY w_ENTITIES w_NMTOKEN w_NMTOKENS w_NOTATION w_ENUMERATION))])) rfl rfl (hb hby at_135) _ ?_
      show Steps p.tables e below (T38.setTop (mkF m 136 #[.val (.int p0), .val (.ref b1), .val (.ref b22), .val (.int (0 : Int32))] [(.int (0 : Int32)), (.int (own_f1 w_CDATA w_CDATA w_ID w_IDREF w_IDREFS w_ENTITY w_ENTITIES w_NMTOKEN w_NMTOKENS w_NOTATION w_ENUMERATION))])) _
      refine XS.icmpNo X38.here hx rfl (hb hby at_136) rfl (teq (own_p_CDATA w_CDATA w_ID w_IDREF w_IDREFS w_ENTITY w_ENTITIES w_NMTOKEN w_NMTOKENS w_NOTATION w_ENUMERATION hG)).2 ?_
      show Steps p.tables e below (T38.setTop (mkF m 139 #[.val (.int p0), .val (.ref b1), .val (.ref b22), .val (.int (0 : Int32))] [])) _
      refine XS.iconst X38.here hx rfl (hb hby at_139) ?_
      show Steps p.tables e below (T38.setTop (mkF m 140 #[.val (.int p0), .val (.ref b1), .val (.ref b22), .val (.int (0 : Int32))] [(.int (1 : Int32))])) _
      refine XS.goto X38.here hx rfl (pc0 := 140) (pc' := 144) rfl (hb hby at_140) (by decide) (by decide) ?_
      exact k
    obtain ⟨fs, hr, hrun, hended, hW, hsame⟩ := X38.leave (v := some (.int (1 : Int32))) (fun h => by rw [Bd.returns] at h; cases h)
    refine ⟨_, _, k40 _ ?_, hrun, hended, _, _, rfl, ?_, ⟨_, rfl⟩, hW, hsame.mono (by decide) (by decide)⟩
    · exact retN X38 hx (t := .boolean) Bd.returns (by simp) (hb hby at_144) hr
    · show own_R (some (.int 1)) n0 _ T38.heap _
      rw [e38]
      exact ⟨rfl, N38⟩
  · have k41 : ∀ t, Steps p.tables e below (T32.setTop (mkF m 127 #[.val (.int p0), .val (.ref b1), .val (.ref b22), .val (.int (1 : Int32))] [])) t → Steps p.tables e below (s₁.setTop (entryFrame m #[(.int p0)] maxLocals)) t := by
      intro t k
      refine k33 _ ?_
      rw [hk]
      exact k
    have k43 : ∀ t, Steps p.tables e below (T32.setTop (mkF m 130 #[.val (.int p0), .val (.ref b1), .val (.ref b22), .val (.int (1 : Int32))] [(.ref w_ID)])) t → Steps p.tables e below (s₁.setTop (entryFrame m #[(.int p0)] maxLocals)) t := by
      intro t k
      refine k41 _ ?_
      show Steps p.tables e below (T32.setTop (mkF m 127 #[.val (.int p0), .val (.ref b1), .val (.ref b22), .val (.int (1 : Int32))] [])) _
      refine XS.aloadN X32.here hx rfl (hb hby at_127) rfl rfl ?_
      show Steps p.tables e below (T32.setTop (mkF m 128 #[.val (.int p0), .val (.ref b1), .val (.ref b22), .val (.int (1 : Int32))] [(.ref b1)])) _
      refine XS.iloadN X32.here hx rfl (hb hby at_128) rfl ?_
      show Steps p.tables e below (T32.setTop (mkF m 129 #[.val (.int p0), .val (.ref b1), .val (.ref b22), .val (.int (1 : Int32))] [(.int (1 : Int32)), (.ref b1)])) _
      obtain ⟨cl_42, Ar_42, q_42, S_42, N_42, H_42, G_42⟩ := id V_b1
      have hin_42 : ¬ ((1 : Int32) < 0 ∨ cl_42.slots.size ≤ ((1 : Int32)).toNatClampNeg) := inb_of S_42 ⟨by decide, by decide⟩
      refine X32.aaload hx (j := (1 : Int32)) (v := (.ref w_ID)) (by rw [e32]; exact Ar_42.1) (State.isArrayOf_alike hZ.alike Ar_42.2.1) rfl Ar_42.2.2 hin_42 (Has.at H_42 hin_42 rfl) (g := (mkF m 129 #[.val (.int p0), .val (.ref b1), .val (.ref b22), .val (.int (1 : Int32))] [(.int (1 : Int32)), (.ref b1)])) rfl rfl (hb hby at_129) _ ?_
      exact k
    obtain ⟨Lz44, Xz44, Nz44⟩ : ∃ Lz, Stand p l e room_1 s m #[(.int p0)] below meth c T32 Lz 2 20 ∧ Fr n0 Lz := ⟨_, X32, N32⟩
    obtain ⟨cq45, kq45, q45a, q45b, q45c⟩ := isOf hZ e32 (E_ID.ext O0.2)
    obtain ⟨_, _, ⟨T45, L45, k45_, n45⟩, -, X45, ⟨Lc45, hQ45, l45, y45, z45⟩, st45⟩ := Xz44.virtualBack hx (y := (⟨"com/example/infoset_reader/infosetreader/AttributeType", "namesItems", "()Z"⟩ : MethodName)) (z := (⟨"com/example/infoset_reader/infosetreader/AttributeType", "namesItems", "()Z"⟩ : MethodName)) hown (mvT hZ (hw _ (List.mem_of_getElem? (i := 26) rfl))) (mvT hZ (hw _ (List.mem_of_getElem? (i := 27) rfl))) (notFace_of_selects (args := #[]) (mvT hZ (hw _ (List.mem_of_getElem? (i := 29) rfl)))) (mvT hZ (hw _ (List.mem_of_getElem? (i := 29) rfl))) (mvT hZ (hw _ (List.mem_of_getElem? (i := 28) rfl))) (by decide) (backOf (W := 0) (rm1 l Z a0 hw [] w_ID w_CDATA w_ID w_IDREF w_IDREFS w_ENTITY w_ENTITIES w_NMTOKEN w_NMTOKENS w_NOTATION w_ENUMERATION h32 n0 hG O0) hZ (hw _ (List.mem_of_getElem? (i := 30) rfl)) (hw _ (List.mem_of_getElem? (i := 3) rfl)) (by decide) (by decide)) q45a q45c (g := (mkF m 130 #[.val (.int p0), .val (.ref b1), .val (.ref b22), .val (.int (1 : Int32))] [(.ref w_ID)])) rfl (by rw [hml]; rfl) (Steps.refl _) (argsL := []) (rest := []) (lenOf pd_0 rfl) rfl (by show 2 * 0 + _ ≤ _; exact Nat.le_of_eq rfl) (hb hby at_130) (fun _ _ => ⟨rfl, e32, (by decide : 2 + 0 ≤ _), (by decide : 20 + 0 ≤ _)⟩)
    dsimp only [Pt.U, Pt.locs, Pt.cells, Pt.slots] at X45 l45 y45 z45 st45 hQ45
    subst l45 y45 z45
    obtain ⟨rfl, Nq45, e45⟩ := hQ45
    have N45 := Fr.app Nz44 Nq45
    have k47 : ∀ t, Steps p.tables e below (T45.setTop (mkF m 144 #[.val (.int p0), .val (.ref b1), .val (.ref b22), .val (.int (1 : Int32))] [(.int (1 : Int32))])) t → Steps p.tables e below (s₁.setTop (entryFrame m #[(.int p0)] maxLocals)) t := by
      intro t k
      refine k43 _ ?_
      show Steps p.tables e below (T32.setTop (mkF m 130 #[.val (.int p0), .val (.ref b1), .val (.ref b22), .val (.int (1 : Int32))] [(.ref w_ID)])) _
      refine st45.trans ?_
      show Steps p.tables e below (T45.setTop (mkF m 133 #[.val (.int p0), .val (.ref b1), .val (.ref b22), .val (.int (1 : Int32))] [(.int (own_f1 w_ID w_CDATA w_ID w_IDREF w_IDREFS w_ENTITY w_ENTITIES w_NMTOKEN w_NMTOKENS w_NOTATION w_ENUMERATION))])) _
      refine XS.aloadN X45.here hx rfl (hb hby at_133) rfl rfl ?_
      show Steps p.tables e below (T45.setTop (mkF m 134 #[.val (.int p0), .val (.ref b1), .val (.ref b22), .val (.int (1 : Int32))] [(.ref b22), (.int (own_f1 w_ID w_CDATA w_ID w_IDREF w_IDREFS w_ENTITY w_ENTITIES w_NMTOKEN w_NMTOKENS w_NOTATION w_ENUMERATION))])) _
      refine XS.iloadN X45.here hx rfl (hb hby at_134) rfl ?_
      show Steps p.tables e below (T45.setTop (mkF m 135 #[.val (.int p0), .val (.ref b1), .val (.ref b22), .val (.int (1 : Int32))] [(.int (1 : Int32)), (.ref b22), (.int (own_f1 w_ID w_CDATA w_ID w_IDREF w_IDREFS w_ENTITY w_ENTITIES w_NMTOKEN w_NMTOKENS w_NOTATION w_ENUMERATION))])) _
      obtain ⟨cl_46, Ar_46, q_46, S_46, N_46, H_46, G_46⟩ := id V_b22
      have hin_46 : ¬ ((1 : Int32) < 0 ∨ cl_46.slots.size ≤ ((1 : Int32)).toNatClampNeg) := inb_of S_46 ⟨by decide, by decide⟩
      refine X45.baloadBooleans hx (j := (1 : Int32)) (v := (.int (0 : Int32))) (by rw [e45]; exact Ar_46.1) (State.isArrayOf_alike hZ.alike Ar_46.2.1) Ar_46.2.2 hin_46 (Has.at H_46 hin_46 rfl) (g := (mkF m 135 #[.val (.int p0), .val (.ref b1), .val (.ref b22), .val (.int (1 : Int32))] [(.int (1 : Int32)), (.ref b22), (.int (own_f1 w_ID w_CDATA w_ID w_IDREF w_IDREFS w_ENTITY w_ENTITIES w_NMTOKEN w_NMTOKENS w_NOTATION w_ENUMERATION))])) rfl rfl (hb hby at_135) _ ?_
      show Steps p.tables e below (T45.setTop (mkF m 136 #[.val (.int p0), .val (.ref b1), .val (.ref b22), .val (.int (1 : Int32))] [(.int (0 : Int32)), (.int (own_f1 w_ID w_CDATA w_ID w_IDREF w_IDREFS w_ENTITY w_ENTITIES w_NMTOKEN w_NMTOKENS w_NOTATION w_ENUMERATION))])) _
      refine XS.icmpNo X45.here hx rfl (hb hby at_136) rfl (teq (own_p_ID w_CDATA w_ID w_IDREF w_IDREFS w_ENTITY w_ENTITIES w_NMTOKEN w_NMTOKENS w_NOTATION w_ENUMERATION hG)).2 ?_
      show Steps p.tables e below (T45.setTop (mkF m 139 #[.val (.int p0), .val (.ref b1), .val (.ref b22), .val (.int (1 : Int32))] [])) _
      refine XS.iconst X45.here hx rfl (hb hby at_139) ?_
      show Steps p.tables e below (T45.setTop (mkF m 140 #[.val (.int p0), .val (.ref b1), .val (.ref b22), .val (.int (1 : Int32))] [(.int (1 : Int32))])) _
      refine XS.goto X45.here hx rfl (pc0 := 140) (pc' := 144) rfl (hb hby at_140) (by decide) (by decide) ?_
      exact k
    obtain ⟨fs, hr, hrun, hended, hW, hsame⟩ := X45.leave (v := some (.int (1 : Int32))) (fun h => by rw [Bd.returns] at h; cases h)
    refine ⟨_, _, k47 _ ?_, hrun, hended, _, _, rfl, ?_, ⟨_, rfl⟩, hW, hsame.mono (by decide) (by decide)⟩
    · exact retN X45 hx (t := .boolean) Bd.returns (by simp) (hb hby at_144) hr
    · show own_R (some (.int 1)) n0 _ T45.heap _
      rw [e45]
      exact ⟨rfl, N45⟩
  · have k48 : ∀ t, Steps p.tables e below (T32.setTop (mkF m 127 #[.val (.int p0), .val (.ref b1), .val (.ref b22), .val (.int (2 : Int32))] [])) t → Steps p.tables e below (s₁.setTop (entryFrame m #[(.int p0)] maxLocals)) t := by
      intro t k
      refine k33 _ ?_
      rw [hk]
      exact k
    have k50 : ∀ t, Steps p.tables e below (T32.setTop (mkF m 130 #[.val (.int p0), .val (.ref b1), .val (.ref b22), .val (.int (2 : Int32))] [(.ref w_IDREF)])) t → Steps p.tables e below (s₁.setTop (entryFrame m #[(.int p0)] maxLocals)) t := by
      intro t k
      refine k48 _ ?_
      show Steps p.tables e below (T32.setTop (mkF m 127 #[.val (.int p0), .val (.ref b1), .val (.ref b22), .val (.int (2 : Int32))] [])) _
      refine XS.aloadN X32.here hx rfl (hb hby at_127) rfl rfl ?_
      show Steps p.tables e below (T32.setTop (mkF m 128 #[.val (.int p0), .val (.ref b1), .val (.ref b22), .val (.int (2 : Int32))] [(.ref b1)])) _
      refine XS.iloadN X32.here hx rfl (hb hby at_128) rfl ?_
      show Steps p.tables e below (T32.setTop (mkF m 129 #[.val (.int p0), .val (.ref b1), .val (.ref b22), .val (.int (2 : Int32))] [(.int (2 : Int32)), (.ref b1)])) _
      obtain ⟨cl_49, Ar_49, q_49, S_49, N_49, H_49, G_49⟩ := id V_b1
      have hin_49 : ¬ ((2 : Int32) < 0 ∨ cl_49.slots.size ≤ ((2 : Int32)).toNatClampNeg) := inb_of S_49 ⟨by decide, by decide⟩
      refine X32.aaload hx (j := (2 : Int32)) (v := (.ref w_IDREF)) (by rw [e32]; exact Ar_49.1) (State.isArrayOf_alike hZ.alike Ar_49.2.1) rfl Ar_49.2.2 hin_49 (Has.at H_49 hin_49 rfl) (g := (mkF m 129 #[.val (.int p0), .val (.ref b1), .val (.ref b22), .val (.int (2 : Int32))] [(.int (2 : Int32)), (.ref b1)])) rfl rfl (hb hby at_129) _ ?_
      exact k
    obtain ⟨Lz51, Xz51, Nz51⟩ : ∃ Lz, Stand p l e room_1 s m #[(.int p0)] below meth c T32 Lz 2 20 ∧ Fr n0 Lz := ⟨_, X32, N32⟩
    obtain ⟨cq52, kq52, q52a, q52b, q52c⟩ := isOf hZ e32 (E_IDREF.ext O0.2)
    obtain ⟨_, _, ⟨T52, L52, k52_, n52⟩, -, X52, ⟨Lc52, hQ52, l52, y52, z52⟩, st52⟩ := Xz51.virtualBack hx (y := (⟨"com/example/infoset_reader/infosetreader/AttributeType", "namesItems", "()Z"⟩ : MethodName)) (z := (⟨"com/example/infoset_reader/infosetreader/AttributeType", "namesItems", "()Z"⟩ : MethodName)) hown (mvT hZ (hw _ (List.mem_of_getElem? (i := 26) rfl))) (mvT hZ (hw _ (List.mem_of_getElem? (i := 27) rfl))) (notFace_of_selects (args := #[]) (mvT hZ (hw _ (List.mem_of_getElem? (i := 29) rfl)))) (mvT hZ (hw _ (List.mem_of_getElem? (i := 29) rfl))) (mvT hZ (hw _ (List.mem_of_getElem? (i := 28) rfl))) (by decide) (backOf (W := 0) (rm1 l Z a0 hw [] w_IDREF w_CDATA w_ID w_IDREF w_IDREFS w_ENTITY w_ENTITIES w_NMTOKEN w_NMTOKENS w_NOTATION w_ENUMERATION h32 n0 hG O0) hZ (hw _ (List.mem_of_getElem? (i := 30) rfl)) (hw _ (List.mem_of_getElem? (i := 3) rfl)) (by decide) (by decide)) q52a q52c (g := (mkF m 130 #[.val (.int p0), .val (.ref b1), .val (.ref b22), .val (.int (2 : Int32))] [(.ref w_IDREF)])) rfl (by rw [hml]; rfl) (Steps.refl _) (argsL := []) (rest := []) (lenOf pd_0 rfl) rfl (by show 2 * 0 + _ ≤ _; exact Nat.le_of_eq rfl) (hb hby at_130) (fun _ _ => ⟨rfl, e32, (by decide : 2 + 0 ≤ _), (by decide : 20 + 0 ≤ _)⟩)
    dsimp only [Pt.U, Pt.locs, Pt.cells, Pt.slots] at X52 l52 y52 z52 st52 hQ52
    subst l52 y52 z52
    obtain ⟨rfl, Nq52, e52⟩ := hQ52
    have N52 := Fr.app Nz51 Nq52
    have k54 : ∀ t, Steps p.tables e below (T52.setTop (mkF m 144 #[.val (.int p0), .val (.ref b1), .val (.ref b22), .val (.int (2 : Int32))] [(.int (1 : Int32))])) t → Steps p.tables e below (s₁.setTop (entryFrame m #[(.int p0)] maxLocals)) t := by
      intro t k
      refine k50 _ ?_
      show Steps p.tables e below (T32.setTop (mkF m 130 #[.val (.int p0), .val (.ref b1), .val (.ref b22), .val (.int (2 : Int32))] [(.ref w_IDREF)])) _
      refine st52.trans ?_
      show Steps p.tables e below (T52.setTop (mkF m 133 #[.val (.int p0), .val (.ref b1), .val (.ref b22), .val (.int (2 : Int32))] [(.int (own_f1 w_IDREF w_CDATA w_ID w_IDREF w_IDREFS w_ENTITY w_ENTITIES w_NMTOKEN w_NMTOKENS w_NOTATION w_ENUMERATION))])) _
      refine XS.aloadN X52.here hx rfl (hb hby at_133) rfl rfl ?_
      show Steps p.tables e below (T52.setTop (mkF m 134 #[.val (.int p0), .val (.ref b1), .val (.ref b22), .val (.int (2 : Int32))] [(.ref b22), (.int (own_f1 w_IDREF w_CDATA w_ID w_IDREF w_IDREFS w_ENTITY w_ENTITIES w_NMTOKEN w_NMTOKENS w_NOTATION w_ENUMERATION))])) _
      refine XS.iloadN X52.here hx rfl (hb hby at_134) rfl ?_
      show Steps p.tables e below (T52.setTop (mkF m 135 #[.val (.int p0), .val (.ref b1), .val (.ref b22), .val (.int (2 : Int32))] [(.int (2 : Int32)), (.ref b22), (.int (own_f1 w_IDREF w_CDATA w_ID w_IDREF w_IDREFS w_ENTITY w_ENTITIES w_NMTOKEN w_NMTOKENS w_NOTATION w_ENUMERATION))])) _
      obtain ⟨cl_53, Ar_53, q_53, S_53, N_53, H_53, G_53⟩ := id V_b22
      have hin_53 : ¬ ((2 : Int32) < 0 ∨ cl_53.slots.size ≤ ((2 : Int32)).toNatClampNeg) := inb_of S_53 ⟨by decide, by decide⟩
      refine X52.baloadBooleans hx (j := (2 : Int32)) (v := (.int (1 : Int32))) (by rw [e52]; exact Ar_53.1) (State.isArrayOf_alike hZ.alike Ar_53.2.1) Ar_53.2.2 hin_53 (Has.at H_53 hin_53 rfl) (g := (mkF m 135 #[.val (.int p0), .val (.ref b1), .val (.ref b22), .val (.int (2 : Int32))] [(.int (2 : Int32)), (.ref b22), (.int (own_f1 w_IDREF w_CDATA w_ID w_IDREF w_IDREFS w_ENTITY w_ENTITIES w_NMTOKEN w_NMTOKENS w_NOTATION w_ENUMERATION))])) rfl rfl (hb hby at_135) _ ?_
      show Steps p.tables e below (T52.setTop (mkF m 136 #[.val (.int p0), .val (.ref b1), .val (.ref b22), .val (.int (2 : Int32))] [(.int (1 : Int32)), (.int (own_f1 w_IDREF w_CDATA w_ID w_IDREF w_IDREFS w_ENTITY w_ENTITIES w_NMTOKEN w_NMTOKENS w_NOTATION w_ENUMERATION))])) _
      refine XS.icmpNo X52.here hx rfl (hb hby at_136) rfl (teq (own_p_IDREF w_CDATA w_ID w_IDREF w_IDREFS w_ENTITY w_ENTITIES w_NMTOKEN w_NMTOKENS w_NOTATION w_ENUMERATION hG)).2 ?_
      show Steps p.tables e below (T52.setTop (mkF m 139 #[.val (.int p0), .val (.ref b1), .val (.ref b22), .val (.int (2 : Int32))] [])) _
      refine XS.iconst X52.here hx rfl (hb hby at_139) ?_
      show Steps p.tables e below (T52.setTop (mkF m 140 #[.val (.int p0), .val (.ref b1), .val (.ref b22), .val (.int (2 : Int32))] [(.int (1 : Int32))])) _
      refine XS.goto X52.here hx rfl (pc0 := 140) (pc' := 144) rfl (hb hby at_140) (by decide) (by decide) ?_
      exact k
    obtain ⟨fs, hr, hrun, hended, hW, hsame⟩ := X52.leave (v := some (.int (1 : Int32))) (fun h => by rw [Bd.returns] at h; cases h)
    refine ⟨_, _, k54 _ ?_, hrun, hended, _, _, rfl, ?_, ⟨_, rfl⟩, hW, hsame.mono (by decide) (by decide)⟩
    · exact retN X52 hx (t := .boolean) Bd.returns (by simp) (hb hby at_144) hr
    · show own_R (some (.int 1)) n0 _ T52.heap _
      rw [e52]
      exact ⟨rfl, N52⟩
  · have k55 : ∀ t, Steps p.tables e below (T32.setTop (mkF m 127 #[.val (.int p0), .val (.ref b1), .val (.ref b22), .val (.int (3 : Int32))] [])) t → Steps p.tables e below (s₁.setTop (entryFrame m #[(.int p0)] maxLocals)) t := by
      intro t k
      refine k33 _ ?_
      rw [hk]
      exact k
    have k57 : ∀ t, Steps p.tables e below (T32.setTop (mkF m 130 #[.val (.int p0), .val (.ref b1), .val (.ref b22), .val (.int (3 : Int32))] [(.ref w_IDREFS)])) t → Steps p.tables e below (s₁.setTop (entryFrame m #[(.int p0)] maxLocals)) t := by
      intro t k
      refine k55 _ ?_
      show Steps p.tables e below (T32.setTop (mkF m 127 #[.val (.int p0), .val (.ref b1), .val (.ref b22), .val (.int (3 : Int32))] [])) _
      refine XS.aloadN X32.here hx rfl (hb hby at_127) rfl rfl ?_
      show Steps p.tables e below (T32.setTop (mkF m 128 #[.val (.int p0), .val (.ref b1), .val (.ref b22), .val (.int (3 : Int32))] [(.ref b1)])) _
      refine XS.iloadN X32.here hx rfl (hb hby at_128) rfl ?_
      show Steps p.tables e below (T32.setTop (mkF m 129 #[.val (.int p0), .val (.ref b1), .val (.ref b22), .val (.int (3 : Int32))] [(.int (3 : Int32)), (.ref b1)])) _
      obtain ⟨cl_56, Ar_56, q_56, S_56, N_56, H_56, G_56⟩ := id V_b1
      have hin_56 : ¬ ((3 : Int32) < 0 ∨ cl_56.slots.size ≤ ((3 : Int32)).toNatClampNeg) := inb_of S_56 ⟨by decide, by decide⟩
      refine X32.aaload hx (j := (3 : Int32)) (v := (.ref w_IDREFS)) (by rw [e32]; exact Ar_56.1) (State.isArrayOf_alike hZ.alike Ar_56.2.1) rfl Ar_56.2.2 hin_56 (Has.at H_56 hin_56 rfl) (g := (mkF m 129 #[.val (.int p0), .val (.ref b1), .val (.ref b22), .val (.int (3 : Int32))] [(.int (3 : Int32)), (.ref b1)])) rfl rfl (hb hby at_129) _ ?_
      exact k
    obtain ⟨Lz58, Xz58, Nz58⟩ : ∃ Lz, Stand p l e room_1 s m #[(.int p0)] below meth c T32 Lz 2 20 ∧ Fr n0 Lz := ⟨_, X32, N32⟩
    obtain ⟨cq59, kq59, q59a, q59b, q59c⟩ := isOf hZ e32 (E_IDREFS.ext O0.2)
    obtain ⟨_, _, ⟨T59, L59, k59_, n59⟩, -, X59, ⟨Lc59, hQ59, l59, y59, z59⟩, st59⟩ := Xz58.virtualBack hx (y := (⟨"com/example/infoset_reader/infosetreader/AttributeType", "namesItems", "()Z"⟩ : MethodName)) (z := (⟨"com/example/infoset_reader/infosetreader/AttributeType", "namesItems", "()Z"⟩ : MethodName)) hown (mvT hZ (hw _ (List.mem_of_getElem? (i := 26) rfl))) (mvT hZ (hw _ (List.mem_of_getElem? (i := 27) rfl))) (notFace_of_selects (args := #[]) (mvT hZ (hw _ (List.mem_of_getElem? (i := 29) rfl)))) (mvT hZ (hw _ (List.mem_of_getElem? (i := 29) rfl))) (mvT hZ (hw _ (List.mem_of_getElem? (i := 28) rfl))) (by decide) (backOf (W := 0) (rm1 l Z a0 hw [] w_IDREFS w_CDATA w_ID w_IDREF w_IDREFS w_ENTITY w_ENTITIES w_NMTOKEN w_NMTOKENS w_NOTATION w_ENUMERATION h32 n0 hG O0) hZ (hw _ (List.mem_of_getElem? (i := 30) rfl)) (hw _ (List.mem_of_getElem? (i := 3) rfl)) (by decide) (by decide)) q59a q59c (g := (mkF m 130 #[.val (.int p0), .val (.ref b1), .val (.ref b22), .val (.int (3 : Int32))] [(.ref w_IDREFS)])) rfl (by rw [hml]; rfl) (Steps.refl _) (argsL := []) (rest := []) (lenOf pd_0 rfl) rfl (by show 2 * 0 + _ ≤ _; exact Nat.le_of_eq rfl) (hb hby at_130) (fun _ _ => ⟨rfl, e32, (by decide : 2 + 0 ≤ _), (by decide : 20 + 0 ≤ _)⟩)
    dsimp only [Pt.U, Pt.locs, Pt.cells, Pt.slots] at X59 l59 y59 z59 st59 hQ59
    subst l59 y59 z59
    obtain ⟨rfl, Nq59, e59⟩ := hQ59
    have N59 := Fr.app Nz58 Nq59
    have k61 : ∀ t, Steps p.tables e below (T59.setTop (mkF m 144 #[.val (.int p0), .val (.ref b1), .val (.ref b22), .val (.int (3 : Int32))] [(.int (1 : Int32))])) t → Steps p.tables e below (s₁.setTop (entryFrame m #[(.int p0)] maxLocals)) t := by
      intro t k
      refine k57 _ ?_
      show Steps p.tables e below (T32.setTop (mkF m 130 #[.val (.int p0), .val (.ref b1), .val (.ref b22), .val (.int (3 : Int32))] [(.ref w_IDREFS)])) _
      refine st59.trans ?_
      show Steps p.tables e below (T59.setTop (mkF m 133 #[.val (.int p0), .val (.ref b1), .val (.ref b22), .val (.int (3 : Int32))] [(.int (own_f1 w_IDREFS w_CDATA w_ID w_IDREF w_IDREFS w_ENTITY w_ENTITIES w_NMTOKEN w_NMTOKENS w_NOTATION w_ENUMERATION))])) _
      refine XS.aloadN X59.here hx rfl (hb hby at_133) rfl rfl ?_
      show Steps p.tables e below (T59.setTop (mkF m 134 #[.val (.int p0), .val (.ref b1), .val (.ref b22), .val (.int (3 : Int32))] [(.ref b22), (.int (own_f1 w_IDREFS w_CDATA w_ID w_IDREF w_IDREFS w_ENTITY w_ENTITIES w_NMTOKEN w_NMTOKENS w_NOTATION w_ENUMERATION))])) _
      refine XS.iloadN X59.here hx rfl (hb hby at_134) rfl ?_
      show Steps p.tables e below (T59.setTop (mkF m 135 #[.val (.int p0), .val (.ref b1), .val (.ref b22), .val (.int (3 : Int32))] [(.int (3 : Int32)), (.ref b22), (.int (own_f1 w_IDREFS w_CDATA w_ID w_IDREF w_IDREFS w_ENTITY w_ENTITIES w_NMTOKEN w_NMTOKENS w_NOTATION w_ENUMERATION))])) _
      obtain ⟨cl_60, Ar_60, q_60, S_60, N_60, H_60, G_60⟩ := id V_b22
      have hin_60 : ¬ ((3 : Int32) < 0 ∨ cl_60.slots.size ≤ ((3 : Int32)).toNatClampNeg) := inb_of S_60 ⟨by decide, by decide⟩
      refine X59.baloadBooleans hx (j := (3 : Int32)) (v := (.int (1 : Int32))) (by rw [e59]; exact Ar_60.1) (State.isArrayOf_alike hZ.alike Ar_60.2.1) Ar_60.2.2 hin_60 (Has.at H_60 hin_60 rfl) (g := (mkF m 135 #[.val (.int p0), .val (.ref b1), .val (.ref b22), .val (.int (3 : Int32))] [(.int (3 : Int32)), (.ref b22), (.int (own_f1 w_IDREFS w_CDATA w_ID w_IDREF w_IDREFS w_ENTITY w_ENTITIES w_NMTOKEN w_NMTOKENS w_NOTATION w_ENUMERATION))])) rfl rfl (hb hby at_135) _ ?_
      show Steps p.tables e below (T59.setTop (mkF m 136 #[.val (.int p0), .val (.ref b1), .val (.ref b22), .val (.int (3 : Int32))] [(.int (1 : Int32)), (.int (own_f1 w_IDREFS w_CDATA w_ID w_IDREF w_IDREFS w_ENTITY w_ENTITIES w_NMTOKEN w_NMTOKENS w_NOTATION w_ENUMERATION))])) _
      refine XS.icmpNo X59.here hx rfl (hb hby at_136) rfl (teq (own_p_IDREFS w_CDATA w_ID w_IDREF w_IDREFS w_ENTITY w_ENTITIES w_NMTOKEN w_NMTOKENS w_NOTATION w_ENUMERATION hG)).2 ?_
      show Steps p.tables e below (T59.setTop (mkF m 139 #[.val (.int p0), .val (.ref b1), .val (.ref b22), .val (.int (3 : Int32))] [])) _
      refine XS.iconst X59.here hx rfl (hb hby at_139) ?_
      show Steps p.tables e below (T59.setTop (mkF m 140 #[.val (.int p0), .val (.ref b1), .val (.ref b22), .val (.int (3 : Int32))] [(.int (1 : Int32))])) _
      refine XS.goto X59.here hx rfl (pc0 := 140) (pc' := 144) rfl (hb hby at_140) (by decide) (by decide) ?_
      exact k
    obtain ⟨fs, hr, hrun, hended, hW, hsame⟩ := X59.leave (v := some (.int (1 : Int32))) (fun h => by rw [Bd.returns] at h; cases h)
    refine ⟨_, _, k61 _ ?_, hrun, hended, _, _, rfl, ?_, ⟨_, rfl⟩, hW, hsame.mono (by decide) (by decide)⟩
    · exact retN X59 hx (t := .boolean) Bd.returns (by simp) (hb hby at_144) hr
    · show own_R (some (.int 1)) n0 _ T59.heap _
      rw [e59]
      exact ⟨rfl, N59⟩
  · have k62 : ∀ t, Steps p.tables e below (T32.setTop (mkF m 127 #[.val (.int p0), .val (.ref b1), .val (.ref b22), .val (.int (4 : Int32))] [])) t → Steps p.tables e below (s₁.setTop (entryFrame m #[(.int p0)] maxLocals)) t := by
      intro t k
      refine k33 _ ?_
      rw [hk]
      exact k
    have k64 : ∀ t, Steps p.tables e below (T32.setTop (mkF m 130 #[.val (.int p0), .val (.ref b1), .val (.ref b22), .val (.int (4 : Int32))] [(.ref w_ENTITY)])) t → Steps p.tables e below (s₁.setTop (entryFrame m #[(.int p0)] maxLocals)) t := by
      intro t k
      refine k62 _ ?_
      show Steps p.tables e below (T32.setTop (mkF m 127 #[.val (.int p0), .val (.ref b1), .val (.ref b22), .val (.int (4 : Int32))] [])) _
      refine XS.aloadN X32.here hx rfl (hb hby at_127) rfl rfl ?_
      show Steps p.tables e below (T32.setTop (mkF m 128 #[.val (.int p0), .val (.ref b1), .val (.ref b22), .val (.int (4 : Int32))] [(.ref b1)])) _
      refine XS.iloadN X32.here hx rfl (hb hby at_128) rfl ?_
      show Steps p.tables e below (T32.setTop (mkF m 129 #[.val (.int p0), .val (.ref b1), .val (.ref b22), .val (.int (4 : Int32))] [(.int (4 : Int32)), (.ref b1)])) _
      obtain ⟨cl_63, Ar_63, q_63, S_63, N_63, H_63, G_63⟩ := id V_b1
      have hin_63 : ¬ ((4 : Int32) < 0 ∨ cl_63.slots.size ≤ ((4 : Int32)).toNatClampNeg) := inb_of S_63 ⟨by decide, by decide⟩
      refine X32.aaload hx (j := (4 : Int32)) (v := (.ref w_ENTITY)) (by rw [e32]; exact Ar_63.1) (State.isArrayOf_alike hZ.alike Ar_63.2.1) rfl Ar_63.2.2 hin_63 (Has.at H_63 hin_63 rfl) (g := (mkF m 129 #[.val (.int p0), .val (.ref b1), .val (.ref b22), .val (.int (4 : Int32))] [(.int (4 : Int32)), (.ref b1)])) rfl rfl (hb hby at_129) _ ?_
      exact k
    obtain ⟨Lz65, Xz65, Nz65⟩ : ∃ Lz, Stand p l e room_1 s m #[(.int p0)] below meth c T32 Lz 2 20 ∧ Fr n0 Lz := ⟨_, X32, N32⟩
    obtain ⟨cq66, kq66, q66a, q66b, q66c⟩ := isOf hZ e32 (E_ENTITY.ext O0.2)
    obtain ⟨_, _, ⟨T66, L66, k66_, n66⟩, -, X66, ⟨Lc66, hQ66, l66, y66, z66⟩, st66⟩ := Xz65.virtualBack hx (y := (⟨"com/example/infoset_reader/infosetreader/AttributeType", "namesItems", "()Z"⟩ : MethodName)) (z := (⟨"com/example/infoset_reader/infosetreader/AttributeType", "namesItems", "()Z"⟩ : MethodName)) hown (mvT hZ (hw _ (List.mem_of_getElem? (i := 26) rfl))) (mvT hZ (hw _ (List.mem_of_getElem? (i := 27) rfl))) (notFace_of_selects (args := #[]) (mvT hZ (hw _ (List.mem_of_getElem? (i := 29) rfl)))) (mvT hZ (hw _ (List.mem_of_getElem? (i := 29) rfl))) (mvT hZ (hw _ (List.mem_of_getElem? (i := 28) rfl))) (by decide) (backOf (W := 0) (rm1 l Z a0 hw [] w_ENTITY w_CDATA w_ID w_IDREF w_IDREFS w_ENTITY w_ENTITIES w_NMTOKEN w_NMTOKENS w_NOTATION w_ENUMERATION h32 n0 hG O0) hZ (hw _ (List.mem_of_getElem? (i := 30) rfl)) (hw _ (List.mem_of_getElem? (i := 3) rfl)) (by decide) (by decide)) q66a q66c (g := (mkF m 130 #[.val (.int p0), .val (.ref b1), .val (.ref b22), .val (.int (4 : Int32))] [(.ref w_ENTITY)])) rfl (by rw [hml]; rfl) (Steps.refl _) (argsL := []) (rest := []) (lenOf pd_0 rfl) rfl (by show 2 * 0 + _ ≤ _; exact Nat.le_of_eq rfl) (hb hby at_130) (fun _ _ => ⟨rfl, e32, (by decide : 2 + 0 ≤ _), (by decide : 20 + 0 ≤ _)⟩)
    dsimp only [Pt.U, Pt.locs, Pt.cells, Pt.slots] at X66 l66 y66 z66 st66 hQ66
    subst l66 y66 z66
    obtain ⟨rfl, Nq66, e66⟩ := hQ66
    have N66 := Fr.app Nz65 Nq66
    have k68 : ∀ t, Steps p.tables e below (T66.setTop (mkF m 144 #[.val (.int p0), .val (.ref b1), .val (.ref b22), .val (.int (4 : Int32))] [(.int (1 : Int32))])) t → Steps p.tables e below (s₁.setTop (entryFrame m #[(.int p0)] maxLocals)) t := by
      intro t k
      refine k64 _ ?_
      show Steps p.tables e below (T32.setTop (mkF m 130 #[.val (.int p0), .val (.ref b1), .val (.ref b22), .val (.int (4 : Int32))] [(.ref w_ENTITY)])) _
      refine st66.trans ?_
      show Steps p.tables e below (T66.setTop (mkF m 133 #[.val (.int p0), .val (.ref b1), .val (.ref b22), .val (.int (4 : Int32))] [(.int (own_f1 w_ENTITY w_CDATA w_ID w_IDREF w_IDREFS w_ENTITY w_ENTITIES w_NMTOKEN w_NMTOKENS w_NOTATION w_ENUMERATION))])) _
      refine XS.aloadN X66.here hx rfl (hb hby at_133) rfl rfl ?_
      show Steps p.tables e below (T66.setTop (mkF m 134 #[.val (.int p0), .val (.ref b1), .val (.ref b22), .val (.int (4 : Int32))] [(.ref b22), (.int (own_f1 w_ENTITY w_CDATA w_ID w_IDREF w_IDREFS w_ENTITY w_ENTITIES w_NMTOKEN w_NMTOKENS w_NOTATION w_ENUMERATION))])) _
      refine XS.iloadN X66.here hx rfl (hb hby at_134) rfl ?_
      show Steps p.tables e below (T66.setTop (mkF m 135 #[.val (.int p0), .val (.ref b1), .val (.ref b22), .val (.int (4 : Int32))] [(.int (4 : Int32)), (.ref b22), (.int (own_f1 w_ENTITY w_CDATA w_ID w_IDREF w_IDREFS w_ENTITY w_ENTITIES w_NMTOKEN w_NMTOKENS w_NOTATION w_ENUMERATION))])) _
      obtain ⟨cl_67, Ar_67, q_67, S_67, N_67, H_67, G_67⟩ := id V_b22
      have hin_67 : ¬ ((4 : Int32) < 0 ∨ cl_67.slots.size ≤ ((4 : Int32)).toNatClampNeg) := inb_of S_67 ⟨by decide, by decide⟩
      refine X66.baloadBooleans hx (j := (4 : Int32)) (v := (.int (1 : Int32))) (by rw [e66]; exact Ar_67.1) (State.isArrayOf_alike hZ.alike Ar_67.2.1) Ar_67.2.2 hin_67 (Has.at H_67 hin_67 rfl) (g := (mkF m 135 #[.val (.int p0), .val (.ref b1), .val (.ref b22), .val (.int (4 : Int32))] [(.int (4 : Int32)), (.ref b22), (.int (own_f1 w_ENTITY w_CDATA w_ID w_IDREF w_IDREFS w_ENTITY w_ENTITIES w_NMTOKEN w_NMTOKENS w_NOTATION w_ENUMERATION))])) rfl rfl (hb hby at_135) _ ?_
      show Steps p.tables e below (T66.setTop (mkF m 136 #[.val (.int p0), .val (.ref b1), .val (.ref b22), .val (.int (4 : Int32))] [(.int (1 : Int32)), (.int (own_f1 w_ENTITY w_CDATA w_ID w_IDREF w_IDREFS w_ENTITY w_ENTITIES w_NMTOKEN w_NMTOKENS w_NOTATION w_ENUMERATION))])) _
      refine XS.icmpNo X66.here hx rfl (hb hby at_136) rfl (teq (own_p_ENTITY w_CDATA w_ID w_IDREF w_IDREFS w_ENTITY w_ENTITIES w_NMTOKEN w_NMTOKENS w_NOTATION w_ENUMERATION hG)).2 ?_
      show Steps p.tables e below (T66.setTop (mkF m 139 #[.val (.int p0), .val (.ref b1), .val (.ref b22), .val (.int (4 : Int32))] [])) _
      refine XS.iconst X66.here hx rfl (hb hby at_139) ?_
      show Steps p.tables e below (T66.setTop (mkF m 140 #[.val (.int p0), .val (.ref b1), .val (.ref b22), .val (.int (4 : Int32))] [(.int (1 : Int32))])) _
      refine XS.goto X66.here hx rfl (pc0 := 140) (pc' := 144) rfl (hb hby at_140) (by decide) (by decide) ?_
      exact k
    obtain ⟨fs, hr, hrun, hended, hW, hsame⟩ := X66.leave (v := some (.int (1 : Int32))) (fun h => by rw [Bd.returns] at h; cases h)
    refine ⟨_, _, k68 _ ?_, hrun, hended, _, _, rfl, ?_, ⟨_, rfl⟩, hW, hsame.mono (by decide) (by decide)⟩
    · exact retN X66 hx (t := .boolean) Bd.returns (by simp) (hb hby at_144) hr
    · show own_R (some (.int 1)) n0 _ T66.heap _
      rw [e66]
      exact ⟨rfl, N66⟩
  · have k69 : ∀ t, Steps p.tables e below (T32.setTop (mkF m 127 #[.val (.int p0), .val (.ref b1), .val (.ref b22), .val (.int (5 : Int32))] [])) t → Steps p.tables e below (s₁.setTop (entryFrame m #[(.int p0)] maxLocals)) t := by
      intro t k
      refine k33 _ ?_
      rw [hk]
      exact k
    have k71 : ∀ t, Steps p.tables e below (T32.setTop (mkF m 130 #[.val (.int p0), .val (.ref b1), .val (.ref b22), .val (.int (5 : Int32))] [(.ref w_ENTITIES)])) t → Steps p.tables e below (s₁.setTop (entryFrame m #[(.int p0)] maxLocals)) t := by
      intro t k
      refine k69 _ ?_
      show Steps p.tables e below (T32.setTop (mkF m 127 #[.val (.int p0), .val (.ref b1), .val (.ref b22), .val (.int (5 : Int32))] [])) _
      refine XS.aloadN X32.here hx rfl (hb hby at_127) rfl rfl ?_
      show Steps p.tables e below (T32.setTop (mkF m 128 #[.val (.int p0), .val (.ref b1), .val (.ref b22), .val (.int (5 : Int32))] [(.ref b1)])) _
      refine XS.iloadN X32.here hx rfl (hb hby at_128) rfl ?_
      show Steps p.tables e below (T32.setTop (mkF m 129 #[.val (.int p0), .val (.ref b1), .val (.ref b22), .val (.int (5 : Int32))] [(.int (5 : Int32)), (.ref b1)])) _
      obtain ⟨cl_70, Ar_70, q_70, S_70, N_70, H_70, G_70⟩ := id V_b1
      have hin_70 : ¬ ((5 : Int32) < 0 ∨ cl_70.slots.size ≤ ((5 : Int32)).toNatClampNeg) := inb_of S_70 ⟨by decide, by decide⟩
      refine X32.aaload hx (j := (5 : Int32)) (v := (.ref w_ENTITIES)) (by rw [e32]; exact Ar_70.1) (State.isArrayOf_alike hZ.alike Ar_70.2.1) rfl Ar_70.2.2 hin_70 (Has.at H_70 hin_70 rfl) (g := (mkF m 129 #[.val (.int p0), .val (.ref b1), .val (.ref b22), .val (.int (5 : Int32))] [(.int (5 : Int32)), (.ref b1)])) rfl rfl (hb hby at_129) _ ?_
      exact k
    obtain ⟨Lz72, Xz72, Nz72⟩ : ∃ Lz, Stand p l e room_1 s m #[(.int p0)] below meth c T32 Lz 2 20 ∧ Fr n0 Lz := ⟨_, X32, N32⟩
    obtain ⟨cq73, kq73, q73a, q73b, q73c⟩ := isOf hZ e32 (E_ENTITIES.ext O0.2)
    obtain ⟨_, _, ⟨T73, L73, k73_, n73⟩, -, X73, ⟨Lc73, hQ73, l73, y73, z73⟩, st73⟩ := Xz72.virtualBack hx (y := (⟨"com/example/infoset_reader/infosetreader/AttributeType", "namesItems", "()Z"⟩ : MethodName)) (z := (⟨"com/example/infoset_reader/infosetreader/AttributeType", "namesItems", "()Z"⟩ : MethodName)) hown (mvT hZ (hw _ (List.mem_of_getElem? (i := 26) rfl))) (mvT hZ (hw _ (List.mem_of_getElem? (i := 27) rfl))) (notFace_of_selects (args := #[]) (mvT hZ (hw _ (List.mem_of_getElem? (i := 29) rfl)))) (mvT hZ (hw _ (List.mem_of_getElem? (i := 29) rfl))) (mvT hZ (hw _ (List.mem_of_getElem? (i := 28) rfl))) (by decide) (backOf (W := 0) (rm1 l Z a0 hw [] w_ENTITIES w_CDATA w_ID w_IDREF w_IDREFS w_ENTITY w_ENTITIES w_NMTOKEN w_NMTOKENS w_NOTATION w_ENUMERATION h32 n0 hG O0) hZ (hw _ (List.mem_of_getElem? (i := 30) rfl)) (hw _ (List.mem_of_getElem? (i := 3) rfl)) (by decide) (by decide)) q73a q73c (g := (mkF m 130 #[.val (.int p0), .val (.ref b1), .val (.ref b22), .val (.int (5 : Int32))] [(.ref w_ENTITIES)])) rfl (by rw [hml]; rfl) (Steps.refl _) (argsL := []) (rest := []) (lenOf pd_0 rfl) rfl (by show 2 * 0 + _ ≤ _; exact Nat.le_of_eq rfl) (hb hby at_130) (fun _ _ => ⟨rfl, e32, (by decide : 2 + 0 ≤ _), (by decide : 20 + 0 ≤ _)⟩)
    dsimp only [Pt.U, Pt.locs, Pt.cells, Pt.slots] at X73 l73 y73 z73 st73 hQ73
    subst l73 y73 z73
    obtain ⟨rfl, Nq73, e73⟩ := hQ73
    have N73 := Fr.app Nz72 Nq73
    have k75 : ∀ t, Steps p.tables e below (T73.setTop (mkF m 144 #[.val (.int p0), .val (.ref b1), .val (.ref b22), .val (.int (5 : Int32))] [(.int (1 : Int32))])) t → Steps p.tables e below (s₁.setTop (entryFrame m #[(.int p0)] maxLocals)) t := by
      intro t k
      refine k71 _ ?_
      show Steps p.tables e below (T32.setTop (mkF m 130 #[.val (.int p0), .val (.ref b1), .val (.ref b22), .val (.int (5 : Int32))] [(.ref w_ENTITIES)])) _
      refine st73.trans ?_
      show Steps p.tables e below (T73.setTop (mkF m 133 #[.val (.int p0), .val (.ref b1), .val (.ref b22), .val (.int (5 : Int32))] [(.int (own_f1 w_ENTITIES w_CDATA w_ID w_IDREF w_IDREFS w_ENTITY w_ENTITIES w_NMTOKEN w_NMTOKENS w_NOTATION w_ENUMERATION))])) _
      refine XS.aloadN X73.here hx rfl (hb hby at_133) rfl rfl ?_
      show Steps p.tables e below (T73.setTop (mkF m 134 #[.val (.int p0), .val (.ref b1), .val (.ref b22), .val (.int (5 : Int32))] [(.ref b22), (.int (own_f1 w_ENTITIES w_CDATA w_ID w_IDREF w_IDREFS w_ENTITY w_ENTITIES w_NMTOKEN w_NMTOKENS w_NOTATION w_ENUMERATION))])) _
      refine XS.iloadN X73.here hx rfl (hb hby at_134) rfl ?_
      show Steps p.tables e below (T73.setTop (mkF m 135 #[.val (.int p0), .val (.ref b1), .val (.ref b22), .val (.int (5 : Int32))] [(.int (5 : Int32)), (.ref b22), (.int (own_f1 w_ENTITIES w_CDATA w_ID w_IDREF w_IDREFS w_ENTITY w_ENTITIES w_NMTOKEN w_NMTOKENS w_NOTATION w_ENUMERATION))])) _
      obtain ⟨cl_74, Ar_74, q_74, S_74, N_74, H_74, G_74⟩ := id V_b22
      have hin_74 : ¬ ((5 : Int32) < 0 ∨ cl_74.slots.size ≤ ((5 : Int32)).toNatClampNeg) := inb_of S_74 ⟨by decide, by decide⟩
      refine X73.baloadBooleans hx (j := (5 : Int32)) (v := (.int (1 : Int32))) (by rw [e73]; exact Ar_74.1) (State.isArrayOf_alike hZ.alike Ar_74.2.1) Ar_74.2.2 hin_74 (Has.at H_74 hin_74 rfl) (g := (mkF m 135 #[.val (.int p0), .val (.ref b1), .val (.ref b22), .val (.int (5 : Int32))] [(.int (5 : Int32)), (.ref b22), (.int (own_f1 w_ENTITIES w_CDATA w_ID w_IDREF w_IDREFS w_ENTITY w_ENTITIES w_NMTOKEN w_NMTOKENS w_NOTATION w_ENUMERATION))])) rfl rfl (hb hby at_135) _ ?_
      show Steps p.tables e below (T73.setTop (mkF m 136 #[.val (.int p0), .val (.ref b1), .val (.ref b22), .val (.int (5 : Int32))] [(.int (1 : Int32)), (.int (own_f1 w_ENTITIES w_CDATA w_ID w_IDREF w_IDREFS w_ENTITY w_ENTITIES w_NMTOKEN w_NMTOKENS w_NOTATION w_ENUMERATION))])) _
      refine XS.icmpNo X73.here hx rfl (hb hby at_136) rfl (teq (own_p_ENTITIES w_CDATA w_ID w_IDREF w_IDREFS w_ENTITY w_ENTITIES w_NMTOKEN w_NMTOKENS w_NOTATION w_ENUMERATION hG)).2 ?_
      show Steps p.tables e below (T73.setTop (mkF m 139 #[.val (.int p0), .val (.ref b1), .val (.ref b22), .val (.int (5 : Int32))] [])) _
      refine XS.iconst X73.here hx rfl (hb hby at_139) ?_
      show Steps p.tables e below (T73.setTop (mkF m 140 #[.val (.int p0), .val (.ref b1), .val (.ref b22), .val (.int (5 : Int32))] [(.int (1 : Int32))])) _
      refine XS.goto X73.here hx rfl (pc0 := 140) (pc' := 144) rfl (hb hby at_140) (by decide) (by decide) ?_
      exact k
    obtain ⟨fs, hr, hrun, hended, hW, hsame⟩ := X73.leave (v := some (.int (1 : Int32))) (fun h => by rw [Bd.returns] at h; cases h)
    refine ⟨_, _, k75 _ ?_, hrun, hended, _, _, rfl, ?_, ⟨_, rfl⟩, hW, hsame.mono (by decide) (by decide)⟩
    · exact retN X73 hx (t := .boolean) Bd.returns (by simp) (hb hby at_144) hr
    · show own_R (some (.int 1)) n0 _ T73.heap _
      rw [e73]
      exact ⟨rfl, N73⟩
  · have k76 : ∀ t, Steps p.tables e below (T32.setTop (mkF m 127 #[.val (.int p0), .val (.ref b1), .val (.ref b22), .val (.int (6 : Int32))] [])) t → Steps p.tables e below (s₁.setTop (entryFrame m #[(.int p0)] maxLocals)) t := by
      intro t k
      refine k33 _ ?_
      rw [hk]
      exact k
    have k78 : ∀ t, Steps p.tables e below (T32.setTop (mkF m 130 #[.val (.int p0), .val (.ref b1), .val (.ref b22), .val (.int (6 : Int32))] [(.ref w_NMTOKEN)])) t → Steps p.tables e below (s₁.setTop (entryFrame m #[(.int p0)] maxLocals)) t := by
      intro t k
      refine k76 _ ?_
      show Steps p.tables e below (T32.setTop (mkF m 127 #[.val (.int p0), .val (.ref b1), .val (.ref b22), .val (.int (6 : Int32))] [])) _
      refine XS.aloadN X32.here hx rfl (hb hby at_127) rfl rfl ?_
      show Steps p.tables e below (T32.setTop (mkF m 128 #[.val (.int p0), .val (.ref b1), .val (.ref b22), .val (.int (6 : Int32))] [(.ref b1)])) _
      refine XS.iloadN X32.here hx rfl (hb hby at_128) rfl ?_
      show Steps p.tables e below (T32.setTop (mkF m 129 #[.val (.int p0), .val (.ref b1), .val (.ref b22), .val (.int (6 : Int32))] [(.int (6 : Int32)), (.ref b1)])) _
      obtain ⟨cl_77, Ar_77, q_77, S_77, N_77, H_77, G_77⟩ := id V_b1
      have hin_77 : ¬ ((6 : Int32) < 0 ∨ cl_77.slots.size ≤ ((6 : Int32)).toNatClampNeg) := inb_of S_77 ⟨by decide, by decide⟩
      refine X32.aaload hx (j := (6 : Int32)) (v := (.ref w_NMTOKEN)) (by rw [e32]; exact Ar_77.1) (State.isArrayOf_alike hZ.alike Ar_77.2.1) rfl Ar_77.2.2 hin_77 (Has.at H_77 hin_77 rfl) (g := (mkF m 129 #[.val (.int p0), .val (.ref b1), .val (.ref b22), .val (.int (6 : Int32))] [(.int (6 : Int32)), (.ref b1)])) rfl rfl (hb hby at_129) _ ?_
      exact k
    obtain ⟨Lz79, Xz79, Nz79⟩ : ∃ Lz, Stand p l e room_1 s m #[(.int p0)] below meth c T32 Lz 2 20 ∧ Fr n0 Lz := ⟨_, X32, N32⟩
    obtain ⟨cq80, kq80, q80a, q80b, q80c⟩ := isOf hZ e32 (E_NMTOKEN.ext O0.2)
    obtain ⟨_, _, ⟨T80, L80, k80_, n80⟩, -, X80, ⟨Lc80, hQ80, l80, y80, z80⟩, st80⟩ := Xz79.virtualBack hx (y := (⟨"com/example/infoset_reader/infosetreader/AttributeType", "namesItems", "()Z"⟩ : MethodName)) (z := (⟨"com/example/infoset_reader/infosetreader/AttributeType", "namesItems", "()Z"⟩ : MethodName)) hown (mvT hZ (hw _ (List.mem_of_getElem? (i := 26) rfl))) (mvT hZ (hw _ (List.mem_of_getElem? (i := 27) rfl))) (notFace_of_selects (args := #[]) (mvT hZ (hw _ (List.mem_of_getElem? (i := 29) rfl)))) (mvT hZ (hw _ (List.mem_of_getElem? (i := 29) rfl))) (mvT hZ (hw _ (List.mem_of_getElem? (i := 28) rfl))) (by decide) (backOf (W := 0) (rm1 l Z a0 hw [] w_NMTOKEN w_CDATA w_ID w_IDREF w_IDREFS w_ENTITY w_ENTITIES w_NMTOKEN w_NMTOKENS w_NOTATION w_ENUMERATION h32 n0 hG O0) hZ (hw _ (List.mem_of_getElem? (i := 30) rfl)) (hw _ (List.mem_of_getElem? (i := 3) rfl)) (by decide) (by decide)) q80a q80c (g := (mkF m 130 #[.val (.int p0), .val (.ref b1), .val (.ref b22), .val (.int (6 : Int32))] [(.ref w_NMTOKEN)])) rfl (by rw [hml]; rfl) (Steps.refl _) (argsL := []) (rest := []) (lenOf pd_0 rfl) rfl (by show 2 * 0 + _ ≤ _; exact Nat.le_of_eq rfl) (hb hby at_130) (fun _ _ => ⟨rfl, e32, (by decide : 2 + 0 ≤ _), (by decide : 20 + 0 ≤ _)⟩)
    dsimp only [Pt.U, Pt.locs, Pt.cells, Pt.slots] at X80 l80 y80 z80 st80 hQ80
    subst l80 y80 z80
    obtain ⟨rfl, Nq80, e80⟩ := hQ80
    have N80 := Fr.app Nz79 Nq80
    have k82 : ∀ t, Steps p.tables e below (T80.setTop (mkF m 144 #[.val (.int p0), .val (.ref b1), .val (.ref b22), .val (.int (6 : Int32))] [(.int (1 : Int32))])) t → Steps p.tables e below (s₁.setTop (entryFrame m #[(.int p0)] maxLocals)) t := by
      intro t k
      refine k78 _ ?_
      show Steps p.tables e below (T32.setTop (mkF m 130 #[.val (.int p0), .val (.ref b1), .val (.ref b22), .val (.int (6 : Int32))] [(.ref w_NMTOKEN)])) _
      refine st80.trans ?_
      show Steps p.tables e below (T80.setTop (mkF m 133 #[.val (.int p0), .val (.ref b1), .val (.ref b22), .val (.int (6 : Int32))] [(.int (own_f1 w_NMTOKEN w_CDATA w_ID w_IDREF w_IDREFS w_ENTITY w_ENTITIES w_NMTOKEN w_NMTOKENS w_NOTATION w_ENUMERATION))])) _
      refine XS.aloadN X80.here hx rfl (hb hby at_133) rfl rfl ?_
      show Steps p.tables e below (T80.setTop (mkF m 134 #[.val (.int p0), .val (.ref b1), .val (.ref b22), .val (.int (6 : Int32))] [(.ref b22), (.int (own_f1 w_NMTOKEN w_CDATA w_ID w_IDREF w_IDREFS w_ENTITY w_ENTITIES w_NMTOKEN w_NMTOKENS w_NOTATION w_ENUMERATION))])) _
      refine XS.iloadN X80.here hx rfl (hb hby at_134) rfl ?_
      show Steps p.tables e below (T80.setTop (mkF m 135 #[.val (.int p0), .val (.ref b1), .val (.ref b22), .val (.int (6 : Int32))] [(.int (6 : Int32)), (.ref b22), (.int (own_f1 w_NMTOKEN w_CDATA w_ID w_IDREF w_IDREFS w_ENTITY w_ENTITIES w_NMTOKEN w_NMTOKENS w_NOTATION w_ENUMERATION))])) _
      obtain ⟨cl_81, Ar_81, q_81, S_81, N_81, H_81, G_81⟩ := id V_b22
      have hin_81 : ¬ ((6 : Int32) < 0 ∨ cl_81.slots.size ≤ ((6 : Int32)).toNatClampNeg) := inb_of S_81 ⟨by decide, by decide⟩
      refine X80.baloadBooleans hx (j := (6 : Int32)) (v := (.int (0 : Int32))) (by rw [e80]; exact Ar_81.1) (State.isArrayOf_alike hZ.alike Ar_81.2.1) Ar_81.2.2 hin_81 (Has.at H_81 hin_81 rfl) (g := (mkF m 135 #[.val (.int p0), .val (.ref b1), .val (.ref b22), .val (.int (6 : Int32))] [(.int (6 : Int32)), (.ref b22), (.int (own_f1 w_NMTOKEN w_CDATA w_ID w_IDREF w_IDREFS w_ENTITY w_ENTITIES w_NMTOKEN w_NMTOKENS w_NOTATION w_ENUMERATION))])) rfl rfl (hb hby at_135) _ ?_
      show Steps p.tables e below (T80.setTop (mkF m 136 #[.val (.int p0), .val (.ref b1), .val (.ref b22), .val (.int (6 : Int32))] [(.int (0 : Int32)), (.int (own_f1 w_NMTOKEN w_CDATA w_ID w_IDREF w_IDREFS w_ENTITY w_ENTITIES w_NMTOKEN w_NMTOKENS w_NOTATION w_ENUMERATION))])) _
      refine XS.icmpNo X80.here hx rfl (hb hby at_136) rfl (teq (own_p_NMTOKEN w_CDATA w_ID w_IDREF w_IDREFS w_ENTITY w_ENTITIES w_NMTOKEN w_NMTOKENS w_NOTATION w_ENUMERATION hG)).2 ?_
      show Steps p.tables e below (T80.setTop (mkF m 139 #[.val (.int p0), .val (.ref b1), .val (.ref b22), .val (.int (6 : Int32))] [])) _
      refine XS.iconst X80.here hx rfl (hb hby at_139) ?_
      show Steps p.tables e below (T80.setTop (mkF m 140 #[.val (.int p0), .val (.ref b1), .val (.ref b22), .val (.int (6 : Int32))] [(.int (1 : Int32))])) _
      refine XS.goto X80.here hx rfl (pc0 := 140) (pc' := 144) rfl (hb hby at_140) (by decide) (by decide) ?_
      exact k
    obtain ⟨fs, hr, hrun, hended, hW, hsame⟩ := X80.leave (v := some (.int (1 : Int32))) (fun h => by rw [Bd.returns] at h; cases h)
    refine ⟨_, _, k82 _ ?_, hrun, hended, _, _, rfl, ?_, ⟨_, rfl⟩, hW, hsame.mono (by decide) (by decide)⟩
    · exact retN X80 hx (t := .boolean) Bd.returns (by simp) (hb hby at_144) hr
    · show own_R (some (.int 1)) n0 _ T80.heap _
      rw [e80]
      exact ⟨rfl, N80⟩
  · have k83 : ∀ t, Steps p.tables e below (T32.setTop (mkF m 127 #[.val (.int p0), .val (.ref b1), .val (.ref b22), .val (.int (7 : Int32))] [])) t → Steps p.tables e below (s₁.setTop (entryFrame m #[(.int p0)] maxLocals)) t := by
      intro t k
      refine k33 _ ?_
      rw [hk]
      exact k
    have k85 : ∀ t, Steps p.tables e below (T32.setTop (mkF m 130 #[.val (.int p0), .val (.ref b1), .val (.ref b22), .val (.int (7 : Int32))] [(.ref w_NMTOKENS)])) t → Steps p.tables e below (s₁.setTop (entryFrame m #[(.int p0)] maxLocals)) t := by
      intro t k
      refine k83 _ ?_
      show Steps p.tables e below (T32.setTop (mkF m 127 #[.val (.int p0), .val (.ref b1), .val (.ref b22), .val (.int (7 : Int32))] [])) _
      refine XS.aloadN X32.here hx rfl (hb hby at_127) rfl rfl ?_
      show Steps p.tables e below (T32.setTop (mkF m 128 #[.val (.int p0), .val (.ref b1), .val (.ref b22), .val (.int (7 : Int32))] [(.ref b1)])) _
      refine XS.iloadN X32.here hx rfl (hb hby at_128) rfl ?_
      show Steps p.tables e below (T32.setTop (mkF m 129 #[.val (.int p0), .val (.ref b1), .val (.ref b22), .val (.int (7 : Int32))] [(.int (7 : Int32)), (.ref b1)])) _
      obtain ⟨cl_84, Ar_84, q_84, S_84, N_84, H_84, G_84⟩ := id V_b1
      have hin_84 : ¬ ((7 : Int32) < 0 ∨ cl_84.slots.size ≤ ((7 : Int32)).toNatClampNeg) := inb_of S_84 ⟨by decide, by decide⟩
      refine X32.aaload hx (j := (7 : Int32)) (v := (.ref w_NMTOKENS)) (by rw [e32]; exact Ar_84.1) (State.isArrayOf_alike hZ.alike Ar_84.2.1) rfl Ar_84.2.2 hin_84 (Has.at H_84 hin_84 rfl) (g := (mkF m 129 #[.val (.int p0), .val (.ref b1), .val (.ref b22), .val (.int (7 : Int32))] [(.int (7 : Int32)), (.ref b1)])) rfl rfl (hb hby at_129) _ ?_
      exact k
    obtain ⟨Lz86, Xz86, Nz86⟩ : ∃ Lz, Stand p l e room_1 s m #[(.int p0)] below meth c T32 Lz 2 20 ∧ Fr n0 Lz := ⟨_, X32, N32⟩
    obtain ⟨cq87, kq87, q87a, q87b, q87c⟩ := isOf hZ e32 (E_NMTOKENS.ext O0.2)
    obtain ⟨_, _, ⟨T87, L87, k87_, n87⟩, -, X87, ⟨Lc87, hQ87, l87, y87, z87⟩, st87⟩ := Xz86.virtualBack hx (y := (⟨"com/example/infoset_reader/infosetreader/AttributeType", "namesItems", "()Z"⟩ : MethodName)) (z := (⟨"com/example/infoset_reader/infosetreader/AttributeType", "namesItems", "()Z"⟩ : MethodName)) hown (mvT hZ (hw _ (List.mem_of_getElem? (i := 26) rfl))) (mvT hZ (hw _ (List.mem_of_getElem? (i := 27) rfl))) (notFace_of_selects (args := #[]) (mvT hZ (hw _ (List.mem_of_getElem? (i := 29) rfl)))) (mvT hZ (hw _ (List.mem_of_getElem? (i := 29) rfl))) (mvT hZ (hw _ (List.mem_of_getElem? (i := 28) rfl))) (by decide) (backOf (W := 0) (rm1 l Z a0 hw [] w_NMTOKENS w_CDATA w_ID w_IDREF w_IDREFS w_ENTITY w_ENTITIES w_NMTOKEN w_NMTOKENS w_NOTATION w_ENUMERATION h32 n0 hG O0) hZ (hw _ (List.mem_of_getElem? (i := 30) rfl)) (hw _ (List.mem_of_getElem? (i := 3) rfl)) (by decide) (by decide)) q87a q87c (g := (mkF m 130 #[.val (.int p0), .val (.ref b1), .val (.ref b22), .val (.int (7 : Int32))] [(.ref w_NMTOKENS)])) rfl (by rw [hml]; rfl) (Steps.refl _) (argsL := []) (rest := []) (lenOf pd_0 rfl) rfl (by show 2 * 0 + _ ≤ _; exact Nat.le_of_eq rfl) (hb hby at_130) (fun _ _ => ⟨rfl, e32, (by decide : 2 + 0 ≤ _), (by decide : 20 + 0 ≤ _)⟩)
    dsimp only [Pt.U, Pt.locs, Pt.cells, Pt.slots] at X87 l87 y87 z87 st87 hQ87
    subst l87 y87 z87
    obtain ⟨rfl, Nq87, e87⟩ := hQ87
    have N87 := Fr.app Nz86 Nq87
    have k89 : ∀ t, Steps p.tables e below (T87.setTop (mkF m 144 #[.val (.int p0), .val (.ref b1), .val (.ref b22), .val (.int (7 : Int32))] [(.int (1 : Int32))])) t → Steps p.tables e below (s₁.setTop (entryFrame m #[(.int p0)] maxLocals)) t := by
      intro t k
      refine k85 _ ?_
      show Steps p.tables e below (T32.setTop (mkF m 130 #[.val (.int p0), .val (.ref b1), .val (.ref b22), .val (.int (7 : Int32))] [(.ref w_NMTOKENS)])) _
      refine st87.trans ?_
      show Steps p.tables e below (T87.setTop (mkF m 133 #[.val (.int p0), .val (.ref b1), .val (.ref b22), .val (.int (7 : Int32))] [(.int (own_f1 w_NMTOKENS w_CDATA w_ID w_IDREF w_IDREFS w_ENTITY w_ENTITIES w_NMTOKEN w_NMTOKENS w_NOTATION w_ENUMERATION))])) _
      refine XS.aloadN X87.here hx rfl (hb hby at_133) rfl rfl ?_
      show Steps p.tables e below (T87.setTop (mkF m 134 #[.val (.int p0), .val (.ref b1), .val (.ref b22), .val (.int (7 : Int32))] [(.ref b22), (.int (own_f1 w_NMTOKENS w_CDATA w_ID w_IDREF w_IDREFS w_ENTITY w_ENTITIES w_NMTOKEN w_NMTOKENS w_NOTATION w_ENUMERATION))])) _
      refine XS.iloadN X87.here hx rfl (hb hby at_134) rfl ?_
      show Steps p.tables e below (T87.setTop (mkF m 135 #[.val (.int p0), .val (.ref b1), .val (.ref b22), .val (.int (7 : Int32))] [(.int (7 : Int32)), (.ref b22), (.int (own_f1 w_NMTOKENS w_CDATA w_ID w_IDREF w_IDREFS w_ENTITY w_ENTITIES w_NMTOKEN w_NMTOKENS w_NOTATION w_ENUMERATION))])) _
      obtain ⟨cl_88, Ar_88, q_88, S_88, N_88, H_88, G_88⟩ := id V_b22
      have hin_88 : ¬ ((7 : Int32) < 0 ∨ cl_88.slots.size ≤ ((7 : Int32)).toNatClampNeg) := inb_of S_88 ⟨by decide, by decide⟩
      refine X87.baloadBooleans hx (j := (7 : Int32)) (v := (.int (0 : Int32))) (by rw [e87]; exact Ar_88.1) (State.isArrayOf_alike hZ.alike Ar_88.2.1) Ar_88.2.2 hin_88 (Has.at H_88 hin_88 rfl) (g := (mkF m 135 #[.val (.int p0), .val (.ref b1), .val (.ref b22), .val (.int (7 : Int32))] [(.int (7 : Int32)), (.ref b22), (.int (own_f1 w_NMTOKENS w_CDATA w_ID w_IDREF w_IDREFS w_ENTITY w_ENTITIES w_NMTOKEN w_NMTOKENS w_NOTATION w_ENUMERATION))])) rfl rfl (hb hby at_135) _ ?_
      show Steps p.tables e below (T87.setTop (mkF m 136 #[.val (.int p0), .val (.ref b1), .val (.ref b22), .val (.int (7 : Int32))] [(.int (0 : Int32)), (.int (own_f1 w_NMTOKENS w_CDATA w_ID w_IDREF w_IDREFS w_ENTITY w_ENTITIES w_NMTOKEN w_NMTOKENS w_NOTATION w_ENUMERATION))])) _
      refine XS.icmpNo X87.here hx rfl (hb hby at_136) rfl (teq (own_p_NMTOKENS w_CDATA w_ID w_IDREF w_IDREFS w_ENTITY w_ENTITIES w_NMTOKEN w_NMTOKENS w_NOTATION w_ENUMERATION hG)).2 ?_
      show Steps p.tables e below (T87.setTop (mkF m 139 #[.val (.int p0), .val (.ref b1), .val (.ref b22), .val (.int (7 : Int32))] [])) _
      refine XS.iconst X87.here hx rfl (hb hby at_139) ?_
      show Steps p.tables e below (T87.setTop (mkF m 140 #[.val (.int p0), .val (.ref b1), .val (.ref b22), .val (.int (7 : Int32))] [(.int (1 : Int32))])) _
      refine XS.goto X87.here hx rfl (pc0 := 140) (pc' := 144) rfl (hb hby at_140) (by decide) (by decide) ?_
      exact k
    obtain ⟨fs, hr, hrun, hended, hW, hsame⟩ := X87.leave (v := some (.int (1 : Int32))) (fun h => by rw [Bd.returns] at h; cases h)
    refine ⟨_, _, k89 _ ?_, hrun, hended, _, _, rfl, ?_, ⟨_, rfl⟩, hW, hsame.mono (by decide) (by decide)⟩
    · exact retN X87 hx (t := .boolean) Bd.returns (by simp) (hb hby at_144) hr
    · show own_R (some (.int 1)) n0 _ T87.heap _
      rw [e87]
      exact ⟨rfl, N87⟩
  · have k90 : ∀ t, Steps p.tables e below (T32.setTop (mkF m 127 #[.val (.int p0), .val (.ref b1), .val (.ref b22), .val (.int (8 : Int32))] [])) t → Steps p.tables e below (s₁.setTop (entryFrame m #[(.int p0)] maxLocals)) t := by
      intro t k
      refine k33 _ ?_
      rw [hk]
      exact k
    have k92 : ∀ t, Steps p.tables e below (T32.setTop (mkF m 130 #[.val (.int p0), .val (.ref b1), .val (.ref b22), .val (.int (8 : Int32))] [(.ref w_NOTATION)])) t → Steps p.tables e below (s₁.setTop (entryFrame m #[(.int p0)] maxLocals)) t := by
      intro t k
      refine k90 _ ?_
      show Steps p.tables e below (T32.setTop (mkF m 127 #[.val (.int p0), .val (.ref b1), .val (.ref b22), .val (.int (8 : Int32))] [])) _
      refine XS.aloadN X32.here hx rfl (hb hby at_127) rfl rfl ?_
      show Steps p.tables e below (T32.setTop (mkF m 128 #[.val (.int p0), .val (.ref b1), .val (.ref b22), .val (.int (8 : Int32))] [(.ref b1)])) _
      refine XS.iloadN X32.here hx rfl (hb hby at_128) rfl ?_
      show Steps p.tables e below (T32.setTop (mkF m 129 #[.val (.int p0), .val (.ref b1), .val (.ref b22), .val (.int (8 : Int32))] [(.int (8 : Int32)), (.ref b1)])) _
      obtain ⟨cl_91, Ar_91, q_91, S_91, N_91, H_91, G_91⟩ := id V_b1
      have hin_91 : ¬ ((8 : Int32) < 0 ∨ cl_91.slots.size ≤ ((8 : Int32)).toNatClampNeg) := inb_of S_91 ⟨by decide, by decide⟩
      refine X32.aaload hx (j := (8 : Int32)) (v := (.ref w_NOTATION)) (by rw [e32]; exact Ar_91.1) (State.isArrayOf_alike hZ.alike Ar_91.2.1) rfl Ar_91.2.2 hin_91 (Has.at H_91 hin_91 rfl) (g := (mkF m 129 #[.val (.int p0), .val (.ref b1), .val (.ref b22), .val (.int (8 : Int32))] [(.int (8 : Int32)), (.ref b1)])) rfl rfl (hb hby at_129) _ ?_
      exact k
    obtain ⟨Lz93, Xz93, Nz93⟩ : ∃ Lz, Stand p l e room_1 s m #[(.int p0)] below meth c T32 Lz 2 20 ∧ Fr n0 Lz := ⟨_, X32, N32⟩
    obtain ⟨cq94, kq94, q94a, q94b, q94c⟩ := isOf hZ e32 (E_NOTATION.ext O0.2)
    obtain ⟨_, _, ⟨T94, L94, k94_, n94⟩, -, X94, ⟨Lc94, hQ94, l94, y94, z94⟩, st94⟩ := Xz93.virtualBack hx (y := (⟨"com/example/infoset_reader/infosetreader/AttributeType", "namesItems", "()Z"⟩ : MethodName)) (z := (⟨"com/example/infoset_reader/infosetreader/AttributeType", "namesItems", "()Z"⟩ : MethodName)) hown (mvT hZ (hw _ (List.mem_of_getElem? (i := 26) rfl))) (mvT hZ (hw _ (List.mem_of_getElem? (i := 27) rfl))) (notFace_of_selects (args := #[]) (mvT hZ (hw _ (List.mem_of_getElem? (i := 29) rfl)))) (mvT hZ (hw _ (List.mem_of_getElem? (i := 29) rfl))) (mvT hZ (hw _ (List.mem_of_getElem? (i := 28) rfl))) (by decide) (backOf (W := 0) (rm1 l Z a0 hw [] w_NOTATION w_CDATA w_ID w_IDREF w_IDREFS w_ENTITY w_ENTITIES w_NMTOKEN w_NMTOKENS w_NOTATION w_ENUMERATION h32 n0 hG O0) hZ (hw _ (List.mem_of_getElem? (i := 30) rfl)) (hw _ (List.mem_of_getElem? (i := 3) rfl)) (by decide) (by decide)) q94a q94c (g := (mkF m 130 #[.val (.int p0), .val (.ref b1), .val (.ref b22), .val (.int (8 : Int32))] [(.ref w_NOTATION)])) rfl (by rw [hml]; rfl) (Steps.refl _) (argsL := []) (rest := []) (lenOf pd_0 rfl) rfl (by show 2 * 0 + _ ≤ _; exact Nat.le_of_eq rfl) (hb hby at_130) (fun _ _ => ⟨rfl, e32, (by decide : 2 + 0 ≤ _), (by decide : 20 + 0 ≤ _)⟩)
    dsimp only [Pt.U, Pt.locs, Pt.cells, Pt.slots] at X94 l94 y94 z94 st94 hQ94
    subst l94 y94 z94
    obtain ⟨rfl, Nq94, e94⟩ := hQ94
    have N94 := Fr.app Nz93 Nq94
    have k96 : ∀ t, Steps p.tables e below (T94.setTop (mkF m 144 #[.val (.int p0), .val (.ref b1), .val (.ref b22), .val (.int (8 : Int32))] [(.int (1 : Int32))])) t → Steps p.tables e below (s₁.setTop (entryFrame m #[(.int p0)] maxLocals)) t := by
      intro t k
      refine k92 _ ?_
      show Steps p.tables e below (T32.setTop (mkF m 130 #[.val (.int p0), .val (.ref b1), .val (.ref b22), .val (.int (8 : Int32))] [(.ref w_NOTATION)])) _
      refine st94.trans ?_
      show Steps p.tables e below (T94.setTop (mkF m 133 #[.val (.int p0), .val (.ref b1), .val (.ref b22), .val (.int (8 : Int32))] [(.int (own_f1 w_NOTATION w_CDATA w_ID w_IDREF w_IDREFS w_ENTITY w_ENTITIES w_NMTOKEN w_NMTOKENS w_NOTATION w_ENUMERATION))])) _
      refine XS.aloadN X94.here hx rfl (hb hby at_133) rfl rfl ?_
      show Steps p.tables e below (T94.setTop (mkF m 134 #[.val (.int p0), .val (.ref b1), .val (.ref b22), .val (.int (8 : Int32))] [(.ref b22), (.int (own_f1 w_NOTATION w_CDATA w_ID w_IDREF w_IDREFS w_ENTITY w_ENTITIES w_NMTOKEN w_NMTOKENS w_NOTATION w_ENUMERATION))])) _
      refine XS.iloadN X94.here hx rfl (hb hby at_134) rfl ?_
      show Steps p.tables e below (T94.setTop (mkF m 135 #[.val (.int p0), .val (.ref b1), .val (.ref b22), .val (.int (8 : Int32))] [(.int (8 : Int32)), (.ref b22), (.int (own_f1 w_NOTATION w_CDATA w_ID w_IDREF w_IDREFS w_ENTITY w_ENTITIES w_NMTOKEN w_NMTOKENS w_NOTATION w_ENUMERATION))])) _
      obtain ⟨cl_95, Ar_95, q_95, S_95, N_95, H_95, G_95⟩ := id V_b22
      have hin_95 : ¬ ((8 : Int32) < 0 ∨ cl_95.slots.size ≤ ((8 : Int32)).toNatClampNeg) := inb_of S_95 ⟨by decide, by decide⟩
      refine X94.baloadBooleans hx (j := (8 : Int32)) (v := (.int (1 : Int32))) (by rw [e94]; exact Ar_95.1) (State.isArrayOf_alike hZ.alike Ar_95.2.1) Ar_95.2.2 hin_95 (Has.at H_95 hin_95 rfl) (g := (mkF m 135 #[.val (.int p0), .val (.ref b1), .val (.ref b22), .val (.int (8 : Int32))] [(.int (8 : Int32)), (.ref b22), (.int (own_f1 w_NOTATION w_CDATA w_ID w_IDREF w_IDREFS w_ENTITY w_ENTITIES w_NMTOKEN w_NMTOKENS w_NOTATION w_ENUMERATION))])) rfl rfl (hb hby at_135) _ ?_
      show Steps p.tables e below (T94.setTop (mkF m 136 #[.val (.int p0), .val (.ref b1), .val (.ref b22), .val (.int (8 : Int32))] [(.int (1 : Int32)), (.int (own_f1 w_NOTATION w_CDATA w_ID w_IDREF w_IDREFS w_ENTITY w_ENTITIES w_NMTOKEN w_NMTOKENS w_NOTATION w_ENUMERATION))])) _
      refine XS.icmpNo X94.here hx rfl (hb hby at_136) rfl (teq (own_p_NOTATION w_CDATA w_ID w_IDREF w_IDREFS w_ENTITY w_ENTITIES w_NMTOKEN w_NMTOKENS w_NOTATION w_ENUMERATION hG)).2 ?_
      show Steps p.tables e below (T94.setTop (mkF m 139 #[.val (.int p0), .val (.ref b1), .val (.ref b22), .val (.int (8 : Int32))] [])) _
      refine XS.iconst X94.here hx rfl (hb hby at_139) ?_
      show Steps p.tables e below (T94.setTop (mkF m 140 #[.val (.int p0), .val (.ref b1), .val (.ref b22), .val (.int (8 : Int32))] [(.int (1 : Int32))])) _
      refine XS.goto X94.here hx rfl (pc0 := 140) (pc' := 144) rfl (hb hby at_140) (by decide) (by decide) ?_
      exact k
    obtain ⟨fs, hr, hrun, hended, hW, hsame⟩ := X94.leave (v := some (.int (1 : Int32))) (fun h => by rw [Bd.returns] at h; cases h)
    refine ⟨_, _, k96 _ ?_, hrun, hended, _, _, rfl, ?_, ⟨_, rfl⟩, hW, hsame.mono (by decide) (by decide)⟩
    · exact retN X94 hx (t := .boolean) Bd.returns (by simp) (hb hby at_144) hr
    · show own_R (some (.int 1)) n0 _ T94.heap _
      rw [e94]
      exact ⟨rfl, N94⟩
  · have k97 : ∀ t, Steps p.tables e below (T32.setTop (mkF m 127 #[.val (.int p0), .val (.ref b1), .val (.ref b22), .val (.int (9 : Int32))] [])) t → Steps p.tables e below (s₁.setTop (entryFrame m #[(.int p0)] maxLocals)) t := by
      intro t k
      refine k33 _ ?_
      rw [hk]
      exact k
    have k99 : ∀ t, Steps p.tables e below (T32.setTop (mkF m 130 #[.val (.int p0), .val (.ref b1), .val (.ref b22), .val (.int (9 : Int32))] [(.ref w_ENUMERATION)])) t → Steps p.tables e below (s₁.setTop (entryFrame m #[(.int p0)] maxLocals)) t := by
      intro t k
      refine k97 _ ?_
      show Steps p.tables e below (T32.setTop (mkF m 127 #[.val (.int p0), .val (.ref b1), .val (.ref b22), .val (.int (9 : Int32))] [])) _
      refine XS.aloadN X32.here hx rfl (hb hby at_127) rfl rfl ?_
      show Steps p.tables e below (T32.setTop (mkF m 128 #[.val (.int p0), .val (.ref b1), .val (.ref b22), .val (.int (9 : Int32))] [(.ref b1)])) _
      refine XS.iloadN X32.here hx rfl (hb hby at_128) rfl ?_
      show Steps p.tables e below (T32.setTop (mkF m 129 #[.val (.int p0), .val (.ref b1), .val (.ref b22), .val (.int (9 : Int32))] [(.int (9 : Int32)), (.ref b1)])) _
      obtain ⟨cl_98, Ar_98, q_98, S_98, N_98, H_98, G_98⟩ := id V_b1
      have hin_98 : ¬ ((9 : Int32) < 0 ∨ cl_98.slots.size ≤ ((9 : Int32)).toNatClampNeg) := inb_of S_98 ⟨by decide, by decide⟩
      refine X32.aaload hx (j := (9 : Int32)) (v := (.ref w_ENUMERATION)) (by rw [e32]; exact Ar_98.1) (State.isArrayOf_alike hZ.alike Ar_98.2.1) rfl Ar_98.2.2 hin_98 (Has.at H_98 hin_98 rfl) (g := (mkF m 129 #[.val (.int p0), .val (.ref b1), .val (.ref b22), .val (.int (9 : Int32))] [(.int (9 : Int32)), (.ref b1)])) rfl rfl (hb hby at_129) _ ?_
      exact k
    obtain ⟨Lz100, Xz100, Nz100⟩ : ∃ Lz, Stand p l e room_1 s m #[(.int p0)] below meth c T32 Lz 2 20 ∧ Fr n0 Lz := ⟨_, X32, N32⟩
    obtain ⟨cq101, kq101, q101a, q101b, q101c⟩ := isOf hZ e32 (E_ENUMERATION.ext O0.2)
    obtain ⟨_, _, ⟨T101, L101, k101_, n101⟩, -, X101, ⟨Lc101, hQ101, l101, y101, z101⟩, st101⟩ := Xz100.virtualBack hx (y := (⟨"com/example/infoset_reader/infosetreader/AttributeType", "namesItems", "()Z"⟩ : MethodName)) (z := (⟨"com/example/infoset_reader/infosetreader/AttributeType", "namesItems", "()Z"⟩ : MethodName)) hown (mvT hZ (hw _ (List.mem_of_getElem? (i := 26) rfl))) (mvT hZ (hw _ (List.mem_of_getElem? (i := 27) rfl))) (notFace_of_selects (args := #[]) (mvT hZ (hw _ (List.mem_of_getElem? (i := 29) rfl)))) (mvT hZ (hw _ (List.mem_of_getElem? (i := 29) rfl))) (mvT hZ (hw _ (List.mem_of_getElem? (i := 28) rfl))) (by decide) (backOf (W := 0) (rm1 l Z a0 hw [] w_ENUMERATION w_CDATA w_ID w_IDREF w_IDREFS w_ENTITY w_ENTITIES w_NMTOKEN w_NMTOKENS w_NOTATION w_ENUMERATION h32 n0 hG O0) hZ (hw _ (List.mem_of_getElem? (i := 30) rfl)) (hw _ (List.mem_of_getElem? (i := 3) rfl)) (by decide) (by decide)) q101a q101c (g := (mkF m 130 #[.val (.int p0), .val (.ref b1), .val (.ref b22), .val (.int (9 : Int32))] [(.ref w_ENUMERATION)])) rfl (by rw [hml]; rfl) (Steps.refl _) (argsL := []) (rest := []) (lenOf pd_0 rfl) rfl (by show 2 * 0 + _ ≤ _; exact Nat.le_of_eq rfl) (hb hby at_130) (fun _ _ => ⟨rfl, e32, (by decide : 2 + 0 ≤ _), (by decide : 20 + 0 ≤ _)⟩)
    dsimp only [Pt.U, Pt.locs, Pt.cells, Pt.slots] at X101 l101 y101 z101 st101 hQ101
    subst l101 y101 z101
    obtain ⟨rfl, Nq101, e101⟩ := hQ101
    have N101 := Fr.app Nz100 Nq101
    have k103 : ∀ t, Steps p.tables e below (T101.setTop (mkF m 144 #[.val (.int p0), .val (.ref b1), .val (.ref b22), .val (.int (9 : Int32))] [(.int (1 : Int32))])) t → Steps p.tables e below (s₁.setTop (entryFrame m #[(.int p0)] maxLocals)) t := by
      intro t k
      refine k99 _ ?_
      show Steps p.tables e below (T32.setTop (mkF m 130 #[.val (.int p0), .val (.ref b1), .val (.ref b22), .val (.int (9 : Int32))] [(.ref w_ENUMERATION)])) _
      refine st101.trans ?_
      show Steps p.tables e below (T101.setTop (mkF m 133 #[.val (.int p0), .val (.ref b1), .val (.ref b22), .val (.int (9 : Int32))] [(.int (own_f1 w_ENUMERATION w_CDATA w_ID w_IDREF w_IDREFS w_ENTITY w_ENTITIES w_NMTOKEN w_NMTOKENS w_NOTATION w_ENUMERATION))])) _
      refine XS.aloadN X101.here hx rfl (hb hby at_133) rfl rfl ?_
      show Steps p.tables e below (T101.setTop (mkF m 134 #[.val (.int p0), .val (.ref b1), .val (.ref b22), .val (.int (9 : Int32))] [(.ref b22), (.int (own_f1 w_ENUMERATION w_CDATA w_ID w_IDREF w_IDREFS w_ENTITY w_ENTITIES w_NMTOKEN w_NMTOKENS w_NOTATION w_ENUMERATION))])) _
      refine XS.iloadN X101.here hx rfl (hb hby at_134) rfl ?_
      show Steps p.tables e below (T101.setTop (mkF m 135 #[.val (.int p0), .val (.ref b1), .val (.ref b22), .val (.int (9 : Int32))] [(.int (9 : Int32)), (.ref b22), (.int (own_f1 w_ENUMERATION w_CDATA w_ID w_IDREF w_IDREFS w_ENTITY w_ENTITIES w_NMTOKEN w_NMTOKENS w_NOTATION w_ENUMERATION))])) _
      obtain ⟨cl_102, Ar_102, q_102, S_102, N_102, H_102, G_102⟩ := id V_b22
      have hin_102 : ¬ ((9 : Int32) < 0 ∨ cl_102.slots.size ≤ ((9 : Int32)).toNatClampNeg) := inb_of S_102 ⟨by decide, by decide⟩
      refine X101.baloadBooleans hx (j := (9 : Int32)) (v := (.int (0 : Int32))) (by rw [e101]; exact Ar_102.1) (State.isArrayOf_alike hZ.alike Ar_102.2.1) Ar_102.2.2 hin_102 (Has.at H_102 hin_102 rfl) (g := (mkF m 135 #[.val (.int p0), .val (.ref b1), .val (.ref b22), .val (.int (9 : Int32))] [(.int (9 : Int32)), (.ref b22), (.int (own_f1 w_ENUMERATION w_CDATA w_ID w_IDREF w_IDREFS w_ENTITY w_ENTITIES w_NMTOKEN w_NMTOKENS w_NOTATION w_ENUMERATION))])) rfl rfl (hb hby at_135) _ ?_
      show Steps p.tables e below (T101.setTop (mkF m 136 #[.val (.int p0), .val (.ref b1), .val (.ref b22), .val (.int (9 : Int32))] [(.int (0 : Int32)), (.int (own_f1 w_ENUMERATION w_CDATA w_ID w_IDREF w_IDREFS w_ENTITY w_ENTITIES w_NMTOKEN w_NMTOKENS w_NOTATION w_ENUMERATION))])) _
      refine XS.icmpNo X101.here hx rfl (hb hby at_136) rfl (teq (own_p_ENUMERATION w_CDATA w_ID w_IDREF w_IDREFS w_ENTITY w_ENTITIES w_NMTOKEN w_NMTOKENS w_NOTATION w_ENUMERATION hG)).2 ?_
      show Steps p.tables e below (T101.setTop (mkF m 139 #[.val (.int p0), .val (.ref b1), .val (.ref b22), .val (.int (9 : Int32))] [])) _
      refine XS.iconst X101.here hx rfl (hb hby at_139) ?_
      show Steps p.tables e below (T101.setTop (mkF m 140 #[.val (.int p0), .val (.ref b1), .val (.ref b22), .val (.int (9 : Int32))] [(.int (1 : Int32))])) _
      refine XS.goto X101.here hx rfl (pc0 := 140) (pc' := 144) rfl (hb hby at_140) (by decide) (by decide) ?_
      exact k
    obtain ⟨fs, hr, hrun, hended, hW, hsame⟩ := X101.leave (v := some (.int (1 : Int32))) (fun h => by rw [Bd.returns] at h; cases h)
    refine ⟨_, _, k103 _ ?_, hrun, hended, _, _, rfl, ?_, ⟨_, rfl⟩, hW, hsame.mono (by decide) (by decide)⟩
    · exact retN X101 hx (t := .boolean) Bd.returns (by simp) (hb hby at_144) hr
    · show own_R (some (.int 1)) n0 _ T101.heap _
      rw [e101]
      exact ⟨rfl, N101⟩
set_option maxRecDepth 65536 in
set_option maxHeartbeats 40000000 in
theorem comes_1 {Post : Tables → Env → Array Value → State → Outcome → State → Prop} (hpost : ∀ tb e args s v u, (limb_1_1.after args s (.returned v) u = true ∧ limb_1_2.after args s (.returned v) u = true ∧ True) → FrameEnd s (.returned v) u (Jvm.fieldLocs frame_1_writes args s ++ Jvm.arrayLocs frame_1_arrays args s ++ Jvm.staticLocs frame_1_statics s) 16 128 → Post tb e args s (.returned v) u) :
    ArmFor flags0 classFile x code maxLocals ret World_1 tables_1 room_1 Calls_1 rest_1 Pre_1 Post := by
  intro l hfl _ _ p e ha hc hk s m args below hf hA hF happ hP
  obtain ⟨hcalls, hrest, hpre⟩ := hP
  obtain ⟨-, -, -, hnamed, -, -, -, hat⟩ := (Spec.applies_iff hf).mp happ
  obtain ⟨hg, hn⟩ := and_e (Cond.before_iff.mp (show (Jvm.Cond.and given_1 narrow_1).before args s = true from hpre))
  obtain ⟨g0a, g0b⟩ := and_e hg
  obtain ⟨w0, rfl⟩ : ∃ w0 : Value, args = #[w0] := by
    have hs : args.size = 1 := by simpa [Cond.value, given_1] using g0a
    obtain ⟨L⟩ := args
    match L, hs with
    | [w0], _ => exact ⟨w0, rfl⟩
  have hw := fun d (hd : d ∈ tables_1) => atoms_spec (ws := Jvm.Cond.code x code maxLocals ret :: tables_1) hat d (List.mem_cons_of_mem _ hd)
  have hfit : Fit s := fun {y c} hc i hi => by
    obtain ⟨ha, rfl⟩ := Array.getElem?_eq_some_iff.mp hc
    have q := List.all_eq_true.mp ((Array.all_eq_true_iff_forall_mem.mp hF) _ (Array.getElem_mem ha)) i (List.mem_range.mpr hi)
    simpa [Array.getElem?_eq_getElem hi] using q
  obtain ⟨i0, ei0⟩ := is_v g0b
  obtain rfl : w0 = (.int i0) := Option.some.inj ei0
  obtain ⟨nv0, nr0⟩ := and_e hn
  obtain ⟨nv1, nr1⟩ := and_e nr0
  obtain ⟨nv2, nr2⟩ := and_e nr1
  obtain ⟨nv3, nr3⟩ := and_e nr2
  obtain ⟨nv4, nr4⟩ := and_e nr3
  obtain ⟨nv5, nr5⟩ := and_e nr4
  obtain ⟨nv6, nr6⟩ := and_e nr5
  obtain ⟨nv7, nr7⟩ := and_e nr6
  obtain ⟨nv8, nr8⟩ := and_e nr7
  obtain ⟨nv9, nr9⟩ := and_e nr8
  obtain ⟨nv10, nr10⟩ := and_e nr9
  obtain ⟨nv11, nr11⟩ := and_e nr10
  obtain ⟨nv12, nr12⟩ := and_e nr11
  obtain ⟨nv13, nr13⟩ := and_e nr12
  obtain ⟨nv14, nr14⟩ := and_e nr13
  obtain ⟨nv15, nr15⟩ := and_e nr14
  obtain ⟨nv16, nr16⟩ := and_e nr15
  obtain ⟨nv17, nr17⟩ := and_e nr16
  obtain ⟨nv18, nr18⟩ := and_e nr17
  have nv19 := nr18
  obtain ⟨w_CDATA, ew_CDATA⟩ := exa_v nv0
  have E_CDATA := Exa.start ew_CDATA nv0
  have S_CDATA := Sta.start ew_CDATA (Or.inr ⟨(hw _ (List.mem_of_getElem? (i := 3) rfl)), (hw _ (List.mem_of_getElem? (i := 4) rfl))⟩)
  obtain ⟨w_ID, ew_ID⟩ := exa_v nv1
  have E_ID := Exa.start ew_ID nv1
  have S_ID := Sta.start ew_ID (Or.inr ⟨(hw _ (List.mem_of_getElem? (i := 3) rfl)), (hw _ (List.mem_of_getElem? (i := 7) rfl))⟩)
  obtain ⟨w_IDREF, ew_IDREF⟩ := exa_v nv2
  have E_IDREF := Exa.start ew_IDREF nv2
  have S_IDREF := Sta.start ew_IDREF (Or.inr ⟨(hw _ (List.mem_of_getElem? (i := 3) rfl)), (hw _ (List.mem_of_getElem? (i := 9) rfl))⟩)
  obtain ⟨w_IDREFS, ew_IDREFS⟩ := exa_v nv3
  have E_IDREFS := Exa.start ew_IDREFS nv3
  have S_IDREFS := Sta.start ew_IDREFS (Or.inr ⟨(hw _ (List.mem_of_getElem? (i := 3) rfl)), (hw _ (List.mem_of_getElem? (i := 11) rfl))⟩)
  obtain ⟨w_ENTITY, ew_ENTITY⟩ := exa_v nv4
  have E_ENTITY := Exa.start ew_ENTITY nv4
  have S_ENTITY := Sta.start ew_ENTITY (Or.inr ⟨(hw _ (List.mem_of_getElem? (i := 3) rfl)), (hw _ (List.mem_of_getElem? (i := 13) rfl))⟩)
  obtain ⟨w_ENTITIES, ew_ENTITIES⟩ := exa_v nv5
  have E_ENTITIES := Exa.start ew_ENTITIES nv5
  have S_ENTITIES := Sta.start ew_ENTITIES (Or.inr ⟨(hw _ (List.mem_of_getElem? (i := 3) rfl)), (hw _ (List.mem_of_getElem? (i := 15) rfl))⟩)
  obtain ⟨w_NMTOKEN, ew_NMTOKEN⟩ := exa_v nv6
  have E_NMTOKEN := Exa.start ew_NMTOKEN nv6
  have S_NMTOKEN := Sta.start ew_NMTOKEN (Or.inr ⟨(hw _ (List.mem_of_getElem? (i := 3) rfl)), (hw _ (List.mem_of_getElem? (i := 17) rfl))⟩)
  obtain ⟨w_NMTOKENS, ew_NMTOKENS⟩ := exa_v nv7
  have E_NMTOKENS := Exa.start ew_NMTOKENS nv7
  have S_NMTOKENS := Sta.start ew_NMTOKENS (Or.inr ⟨(hw _ (List.mem_of_getElem? (i := 3) rfl)), (hw _ (List.mem_of_getElem? (i := 19) rfl))⟩)
  obtain ⟨w_NOTATION, ew_NOTATION⟩ := exa_v nv8
  have E_NOTATION := Exa.start ew_NOTATION nv8
  have S_NOTATION := Sta.start ew_NOTATION (Or.inr ⟨(hw _ (List.mem_of_getElem? (i := 3) rfl)), (hw _ (List.mem_of_getElem? (i := 21) rfl))⟩)
  obtain ⟨w_ENUMERATION, ew_ENUMERATION⟩ := exa_v nv9
  have E_ENUMERATION := Exa.start ew_ENUMERATION nv9
  have S_ENUMERATION := Sta.start ew_ENUMERATION (Or.inr ⟨(hw _ (List.mem_of_getElem? (i := 3) rfl)), (hw _ (List.mem_of_getElem? (i := 23) rfl))⟩)
  have F_CDATA_ordinal := own_fld ew_CDATA nv10
  have F_IDREF_ordinal := own_fld ew_IDREF nv11
  have F_IDREFS_ordinal := own_fld ew_IDREFS nv12
  have F_ENTITY_ordinal := own_fld ew_ENTITY nv13
  have F_ENTITIES_ordinal := own_fld ew_ENTITIES nv14
  have F_NOTATION_ordinal := own_fld ew_NOTATION nv15
  have F_ID_ordinal := own_fld ew_ID nv16
  have F_NMTOKENS_ordinal := own_fld ew_NMTOKENS nv17
  have F_ENUMERATION_ordinal := own_fld ew_ENUMERATION nv18
  have F_NMTOKEN_ordinal := own_fld ew_NMTOKEN nv19
  obtain ⟨n, o, h1, h2, h3, _, L, rfl, ⟨rfl, N⟩, hq⟩ := rm0 l s _ hw tables_1 i0 w_CDATA w_ID w_IDREF w_IDREFS w_ENTITY w_ENTITIES w_NMTOKEN w_NMTOKENS w_NOTATION w_ENUMERATION s.heap s.heap.size (⟨S_CDATA, E_CDATA, S_ID, E_ID, S_IDREF, E_IDREF, S_IDREFS, E_IDREFS, S_ENTITY, E_ENTITY, S_ENTITIES, E_ENTITIES, S_NMTOKEN, E_NMTOKEN, S_NMTOKENS, E_NMTOKENS, S_NOTATION, E_NOTATION, S_ENUMERATION, E_ENUMERATION, F_CDATA_ordinal, F_IDREF_ordinal, F_IDREFS_ordinal, F_ENTITY_ordinal, F_ENTITIES_ordinal, F_NOTATION_ordinal, F_ID_ordinal, F_NMTOKENS_ordinal, F_ENUMERATION_ordinal, F_NMTOKEN_ordinal⟩ : own_G s w_CDATA w_ID w_IDREF w_IDREFS w_ENTITY w_ENTITIES w_NMTOKEN w_NMTOKENS w_NOTATION w_ENUMERATION) (Old.start s) p e ha hc hk s m _ below hf ((Spec.applies_iff_loose hf).mp happ).1 ⟨rfl, State.Warmed39.refl s, rfl⟩ trivial
  refine ⟨n, _, h1, h2, h3, hpost _ _ _ _ _ _ ⟨Cond.after_iff.mpr rfl, Cond.after_iff.mpr (eq_i res_at (Term.int_eval (1)) rfl), trivial⟩ ⟨hq.1, hq.2.1, (hq.2.2.sift fun y hy => Or.inr (N y hy)).mono (by decide) (by decide)⟩⟩
theorem main_1_1 : Claimed_1_1 := comes_1 fun _ _ _ _ _ _ h hF => ⟨h.1, hF⟩
theorem main_1_2 : Claimed_1_2 := comes_1 fun _ _ _ _ _ _ h hF => ⟨h.2.1, hF⟩
end Jvm.Pilot.@@N@@
namespace Jvm.Pilot.@@N@@
open Jvm Jvm.ClassFile Sem Op Lib Jvm.Free Jvm.Stand Jvm.Pilot.@@N@@.Jvm.D
/-! MADE BY PROGRAM (witnessworld.py) out of the Statement's table words and the real class files: 15 classes; the members and pool entries that the words name. The judged class is class 1, her method 1. -/
namespace start1
open Jvm.ClassFile
def u (s : String) : CpInfo := .utf8 (stringToUtf16 s)
/-- a pool by its gaps: so many unusable entries, then the entry; so many at the end -/
def gap : Nat → List CpInfo → List CpInfo
  | 0, r => r
  | n + 1, r => .unusable :: gap n r
def poolList (es : List (Nat × CpInfo)) (last : Nat) : List CpInfo := es.foldr (fun e r => gap e.1 (e.2 :: r)) (gap last [])
def pool (es : List (Nat × CpInfo)) (last : Nat) : Array CpInfo := ⟨poolList es last⟩
def fileOf (pool : Array CpInfo) (this : Nat) (attrs : Array Attribute := #[]) (ms : Array MethodInfo := #[]) (fl : Nat := 33) (sup : Nat := 0) (ifs : Array Nat := #[]) (fds : Array FieldInfo := #[]) : ClassFile where
  minorVersion := 0
  majorVersion := 65
  constantPool := pool
  accessFlags := fl
  thisClass := this
  superClass := sup
  interfaces := ifs
  fields := fds
  methods := ms
  attributes := attrs
def plain (name : String) (sup : Option ClassId) : Class where
  name := name
  kind := .ordinary
  loader := none
  accessFlags := 33
  super := sup
  interfaces := #[]
  cf := none
  fields := #[]
  methods := #[]
  instanceTypes := #[]
  staticTypes := #[]
  resolved := #[]
  callSites := []
  init := .initialized
  statics := none
  mirror := none

def pool0 : Array CpInfo := pool [(5, u "<init>"), (0, u "()V"), (1, .class_ 10), (1, u "java/lang/Object")] 113

def k0m0 : Method := { name := "<init>", desc := "()V", sig := { parameters := [], returnType := none }, accessFlags := 1, code := none }
/-- java/lang/Object -/
def k0 : Class := { plain "java/lang/Object" none with
  accessFlags := 33
  interfaces := #[]
  cf := some (fileOf pool0 8 #[] #[{ accessFlags := 1, nameIndex := 5, descriptorIndex := 6, attributes := #[] }] 33 0 #[] #[])
  fields := #[]
  methods := #[k0m0]
  instanceTypes := #[]
  staticTypes := #[]
  resolved := Array.replicate 124 none
  statics := none }

def pool1 : Array CpInfo := pool [(2, .class_ 4), (1, u "java/lang/Object"), (0, u "<init>"), (0, u "()V"), (0, .class_ 8), (0, u "com/example/infoset_reader/infosetreader/AttributeType"), (0, .fieldref 7 10), (0, .nameAndType 11 12), (0, u "CDATA"), (0, u "Lcom/example/infoset_reader/infosetreader/AttributeType;"), (0, .fieldref 7 14), (0, .nameAndType 15 12), (0, u "ID"), (0, .fieldref 7 17), (0, .nameAndType 18 12), (0, u "IDREF"), (0, .fieldref 7 20), (0, .nameAndType 21 12), (0, u "IDREFS"), (0, .fieldref 7 23), (0, .nameAndType 24 12), (0, u "ENTITY"), (0, .fieldref 7 26), (0, .nameAndType 27 12), (0, u "ENTITIES"), (0, .fieldref 7 29), (0, .nameAndType 30 12), (0, u "NMTOKEN"), (0, .fieldref 7 32), (0, .nameAndType 33 12), (0, u "NMTOKENS"), (0, .fieldref 7 35), (0, .nameAndType 36 12), (0, u "NOTATION"), (0, .fieldref 7 38), (0, .nameAndType 39 12), (0, u "ENUMERATION"), (0, .integer 2147483647), (0, .methodref 7 42), (0, .nameAndType 43 44), (0, u "namesItems"), (0, u "()Z"), (0, .class_ 46), (0, u "com/example/infoset_reader/infosetreader/AttributeTypeNamesItemsPinLaw"), (2, u "law"), (0, u "(I)Z")] 7

def k1m0 : Method := { name := "<init>", desc := "()V", sig := { parameters := [], returnType := none }, accessFlags := 1, code := none }
def k1c1 : Code := { maxStack := 4, maxLocals := 4, code := code, exceptionTable := #[], attributes := #[] }
def k1m1 : Method := { name := "law", desc := "(I)Z", sig := { parameters := [.int], returnType := some .boolean }, accessFlags := 9, code := some k1c1 }
/-- com/example/infoset_reader/infosetreader/AttributeTypeNamesItemsPinLaw -/
def k1 : Class := { plain "com/example/infoset_reader/infosetreader/AttributeTypeNamesItemsPinLaw" (some 0) with
  accessFlags := 49
  interfaces := #[]
  cf := some (fileOf pool1 45 #[] #[{ accessFlags := 1, nameIndex := 5, descriptorIndex := 6, attributes := #[] }, { accessFlags := 9, nameIndex := 49, descriptorIndex := 50, attributes := #[] }] 49 2 #[] #[])
  fields := #[]
  methods := #[k1m0, k1m1]
  instanceTypes := #[]
  staticTypes := #[]
  resolved := Array.replicate 58 none
  statics := none }

def pool2 : Array CpInfo := pool [(1, .class_ 2), (0, u "java/lang/constant/Constable"), (0, .class_ 4), (0, u "java/lang/Object")] 6

/-- java/lang/constant/Constable -/
def k2 : Class := { plain "java/lang/constant/Constable" (some 0) with
  accessFlags := 1537
  interfaces := #[]
  cf := some (fileOf pool2 1 #[] #[] 1537 3 #[] #[])
  fields := #[]
  methods := #[]
  instanceTypes := #[]
  staticTypes := #[]
  resolved := Array.replicate 11 none
  statics := none }

def pool3 : Array CpInfo := pool [(1, .class_ 2), (0, u "java/lang/Comparable"), (0, .class_ 4), (0, u "java/lang/Object")] 7

/-- java/lang/Comparable -/
def k3 : Class := { plain "java/lang/Comparable" (some 0) with
  accessFlags := 1537
  interfaces := #[]
  cf := some (fileOf pool3 1 #[] #[] 1537 3 #[] #[])
  fields := #[]
  methods := #[]
  instanceTypes := #[]
  staticTypes := #[]
  resolved := Array.replicate 12 none
  statics := none }

def pool4 : Array CpInfo := pool [(1, .class_ 2), (0, u "java/io/Serializable"), (0, .class_ 4), (0, u "java/lang/Object")] 2

/-- java/io/Serializable -/
def k4 : Class := { plain "java/io/Serializable" (some 0) with
  accessFlags := 1537
  interfaces := #[]
  cf := some (fileOf pool4 1 #[] #[] 1537 3 #[] #[])
  fields := #[]
  methods := #[]
  instanceTypes := #[]
  staticTypes := #[]
  resolved := Array.replicate 7 none
  statics := none }

def pool5 : Array CpInfo := pool [(2, .class_ 4), (1, u "java/lang/Enum"), (0, u "name"), (0, u "Ljava/lang/String;"), (2, u "ordinal"), (0, u "I"), (1, .class_ 14), (1, u "java/lang/Object"), (4, u "hash"), (86, .class_ 108), (1, u "java/lang/Enum$EnumDesc"), (2, .class_ 112), (0, u "java/lang/constant/Constable"), (0, .class_ 114), (0, u "java/lang/Comparable"), (0, .class_ 116), (0, u "java/io/Serializable")] 87

/-- java/lang/Enum -/
def k5 : Class := { plain "java/lang/Enum" (some 0) with
  accessFlags := 1057
  interfaces := #[2, 3, 4]
  cf := some (fileOf pool5 2 #[.nestMembers #[106]] #[] 1057 12 #[111, 113, 115] #[{ accessFlags := 18, nameIndex := 5, descriptorIndex := 6, attributes := #[] }, { accessFlags := 18, nameIndex := 9, descriptorIndex := 10, attributes := #[] }, { accessFlags := 2, nameIndex := 19, descriptorIndex := 10, attributes := #[] }])
  fields := #[{ name := "name", type := (.object "java/lang/String"), accessFlags := 18, slot := 0, constantValue := 0 }, { name := "ordinal", type := .int, accessFlags := 18, slot := 1, constantValue := 0 }, { name := "hash", type := .int, accessFlags := 2, slot := 2, constantValue := 0 }]
  methods := #[]
  instanceTypes := #[(.object "java/lang/String"), .int, .int]
  staticTypes := #[]
  resolved := Array.replicate 204 none
  statics := none }

def pool6 : Array CpInfo := pool [(1, .class_ 2), (0, u "com/example/infoset_reader/infosetreader/AttributeType"), (2, u "CDATA"), (0, u "Lcom/example/infoset_reader/infosetreader/AttributeType;"), (2, u "ID"), (0, .fieldref 1 11), (0, .nameAndType 12 6), (0, u "IDREF"), (0, .fieldref 1 14), (0, .nameAndType 15 6), (0, u "IDREFS"), (0, .fieldref 1 17), (0, .nameAndType 18 6), (0, u "ENTITY"), (0, .fieldref 1 20), (0, .nameAndType 21 6), (0, u "ENTITIES"), (2, u "NMTOKEN"), (2, u "NMTOKENS"), (0, .fieldref 1 29), (0, .nameAndType 30 6), (0, u "NOTATION"), (2, u "ENUMERATION"), (2, u "$VALUES"), (0, u "[Lcom/example/infoset_reader/infosetreader/AttributeType;"), (6, .class_ 46), (1, u "java/lang/Enum"), (22, u "namesItems"), (0, u "()Z")] 28

def k6c0 : Code := { maxStack := 2, maxLocals := 1, code := prog_3_method_5_code, exceptionTable := #[], attributes := #[] }
def k6m0 : Method := { name := "namesItems", desc := "()Z", sig := { parameters := [], returnType := some .boolean }, accessFlags := 0, code := some k6c0 }
/-- com/example/infoset_reader/infosetreader/AttributeType -/
def k6 : Class := { plain "com/example/infoset_reader/infosetreader/AttributeType" (some 5) with
  accessFlags := 16433
  interfaces := #[]
  cf := some (fileOf pool6 1 #[] #[{ accessFlags := 0, nameIndex := 69, descriptorIndex := 70, attributes := #[] }] 16433 44 #[] #[{ accessFlags := 16409, nameIndex := 5, descriptorIndex := 6, attributes := #[] }, { accessFlags := 16409, nameIndex := 9, descriptorIndex := 6, attributes := #[] }, { accessFlags := 16409, nameIndex := 12, descriptorIndex := 6, attributes := #[] }, { accessFlags := 16409, nameIndex := 15, descriptorIndex := 6, attributes := #[] }, { accessFlags := 16409, nameIndex := 18, descriptorIndex := 6, attributes := #[] }, { accessFlags := 16409, nameIndex := 21, descriptorIndex := 6, attributes := #[] }, { accessFlags := 16409, nameIndex := 24, descriptorIndex := 6, attributes := #[] }, { accessFlags := 16409, nameIndex := 27, descriptorIndex := 6, attributes := #[] }, { accessFlags := 16409, nameIndex := 30, descriptorIndex := 6, attributes := #[] }, { accessFlags := 16409, nameIndex := 33, descriptorIndex := 6, attributes := #[] }, { accessFlags := 4122, nameIndex := 36, descriptorIndex := 37, attributes := #[] }])
  fields := #[{ name := "CDATA", type := (.object "com/example/infoset_reader/infosetreader/AttributeType"), accessFlags := 16409, slot := 0, constantValue := 0 }, { name := "ID", type := (.object "com/example/infoset_reader/infosetreader/AttributeType"), accessFlags := 16409, slot := 1, constantValue := 0 }, { name := "IDREF", type := (.object "com/example/infoset_reader/infosetreader/AttributeType"), accessFlags := 16409, slot := 2, constantValue := 0 }, { name := "IDREFS", type := (.object "com/example/infoset_reader/infosetreader/AttributeType"), accessFlags := 16409, slot := 3, constantValue := 0 }, { name := "ENTITY", type := (.object "com/example/infoset_reader/infosetreader/AttributeType"), accessFlags := 16409, slot := 4, constantValue := 0 }, { name := "ENTITIES", type := (.object "com/example/infoset_reader/infosetreader/AttributeType"), accessFlags := 16409, slot := 5, constantValue := 0 }, { name := "NMTOKEN", type := (.object "com/example/infoset_reader/infosetreader/AttributeType"), accessFlags := 16409, slot := 6, constantValue := 0 }, { name := "NMTOKENS", type := (.object "com/example/infoset_reader/infosetreader/AttributeType"), accessFlags := 16409, slot := 7, constantValue := 0 }, { name := "NOTATION", type := (.object "com/example/infoset_reader/infosetreader/AttributeType"), accessFlags := 16409, slot := 8, constantValue := 0 }, { name := "ENUMERATION", type := (.object "com/example/infoset_reader/infosetreader/AttributeType"), accessFlags := 16409, slot := 9, constantValue := 0 }, { name := "$VALUES", type := (.array (.object "com/example/infoset_reader/infosetreader/AttributeType")), accessFlags := 4122, slot := 10, constantValue := 0 }]
  methods := #[k6m0]
  instanceTypes := #[(.object "java/lang/String"), .int, .int]
  staticTypes := #[(.object "com/example/infoset_reader/infosetreader/AttributeType"), (.object "com/example/infoset_reader/infosetreader/AttributeType"), (.object "com/example/infoset_reader/infosetreader/AttributeType"), (.object "com/example/infoset_reader/infosetreader/AttributeType"), (.object "com/example/infoset_reader/infosetreader/AttributeType"), (.object "com/example/infoset_reader/infosetreader/AttributeType"), (.object "com/example/infoset_reader/infosetreader/AttributeType"), (.object "com/example/infoset_reader/infosetreader/AttributeType"), (.object "com/example/infoset_reader/infosetreader/AttributeType"), (.object "com/example/infoset_reader/infosetreader/AttributeType"), (.array (.object "com/example/infoset_reader/infosetreader/AttributeType"))]
  resolved := Array.replicate 99 none
  statics := some 0 }

def pool7 : Array CpInfo := pool [(1, u "java/lang/Cloneable"), (0, .class_ 1), (0, u "java/lang/Object"), (0, .class_ 3)] 3

/-- java/lang/Cloneable -/
def k7 : Class := { plain "java/lang/Cloneable" (some 0) with
  accessFlags := 1537
  interfaces := #[]
  cf := some (fileOf pool7 2 #[] #[] 1537 4 #[] #[])
  fields := #[]
  methods := #[]
  instanceTypes := #[]
  staticTypes := #[]
  resolved := Array.replicate 8 none
  statics := none }

/-- the primitive boolean -/
def k8 : Class := { plain "boolean" none with kind := .primitive 'Z', accessFlags := 0x411 }
/-- [Z -/
def k9 : Class := { plain "[Z" (some 0) with kind := .array 8 .boolean, interfaces := #[7, 4], accessFlags := 1041 }

/-- the primitive byte -/
def k10 : Class := { plain "byte" none with kind := .primitive 'B', accessFlags := 0x411 }
/-- [B -/
def k11 : Class := { plain "[B" (some 0) with kind := .array 10 .byte, interfaces := #[7, 4], accessFlags := 1041 }

/-- the primitive int -/
def k12 : Class := { plain "int" none with kind := .primitive 'I', accessFlags := 0x411 }
/-- [I -/
def k13 : Class := { plain "[I" (some 0) with kind := .array 12 .int, interfaces := #[7, 4], accessFlags := 1041 }

/-- [Lcom/example/infoset_reader/infosetreader/AttributeType; -/
def k14 : Class := { plain "[Lcom/example/infoset_reader/infosetreader/AttributeType;" (some 0) with kind := .array 6 (.object "com/example/infoset_reader/infosetreader/AttributeType"), interfaces := #[7, 4], accessFlags := 1041 }

def heap : Heap := #[{ cls := 6, slots := #[.ref 1, .ref 2, .ref 3, .ref 4, .ref 5, .ref 6, .ref 7, .ref 8, .ref 9, .ref 10, .null], vm := .statics 6 },
  { cls := 6, slots := #[.null, .int 0, .int 0], vm := .none },
  { cls := 6, slots := #[.null, .int 1, .int 0], vm := .none },
  { cls := 6, slots := #[.null, .int 2, .int 0], vm := .none },
  { cls := 6, slots := #[.null, .int 3, .int 0], vm := .none },
  { cls := 6, slots := #[.null, .int 4, .int 0], vm := .none },
  { cls := 6, slots := #[.null, .int 5, .int 0], vm := .none },
  { cls := 6, slots := #[.null, .int 6, .int 0], vm := .none },
  { cls := 6, slots := #[.null, .int 7, .int 0], vm := .none },
  { cls := 6, slots := #[.null, .int 8, .int 0], vm := .none },
  { cls := 6, slots := #[.null, .int 9, .int 0], vm := .none }]
def classes : Array Class := #[k0, k1, k2, k3, k4, k5, k6, k7, k8, k9, k10, k11, k12, k13, k14]
def interned : List (Array UInt16 × Addr) := []
def slotsUsed : Nat := 41
def theMethod : MethodId := ⟨1, 1⟩
def args0 : Array Value := #[.int 5]
def aboutOver (below : List Frame) : State where
  vm := { classes := classes, interned := interned.toArray }
  heap := heap
  slotsUsed := slotsUsed
  threads := #[{ frames := .invoking theMethod args0 :: below }]
def below0 : List Frame := [.native { method := ⟨0, 0⟩, args := #[] }]
def about1 : State := aboutOver below0
def p0 : Program := .bare "" "" ""
def e0 : Env := launch0.env 0 0 0
theorem w_frames : about1.frames = Frame.invoking theMethod args0 :: below0 := rfl
set_option maxRecDepth 65536 in
theorem w_args : argsFit about1.vm theMethod args0 = true := by decide +kernel
set_option maxRecDepth 65536 in
theorem w_heap : heapFits about1 = true := by decide +kernel
set_option maxRecDepth 65536 in
theorem w_runnable : about1.curStatus? = some .runnable := by decide +kernel
set_option maxRecDepth 65536 in
theorem w_alone : about1.alone = true := by decide +kernel
set_option maxRecDepth 65536 in
theorem w_named : about1.methodNamed? x = some theMethod := by decide +kernel
set_option maxRecDepth 65536 in
theorem w_hears : about1.hears theMethod below0 = true := by decide +kernel
set_option maxRecDepth 65536 in
theorem w_ripe : about1.ripe theMethod args0 below0 = true := by decide +kernel
theorem w_running : about1.status = .running := rfl
set_option maxRecDepth 65536 in
theorem w_room : about1.hasRoom e0.platform room_1 = true :=
  launch0.hasRoom_least _ room_1 (by decide +kernel) (by decide +kernel) (by decide +kernel) (by decide +kernel) (by decide +kernel) (by decide +kernel)
theorem allAtoms_all (ts : List Jvm.Cond) (a : Array Jvm.Value) (st : Jvm.State) : (allAtoms ts).before a st = ts.all (fun c => c.before a st) := by
  induction ts with
  | nil => rfl
  | cons c t ih =>
    show (Jvm.Cond.and c (allAtoms t)).before a st = _
    rw [Jvm.Cond.before_and, ih, List.all_cons]
def words1 : List Jvm.Cond := Jvm.Cond.code x code maxLocals ret :: tables_1
/-- a 'code' word, met by the world's own term for the bytes: nothing is compared byte by byte -/
theorem code_word {y : MethodName} {bytes : ByteArray} {mx : Nat} {rt : Option FieldType} {a : Array Value} {s : State} {m : MethodId} {meth : Method} {c : Code} (h1 : s.methodNamed? y = some m) (h2 : s.vm.method? m = some meth) (h3 : meth.code = some c) (h4 : c.code = bytes)
    (h5 : (c.maxLocals == mx && c.exceptionTable.isEmpty && decide (c.maxStack ≤ mostOperands) && decide (meth.sig.returnType = rt) && !meth.locks && decide (parseMethodDescriptor y.desc = some meth.sig)) = true) : (Jvm.Cond.code y bytes mx rt).before a s = true := by
  simp only [Bool.and_eq_true, beq_iff_eq, Bool.not_eq_true', decide_eq_true_eq] at h5
  obtain ⟨⟨⟨⟨⟨g1, g2⟩, g3⟩, g4⟩, g5⟩, g6⟩ := h5
  simp [Cond.before, Cond.holds, Cond.value, h1, h2, h3, h4, g1, g2, g3, g4, g5, g6]
def isCode : Jvm.Cond → Bool
  | .code _ _ _ _ => true
  | _ => false
theorem all_split {L : List Jvm.Cond} {P : Jvm.Cond → Bool} (h1 : L.all (fun c => isCode c || P c) = true) (h2 : ∀ c ∈ L.filter isCode, P c = true) : L.all P = true := by
  refine List.all_eq_true.mpr fun c hc => ?_
  have h := List.all_eq_true.mp h1 c hc
  rcases Bool.eq_false_or_eq_true (isCode c) with hi | hi
  · exact h2 c (List.mem_filter.mpr ⟨hc, hi⟩)
  · simpa [hi] using h
set_option maxRecDepth 65536 in
theorem w_c0 : (Jvm.Cond.code x code maxLocals ret).before args0 about1 = true := code_word (m := ⟨1, 1⟩) (meth := k1m1) (c := k1c1) (by decide +kernel) rfl rfl rfl (by decide +kernel)
set_option maxRecDepth 65536 in
theorem w_c1 : (Jvm.Cond.code ({ cls := "com/example/infoset_reader/infosetreader/AttributeType", name := "namesItems", desc := "()Z" } : Jvm.MethodName) prog_3_method_5_code (1 : Nat) (Option.some Jvm.ClassFile.FieldType.boolean)).before args0 about1 = true := code_word (m := ⟨6, 0⟩) (meth := k6m0) (c := k6c0) (by decide +kernel) rfl rfl rfl (by decide +kernel)
def codes1 : List Jvm.Cond := [Jvm.Cond.code x code maxLocals ret, Jvm.Cond.code ({ cls := "com/example/infoset_reader/infosetreader/AttributeType", name := "namesItems", desc := "()Z" } : Jvm.MethodName) prog_3_method_5_code (1 : Nat) (Option.some Jvm.ClassFile.FieldType.boolean)]
set_option maxRecDepth 65536 in
theorem codes_eq : words1.filter isCode = codes1 := rfl
theorem w_codes : ∀ c ∈ words1.filter isCode, c.before args0 about1 = true := by
  rw [codes_eq]
  intro c hc
  simp only [codes1, List.mem_cons, List.not_mem_nil, or_false] at hc
  rcases hc with rfl | rfl
  · exact w_c0
  · exact w_c1
set_option maxRecDepth 65536 in
theorem w_t1 : (words1.take 24).all (fun c => isCode c || c.before args0 about1) = true := by decide +kernel
set_option maxRecDepth 65536 in
theorem w_t2 : (words1.drop 24).all (fun c => isCode c || c.before args0 about1) = true := by decide +kernel
theorem w_tables : (allAtoms (Jvm.Cond.code x code maxLocals ret :: tables_1)).before args0 about1 = true := by
  rw [allAtoms_all]
  show words1.all (fun c => c.before args0 about1) = true
  refine all_split ?_ w_codes
  rw [← List.take_append_drop 24 words1, List.all_append, w_t1, w_t2]
  rfl
set_option maxRecDepth 65536 in
theorem w_case : (Jvm.Cond.and given_1 narrow_1).before args0 about1 = true := by decide +kernel
theorem w_applies : (headSpec (Jvm.Cond.code x code maxLocals ret :: tables_1) room_1).applies x e0.platform about1 = true :=
  (Spec.applies_iff w_frames).mpr ⟨w_running, w_runnable, w_alone, w_named, w_hears, w_ripe, w_room, w_tables⟩
theorem atStart : AtStart classFile x code maxLocals ret World_1 tables_1 room_1 Calls_1 rest_1 Pre_1 launch0 p0 e0 about1 theMethod args0 below0 :=
  ⟨lists_1, trivial, launch0.admits_env _ _ _, launch0.least_env, fairChoices_fair.cas, fairChoices_fair.clock, w_frames, w_args, w_heap, w_applies, trivial, trivial, w_case⟩
end start1
theorem witness_1 : WitnessClaimed_1 := ⟨start1.p0, start1.e0, start1.about1, start1.theMethod, start1.args0, start1.below0, start1.atStart⟩
end Jvm.Pilot.@@N@@
