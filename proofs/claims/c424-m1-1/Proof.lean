import JvmDerived
import JvmDerived.Pilot.@@N@@Statement
import JvmDerived.Pilot.@@N@@Code
set_option linter.unusedVariables false
set_option linter.unusedSimpArgs false
namespace Jvm.Pilot.@@N@@
open Jvm Jvm.ClassFile Sem Op Lib Jvm.Free Jvm.Stand Jvm.LawKit Jvm.RoadKit Bundle Jvm.Pilot.@@N@@.Jvm.D
def own_Q (r : Option Value) (h0 : Heap) (n0 : Nat) (v : Option Value) (h : Heap) (L : List Loc) : Prop := v = r ∧ Fr n0 L ∧ h = h0
def own_R (r : Option Value) (n0 : Nat) (v : Option Value) (h : Heap) (L : List Loc) : Prop := v = r ∧ Fr n0 L
theorem own_fld {s : State} {args : Array Value} {t : Term} {a : Addr} {C n d : String} {k : Int32} (ev : t.eval args s none [] s = some (.ref a)) (h : (Jvm.Cond.eq (Jvm.Term.field t C n d) (Jvm.Term.int k)).value args s none s [] = some true) : Fld s s.heap a C n d (.int k) := by
  obtain ⟨x, y, hx, hy, hk, hk'⟩ := cmp_v (Or.inl h)
  have hy' : y = .int k := (Option.some.inj hy).symm
  subst hy'
  obtain ⟨z, rfl⟩ := hk'
  have e : z = k := by simpa [Cond.value, hx, hy] using h
  subst e
  exact Fld.start (by rw [← fld_at ev]; exact hx)
theorem own_nefld {Z : State} {h : Heap} {a b : Addr} {C n d : String} {v w : Value} (F : Fld Z h a C n d v) (G : Fld Z h b C n d w) (q : v ≠ w) : a ≠ b := fun e => by
  subst e
  obtain ⟨c1, f1, k1, i1, g1, a1, a2, a3, a4, a5, a6, a7⟩ := F
  obtain ⟨c2, f2, k2, i2, g2, b1, b2, b3, b4, b5, b6, b7⟩ := G
  cases a1.symm.trans b1
  cases a2.symm.trans b2
  exact q (Option.some.inj (a7.symm.trans b7))
def own_G (Z : State) (w_BOOLEAN w_INT8 w_INT64 w_INT32 w_INT16 : Addr) : Prop := Sta Z Z.heap "com/example/strict_wire/strictwire/wire/FieldType" "BOOLEAN" "Lcom/example/strict_wire/strictwire/wire/FieldType;" (.ref w_BOOLEAN) ∧ Exa Z Z.heap w_BOOLEAN "com/example/strict_wire/strictwire/wire/FieldType" ∧ Sta Z Z.heap "com/example/strict_wire/strictwire/wire/FieldType" "INT8" "Lcom/example/strict_wire/strictwire/wire/FieldType;" (.ref w_INT8) ∧ Exa Z Z.heap w_INT8 "com/example/strict_wire/strictwire/wire/FieldType" ∧ Sta Z Z.heap "com/example/strict_wire/strictwire/wire/FieldType" "INT64" "Lcom/example/strict_wire/strictwire/wire/FieldType;" (.ref w_INT64) ∧ Exa Z Z.heap w_INT64 "com/example/strict_wire/strictwire/wire/FieldType" ∧ Sta Z Z.heap "com/example/strict_wire/strictwire/wire/FieldType" "INT32" "Lcom/example/strict_wire/strictwire/wire/FieldType;" (.ref w_INT32) ∧ Exa Z Z.heap w_INT32 "com/example/strict_wire/strictwire/wire/FieldType" ∧ Sta Z Z.heap "com/example/strict_wire/strictwire/wire/FieldType" "INT16" "Lcom/example/strict_wire/strictwire/wire/FieldType;" (.ref w_INT16) ∧ Exa Z Z.heap w_INT16 "com/example/strict_wire/strictwire/wire/FieldType" ∧ Fld Z Z.heap w_INT8 "java/lang/Enum" "ordinal" "I" (.int (1 : Int32)) ∧ Fld Z Z.heap w_BOOLEAN "java/lang/Enum" "ordinal" "I" (.int (0 : Int32)) ∧ Fld Z Z.heap w_INT64 "java/lang/Enum" "ordinal" "I" (.int (4 : Int32)) ∧ Fld Z Z.heap w_INT8 "com/example/strict_wire/strictwire/wire/FieldType" "smallestBytes" "I" (.int (1 : Int32)) ∧ Fld Z Z.heap w_INT32 "java/lang/Enum" "ordinal" "I" (.int (3 : Int32)) ∧ Fld Z Z.heap w_INT32 "com/example/strict_wire/strictwire/wire/FieldType" "smallestBytes" "I" (.int (4 : Int32)) ∧ Fld Z Z.heap w_INT16 "java/lang/Enum" "ordinal" "I" (.int (2 : Int32)) ∧ Fld Z Z.heap w_INT16 "com/example/strict_wire/strictwire/wire/FieldType" "smallestBytes" "I" (.int (2 : Int32)) ∧ Fld Z Z.heap w_BOOLEAN "com/example/strict_wire/strictwire/wire/FieldType" "smallestBytes" "I" (.int (1 : Int32)) ∧ Fld Z Z.heap w_INT64 "com/example/strict_wire/strictwire/wire/FieldType" "smallestBytes" "I" (.int (8 : Int32))
theorem pn_0 : plainName "com/example/strict_wire/strictwire/wire/FieldType" = true := by first | (simp [plainName, overriddenIn]; done) | decide +kernel
theorem ef_rm1 (m : MethodId) (x0 : Addr) (x1 : Int64) : entryFrame m #[(.ref x0), (.long x1)] 6 = mkF m 0 #[.val (.ref x0), .val (.long x1), .second, .unset, .unset, .unset] [] := by first | (simp [entryFrame, mkF, argsToLocals, Value.category]; done) | rfl
theorem d1_0 : decode prog_43_method_7_code 0 = .ok (.aload_n 0, 1) := by decide +kernel
theorem d1_1 : decode prog_43_method_7_code 1 = .ok (.getstatic 3, 3) := by decide +kernel
theorem d1_4 : decode prog_43_method_7_code 4 = .ok (.if_acmp .ne 24, 3) := by decide +kernel
theorem d1_7 : decode prog_43_method_7_code 7 = .ok (.lload_n 1, 1) := by decide +kernel
theorem d1_8 : decode prog_43_method_7_code 8 = .ok (.lconst 0, 1) := by decide +kernel
theorem d1_9 : decode prog_43_method_7_code 9 = .ok (.lcmp, 1) := by decide +kernel
theorem d1_10 : decode prog_43_method_7_code 10 = .ok (.ifCond .eq 9, 3) := by decide +kernel
theorem d1_19 : decode prog_43_method_7_code 19 = .ok (.iconst 1, 1) := by decide +kernel
theorem d1_20 : decode prog_43_method_7_code 20 = .ok (.goto 4, 3) := by decide +kernel
theorem d1_24 : decode prog_43_method_7_code 24 = .ok (.istore_n 3, 1) := by decide +kernel
theorem d1_25 : decode prog_43_method_7_code 25 = .ok (.goto 49, 3) := by decide +kernel
theorem d1_74 : decode prog_43_method_7_code 74 = .ok (.iload_n 3, 1) := by decide +kernel
theorem d1_75 : decode prog_43_method_7_code 75 = .ok (.ireturn, 1) := by decide +kernel
theorem d1_13 : decode prog_43_method_7_code 13 = .ok (.lload_n 1, 1) := by decide +kernel
theorem d1_14 : decode prog_43_method_7_code 14 = .ok (.lconst 1, 1) := by decide +kernel
theorem d1_15 : decode prog_43_method_7_code 15 = .ok (.lcmp, 1) := by decide +kernel
theorem d1_16 : decode prog_43_method_7_code 16 = .ok (.ifCond .ne 7, 3) := by decide +kernel
theorem d1_23 : decode prog_43_method_7_code 23 = .ok (.iconst 0, 1) := by decide +kernel
theorem d1_28 : decode prog_43_method_7_code 28 = .ok (.aload_n 0, 1) := by decide +kernel
theorem d1_29 : decode prog_43_method_7_code 29 = .ok (.getstatic 16, 3) := by decide +kernel
theorem d1_32 : decode prog_43_method_7_code 32 = .ok (.if_acmp .ne 8, 3) := by decide +kernel
theorem d1_35 : decode prog_43_method_7_code 35 = .ok (.iconst 1, 1) := by decide +kernel
theorem d1_36 : decode prog_43_method_7_code 36 = .ok (.istore_n 3, 1) := by decide +kernel
theorem d1_37 : decode prog_43_method_7_code 37 = .ok (.goto 37, 3) := by decide +kernel
theorem d1_40 : decode prog_43_method_7_code 40 = .ok (.lconst 1, 1) := by decide +kernel
theorem d1_41 : decode prog_43_method_7_code 41 = .ok (.bipush 8, 2) := by decide +kernel
theorem d1_43 : decode prog_43_method_7_code 43 = .ok (.aload_n 0, 1) := by decide +kernel
theorem d1_44 : decode prog_43_method_7_code 44 = .ok (.getfield 50, 3) := by decide +kernel
theorem d1_47 : decode prog_43_method_7_code 47 = .ok (.imul, 1) := by decide +kernel
theorem d1_48 : decode prog_43_method_7_code 48 = .ok (.iconst 1, 1) := by decide +kernel
theorem d1_49 : decode prog_43_method_7_code 49 = .ok (.isub, 1) := by decide +kernel
theorem d1_50 : decode prog_43_method_7_code 50 = .ok (.lshl, 1) := by decide +kernel
theorem d1_51 : decode prog_43_method_7_code 51 = .ok (.lstore 4, 2) := by decide +kernel
theorem d1_53 : decode prog_43_method_7_code 53 = .ok (.lload_n 1, 1) := by decide +kernel
theorem d1_54 : decode prog_43_method_7_code 54 = .ok (.lload 4, 2) := by decide +kernel
theorem d1_56 : decode prog_43_method_7_code 56 = .ok (.lneg, 1) := by decide +kernel
theorem d1_57 : decode prog_43_method_7_code 57 = .ok (.lcmp, 1) := by decide +kernel
theorem d1_58 : decode prog_43_method_7_code 58 = .ok (.ifCond .lt 14, 3) := by decide +kernel
theorem d1_72 : decode prog_43_method_7_code 72 = .ok (.iconst 0, 1) := by decide +kernel
theorem d1_73 : decode prog_43_method_7_code 73 = .ok (.istore_n 3, 1) := by decide +kernel
theorem d1_61 : decode prog_43_method_7_code 61 = .ok (.lload_n 1, 1) := by decide +kernel
theorem d1_62 : decode prog_43_method_7_code 62 = .ok (.lload 4, 2) := by decide +kernel
theorem d1_64 : decode prog_43_method_7_code 64 = .ok (.lcmp, 1) := by decide +kernel
theorem d1_65 : decode prog_43_method_7_code 65 = .ok (.ifCond .ge 7, 3) := by decide +kernel
theorem d1_68 : decode prog_43_method_7_code 68 = .ok (.iconst 1, 1) := by decide +kernel
theorem d1_69 : decode prog_43_method_7_code 69 = .ok (.goto 4, 3) := by decide +kernel
def own_f1 (r0 : Addr) (q1 : Int64) (sb : Int32) (w_BOOLEAN w_INT8 w_INT64 w_INT32 w_INT16 : Addr) : Int32 := (if r0 = w_BOOLEAN then (if q1 = (0 : Int64) then (1 : Int32) else (if q1 = (1 : Int64) then (1 : Int32) else (0 : Int32))) else (if r0 = w_INT64 then (1 : Int32) else (if q1 < (-((1 : Int64) <<< ((((8 : Int32) * sb) - (1 : Int32)) &&& 0x3f).toInt64)) then (0 : Int32) else (if q1 < ((1 : Int64) <<< ((((8 : Int32) * sb) - (1 : Int32)) &&& 0x3f).toInt64) then (1 : Int32) else (0 : Int32)))))
set_option maxRecDepth 65536 in
set_option maxHeartbeats 40000000 in
theorem rm1 (l : Launch) (Z : State) (a0 : Array Value) (hw : ∀ d ∈ tables_1, d.before a0 Z = true) (ws : List Jvm.Cond) (r0 : Addr) (q1 : Int64) (sb : Int32) (w_BOOLEAN w_INT8 w_INT64 w_INT32 w_INT16 : Addr) (h0 : Heap) (n0 : Nat) (hG : own_G Z w_BOOLEAN w_INT8 w_INT64 w_INT32 w_INT16) (O0 : Old Z n0 h0) (Fsb : Fld Z Z.heap r0 "com/example/strict_wire/strictwire/wire/FieldType" "smallestBytes" "I" (.int sb)) :
    MetFree l (⟨"com/example/strict_wire/strictwire/wire/FieldType", "holds", "(J)Z"⟩ : MethodName) (head1 (Jvm.Cond.code (⟨"com/example/strict_wire/strictwire/wire/FieldType", "holds", "(J)Z"⟩ : MethodName) prog_43_method_7_code 6 (some .boolean) :: ws) ({ frames := 0, cells := 0, slots := 0, locals := 0 } : Room)) (fun a U => a = #[(.ref r0), (.long q1)] ∧ Z.Warmed39 U.vm ∧ U.heap = h0) (fun _ _ _ _ _ => True) (fun _ U o U' => ∃ v L, o = .returned v ∧ own_Q (some (.int (own_f1 r0 q1 sb w_BOOLEAN w_INT8 w_INT64 w_INT32 w_INT16))) h0 n0 v U'.heap L ∧ FrameEnd U o U' L ({ frames := 0, cells := 0, slots := 0, locals := 0 } : Room).cells ({ frames := 0, cells := 0, slots := 0, locals := 0 } : Room).slots) := by
  refine MetFree.of_bodySF (plainFor_of_name pn_0) hisR ?_
  intro p e s m args below meth c s₁ Bd hml0 hP hK
  obtain ⟨rfl, hZ, hh⟩ := hP
  have hx := Bd.exec
  have hby := Bd.bytes
  have hml : c.maxLocals = 6 := hml0
  have hown : s.vm.findClass "com/example/strict_wire/strictwire/wire/FieldType" = some m.cls := findClass_of_methodNamed Bd.named
  have hnm := (name_of_methodNamed Bd.named Bd.method).1
  have X0 : Stand p l e ({ frames := 0, cells := 0, slots := 0, locals := 0 } : Room) s m #[(.ref r0), (.long q1)] below meth c s₁ [] 0 0 := Stand.of_body Bd
  have e0 : s₁.heap = h0 := by rw [← hh, Bd.state]; rfl
  have N0 := Fr.nil n0
  have pre0 : ∀ t, Steps p.tables e below (s₁.setTop (mkF m 0 #[.val (.ref r0), .val (.long q1), .second, .unset, .unset, .unset] [])) t → Steps p.tables e below (s₁.setTop (entryFrame m #[(.ref r0), (.long q1)] 6)) t := fun t k => castTop (ef_rm1 m r0 q1) k
  obtain ⟨S_BOOLEAN, E_BOOLEAN, S_INT8, E_INT8, S_INT64, E_INT64, S_INT32, E_INT32, S_INT16, E_INT16, F_INT8_ordinal, F_BOOLEAN_ordinal, F_INT64_ordinal, F_INT8_smallestBytes, F_INT32_ordinal, F_INT32_smallestBytes, F_INT16_ordinal, F_INT16_smallestBytes, F_BOOLEAN_smallestBytes, F_INT64_smallestBytes⟩ := hG
  obtain ⟨T1, X1, e1, st1⟩ := getS2 X0 hx hZ hown (host := "") (Or.inl (hw _ (List.mem_of_getElem? (i := 9) rfl))) Via.refl e0 (S_BOOLEAN.ext O0.2) (g := (mkF m 1 #[.val (.ref r0), .val (.long q1), .second, .unset, .unset, .unset] [(.ref r0)])) rfl (hb hby d1_1)
  have k2 : ∀ t, Steps p.tables e below (T1.setTop (mkF m 4 #[.val (.ref r0), .val (.long q1), .second, .unset, .unset, .unset] [(.ref w_BOOLEAN), (.ref r0)])) t → Steps p.tables e below (s₁.setTop (entryFrame m #[(.ref r0), (.long q1)] 6)) t := by
    intro t k
    refine pre0 _ ?_
    show Steps p.tables e below (s₁.setTop (mkF m 0 #[.val (.ref r0), .val (.long q1), .second, .unset, .unset, .unset] [])) _
    refine XS.aloadN X0.here hx rfl (hb hby d1_0) rfl rfl ?_
    show Steps p.tables e below (s₁.setTop (mkF m 1 #[.val (.ref r0), .val (.long q1), .second, .unset, .unset, .unset] [(.ref r0)])) _
    refine st1 _ ?_
    exact k
  by_cases hc4_1 : r0 = w_BOOLEAN
  · have k3 : ∀ t, Steps p.tables e below (T1.setTop (mkF m 10 #[.val (.ref r0), .val (.long q1), .second, .unset, .unset, .unset] [(.int (lcmpW q1 (0 : Int64)))])) t → Steps p.tables e below (s₁.setTop (entryFrame m #[(.ref r0), (.long q1)] 6)) t := by
      intro t k
      refine k2 _ ?_
      show Steps p.tables e below (T1.setTop (mkF m 4 #[.val (.ref r0), .val (.long q1), .second, .unset, .unset, .unset] [(.ref w_BOOLEAN), (.ref r0)])) _
      refine Jvm.RoadKit.acmp (g := (mkF m 4 #[.val (.ref r0), .val (.long q1), .second, .unset, .unset, .unset] [(.ref w_BOOLEAN), (.ref r0)])) X1 hx rfl rfl rfl (pc0 := 4) (pc' := 7) (same := true) rfl (hb hby d1_4) rfl (decide_eq_true (congrArg Value.ref hc4_1)) (by decide) (by decide) ?_
      show Steps p.tables e below (T1.setTop (mkF m 7 #[.val (.ref r0), .val (.long q1), .second, .unset, .unset, .unset] [])) _
      refine XS.lloadN X1.here hx rfl (hb hby d1_7) rfl ?_
      show Steps p.tables e below (T1.setTop (mkF m 8 #[.val (.ref r0), .val (.long q1), .second, .unset, .unset, .unset] [(.long q1)])) _
      refine XS.lconst X1.here hx rfl (hb hby d1_8) ?_
      show Steps p.tables e below (T1.setTop (mkF m 9 #[.val (.ref r0), .val (.long q1), .second, .unset, .unset, .unset] [(.long (0 : Int64)), (.long q1)])) _
      refine XS.lcmp X1.here hx rfl (hb hby d1_9) rfl ?_
      exact k
    by_cases hc10_2 : q1 = (0 : Int64)
    · have k4 : ∀ t, Steps p.tables e below (T1.setTop (mkF m 75 #[.val (.ref r0), .val (.long q1), .second, .val (.int (1 : Int32)), .unset, .unset] [(.int (1 : Int32))])) t → Steps p.tables e below (s₁.setTop (entryFrame m #[(.ref r0), (.long q1)] 6)) t := by
        intro t k
        refine k3 _ ?_
        show Steps p.tables e below (T1.setTop (mkF m 10 #[.val (.ref r0), .val (.long q1), .second, .unset, .unset, .unset] [(.int (lcmpW q1 (0 : Int64)))])) _
        refine XS.ifYes X1.here hx rfl (pc0 := 10) (pc' := 19) rfl (hb hby d1_10) rfl ((if0 _ _).trans (teq ((lw_eq _ _).mpr hc10_2)).1) (by decide) (by decide) ?_
        show Steps p.tables e below (T1.setTop (mkF m 19 #[.val (.ref r0), .val (.long q1), .second, .unset, .unset, .unset] [])) _
        refine XS.iconst X1.here hx rfl (hb hby d1_19) ?_
        show Steps p.tables e below (T1.setTop (mkF m 20 #[.val (.ref r0), .val (.long q1), .second, .unset, .unset, .unset] [(.int (1 : Int32))])) _
        refine XS.goto X1.here hx rfl (pc0 := 20) (pc' := 24) rfl (hb hby d1_20) (by decide) (by decide) ?_
        show Steps p.tables e below (T1.setTop (mkF m 24 #[.val (.ref r0), .val (.long q1), .second, .unset, .unset, .unset] [(.int (1 : Int32))])) _
        refine XS.istoreN X1.here hx rfl (hb hby d1_24) rfl (l' := #[.val (.ref r0), .val (.long q1), .second, .val (.int (1 : Int32)), .unset, .unset]) rfl ?_
        show Steps p.tables e below (T1.setTop (mkF m 25 #[.val (.ref r0), .val (.long q1), .second, .val (.int (1 : Int32)), .unset, .unset] [])) _
        refine XS.goto X1.here hx rfl (pc0 := 25) (pc' := 74) rfl (hb hby d1_25) (by decide) (by decide) ?_
        show Steps p.tables e below (T1.setTop (mkF m 74 #[.val (.ref r0), .val (.long q1), .second, .val (.int (1 : Int32)), .unset, .unset] [])) _
        refine XS.iloadN X1.here hx rfl (hb hby d1_74) rfl ?_
        exact k
      obtain ⟨fs, hr, hrun, hended, hW, hsame⟩ := X1.leave (v := some (.int (1 : Int32))) (fun h => by rw [Bd.returns] at h; cases h)
      refine ⟨_, _, k4 _ ?_, hrun, hended, _, _, rfl, ?_, ⟨_, rfl⟩, hW, hsame.mono (by decide) (by decide)⟩
      · exact retN X1 hx (t := .boolean) Bd.returns (by simp) (hb hby d1_75) hr
      · show own_Q (some (.int (own_f1 r0 q1 sb w_BOOLEAN w_INT8 w_INT64 w_INT32 w_INT16))) h0 n0 _ T1.heap _
        rw [e1]
        exact ⟨by simp only [own_f1, if_pos hc4_1, if_pos hc10_2], N0, rfl⟩
    · have k5 : ∀ t, Steps p.tables e below (T1.setTop (mkF m 16 #[.val (.ref r0), .val (.long q1), .second, .unset, .unset, .unset] [(.int (lcmpW q1 (1 : Int64)))])) t → Steps p.tables e below (s₁.setTop (entryFrame m #[(.ref r0), (.long q1)] 6)) t := by
        intro t k
        refine k3 _ ?_
        show Steps p.tables e below (T1.setTop (mkF m 10 #[.val (.ref r0), .val (.long q1), .second, .unset, .unset, .unset] [(.int (lcmpW q1 (0 : Int64)))])) _
        refine XS.ifNo X1.here hx rfl (hb hby d1_10) rfl ((if0 _ _).trans (feq (fun q => hc10_2 ((lw_eq _ _).mp q))).1) ?_
        show Steps p.tables e below (T1.setTop (mkF m 13 #[.val (.ref r0), .val (.long q1), .second, .unset, .unset, .unset] [])) _
        refine XS.lloadN X1.here hx rfl (hb hby d1_13) rfl ?_
        show Steps p.tables e below (T1.setTop (mkF m 14 #[.val (.ref r0), .val (.long q1), .second, .unset, .unset, .unset] [(.long q1)])) _
        refine XS.lconst X1.here hx rfl (hb hby d1_14) ?_
        show Steps p.tables e below (T1.setTop (mkF m 15 #[.val (.ref r0), .val (.long q1), .second, .unset, .unset, .unset] [(.long (1 : Int64)), (.long q1)])) _
        refine XS.lcmp X1.here hx rfl (hb hby d1_15) rfl ?_
        exact k
      by_cases hc16_3 : q1 = (1 : Int64)
      · have k6 : ∀ t, Steps p.tables e below (T1.setTop (mkF m 75 #[.val (.ref r0), .val (.long q1), .second, .val (.int (1 : Int32)), .unset, .unset] [(.int (1 : Int32))])) t → Steps p.tables e below (s₁.setTop (entryFrame m #[(.ref r0), (.long q1)] 6)) t := by
          intro t k
          refine k5 _ ?_
          show Steps p.tables e below (T1.setTop (mkF m 16 #[.val (.ref r0), .val (.long q1), .second, .unset, .unset, .unset] [(.int (lcmpW q1 (1 : Int64)))])) _
          refine XS.ifNo X1.here hx rfl (hb hby d1_16) rfl ((if0 _ _).trans (teq ((lw_eq _ _).mpr hc16_3)).2) ?_
          show Steps p.tables e below (T1.setTop (mkF m 19 #[.val (.ref r0), .val (.long q1), .second, .unset, .unset, .unset] [])) _
          refine XS.iconst X1.here hx rfl (hb hby d1_19) ?_
          show Steps p.tables e below (T1.setTop (mkF m 20 #[.val (.ref r0), .val (.long q1), .second, .unset, .unset, .unset] [(.int (1 : Int32))])) _
          refine XS.goto X1.here hx rfl (pc0 := 20) (pc' := 24) rfl (hb hby d1_20) (by decide) (by decide) ?_
          show Steps p.tables e below (T1.setTop (mkF m 24 #[.val (.ref r0), .val (.long q1), .second, .unset, .unset, .unset] [(.int (1 : Int32))])) _
          refine XS.istoreN X1.here hx rfl (hb hby d1_24) rfl (l' := #[.val (.ref r0), .val (.long q1), .second, .val (.int (1 : Int32)), .unset, .unset]) rfl ?_
          show Steps p.tables e below (T1.setTop (mkF m 25 #[.val (.ref r0), .val (.long q1), .second, .val (.int (1 : Int32)), .unset, .unset] [])) _
          refine XS.goto X1.here hx rfl (pc0 := 25) (pc' := 74) rfl (hb hby d1_25) (by decide) (by decide) ?_
          show Steps p.tables e below (T1.setTop (mkF m 74 #[.val (.ref r0), .val (.long q1), .second, .val (.int (1 : Int32)), .unset, .unset] [])) _
          refine XS.iloadN X1.here hx rfl (hb hby d1_74) rfl ?_
          exact k
        obtain ⟨fs, hr, hrun, hended, hW, hsame⟩ := X1.leave (v := some (.int (1 : Int32))) (fun h => by rw [Bd.returns] at h; cases h)
        refine ⟨_, _, k6 _ ?_, hrun, hended, _, _, rfl, ?_, ⟨_, rfl⟩, hW, hsame.mono (by decide) (by decide)⟩
        · exact retN X1 hx (t := .boolean) Bd.returns (by simp) (hb hby d1_75) hr
        · show own_Q (some (.int (own_f1 r0 q1 sb w_BOOLEAN w_INT8 w_INT64 w_INT32 w_INT16))) h0 n0 _ T1.heap _
          rw [e1]
          exact ⟨by simp only [own_f1, if_pos hc4_1, if_neg hc10_2, if_pos hc16_3], N0, rfl⟩
      · have k7 : ∀ t, Steps p.tables e below (T1.setTop (mkF m 75 #[.val (.ref r0), .val (.long q1), .second, .val (.int (0 : Int32)), .unset, .unset] [(.int (0 : Int32))])) t → Steps p.tables e below (s₁.setTop (entryFrame m #[(.ref r0), (.long q1)] 6)) t := by
          intro t k
          refine k5 _ ?_
          show Steps p.tables e below (T1.setTop (mkF m 16 #[.val (.ref r0), .val (.long q1), .second, .unset, .unset, .unset] [(.int (lcmpW q1 (1 : Int64)))])) _
          refine XS.ifYes X1.here hx rfl (pc0 := 16) (pc' := 23) rfl (hb hby d1_16) rfl ((if0 _ _).trans (feq (fun q => hc16_3 ((lw_eq _ _).mp q))).2) (by decide) (by decide) ?_
          show Steps p.tables e below (T1.setTop (mkF m 23 #[.val (.ref r0), .val (.long q1), .second, .unset, .unset, .unset] [])) _
          refine XS.iconst X1.here hx rfl (hb hby d1_23) ?_
          show Steps p.tables e below (T1.setTop (mkF m 24 #[.val (.ref r0), .val (.long q1), .second, .unset, .unset, .unset] [(.int (0 : Int32))])) _
          refine XS.istoreN X1.here hx rfl (hb hby d1_24) rfl (l' := #[.val (.ref r0), .val (.long q1), .second, .val (.int (0 : Int32)), .unset, .unset]) rfl ?_
          show Steps p.tables e below (T1.setTop (mkF m 25 #[.val (.ref r0), .val (.long q1), .second, .val (.int (0 : Int32)), .unset, .unset] [])) _
          refine XS.goto X1.here hx rfl (pc0 := 25) (pc' := 74) rfl (hb hby d1_25) (by decide) (by decide) ?_
          show Steps p.tables e below (T1.setTop (mkF m 74 #[.val (.ref r0), .val (.long q1), .second, .val (.int (0 : Int32)), .unset, .unset] [])) _
          refine XS.iloadN X1.here hx rfl (hb hby d1_74) rfl ?_
          exact k
        obtain ⟨fs, hr, hrun, hended, hW, hsame⟩ := X1.leave (v := some (.int (0 : Int32))) (fun h => by rw [Bd.returns] at h; cases h)
        refine ⟨_, _, k7 _ ?_, hrun, hended, _, _, rfl, ?_, ⟨_, rfl⟩, hW, hsame.mono (by decide) (by decide)⟩
        · exact retN X1 hx (t := .boolean) Bd.returns (by simp) (hb hby d1_75) hr
        · show own_Q (some (.int (own_f1 r0 q1 sb w_BOOLEAN w_INT8 w_INT64 w_INT32 w_INT16))) h0 n0 _ T1.heap _
          rw [e1]
          exact ⟨by simp only [own_f1, if_pos hc4_1, if_neg hc10_2, if_neg hc16_3], N0, rfl⟩
  · obtain ⟨T8, X8, e8, st8⟩ := getS2 X1 hx hZ hown (host := "") (Or.inl (hw _ (List.mem_of_getElem? (i := 12) rfl))) Via.refl e1 (S_INT64.ext O0.2) (g := (mkF m 29 #[.val (.ref r0), .val (.long q1), .second, .unset, .unset, .unset] [(.ref r0)])) rfl (hb hby d1_29)
    have k9 : ∀ t, Steps p.tables e below (T8.setTop (mkF m 32 #[.val (.ref r0), .val (.long q1), .second, .unset, .unset, .unset] [(.ref w_INT64), (.ref r0)])) t → Steps p.tables e below (s₁.setTop (entryFrame m #[(.ref r0), (.long q1)] 6)) t := by
      intro t k
      refine k2 _ ?_
      show Steps p.tables e below (T1.setTop (mkF m 4 #[.val (.ref r0), .val (.long q1), .second, .unset, .unset, .unset] [(.ref w_BOOLEAN), (.ref r0)])) _
      refine Jvm.RoadKit.acmp (g := (mkF m 4 #[.val (.ref r0), .val (.long q1), .second, .unset, .unset, .unset] [(.ref w_BOOLEAN), (.ref r0)])) X1 hx rfl rfl rfl (pc0 := 4) (pc' := 28) (same := false) rfl (hb hby d1_4) rfl (decide_eq_false fun q => hc4_1 (Value.ref.inj q)) (by decide) (by decide) ?_
      show Steps p.tables e below (T1.setTop (mkF m 28 #[.val (.ref r0), .val (.long q1), .second, .unset, .unset, .unset] [])) _
      refine XS.aloadN X1.here hx rfl (hb hby d1_28) rfl rfl ?_
      show Steps p.tables e below (T1.setTop (mkF m 29 #[.val (.ref r0), .val (.long q1), .second, .unset, .unset, .unset] [(.ref r0)])) _
      refine st8 _ ?_
      exact k
    by_cases hc32_4 : r0 = w_INT64
    · have k10 : ∀ t, Steps p.tables e below (T8.setTop (mkF m 75 #[.val (.ref r0), .val (.long q1), .second, .val (.int (1 : Int32)), .unset, .unset] [(.int (1 : Int32))])) t → Steps p.tables e below (s₁.setTop (entryFrame m #[(.ref r0), (.long q1)] 6)) t := by
        intro t k
        refine k9 _ ?_
        show Steps p.tables e below (T8.setTop (mkF m 32 #[.val (.ref r0), .val (.long q1), .second, .unset, .unset, .unset] [(.ref w_INT64), (.ref r0)])) _
        refine Jvm.RoadKit.acmp (g := (mkF m 32 #[.val (.ref r0), .val (.long q1), .second, .unset, .unset, .unset] [(.ref w_INT64), (.ref r0)])) X8 hx rfl rfl rfl (pc0 := 32) (pc' := 35) (same := true) rfl (hb hby d1_32) rfl (decide_eq_true (congrArg Value.ref hc32_4)) (by decide) (by decide) ?_
        show Steps p.tables e below (T8.setTop (mkF m 35 #[.val (.ref r0), .val (.long q1), .second, .unset, .unset, .unset] [])) _
        refine XS.iconst X8.here hx rfl (hb hby d1_35) ?_
        show Steps p.tables e below (T8.setTop (mkF m 36 #[.val (.ref r0), .val (.long q1), .second, .unset, .unset, .unset] [(.int (1 : Int32))])) _
        refine XS.istoreN X8.here hx rfl (hb hby d1_36) rfl (l' := #[.val (.ref r0), .val (.long q1), .second, .val (.int (1 : Int32)), .unset, .unset]) rfl ?_
        show Steps p.tables e below (T8.setTop (mkF m 37 #[.val (.ref r0), .val (.long q1), .second, .val (.int (1 : Int32)), .unset, .unset] [])) _
        refine XS.goto X8.here hx rfl (pc0 := 37) (pc' := 74) rfl (hb hby d1_37) (by decide) (by decide) ?_
        show Steps p.tables e below (T8.setTop (mkF m 74 #[.val (.ref r0), .val (.long q1), .second, .val (.int (1 : Int32)), .unset, .unset] [])) _
        refine XS.iloadN X8.here hx rfl (hb hby d1_74) rfl ?_
        exact k
      obtain ⟨fs, hr, hrun, hended, hW, hsame⟩ := X8.leave (v := some (.int (1 : Int32))) (fun h => by rw [Bd.returns] at h; cases h)
      refine ⟨_, _, k10 _ ?_, hrun, hended, _, _, rfl, ?_, ⟨_, rfl⟩, hW, hsame.mono (by decide) (by decide)⟩
      · exact retN X8 hx (t := .boolean) Bd.returns (by simp) (hb hby d1_75) hr
      · show own_Q (some (.int (own_f1 r0 q1 sb w_BOOLEAN w_INT8 w_INT64 w_INT32 w_INT16))) h0 n0 _ T8.heap _
        rw [e8]
        exact ⟨by simp only [own_f1, if_neg hc4_1, if_pos hc32_4], N0, rfl⟩
    · obtain ⟨T11, X11, e11, st11⟩ := getF X8 hx hZ hown (host := "") (Or.inl (hw _ (List.mem_of_getElem? (i := 14) rfl))) Via.refl e8 (Fsb.ext O0.2) (g := (mkF m 44 #[.val (.ref r0), .val (.long q1), .second, .unset, .unset, .unset] [(.ref r0), (.int (8 : Int32)), (.long (1 : Int64))])) rfl rfl (hb hby d1_44)
      have k12 : ∀ t, Steps p.tables e below (T11.setTop (mkF m 58 #[.val (.ref r0), .val (.long q1), .second, .unset, .val (.long ((1 : Int64) <<< ((((8 : Int32) * sb) - (1 : Int32)) &&& 0x3f).toInt64)), .second] [(.int (lcmpW q1 (-((1 : Int64) <<< ((((8 : Int32) * sb) - (1 : Int32)) &&& 0x3f).toInt64))))])) t → Steps p.tables e below (s₁.setTop (entryFrame m #[(.ref r0), (.long q1)] 6)) t := by
        intro t k
        refine k9 _ ?_
        show Steps p.tables e below (T8.setTop (mkF m 32 #[.val (.ref r0), .val (.long q1), .second, .unset, .unset, .unset] [(.ref w_INT64), (.ref r0)])) _
        refine Jvm.RoadKit.acmp (g := (mkF m 32 #[.val (.ref r0), .val (.long q1), .second, .unset, .unset, .unset] [(.ref w_INT64), (.ref r0)])) X8 hx rfl rfl rfl (pc0 := 32) (pc' := 40) (same := false) rfl (hb hby d1_32) rfl (decide_eq_false fun q => hc32_4 (Value.ref.inj q)) (by decide) (by decide) ?_
        show Steps p.tables e below (T8.setTop (mkF m 40 #[.val (.ref r0), .val (.long q1), .second, .unset, .unset, .unset] [])) _
        refine XS.lconst X8.here hx rfl (hb hby d1_40) ?_
        show Steps p.tables e below (T8.setTop (mkF m 41 #[.val (.ref r0), .val (.long q1), .second, .unset, .unset, .unset] [(.long (1 : Int64))])) _
        refine XS.bipush X8.here hx rfl (hb hby d1_41) ?_
        show Steps p.tables e below (T8.setTop (mkF m 43 #[.val (.ref r0), .val (.long q1), .second, .unset, .unset, .unset] [(.int (8 : Int32)), (.long (1 : Int64))])) _
        refine XS.aloadN X8.here hx rfl (hb hby d1_43) rfl rfl ?_
        show Steps p.tables e below (T8.setTop (mkF m 44 #[.val (.ref r0), .val (.long q1), .second, .unset, .unset, .unset] [(.ref r0), (.int (8 : Int32)), (.long (1 : Int64))])) _
        refine st11 _ ?_
        show Steps p.tables e below (T11.setTop (mkF m 47 #[.val (.ref r0), .val (.long q1), .second, .unset, .unset, .unset] [(.int sb), (.int (8 : Int32)), (.long (1 : Int64))])) _
        refine XS.imul X11.here hx rfl (hb hby d1_47) rfl ?_
        show Steps p.tables e below (T11.setTop (mkF m 48 #[.val (.ref r0), .val (.long q1), .second, .unset, .unset, .unset] [(.int ((8 : Int32) * sb)), (.long (1 : Int64))])) _
        refine XS.iconst X11.here hx rfl (hb hby d1_48) ?_
        show Steps p.tables e below (T11.setTop (mkF m 49 #[.val (.ref r0), .val (.long q1), .second, .unset, .unset, .unset] [(.int (1 : Int32)), (.int ((8 : Int32) * sb)), (.long (1 : Int64))])) _
        refine XS.isub X11.here hx rfl (hb hby d1_49) rfl ?_
        show Steps p.tables e below (T11.setTop (mkF m 50 #[.val (.ref r0), .val (.long q1), .second, .unset, .unset, .unset] [(.int (((8 : Int32) * sb) - (1 : Int32))), (.long (1 : Int64))])) _
        refine XS.lshl X11.here hx rfl (hb hby d1_50) rfl ?_
        show Steps p.tables e below (T11.setTop (mkF m 51 #[.val (.ref r0), .val (.long q1), .second, .unset, .unset, .unset] [(.long ((1 : Int64) <<< ((((8 : Int32) * sb) - (1 : Int32)) &&& 0x3f).toInt64))])) _
        refine XS.lstore X11.here hx rfl (hb hby d1_51) rfl (l' := #[.val (.ref r0), .val (.long q1), .second, .unset, .val (.long ((1 : Int64) <<< ((((8 : Int32) * sb) - (1 : Int32)) &&& 0x3f).toInt64)), .second]) rfl ?_
        show Steps p.tables e below (T11.setTop (mkF m 53 #[.val (.ref r0), .val (.long q1), .second, .unset, .val (.long ((1 : Int64) <<< ((((8 : Int32) * sb) - (1 : Int32)) &&& 0x3f).toInt64)), .second] [])) _
        refine XS.lloadN X11.here hx rfl (hb hby d1_53) rfl ?_
        show Steps p.tables e below (T11.setTop (mkF m 54 #[.val (.ref r0), .val (.long q1), .second, .unset, .val (.long ((1 : Int64) <<< ((((8 : Int32) * sb) - (1 : Int32)) &&& 0x3f).toInt64)), .second] [(.long q1)])) _
        refine XS.lload X11.here hx rfl (hb hby d1_54) rfl ?_
        show Steps p.tables e below (T11.setTop (mkF m 56 #[.val (.ref r0), .val (.long q1), .second, .unset, .val (.long ((1 : Int64) <<< ((((8 : Int32) * sb) - (1 : Int32)) &&& 0x3f).toInt64)), .second] [(.long ((1 : Int64) <<< ((((8 : Int32) * sb) - (1 : Int32)) &&& 0x3f).toInt64)), (.long q1)])) _
        refine XS.lneg X11.here hx rfl (hb hby d1_56) rfl ?_
        show Steps p.tables e below (T11.setTop (mkF m 57 #[.val (.ref r0), .val (.long q1), .second, .unset, .val (.long ((1 : Int64) <<< ((((8 : Int32) * sb) - (1 : Int32)) &&& 0x3f).toInt64)), .second] [(.long (-((1 : Int64) <<< ((((8 : Int32) * sb) - (1 : Int32)) &&& 0x3f).toInt64))), (.long q1)])) _
        refine XS.lcmp X11.here hx rfl (hb hby d1_57) rfl ?_
        exact k
      by_cases hc58_5 : q1 < (-((1 : Int64) <<< ((((8 : Int32) * sb) - (1 : Int32)) &&& 0x3f).toInt64))
      · have k13 : ∀ t, Steps p.tables e below (T11.setTop (mkF m 75 #[.val (.ref r0), .val (.long q1), .second, .val (.int (0 : Int32)), .val (.long ((1 : Int64) <<< ((((8 : Int32) * sb) - (1 : Int32)) &&& 0x3f).toInt64)), .second] [(.int (0 : Int32))])) t → Steps p.tables e below (s₁.setTop (entryFrame m #[(.ref r0), (.long q1)] 6)) t := by
          intro t k
          refine k12 _ ?_
          show Steps p.tables e below (T11.setTop (mkF m 58 #[.val (.ref r0), .val (.long q1), .second, .unset, .val (.long ((1 : Int64) <<< ((((8 : Int32) * sb) - (1 : Int32)) &&& 0x3f).toInt64)), .second] [(.int (lcmpW q1 (-((1 : Int64) <<< ((((8 : Int32) * sb) - (1 : Int32)) &&& 0x3f).toInt64))))])) _
          refine XS.ifYes X11.here hx rfl (pc0 := 58) (pc' := 72) rfl (hb hby d1_58) rfl ((if0 _ _).trans (tlt ((lw_lt _ _).mpr hc58_5)).1) (by decide) (by decide) ?_
          show Steps p.tables e below (T11.setTop (mkF m 72 #[.val (.ref r0), .val (.long q1), .second, .unset, .val (.long ((1 : Int64) <<< ((((8 : Int32) * sb) - (1 : Int32)) &&& 0x3f).toInt64)), .second] [])) _
          refine XS.iconst X11.here hx rfl (hb hby d1_72) ?_
          show Steps p.tables e below (T11.setTop (mkF m 73 #[.val (.ref r0), .val (.long q1), .second, .unset, .val (.long ((1 : Int64) <<< ((((8 : Int32) * sb) - (1 : Int32)) &&& 0x3f).toInt64)), .second] [(.int (0 : Int32))])) _
          refine XS.istoreN X11.here hx rfl (hb hby d1_73) rfl (l' := #[.val (.ref r0), .val (.long q1), .second, .val (.int (0 : Int32)), .val (.long ((1 : Int64) <<< ((((8 : Int32) * sb) - (1 : Int32)) &&& 0x3f).toInt64)), .second]) rfl ?_
          show Steps p.tables e below (T11.setTop (mkF m 74 #[.val (.ref r0), .val (.long q1), .second, .val (.int (0 : Int32)), .val (.long ((1 : Int64) <<< ((((8 : Int32) * sb) - (1 : Int32)) &&& 0x3f).toInt64)), .second] [])) _
          refine XS.iloadN X11.here hx rfl (hb hby d1_74) rfl ?_
          exact k
        obtain ⟨fs, hr, hrun, hended, hW, hsame⟩ := X11.leave (v := some (.int (0 : Int32))) (fun h => by rw [Bd.returns] at h; cases h)
        refine ⟨_, _, k13 _ ?_, hrun, hended, _, _, rfl, ?_, ⟨_, rfl⟩, hW, hsame.mono (by decide) (by decide)⟩
        · exact retN X11 hx (t := .boolean) Bd.returns (by simp) (hb hby d1_75) hr
        · show own_Q (some (.int (own_f1 r0 q1 sb w_BOOLEAN w_INT8 w_INT64 w_INT32 w_INT16))) h0 n0 _ T11.heap _
          rw [e11]
          exact ⟨by simp only [own_f1, if_neg hc4_1, if_neg hc32_4, if_pos hc58_5], N0, rfl⟩
      · have k14 : ∀ t, Steps p.tables e below (T11.setTop (mkF m 65 #[.val (.ref r0), .val (.long q1), .second, .unset, .val (.long ((1 : Int64) <<< ((((8 : Int32) * sb) - (1 : Int32)) &&& 0x3f).toInt64)), .second] [(.int (lcmpW q1 ((1 : Int64) <<< ((((8 : Int32) * sb) - (1 : Int32)) &&& 0x3f).toInt64)))])) t → Steps p.tables e below (s₁.setTop (entryFrame m #[(.ref r0), (.long q1)] 6)) t := by
          intro t k
          refine k12 _ ?_
          show Steps p.tables e below (T11.setTop (mkF m 58 #[.val (.ref r0), .val (.long q1), .second, .unset, .val (.long ((1 : Int64) <<< ((((8 : Int32) * sb) - (1 : Int32)) &&& 0x3f).toInt64)), .second] [(.int (lcmpW q1 (-((1 : Int64) <<< ((((8 : Int32) * sb) - (1 : Int32)) &&& 0x3f).toInt64))))])) _
          refine XS.ifNo X11.here hx rfl (hb hby d1_58) rfl ((if0 _ _).trans (flt (fun q => hc58_5 ((lw_lt _ _).mp q))).1) ?_
          show Steps p.tables e below (T11.setTop (mkF m 61 #[.val (.ref r0), .val (.long q1), .second, .unset, .val (.long ((1 : Int64) <<< ((((8 : Int32) * sb) - (1 : Int32)) &&& 0x3f).toInt64)), .second] [])) _
          refine XS.lloadN X11.here hx rfl (hb hby d1_61) rfl ?_
          show Steps p.tables e below (T11.setTop (mkF m 62 #[.val (.ref r0), .val (.long q1), .second, .unset, .val (.long ((1 : Int64) <<< ((((8 : Int32) * sb) - (1 : Int32)) &&& 0x3f).toInt64)), .second] [(.long q1)])) _
          refine XS.lload X11.here hx rfl (hb hby d1_62) rfl ?_
          show Steps p.tables e below (T11.setTop (mkF m 64 #[.val (.ref r0), .val (.long q1), .second, .unset, .val (.long ((1 : Int64) <<< ((((8 : Int32) * sb) - (1 : Int32)) &&& 0x3f).toInt64)), .second] [(.long ((1 : Int64) <<< ((((8 : Int32) * sb) - (1 : Int32)) &&& 0x3f).toInt64)), (.long q1)])) _
          refine XS.lcmp X11.here hx rfl (hb hby d1_64) rfl ?_
          exact k
        by_cases hc65_6 : q1 < ((1 : Int64) <<< ((((8 : Int32) * sb) - (1 : Int32)) &&& 0x3f).toInt64)
        · have k15 : ∀ t, Steps p.tables e below (T11.setTop (mkF m 75 #[.val (.ref r0), .val (.long q1), .second, .val (.int (1 : Int32)), .val (.long ((1 : Int64) <<< ((((8 : Int32) * sb) - (1 : Int32)) &&& 0x3f).toInt64)), .second] [(.int (1 : Int32))])) t → Steps p.tables e below (s₁.setTop (entryFrame m #[(.ref r0), (.long q1)] 6)) t := by
            intro t k
            refine k14 _ ?_
            show Steps p.tables e below (T11.setTop (mkF m 65 #[.val (.ref r0), .val (.long q1), .second, .unset, .val (.long ((1 : Int64) <<< ((((8 : Int32) * sb) - (1 : Int32)) &&& 0x3f).toInt64)), .second] [(.int (lcmpW q1 ((1 : Int64) <<< ((((8 : Int32) * sb) - (1 : Int32)) &&& 0x3f).toInt64)))])) _
            refine XS.ifNo X11.here hx rfl (hb hby d1_65) rfl ((if0 _ _).trans (tlt ((lw_lt _ _).mpr hc65_6)).2.1) ?_
            show Steps p.tables e below (T11.setTop (mkF m 68 #[.val (.ref r0), .val (.long q1), .second, .unset, .val (.long ((1 : Int64) <<< ((((8 : Int32) * sb) - (1 : Int32)) &&& 0x3f).toInt64)), .second] [])) _
            refine XS.iconst X11.here hx rfl (hb hby d1_68) ?_
            show Steps p.tables e below (T11.setTop (mkF m 69 #[.val (.ref r0), .val (.long q1), .second, .unset, .val (.long ((1 : Int64) <<< ((((8 : Int32) * sb) - (1 : Int32)) &&& 0x3f).toInt64)), .second] [(.int (1 : Int32))])) _
            refine XS.goto X11.here hx rfl (pc0 := 69) (pc' := 73) rfl (hb hby d1_69) (by decide) (by decide) ?_
            show Steps p.tables e below (T11.setTop (mkF m 73 #[.val (.ref r0), .val (.long q1), .second, .unset, .val (.long ((1 : Int64) <<< ((((8 : Int32) * sb) - (1 : Int32)) &&& 0x3f).toInt64)), .second] [(.int (1 : Int32))])) _
            refine XS.istoreN X11.here hx rfl (hb hby d1_73) rfl (l' := #[.val (.ref r0), .val (.long q1), .second, .val (.int (1 : Int32)), .val (.long ((1 : Int64) <<< ((((8 : Int32) * sb) - (1 : Int32)) &&& 0x3f).toInt64)), .second]) rfl ?_
            show Steps p.tables e below (T11.setTop (mkF m 74 #[.val (.ref r0), .val (.long q1), .second, .val (.int (1 : Int32)), .val (.long ((1 : Int64) <<< ((((8 : Int32) * sb) - (1 : Int32)) &&& 0x3f).toInt64)), .second] [])) _
            refine XS.iloadN X11.here hx rfl (hb hby d1_74) rfl ?_
            exact k
          obtain ⟨fs, hr, hrun, hended, hW, hsame⟩ := X11.leave (v := some (.int (1 : Int32))) (fun h => by rw [Bd.returns] at h; cases h)
          refine ⟨_, _, k15 _ ?_, hrun, hended, _, _, rfl, ?_, ⟨_, rfl⟩, hW, hsame.mono (by decide) (by decide)⟩
          · exact retN X11 hx (t := .boolean) Bd.returns (by simp) (hb hby d1_75) hr
          · show own_Q (some (.int (own_f1 r0 q1 sb w_BOOLEAN w_INT8 w_INT64 w_INT32 w_INT16))) h0 n0 _ T11.heap _
            rw [e11]
            exact ⟨by simp only [own_f1, if_neg hc4_1, if_neg hc32_4, if_neg hc58_5, if_pos hc65_6], N0, rfl⟩
        · have k16 : ∀ t, Steps p.tables e below (T11.setTop (mkF m 75 #[.val (.ref r0), .val (.long q1), .second, .val (.int (0 : Int32)), .val (.long ((1 : Int64) <<< ((((8 : Int32) * sb) - (1 : Int32)) &&& 0x3f).toInt64)), .second] [(.int (0 : Int32))])) t → Steps p.tables e below (s₁.setTop (entryFrame m #[(.ref r0), (.long q1)] 6)) t := by
            intro t k
            refine k14 _ ?_
            show Steps p.tables e below (T11.setTop (mkF m 65 #[.val (.ref r0), .val (.long q1), .second, .unset, .val (.long ((1 : Int64) <<< ((((8 : Int32) * sb) - (1 : Int32)) &&& 0x3f).toInt64)), .second] [(.int (lcmpW q1 ((1 : Int64) <<< ((((8 : Int32) * sb) - (1 : Int32)) &&& 0x3f).toInt64)))])) _
            refine XS.ifYes X11.here hx rfl (pc0 := 65) (pc' := 72) rfl (hb hby d1_65) rfl ((if0 _ _).trans (flt (fun q => hc65_6 ((lw_lt _ _).mp q))).2.1) (by decide) (by decide) ?_
            show Steps p.tables e below (T11.setTop (mkF m 72 #[.val (.ref r0), .val (.long q1), .second, .unset, .val (.long ((1 : Int64) <<< ((((8 : Int32) * sb) - (1 : Int32)) &&& 0x3f).toInt64)), .second] [])) _
            refine XS.iconst X11.here hx rfl (hb hby d1_72) ?_
            show Steps p.tables e below (T11.setTop (mkF m 73 #[.val (.ref r0), .val (.long q1), .second, .unset, .val (.long ((1 : Int64) <<< ((((8 : Int32) * sb) - (1 : Int32)) &&& 0x3f).toInt64)), .second] [(.int (0 : Int32))])) _
            refine XS.istoreN X11.here hx rfl (hb hby d1_73) rfl (l' := #[.val (.ref r0), .val (.long q1), .second, .val (.int (0 : Int32)), .val (.long ((1 : Int64) <<< ((((8 : Int32) * sb) - (1 : Int32)) &&& 0x3f).toInt64)), .second]) rfl ?_
            show Steps p.tables e below (T11.setTop (mkF m 74 #[.val (.ref r0), .val (.long q1), .second, .val (.int (0 : Int32)), .val (.long ((1 : Int64) <<< ((((8 : Int32) * sb) - (1 : Int32)) &&& 0x3f).toInt64)), .second] [])) _
            refine XS.iloadN X11.here hx rfl (hb hby d1_74) rfl ?_
            exact k
          obtain ⟨fs, hr, hrun, hended, hW, hsame⟩ := X11.leave (v := some (.int (0 : Int32))) (fun h => by rw [Bd.returns] at h; cases h)
          refine ⟨_, _, k16 _ ?_, hrun, hended, _, _, rfl, ?_, ⟨_, rfl⟩, hW, hsame.mono (by decide) (by decide)⟩
          · exact retN X11 hx (t := .boolean) Bd.returns (by simp) (hb hby d1_75) hr
          · show own_Q (some (.int (own_f1 r0 q1 sb w_BOOLEAN w_INT8 w_INT64 w_INT32 w_INT16))) h0 n0 _ T11.heap _
            rw [e11]
            exact ⟨by simp only [own_f1, if_neg hc4_1, if_neg hc32_4, if_neg hc58_5, if_neg hc65_6], N0, rfl⟩
theorem pn_1 : plainName "com/example/strict_wire/strictwire/wire/FieldTypeHoldsPinLaw" = true := by first | (simp [plainName, overriddenIn]; done) | decide +kernel
theorem ef_rm0 (m : MethodId) (x0 : Int32) (x1 : Int64) : entryFrame m #[(.int x0), (.long x1)] maxLocals = mkF m 0 #[.val (.int x0), .val (.long x1), .second, .unset, .unset, .unset] [] := by first | (simp [entryFrame, mkF, argsToLocals, Value.category, maxLocals]; done) | rfl
theorem pd_0 : parseMethodDescriptor "(J)Z" = some ⟨[.long], some .boolean⟩ := by decide +kernel
theorem own_p_BOOLEAN {Z : State} (q1 : Int64) (w_BOOLEAN w_INT8 w_INT64 w_INT32 w_INT16 : Addr) (hG : own_G Z w_BOOLEAN w_INT8 w_INT64 w_INT32 w_INT16) : (own_f1 w_BOOLEAN q1 (1 : Int32) w_BOOLEAN w_INT8 w_INT64 w_INT32 w_INT16) = (if q1 = (0 : Int64) then (1 : Int32) else (if q1 = (1 : Int64) then (1 : Int32) else (0 : Int32))) := by
  obtain ⟨S_BOOLEAN, E_BOOLEAN, S_INT8, E_INT8, S_INT64, E_INT64, S_INT32, E_INT32, S_INT16, E_INT16, F_INT8_ordinal, F_BOOLEAN_ordinal, F_INT64_ordinal, F_INT8_smallestBytes, F_INT32_ordinal, F_INT32_smallestBytes, F_INT16_ordinal, F_INT16_smallestBytes, F_BOOLEAN_smallestBytes, F_INT64_smallestBytes⟩ := hG
  simp [own_f1]
theorem own_p_INT8 {Z : State} (q1 : Int64) (w_BOOLEAN w_INT8 w_INT64 w_INT32 w_INT16 : Addr) (hG : own_G Z w_BOOLEAN w_INT8 w_INT64 w_INT32 w_INT16) : (own_f1 w_INT8 q1 (1 : Int32) w_BOOLEAN w_INT8 w_INT64 w_INT32 w_INT16) = (if q1 = (((q1.toInt32).toInt8.toInt32).toInt64) then (1 : Int32) else (0 : Int32)) := by
  obtain ⟨S_BOOLEAN, E_BOOLEAN, S_INT8, E_INT8, S_INT64, E_INT64, S_INT32, E_INT32, S_INT16, E_INT16, F_INT8_ordinal, F_BOOLEAN_ordinal, F_INT64_ordinal, F_INT8_smallestBytes, F_INT32_ordinal, F_INT32_smallestBytes, F_INT16_ordinal, F_INT16_smallestBytes, F_BOOLEAN_smallestBytes, F_INT64_smallestBytes⟩ := hG
  have n1 : ¬ w_INT8 = w_BOOLEAN := (own_nefld F_INT8_ordinal F_BOOLEAN_ordinal (by decide))
  have n2 : ¬ w_INT8 = w_INT64 := (own_nefld F_INT8_ordinal F_INT64_ordinal (by decide))
  have b : ((1 : Int64) <<< ((((8 : Int32) * (1 : Int32)) - (1 : Int32)) &&& 0x3f).toInt64) = (128 : Int64) := by decide
  have b1 : (128 : Int64).toInt = 128 := by decide
  have b2 : (-(128 : Int64)).toInt = -128 := by decide
  have r1 := rng64 q1
  have a1 := c_l2i q1
  have a2 := c_i2b q1.toInt32
  have a3 := c_i2s q1.toInt32
  have a4 := c_i2l q1.toInt32
  have a5 := c_i2l q1.toInt32.toInt8.toInt32
  have a6 := c_i2l q1.toInt32.toInt16.toInt32
  have r2 := rng32 q1.toInt32
  simp only [own_f1, if_neg n1, if_neg n2, b, Int64.lt_iff_toInt_lt, ← Int64.toInt_inj]
  repeat' split
  all_goals first | rfl | (exfalso; omega)
theorem own_p_INT16 {Z : State} (q1 : Int64) (w_BOOLEAN w_INT8 w_INT64 w_INT32 w_INT16 : Addr) (hG : own_G Z w_BOOLEAN w_INT8 w_INT64 w_INT32 w_INT16) : (own_f1 w_INT16 q1 (2 : Int32) w_BOOLEAN w_INT8 w_INT64 w_INT32 w_INT16) = (if q1 = (((q1.toInt32).toInt16.toInt32).toInt64) then (1 : Int32) else (0 : Int32)) := by
  obtain ⟨S_BOOLEAN, E_BOOLEAN, S_INT8, E_INT8, S_INT64, E_INT64, S_INT32, E_INT32, S_INT16, E_INT16, F_INT8_ordinal, F_BOOLEAN_ordinal, F_INT64_ordinal, F_INT8_smallestBytes, F_INT32_ordinal, F_INT32_smallestBytes, F_INT16_ordinal, F_INT16_smallestBytes, F_BOOLEAN_smallestBytes, F_INT64_smallestBytes⟩ := hG
  have n1 : ¬ w_INT16 = w_BOOLEAN := (own_nefld F_INT16_ordinal F_BOOLEAN_ordinal (by decide))
  have n2 : ¬ w_INT16 = w_INT64 := (own_nefld F_INT16_ordinal F_INT64_ordinal (by decide))
  have b : ((1 : Int64) <<< ((((8 : Int32) * (2 : Int32)) - (1 : Int32)) &&& 0x3f).toInt64) = (32768 : Int64) := by decide
  have b1 : (32768 : Int64).toInt = 32768 := by decide
  have b2 : (-(32768 : Int64)).toInt = -32768 := by decide
  have r1 := rng64 q1
  have a1 := c_l2i q1
  have a2 := c_i2b q1.toInt32
  have a3 := c_i2s q1.toInt32
  have a4 := c_i2l q1.toInt32
  have a5 := c_i2l q1.toInt32.toInt8.toInt32
  have a6 := c_i2l q1.toInt32.toInt16.toInt32
  have r2 := rng32 q1.toInt32
  simp only [own_f1, if_neg n1, if_neg n2, b, Int64.lt_iff_toInt_lt, ← Int64.toInt_inj]
  repeat' split
  all_goals first | rfl | (exfalso; omega)
theorem own_p_INT32 {Z : State} (q1 : Int64) (w_BOOLEAN w_INT8 w_INT64 w_INT32 w_INT16 : Addr) (hG : own_G Z w_BOOLEAN w_INT8 w_INT64 w_INT32 w_INT16) : (own_f1 w_INT32 q1 (4 : Int32) w_BOOLEAN w_INT8 w_INT64 w_INT32 w_INT16) = (if q1 = ((q1.toInt32).toInt64) then (1 : Int32) else (0 : Int32)) := by
  obtain ⟨S_BOOLEAN, E_BOOLEAN, S_INT8, E_INT8, S_INT64, E_INT64, S_INT32, E_INT32, S_INT16, E_INT16, F_INT8_ordinal, F_BOOLEAN_ordinal, F_INT64_ordinal, F_INT8_smallestBytes, F_INT32_ordinal, F_INT32_smallestBytes, F_INT16_ordinal, F_INT16_smallestBytes, F_BOOLEAN_smallestBytes, F_INT64_smallestBytes⟩ := hG
  have n1 : ¬ w_INT32 = w_BOOLEAN := (own_nefld F_INT32_ordinal F_BOOLEAN_ordinal (by decide))
  have n2 : ¬ w_INT32 = w_INT64 := (own_nefld F_INT32_ordinal F_INT64_ordinal (by decide))
  have b : ((1 : Int64) <<< ((((8 : Int32) * (4 : Int32)) - (1 : Int32)) &&& 0x3f).toInt64) = (2147483648 : Int64) := by decide
  have b1 : (2147483648 : Int64).toInt = 2147483648 := by decide
  have b2 : (-(2147483648 : Int64)).toInt = -2147483648 := by decide
  have r1 := rng64 q1
  have a1 := c_l2i q1
  have a2 := c_i2b q1.toInt32
  have a3 := c_i2s q1.toInt32
  have a4 := c_i2l q1.toInt32
  have a5 := c_i2l q1.toInt32.toInt8.toInt32
  have a6 := c_i2l q1.toInt32.toInt16.toInt32
  have r2 := rng32 q1.toInt32
  simp only [own_f1, if_neg n1, if_neg n2, b, Int64.lt_iff_toInt_lt, ← Int64.toInt_inj]
  repeat' split
  all_goals first | rfl | (exfalso; omega)
theorem own_p_INT64 {Z : State} (q1 : Int64) (w_BOOLEAN w_INT8 w_INT64 w_INT32 w_INT16 : Addr) (hG : own_G Z w_BOOLEAN w_INT8 w_INT64 w_INT32 w_INT16) : (own_f1 w_INT64 q1 (8 : Int32) w_BOOLEAN w_INT8 w_INT64 w_INT32 w_INT16) = (1 : Int32) := by
  obtain ⟨S_BOOLEAN, E_BOOLEAN, S_INT8, E_INT8, S_INT64, E_INT64, S_INT32, E_INT32, S_INT16, E_INT16, F_INT8_ordinal, F_BOOLEAN_ordinal, F_INT64_ordinal, F_INT8_smallestBytes, F_INT32_ordinal, F_INT32_smallestBytes, F_INT16_ordinal, F_INT16_smallestBytes, F_BOOLEAN_smallestBytes, F_INT64_smallestBytes⟩ := hG
  have n1 : w_INT64 ≠ w_BOOLEAN := (own_nefld F_INT64_ordinal F_BOOLEAN_ordinal (by decide))
  simp [own_f1, n1]
set_option maxRecDepth 65536 in
set_option maxHeartbeats 40000000 in
theorem rm0 (l : Launch) (Z : State) (a0 : Array Value) (hw : ∀ d ∈ tables_1, d.before a0 Z = true) (ws : List Jvm.Cond) (p0 : Int32) (q1 : Int64) (w_BOOLEAN w_INT8 w_INT64 w_INT32 w_INT16 : Addr) (h0 : Heap) (n0 : Nat) (hG : own_G Z w_BOOLEAN w_INT8 w_INT64 w_INT32 w_INT16) (O0 : Old Z n0 h0) :
    MetFree l x (head1 (Jvm.Cond.code x code maxLocals ret :: ws) room_1) (fun a U => a = #[(.int p0), (.long q1)] ∧ Z.Warmed39 U.vm ∧ U.heap = h0) (fun _ _ _ _ _ => True) (fun _ U o U' => ∃ v L, o = .returned v ∧ own_R (some (.int 1)) n0 v U'.heap L ∧ FrameEnd U o U' L room_1.cells room_1.slots) := by
  refine MetFree.of_bodySF (plainFor_of_name pn_1) hisR ?_
  intro p e s m args below meth c s₁ Bd hml0 hP hK
  obtain ⟨rfl, hZ, hh⟩ := hP
  have hx := Bd.exec
  have hby := Bd.bytes
  have hml : c.maxLocals = 6 := hml0
  have hown : s.vm.findClass "com/example/strict_wire/strictwire/wire/FieldTypeHoldsPinLaw" = some m.cls := findClass_of_methodNamed Bd.named
  have hnm := (name_of_methodNamed Bd.named Bd.method).1
  have X0 : Stand p l e room_1 s m #[(.int p0), (.long q1)] below meth c s₁ [] 0 0 := Stand.of_body Bd
  have e0 : s₁.heap = h0 := by rw [← hh, Bd.state]; rfl
  have N0 := Fr.nil n0
  have pre0 : ∀ t, Steps p.tables e below (s₁.setTop (mkF m 0 #[.val (.int p0), .val (.long q1), .second, .unset, .unset, .unset] [])) t → Steps p.tables e below (s₁.setTop (entryFrame m #[(.int p0), (.long q1)] maxLocals)) t := fun t k => castTop (ef_rm0 m p0 q1) k
  have hG' := hG
  obtain ⟨S_BOOLEAN, E_BOOLEAN, S_INT8, E_INT8, S_INT64, E_INT64, S_INT32, E_INT32, S_INT16, E_INT16, F_INT8_ordinal, F_BOOLEAN_ordinal, F_INT64_ordinal, F_INT8_smallestBytes, F_INT32_ordinal, F_INT32_smallestBytes, F_INT16_ordinal, F_INT16_smallestBytes, F_BOOLEAN_smallestBytes, F_INT64_smallestBytes⟩ := hG'
  have k1 : ∀ t, Steps p.tables e below (s₁.setTop (mkF m 8 #[.val (.int p0), .val (.long q1), .second, .val (.int ((p0 &&& (2147483647 : Int32)) % (5 : Int32))), .unset, .unset] [(.int ((p0 &&& (2147483647 : Int32)) % (5 : Int32)))])) t → Steps p.tables e below (s₁.setTop (entryFrame m #[(.int p0), (.long q1)] maxLocals)) t := by
    intro t k
    refine pre0 _ ?_
    show Steps p.tables e below (s₁.setTop (mkF m 0 #[.val (.int p0), .val (.long q1), .second, .unset, .unset, .unset] [])) _
    refine XS.iloadN X0.here hx rfl (hb hby at_0) rfl ?_
    show Steps p.tables e below (s₁.setTop (mkF m 1 #[.val (.int p0), .val (.long q1), .second, .unset, .unset, .unset] [(.int p0)])) _
    refine X0.ldcInt hx hown (mvT hZ (hw _ (List.mem_of_getElem? (i := 0) rfl))) (g := (mkF m 1 #[.val (.int p0), .val (.long q1), .second, .unset, .unset, .unset] [(.int p0)])) rfl (hb hby at_1) _ ?_
    show Steps p.tables e below (s₁.setTop (mkF m 3 #[.val (.int p0), .val (.long q1), .second, .unset, .unset, .unset] [(.int (2147483647 : Int32)), (.int p0)])) _
    refine XS.iand X0.here hx rfl (hb hby at_3) rfl ?_
    show Steps p.tables e below (s₁.setTop (mkF m 4 #[.val (.int p0), .val (.long q1), .second, .unset, .unset, .unset] [(.int (p0 &&& (2147483647 : Int32)))])) _
    refine XS.iconst X0.here hx rfl (hb hby at_4) ?_
    show Steps p.tables e below (s₁.setTop (mkF m 5 #[.val (.int p0), .val (.long q1), .second, .unset, .unset, .unset] [(.int (5 : Int32)), (.int (p0 &&& (2147483647 : Int32)))])) _
    refine iremM X0 hx rfl (hb hby at_5) rfl (by decide) ?_
    show Steps p.tables e below (s₁.setTop (mkF m 6 #[.val (.int p0), .val (.long q1), .second, .unset, .unset, .unset] [(.int ((p0 &&& (2147483647 : Int32)) % (5 : Int32)))])) _
    refine XS.istoreN X0.here hx rfl (hb hby at_6) rfl (l' := #[.val (.int p0), .val (.long q1), .second, .val (.int ((p0 &&& (2147483647 : Int32)) % (5 : Int32))), .unset, .unset]) rfl ?_
    show Steps p.tables e below (s₁.setTop (mkF m 7 #[.val (.int p0), .val (.long q1), .second, .val (.int ((p0 &&& (2147483647 : Int32)) % (5 : Int32))), .unset, .unset] [])) _
    refine XS.iloadN X0.here hx rfl (hb hby at_7) rfl ?_
    exact k
  by_cases hc8_1 : ((p0 &&& (2147483647 : Int32)) % (5 : Int32)) = (0 : Int32)
  · obtain ⟨T2, X2, e2, st2⟩ := getS2 X0 hx hZ hown (host := "") (Or.inl (hw _ (List.mem_of_getElem? (i := 1) rfl))) Via.refl e0 (S_BOOLEAN.ext O0.2) (g := (mkF m 11 #[.val (.int p0), .val (.long q1), .second, .val (.int ((p0 &&& (2147483647 : Int32)) % (5 : Int32))), .unset, .unset] [])) rfl (hb hby at_11)
    have k3 : ∀ t, Steps p.tables e below (T2.setTop (mkF m 33 #[.val (.int p0), .val (.long q1), .second, .val (.int ((p0 &&& (2147483647 : Int32)) % (5 : Int32))), .val (.ref w_BOOLEAN), .unset] [(.int (if q1 = (0 : Int64) then (1 : Int32) else (if q1 = (1 : Int64) then (1 : Int32) else (0 : Int32))))])) t → Steps p.tables e below (s₁.setTop (entryFrame m #[(.int p0), (.long q1)] maxLocals)) t := by
      intro t k
      refine k1 _ ?_
      show Steps p.tables e below (s₁.setTop (mkF m 8 #[.val (.int p0), .val (.long q1), .second, .val (.int ((p0 &&& (2147483647 : Int32)) % (5 : Int32))), .unset, .unset] [(.int ((p0 &&& (2147483647 : Int32)) % (5 : Int32)))])) _
      refine XS.ifNo X0.here hx rfl (hb hby at_8) rfl ((if0 _ _).trans (teq hc8_1).2) ?_
      show Steps p.tables e below (s₁.setTop (mkF m 11 #[.val (.int p0), .val (.long q1), .second, .val (.int ((p0 &&& (2147483647 : Int32)) % (5 : Int32))), .unset, .unset] [])) _
      refine st2 _ ?_
      show Steps p.tables e below (T2.setTop (mkF m 14 #[.val (.int p0), .val (.long q1), .second, .val (.int ((p0 &&& (2147483647 : Int32)) % (5 : Int32))), .unset, .unset] [(.ref w_BOOLEAN)])) _
      refine XS.astore X2.here hx rfl (hb hby at_14) rfl rfl (l' := #[.val (.int p0), .val (.long q1), .second, .val (.int ((p0 &&& (2147483647 : Int32)) % (5 : Int32))), .val (.ref w_BOOLEAN), .unset]) rfl ?_
      show Steps p.tables e below (T2.setTop (mkF m 16 #[.val (.int p0), .val (.long q1), .second, .val (.int ((p0 &&& (2147483647 : Int32)) % (5 : Int32))), .val (.ref w_BOOLEAN), .unset] [])) _
      refine XS.lloadN X2.here hx rfl (hb hby at_16) rfl ?_
      show Steps p.tables e below (T2.setTop (mkF m 17 #[.val (.int p0), .val (.long q1), .second, .val (.int ((p0 &&& (2147483647 : Int32)) % (5 : Int32))), .val (.ref w_BOOLEAN), .unset] [(.long q1)])) _
      refine XS.lconst X2.here hx rfl (hb hby at_17) ?_
      show Steps p.tables e below (T2.setTop (mkF m 18 #[.val (.int p0), .val (.long q1), .second, .val (.int ((p0 &&& (2147483647 : Int32)) % (5 : Int32))), .val (.ref w_BOOLEAN), .unset] [(.long (0 : Int64)), (.long q1)])) _
      refine XS.lcmp X2.here hx rfl (hb hby at_18) rfl ?_
      show Steps p.tables e below (T2.setTop (mkF m 19 #[.val (.int p0), .val (.long q1), .second, .val (.int ((p0 &&& (2147483647 : Int32)) % (5 : Int32))), .val (.ref w_BOOLEAN), .unset] [(.int (lcmpW q1 (0 : Int64)))])) _
      by_cases hc19_2 : q1 = (0 : Int64)
      · refine XS.ifYes X2.here hx rfl (pc0 := 19) (pc' := 28) rfl (hb hby at_19) rfl ((if0 _ _).trans (teq ((lw_eq _ _).mpr hc19_2)).1) (by decide) (by decide) ?_
        show Steps p.tables e below (T2.setTop (mkF m 28 #[.val (.int p0), .val (.long q1), .second, .val (.int ((p0 &&& (2147483647 : Int32)) % (5 : Int32))), .val (.ref w_BOOLEAN), .unset] [])) _
        refine XS.iconst X2.here hx rfl (hb hby at_28) ?_
        show Steps p.tables e below (T2.setTop (mkF m 29 #[.val (.int p0), .val (.long q1), .second, .val (.int ((p0 &&& (2147483647 : Int32)) % (5 : Int32))), .val (.ref w_BOOLEAN), .unset] [(.int (1 : Int32))])) _
        refine XS.goto X2.here hx rfl (pc0 := 29) (pc' := 33) rfl (hb hby at_29) (by decide) (by decide) ?_
        try simp only [if_pos hc19_2] at k
        exact k
      · refine XS.ifNo X2.here hx rfl (hb hby at_19) rfl ((if0 _ _).trans (feq (fun q => hc19_2 ((lw_eq _ _).mp q))).1) ?_
        show Steps p.tables e below (T2.setTop (mkF m 22 #[.val (.int p0), .val (.long q1), .second, .val (.int ((p0 &&& (2147483647 : Int32)) % (5 : Int32))), .val (.ref w_BOOLEAN), .unset] [])) _
        refine XS.lloadN X2.here hx rfl (hb hby at_22) rfl ?_
        show Steps p.tables e below (T2.setTop (mkF m 23 #[.val (.int p0), .val (.long q1), .second, .val (.int ((p0 &&& (2147483647 : Int32)) % (5 : Int32))), .val (.ref w_BOOLEAN), .unset] [(.long q1)])) _
        refine XS.lconst X2.here hx rfl (hb hby at_23) ?_
        show Steps p.tables e below (T2.setTop (mkF m 24 #[.val (.int p0), .val (.long q1), .second, .val (.int ((p0 &&& (2147483647 : Int32)) % (5 : Int32))), .val (.ref w_BOOLEAN), .unset] [(.long (1 : Int64)), (.long q1)])) _
        refine XS.lcmp X2.here hx rfl (hb hby at_24) rfl ?_
        show Steps p.tables e below (T2.setTop (mkF m 25 #[.val (.int p0), .val (.long q1), .second, .val (.int ((p0 &&& (2147483647 : Int32)) % (5 : Int32))), .val (.ref w_BOOLEAN), .unset] [(.int (lcmpW q1 (1 : Int64)))])) _
        by_cases hc25_3 : q1 = (1 : Int64)
        · refine XS.ifNo X2.here hx rfl (hb hby at_25) rfl ((if0 _ _).trans (teq ((lw_eq _ _).mpr hc25_3)).2) ?_
          show Steps p.tables e below (T2.setTop (mkF m 28 #[.val (.int p0), .val (.long q1), .second, .val (.int ((p0 &&& (2147483647 : Int32)) % (5 : Int32))), .val (.ref w_BOOLEAN), .unset] [])) _
          refine XS.iconst X2.here hx rfl (hb hby at_28) ?_
          show Steps p.tables e below (T2.setTop (mkF m 29 #[.val (.int p0), .val (.long q1), .second, .val (.int ((p0 &&& (2147483647 : Int32)) % (5 : Int32))), .val (.ref w_BOOLEAN), .unset] [(.int (1 : Int32))])) _
          refine XS.goto X2.here hx rfl (pc0 := 29) (pc' := 33) rfl (hb hby at_29) (by decide) (by decide) ?_
          try simp only [if_neg hc19_2, if_pos hc25_3] at k
          exact k
        · refine XS.ifYes X2.here hx rfl (pc0 := 25) (pc' := 32) rfl (hb hby at_25) rfl ((if0 _ _).trans (feq (fun q => hc25_3 ((lw_eq _ _).mp q))).2) (by decide) (by decide) ?_
          show Steps p.tables e below (T2.setTop (mkF m 32 #[.val (.int p0), .val (.long q1), .second, .val (.int ((p0 &&& (2147483647 : Int32)) % (5 : Int32))), .val (.ref w_BOOLEAN), .unset] [])) _
          refine XS.iconst X2.here hx rfl (hb hby at_32) ?_
          try simp only [if_neg hc19_2, if_neg hc25_3] at k
          exact k
    obtain ⟨cq4, kq4, q4a, q4b, q4c⟩ := isOf hZ e2 (E_BOOLEAN.ext O0.2)
    obtain ⟨_, _, ⟨T4, L4, k4_, n4⟩, -, X4, ⟨Lc4, hQ4, l4, y4, z4⟩, st4⟩ := X2.virtualBack hx (y := (⟨"com/example/strict_wire/strictwire/wire/FieldType", "holds", "(J)Z"⟩ : MethodName)) (z := (⟨"com/example/strict_wire/strictwire/wire/FieldType", "holds", "(J)Z"⟩ : MethodName)) hown (mvT hZ (hw _ (List.mem_of_getElem? (i := 4) rfl))) (mvT hZ (hw _ (List.mem_of_getElem? (i := 5) rfl))) (notFace_of_selects (args := #[]) (mvT hZ (hw _ (List.mem_of_getElem? (i := 7) rfl)))) (mvT hZ (hw _ (List.mem_of_getElem? (i := 7) rfl))) (mvT hZ (hw _ (List.mem_of_getElem? (i := 6) rfl))) (by decide) (backOf (W := 0) (rm1 l Z a0 hw [] w_BOOLEAN q1 (1 : Int32) w_BOOLEAN w_INT8 w_INT64 w_INT32 w_INT16 h0 n0 hG O0 F_BOOLEAN_smallestBytes) hZ (hw _ (List.mem_of_getElem? (i := 8) rfl)) (hw _ (List.mem_of_getElem? (i := 2) rfl)) (by decide) (by decide)) q4a q4c (g := (mkF m 135 #[.val (.int p0), .val (.long q1), .second, .val (.int ((p0 &&& (2147483647 : Int32)) % (5 : Int32))), .val (.ref w_BOOLEAN), .val (.int (if q1 = (0 : Int64) then (1 : Int32) else (if q1 = (1 : Int64) then (1 : Int32) else (0 : Int32))))] [(.long q1), (.ref w_BOOLEAN)])) rfl (by rw [hml]; rfl) (Steps.refl _) (argsL := [(.long q1)]) (rest := []) (lenOf pd_0 rfl) rfl (by show 2 * 0 + _ ≤ _; exact Nat.le_of_eq rfl) (hb hby at_135) (fun _ _ => ⟨rfl, e2, (by decide : 0 + 0 ≤ _), (by decide : 0 + 0 ≤ _)⟩)
    dsimp only [Pt.U, Pt.locs, Pt.cells, Pt.slots] at X4 l4 y4 z4 st4 hQ4
    subst l4 y4 z4
    obtain ⟨rfl, Nq4, e4⟩ := hQ4
    have N4 := Fr.app N0 Nq4
    have k5 : ∀ t, Steps p.tables e below (T4.setTop (mkF m 148 #[.val (.int p0), .val (.long q1), .second, .val (.int ((p0 &&& (2147483647 : Int32)) % (5 : Int32))), .val (.ref w_BOOLEAN), .val (.int (if q1 = (0 : Int64) then (1 : Int32) else (if q1 = (1 : Int64) then (1 : Int32) else (0 : Int32))))] [(.int (1 : Int32))])) t → Steps p.tables e below (s₁.setTop (entryFrame m #[(.int p0), (.long q1)] maxLocals)) t := by
      intro t k
      refine k3 _ ?_
      show Steps p.tables e below (T2.setTop (mkF m 33 #[.val (.int p0), .val (.long q1), .second, .val (.int ((p0 &&& (2147483647 : Int32)) % (5 : Int32))), .val (.ref w_BOOLEAN), .unset] [(.int (if q1 = (0 : Int64) then (1 : Int32) else (if q1 = (1 : Int64) then (1 : Int32) else (0 : Int32))))])) _
      refine XS.istore X2.here hx rfl (hb hby at_33) rfl (l' := #[.val (.int p0), .val (.long q1), .second, .val (.int ((p0 &&& (2147483647 : Int32)) % (5 : Int32))), .val (.ref w_BOOLEAN), .val (.int (if q1 = (0 : Int64) then (1 : Int32) else (if q1 = (1 : Int64) then (1 : Int32) else (0 : Int32))))]) rfl ?_
      show Steps p.tables e below (T2.setTop (mkF m 35 #[.val (.int p0), .val (.long q1), .second, .val (.int ((p0 &&& (2147483647 : Int32)) % (5 : Int32))), .val (.ref w_BOOLEAN), .val (.int (if q1 = (0 : Int64) then (1 : Int32) else (if q1 = (1 : Int64) then (1 : Int32) else (0 : Int32))))] [])) _
      refine XS.goto X2.here hx rfl (pc0 := 35) (pc' := 132) rfl (hb hby at_35) (by decide) (by decide) ?_
      show Steps p.tables e below (T2.setTop (mkF m 132 #[.val (.int p0), .val (.long q1), .second, .val (.int ((p0 &&& (2147483647 : Int32)) % (5 : Int32))), .val (.ref w_BOOLEAN), .val (.int (if q1 = (0 : Int64) then (1 : Int32) else (if q1 = (1 : Int64) then (1 : Int32) else (0 : Int32))))] [])) _
      refine XS.aload X2.here hx rfl (hb hby at_132) rfl rfl ?_
      show Steps p.tables e below (T2.setTop (mkF m 134 #[.val (.int p0), .val (.long q1), .second, .val (.int ((p0 &&& (2147483647 : Int32)) % (5 : Int32))), .val (.ref w_BOOLEAN), .val (.int (if q1 = (0 : Int64) then (1 : Int32) else (if q1 = (1 : Int64) then (1 : Int32) else (0 : Int32))))] [(.ref w_BOOLEAN)])) _
      refine XS.lloadN X2.here hx rfl (hb hby at_134) rfl ?_
      show Steps p.tables e below (T2.setTop (mkF m 135 #[.val (.int p0), .val (.long q1), .second, .val (.int ((p0 &&& (2147483647 : Int32)) % (5 : Int32))), .val (.ref w_BOOLEAN), .val (.int (if q1 = (0 : Int64) then (1 : Int32) else (if q1 = (1 : Int64) then (1 : Int32) else (0 : Int32))))] [(.long q1), (.ref w_BOOLEAN)])) _
      refine st4.trans ?_
      show Steps p.tables e below (T4.setTop (mkF m 138 #[.val (.int p0), .val (.long q1), .second, .val (.int ((p0 &&& (2147483647 : Int32)) % (5 : Int32))), .val (.ref w_BOOLEAN), .val (.int (if q1 = (0 : Int64) then (1 : Int32) else (if q1 = (1 : Int64) then (1 : Int32) else (0 : Int32))))] [(.int (own_f1 w_BOOLEAN q1 (1 : Int32) w_BOOLEAN w_INT8 w_INT64 w_INT32 w_INT16))])) _
      refine XS.iload X4.here hx rfl (hb hby at_138) rfl ?_
      show Steps p.tables e below (T4.setTop (mkF m 140 #[.val (.int p0), .val (.long q1), .second, .val (.int ((p0 &&& (2147483647 : Int32)) % (5 : Int32))), .val (.ref w_BOOLEAN), .val (.int (if q1 = (0 : Int64) then (1 : Int32) else (if q1 = (1 : Int64) then (1 : Int32) else (0 : Int32))))] [(.int (if q1 = (0 : Int64) then (1 : Int32) else (if q1 = (1 : Int64) then (1 : Int32) else (0 : Int32)))), (.int (own_f1 w_BOOLEAN q1 (1 : Int32) w_BOOLEAN w_INT8 w_INT64 w_INT32 w_INT16))])) _
      refine XS.icmpNo X4.here hx rfl (hb hby at_140) rfl (teq (own_p_BOOLEAN q1 w_BOOLEAN w_INT8 w_INT64 w_INT32 w_INT16 hG)).2 ?_
      show Steps p.tables e below (T4.setTop (mkF m 143 #[.val (.int p0), .val (.long q1), .second, .val (.int ((p0 &&& (2147483647 : Int32)) % (5 : Int32))), .val (.ref w_BOOLEAN), .val (.int (if q1 = (0 : Int64) then (1 : Int32) else (if q1 = (1 : Int64) then (1 : Int32) else (0 : Int32))))] [])) _
      refine XS.iconst X4.here hx rfl (hb hby at_143) ?_
      show Steps p.tables e below (T4.setTop (mkF m 144 #[.val (.int p0), .val (.long q1), .second, .val (.int ((p0 &&& (2147483647 : Int32)) % (5 : Int32))), .val (.ref w_BOOLEAN), .val (.int (if q1 = (0 : Int64) then (1 : Int32) else (if q1 = (1 : Int64) then (1 : Int32) else (0 : Int32))))] [(.int (1 : Int32))])) _
      refine XS.goto X4.here hx rfl (pc0 := 144) (pc' := 148) rfl (hb hby at_144) (by decide) (by decide) ?_
      exact k
    obtain ⟨fs, hr, hrun, hended, hW, hsame⟩ := X4.leave (v := some (.int (1 : Int32))) (fun h => by rw [Bd.returns] at h; cases h)
    refine ⟨_, _, k5 _ ?_, hrun, hended, _, _, rfl, ?_, ⟨_, rfl⟩, hW, hsame.mono (by decide) (by decide)⟩
    · exact retN X4 hx (t := .boolean) Bd.returns (by simp) (hb hby at_148) hr
    · show own_R (some (.int 1)) n0 _ T4.heap _
      rw [e4]
      exact ⟨rfl, N4⟩
  · have k6 : ∀ t, Steps p.tables e below (s₁.setTop (mkF m 40 #[.val (.int p0), .val (.long q1), .second, .val (.int ((p0 &&& (2147483647 : Int32)) % (5 : Int32))), .unset, .unset] [(.int (1 : Int32)), (.int ((p0 &&& (2147483647 : Int32)) % (5 : Int32)))])) t → Steps p.tables e below (s₁.setTop (entryFrame m #[(.int p0), (.long q1)] maxLocals)) t := by
      intro t k
      refine k1 _ ?_
      show Steps p.tables e below (s₁.setTop (mkF m 8 #[.val (.int p0), .val (.long q1), .second, .val (.int ((p0 &&& (2147483647 : Int32)) % (5 : Int32))), .unset, .unset] [(.int ((p0 &&& (2147483647 : Int32)) % (5 : Int32)))])) _
      refine XS.ifYes X0.here hx rfl (pc0 := 8) (pc' := 38) rfl (hb hby at_8) rfl ((if0 _ _).trans (feq hc8_1).2) (by decide) (by decide) ?_
      show Steps p.tables e below (s₁.setTop (mkF m 38 #[.val (.int p0), .val (.long q1), .second, .val (.int ((p0 &&& (2147483647 : Int32)) % (5 : Int32))), .unset, .unset] [])) _
      refine XS.iloadN X0.here hx rfl (hb hby at_38) rfl ?_
      show Steps p.tables e below (s₁.setTop (mkF m 39 #[.val (.int p0), .val (.long q1), .second, .val (.int ((p0 &&& (2147483647 : Int32)) % (5 : Int32))), .unset, .unset] [(.int ((p0 &&& (2147483647 : Int32)) % (5 : Int32)))])) _
      refine XS.iconst X0.here hx rfl (hb hby at_39) ?_
      exact k
    by_cases hc40_4 : ((p0 &&& (2147483647 : Int32)) % (5 : Int32)) = (1 : Int32)
    · obtain ⟨T7, X7, e7, st7⟩ := getS2 X0 hx hZ hown (host := "") (Or.inl (hw _ (List.mem_of_getElem? (i := 10) rfl))) Via.refl e0 (S_INT8.ext O0.2) (g := (mkF m 43 #[.val (.int p0), .val (.long q1), .second, .val (.int ((p0 &&& (2147483647 : Int32)) % (5 : Int32))), .unset, .unset] [])) rfl (hb hby at_43)
      have k8 : ∀ t, Steps p.tables e below (T7.setTop (mkF m 62 #[.val (.int p0), .val (.long q1), .second, .val (.int ((p0 &&& (2147483647 : Int32)) % (5 : Int32))), .val (.ref w_INT8), .unset] [(.int (if q1 = (((q1.toInt32).toInt8.toInt32).toInt64) then (1 : Int32) else (0 : Int32)))])) t → Steps p.tables e below (s₁.setTop (entryFrame m #[(.int p0), (.long q1)] maxLocals)) t := by
        intro t k
        refine k6 _ ?_
        show Steps p.tables e below (s₁.setTop (mkF m 40 #[.val (.int p0), .val (.long q1), .second, .val (.int ((p0 &&& (2147483647 : Int32)) % (5 : Int32))), .unset, .unset] [(.int (1 : Int32)), (.int ((p0 &&& (2147483647 : Int32)) % (5 : Int32)))])) _
        refine XS.icmpNo X0.here hx rfl (hb hby at_40) rfl (teq hc40_4).2 ?_
        show Steps p.tables e below (s₁.setTop (mkF m 43 #[.val (.int p0), .val (.long q1), .second, .val (.int ((p0 &&& (2147483647 : Int32)) % (5 : Int32))), .unset, .unset] [])) _
        refine st7 _ ?_
        show Steps p.tables e below (T7.setTop (mkF m 46 #[.val (.int p0), .val (.long q1), .second, .val (.int ((p0 &&& (2147483647 : Int32)) % (5 : Int32))), .unset, .unset] [(.ref w_INT8)])) _
        refine XS.astore X7.here hx rfl (hb hby at_46) rfl rfl (l' := #[.val (.int p0), .val (.long q1), .second, .val (.int ((p0 &&& (2147483647 : Int32)) % (5 : Int32))), .val (.ref w_INT8), .unset]) rfl ?_
        show Steps p.tables e below (T7.setTop (mkF m 48 #[.val (.int p0), .val (.long q1), .second, .val (.int ((p0 &&& (2147483647 : Int32)) % (5 : Int32))), .val (.ref w_INT8), .unset] [])) _
        refine XS.lloadN X7.here hx rfl (hb hby at_48) rfl ?_
        show Steps p.tables e below (T7.setTop (mkF m 49 #[.val (.int p0), .val (.long q1), .second, .val (.int ((p0 &&& (2147483647 : Int32)) % (5 : Int32))), .val (.ref w_INT8), .unset] [(.long q1)])) _
        refine XS.lloadN X7.here hx rfl (hb hby at_49) rfl ?_
        show Steps p.tables e below (T7.setTop (mkF m 50 #[.val (.int p0), .val (.long q1), .second, .val (.int ((p0 &&& (2147483647 : Int32)) % (5 : Int32))), .val (.ref w_INT8), .unset] [(.long q1), (.long q1)])) _
        refine XS.l2i X7.here hx rfl (hb hby at_50) rfl ?_
        show Steps p.tables e below (T7.setTop (mkF m 51 #[.val (.int p0), .val (.long q1), .second, .val (.int ((p0 &&& (2147483647 : Int32)) % (5 : Int32))), .val (.ref w_INT8), .unset] [(.int (q1.toInt32)), (.long q1)])) _
        refine XS.i2b X7.here hx rfl (hb hby at_51) rfl ?_
        show Steps p.tables e below (T7.setTop (mkF m 52 #[.val (.int p0), .val (.long q1), .second, .val (.int ((p0 &&& (2147483647 : Int32)) % (5 : Int32))), .val (.ref w_INT8), .unset] [(.int ((q1.toInt32).toInt8.toInt32)), (.long q1)])) _
        refine XS.i2l X7.here hx rfl (hb hby at_52) rfl ?_
        show Steps p.tables e below (T7.setTop (mkF m 53 #[.val (.int p0), .val (.long q1), .second, .val (.int ((p0 &&& (2147483647 : Int32)) % (5 : Int32))), .val (.ref w_INT8), .unset] [(.long (((q1.toInt32).toInt8.toInt32).toInt64)), (.long q1)])) _
        refine XS.lcmp X7.here hx rfl (hb hby at_53) rfl ?_
        show Steps p.tables e below (T7.setTop (mkF m 54 #[.val (.int p0), .val (.long q1), .second, .val (.int ((p0 &&& (2147483647 : Int32)) % (5 : Int32))), .val (.ref w_INT8), .unset] [(.int (lcmpW q1 (((q1.toInt32).toInt8.toInt32).toInt64)))])) _
        by_cases hc54_5 : q1 = (((q1.toInt32).toInt8.toInt32).toInt64)
        · refine XS.ifNo X7.here hx rfl (hb hby at_54) rfl ((if0 _ _).trans (teq ((lw_eq _ _).mpr hc54_5)).2) ?_
          show Steps p.tables e below (T7.setTop (mkF m 57 #[.val (.int p0), .val (.long q1), .second, .val (.int ((p0 &&& (2147483647 : Int32)) % (5 : Int32))), .val (.ref w_INT8), .unset] [])) _
          refine XS.iconst X7.here hx rfl (hb hby at_57) ?_
          show Steps p.tables e below (T7.setTop (mkF m 58 #[.val (.int p0), .val (.long q1), .second, .val (.int ((p0 &&& (2147483647 : Int32)) % (5 : Int32))), .val (.ref w_INT8), .unset] [(.int (1 : Int32))])) _
          refine XS.goto X7.here hx rfl (pc0 := 58) (pc' := 62) rfl (hb hby at_58) (by decide) (by decide) ?_
          try simp only [if_pos hc54_5] at k
          exact k
        · refine XS.ifYes X7.here hx rfl (pc0 := 54) (pc' := 61) rfl (hb hby at_54) rfl ((if0 _ _).trans (feq (fun q => hc54_5 ((lw_eq _ _).mp q))).2) (by decide) (by decide) ?_
          show Steps p.tables e below (T7.setTop (mkF m 61 #[.val (.int p0), .val (.long q1), .second, .val (.int ((p0 &&& (2147483647 : Int32)) % (5 : Int32))), .val (.ref w_INT8), .unset] [])) _
          refine XS.iconst X7.here hx rfl (hb hby at_61) ?_
          try simp only [if_neg hc54_5] at k
          exact k
      obtain ⟨cq9, kq9, q9a, q9b, q9c⟩ := isOf hZ e7 (E_INT8.ext O0.2)
      obtain ⟨_, _, ⟨T9, L9, k9_, n9⟩, -, X9, ⟨Lc9, hQ9, l9, y9, z9⟩, st9⟩ := X7.virtualBack hx (y := (⟨"com/example/strict_wire/strictwire/wire/FieldType", "holds", "(J)Z"⟩ : MethodName)) (z := (⟨"com/example/strict_wire/strictwire/wire/FieldType", "holds", "(J)Z"⟩ : MethodName)) hown (mvT hZ (hw _ (List.mem_of_getElem? (i := 4) rfl))) (mvT hZ (hw _ (List.mem_of_getElem? (i := 5) rfl))) (notFace_of_selects (args := #[]) (mvT hZ (hw _ (List.mem_of_getElem? (i := 7) rfl)))) (mvT hZ (hw _ (List.mem_of_getElem? (i := 7) rfl))) (mvT hZ (hw _ (List.mem_of_getElem? (i := 6) rfl))) (by decide) (backOf (W := 0) (rm1 l Z a0 hw [] w_INT8 q1 (1 : Int32) w_BOOLEAN w_INT8 w_INT64 w_INT32 w_INT16 h0 n0 hG O0 F_INT8_smallestBytes) hZ (hw _ (List.mem_of_getElem? (i := 8) rfl)) (hw _ (List.mem_of_getElem? (i := 2) rfl)) (by decide) (by decide)) q9a q9c (g := (mkF m 135 #[.val (.int p0), .val (.long q1), .second, .val (.int ((p0 &&& (2147483647 : Int32)) % (5 : Int32))), .val (.ref w_INT8), .val (.int (if q1 = (((q1.toInt32).toInt8.toInt32).toInt64) then (1 : Int32) else (0 : Int32)))] [(.long q1), (.ref w_INT8)])) rfl (by rw [hml]; rfl) (Steps.refl _) (argsL := [(.long q1)]) (rest := []) (lenOf pd_0 rfl) rfl (by show 2 * 0 + _ ≤ _; exact Nat.le_of_eq rfl) (hb hby at_135) (fun _ _ => ⟨rfl, e7, (by decide : 0 + 0 ≤ _), (by decide : 0 + 0 ≤ _)⟩)
      dsimp only [Pt.U, Pt.locs, Pt.cells, Pt.slots] at X9 l9 y9 z9 st9 hQ9
      subst l9 y9 z9
      obtain ⟨rfl, Nq9, e9⟩ := hQ9
      have N9 := Fr.app N0 Nq9
      have k10 : ∀ t, Steps p.tables e below (T9.setTop (mkF m 148 #[.val (.int p0), .val (.long q1), .second, .val (.int ((p0 &&& (2147483647 : Int32)) % (5 : Int32))), .val (.ref w_INT8), .val (.int (if q1 = (((q1.toInt32).toInt8.toInt32).toInt64) then (1 : Int32) else (0 : Int32)))] [(.int (1 : Int32))])) t → Steps p.tables e below (s₁.setTop (entryFrame m #[(.int p0), (.long q1)] maxLocals)) t := by
        intro t k
        refine k8 _ ?_
        show Steps p.tables e below (T7.setTop (mkF m 62 #[.val (.int p0), .val (.long q1), .second, .val (.int ((p0 &&& (2147483647 : Int32)) % (5 : Int32))), .val (.ref w_INT8), .unset] [(.int (if q1 = (((q1.toInt32).toInt8.toInt32).toInt64) then (1 : Int32) else (0 : Int32)))])) _
        refine XS.istore X7.here hx rfl (hb hby at_62) rfl (l' := #[.val (.int p0), .val (.long q1), .second, .val (.int ((p0 &&& (2147483647 : Int32)) % (5 : Int32))), .val (.ref w_INT8), .val (.int (if q1 = (((q1.toInt32).toInt8.toInt32).toInt64) then (1 : Int32) else (0 : Int32)))]) rfl ?_
        show Steps p.tables e below (T7.setTop (mkF m 64 #[.val (.int p0), .val (.long q1), .second, .val (.int ((p0 &&& (2147483647 : Int32)) % (5 : Int32))), .val (.ref w_INT8), .val (.int (if q1 = (((q1.toInt32).toInt8.toInt32).toInt64) then (1 : Int32) else (0 : Int32)))] [])) _
        refine XS.goto X7.here hx rfl (pc0 := 64) (pc' := 132) rfl (hb hby at_64) (by decide) (by decide) ?_
        show Steps p.tables e below (T7.setTop (mkF m 132 #[.val (.int p0), .val (.long q1), .second, .val (.int ((p0 &&& (2147483647 : Int32)) % (5 : Int32))), .val (.ref w_INT8), .val (.int (if q1 = (((q1.toInt32).toInt8.toInt32).toInt64) then (1 : Int32) else (0 : Int32)))] [])) _
        refine XS.aload X7.here hx rfl (hb hby at_132) rfl rfl ?_
        show Steps p.tables e below (T7.setTop (mkF m 134 #[.val (.int p0), .val (.long q1), .second, .val (.int ((p0 &&& (2147483647 : Int32)) % (5 : Int32))), .val (.ref w_INT8), .val (.int (if q1 = (((q1.toInt32).toInt8.toInt32).toInt64) then (1 : Int32) else (0 : Int32)))] [(.ref w_INT8)])) _
        refine XS.lloadN X7.here hx rfl (hb hby at_134) rfl ?_
        show Steps p.tables e below (T7.setTop (mkF m 135 #[.val (.int p0), .val (.long q1), .second, .val (.int ((p0 &&& (2147483647 : Int32)) % (5 : Int32))), .val (.ref w_INT8), .val (.int (if q1 = (((q1.toInt32).toInt8.toInt32).toInt64) then (1 : Int32) else (0 : Int32)))] [(.long q1), (.ref w_INT8)])) _
        refine st9.trans ?_
        show Steps p.tables e below (T9.setTop (mkF m 138 #[.val (.int p0), .val (.long q1), .second, .val (.int ((p0 &&& (2147483647 : Int32)) % (5 : Int32))), .val (.ref w_INT8), .val (.int (if q1 = (((q1.toInt32).toInt8.toInt32).toInt64) then (1 : Int32) else (0 : Int32)))] [(.int (own_f1 w_INT8 q1 (1 : Int32) w_BOOLEAN w_INT8 w_INT64 w_INT32 w_INT16))])) _
        refine XS.iload X9.here hx rfl (hb hby at_138) rfl ?_
        show Steps p.tables e below (T9.setTop (mkF m 140 #[.val (.int p0), .val (.long q1), .second, .val (.int ((p0 &&& (2147483647 : Int32)) % (5 : Int32))), .val (.ref w_INT8), .val (.int (if q1 = (((q1.toInt32).toInt8.toInt32).toInt64) then (1 : Int32) else (0 : Int32)))] [(.int (if q1 = (((q1.toInt32).toInt8.toInt32).toInt64) then (1 : Int32) else (0 : Int32))), (.int (own_f1 w_INT8 q1 (1 : Int32) w_BOOLEAN w_INT8 w_INT64 w_INT32 w_INT16))])) _
        refine XS.icmpNo X9.here hx rfl (hb hby at_140) rfl (teq (own_p_INT8 q1 w_BOOLEAN w_INT8 w_INT64 w_INT32 w_INT16 hG)).2 ?_
        show Steps p.tables e below (T9.setTop (mkF m 143 #[.val (.int p0), .val (.long q1), .second, .val (.int ((p0 &&& (2147483647 : Int32)) % (5 : Int32))), .val (.ref w_INT8), .val (.int (if q1 = (((q1.toInt32).toInt8.toInt32).toInt64) then (1 : Int32) else (0 : Int32)))] [])) _
        refine XS.iconst X9.here hx rfl (hb hby at_143) ?_
        show Steps p.tables e below (T9.setTop (mkF m 144 #[.val (.int p0), .val (.long q1), .second, .val (.int ((p0 &&& (2147483647 : Int32)) % (5 : Int32))), .val (.ref w_INT8), .val (.int (if q1 = (((q1.toInt32).toInt8.toInt32).toInt64) then (1 : Int32) else (0 : Int32)))] [(.int (1 : Int32))])) _
        refine XS.goto X9.here hx rfl (pc0 := 144) (pc' := 148) rfl (hb hby at_144) (by decide) (by decide) ?_
        exact k
      obtain ⟨fs, hr, hrun, hended, hW, hsame⟩ := X9.leave (v := some (.int (1 : Int32))) (fun h => by rw [Bd.returns] at h; cases h)
      refine ⟨_, _, k10 _ ?_, hrun, hended, _, _, rfl, ?_, ⟨_, rfl⟩, hW, hsame.mono (by decide) (by decide)⟩
      · exact retN X9 hx (t := .boolean) Bd.returns (by simp) (hb hby at_148) hr
      · show own_R (some (.int 1)) n0 _ T9.heap _
        rw [e9]
        exact ⟨rfl, N9⟩
    · have k11 : ∀ t, Steps p.tables e below (s₁.setTop (mkF m 69 #[.val (.int p0), .val (.long q1), .second, .val (.int ((p0 &&& (2147483647 : Int32)) % (5 : Int32))), .unset, .unset] [(.int (2 : Int32)), (.int ((p0 &&& (2147483647 : Int32)) % (5 : Int32)))])) t → Steps p.tables e below (s₁.setTop (entryFrame m #[(.int p0), (.long q1)] maxLocals)) t := by
        intro t k
        refine k6 _ ?_
        show Steps p.tables e below (s₁.setTop (mkF m 40 #[.val (.int p0), .val (.long q1), .second, .val (.int ((p0 &&& (2147483647 : Int32)) % (5 : Int32))), .unset, .unset] [(.int (1 : Int32)), (.int ((p0 &&& (2147483647 : Int32)) % (5 : Int32)))])) _
        refine XS.icmpYes X0.here hx rfl (pc0 := 40) (pc' := 67) rfl (hb hby at_40) rfl (feq hc40_4).2 (by decide) (by decide) ?_
        show Steps p.tables e below (s₁.setTop (mkF m 67 #[.val (.int p0), .val (.long q1), .second, .val (.int ((p0 &&& (2147483647 : Int32)) % (5 : Int32))), .unset, .unset] [])) _
        refine XS.iloadN X0.here hx rfl (hb hby at_67) rfl ?_
        show Steps p.tables e below (s₁.setTop (mkF m 68 #[.val (.int p0), .val (.long q1), .second, .val (.int ((p0 &&& (2147483647 : Int32)) % (5 : Int32))), .unset, .unset] [(.int ((p0 &&& (2147483647 : Int32)) % (5 : Int32)))])) _
        refine XS.iconst X0.here hx rfl (hb hby at_68) ?_
        exact k
      by_cases hc69_6 : ((p0 &&& (2147483647 : Int32)) % (5 : Int32)) = (2 : Int32)
      · obtain ⟨T12, X12, e12, st12⟩ := getS2 X0 hx hZ hown (host := "") (Or.inl (hw _ (List.mem_of_getElem? (i := 19) rfl))) Via.refl e0 (S_INT16.ext O0.2) (g := (mkF m 72 #[.val (.int p0), .val (.long q1), .second, .val (.int ((p0 &&& (2147483647 : Int32)) % (5 : Int32))), .unset, .unset] [])) rfl (hb hby at_72)
        have k13 : ∀ t, Steps p.tables e below (T12.setTop (mkF m 91 #[.val (.int p0), .val (.long q1), .second, .val (.int ((p0 &&& (2147483647 : Int32)) % (5 : Int32))), .val (.ref w_INT16), .unset] [(.int (if q1 = (((q1.toInt32).toInt16.toInt32).toInt64) then (1 : Int32) else (0 : Int32)))])) t → Steps p.tables e below (s₁.setTop (entryFrame m #[(.int p0), (.long q1)] maxLocals)) t := by
          intro t k
          refine k11 _ ?_
          show Steps p.tables e below (s₁.setTop (mkF m 69 #[.val (.int p0), .val (.long q1), .second, .val (.int ((p0 &&& (2147483647 : Int32)) % (5 : Int32))), .unset, .unset] [(.int (2 : Int32)), (.int ((p0 &&& (2147483647 : Int32)) % (5 : Int32)))])) _
          refine XS.icmpNo X0.here hx rfl (hb hby at_69) rfl (teq hc69_6).2 ?_
          show Steps p.tables e below (s₁.setTop (mkF m 72 #[.val (.int p0), .val (.long q1), .second, .val (.int ((p0 &&& (2147483647 : Int32)) % (5 : Int32))), .unset, .unset] [])) _
          refine st12 _ ?_
          show Steps p.tables e below (T12.setTop (mkF m 75 #[.val (.int p0), .val (.long q1), .second, .val (.int ((p0 &&& (2147483647 : Int32)) % (5 : Int32))), .unset, .unset] [(.ref w_INT16)])) _
          refine XS.astore X12.here hx rfl (hb hby at_75) rfl rfl (l' := #[.val (.int p0), .val (.long q1), .second, .val (.int ((p0 &&& (2147483647 : Int32)) % (5 : Int32))), .val (.ref w_INT16), .unset]) rfl ?_
          show Steps p.tables e below (T12.setTop (mkF m 77 #[.val (.int p0), .val (.long q1), .second, .val (.int ((p0 &&& (2147483647 : Int32)) % (5 : Int32))), .val (.ref w_INT16), .unset] [])) _
          refine XS.lloadN X12.here hx rfl (hb hby at_77) rfl ?_
          show Steps p.tables e below (T12.setTop (mkF m 78 #[.val (.int p0), .val (.long q1), .second, .val (.int ((p0 &&& (2147483647 : Int32)) % (5 : Int32))), .val (.ref w_INT16), .unset] [(.long q1)])) _
          refine XS.lloadN X12.here hx rfl (hb hby at_78) rfl ?_
          show Steps p.tables e below (T12.setTop (mkF m 79 #[.val (.int p0), .val (.long q1), .second, .val (.int ((p0 &&& (2147483647 : Int32)) % (5 : Int32))), .val (.ref w_INT16), .unset] [(.long q1), (.long q1)])) _
          refine XS.l2i X12.here hx rfl (hb hby at_79) rfl ?_
          show Steps p.tables e below (T12.setTop (mkF m 80 #[.val (.int p0), .val (.long q1), .second, .val (.int ((p0 &&& (2147483647 : Int32)) % (5 : Int32))), .val (.ref w_INT16), .unset] [(.int (q1.toInt32)), (.long q1)])) _
          refine XS.i2s X12.here hx rfl (hb hby at_80) rfl ?_
          show Steps p.tables e below (T12.setTop (mkF m 81 #[.val (.int p0), .val (.long q1), .second, .val (.int ((p0 &&& (2147483647 : Int32)) % (5 : Int32))), .val (.ref w_INT16), .unset] [(.int ((q1.toInt32).toInt16.toInt32)), (.long q1)])) _
          refine XS.i2l X12.here hx rfl (hb hby at_81) rfl ?_
          show Steps p.tables e below (T12.setTop (mkF m 82 #[.val (.int p0), .val (.long q1), .second, .val (.int ((p0 &&& (2147483647 : Int32)) % (5 : Int32))), .val (.ref w_INT16), .unset] [(.long (((q1.toInt32).toInt16.toInt32).toInt64)), (.long q1)])) _
          refine XS.lcmp X12.here hx rfl (hb hby at_82) rfl ?_
          show Steps p.tables e below (T12.setTop (mkF m 83 #[.val (.int p0), .val (.long q1), .second, .val (.int ((p0 &&& (2147483647 : Int32)) % (5 : Int32))), .val (.ref w_INT16), .unset] [(.int (lcmpW q1 (((q1.toInt32).toInt16.toInt32).toInt64)))])) _
          by_cases hc83_7 : q1 = (((q1.toInt32).toInt16.toInt32).toInt64)
          · refine XS.ifNo X12.here hx rfl (hb hby at_83) rfl ((if0 _ _).trans (teq ((lw_eq _ _).mpr hc83_7)).2) ?_
            show Steps p.tables e below (T12.setTop (mkF m 86 #[.val (.int p0), .val (.long q1), .second, .val (.int ((p0 &&& (2147483647 : Int32)) % (5 : Int32))), .val (.ref w_INT16), .unset] [])) _
            refine XS.iconst X12.here hx rfl (hb hby at_86) ?_
            show Steps p.tables e below (T12.setTop (mkF m 87 #[.val (.int p0), .val (.long q1), .second, .val (.int ((p0 &&& (2147483647 : Int32)) % (5 : Int32))), .val (.ref w_INT16), .unset] [(.int (1 : Int32))])) _
            refine XS.goto X12.here hx rfl (pc0 := 87) (pc' := 91) rfl (hb hby at_87) (by decide) (by decide) ?_
            try simp only [if_pos hc83_7] at k
            exact k
          · refine XS.ifYes X12.here hx rfl (pc0 := 83) (pc' := 90) rfl (hb hby at_83) rfl ((if0 _ _).trans (feq (fun q => hc83_7 ((lw_eq _ _).mp q))).2) (by decide) (by decide) ?_
            show Steps p.tables e below (T12.setTop (mkF m 90 #[.val (.int p0), .val (.long q1), .second, .val (.int ((p0 &&& (2147483647 : Int32)) % (5 : Int32))), .val (.ref w_INT16), .unset] [])) _
            refine XS.iconst X12.here hx rfl (hb hby at_90) ?_
            try simp only [if_neg hc83_7] at k
            exact k
        obtain ⟨cq14, kq14, q14a, q14b, q14c⟩ := isOf hZ e12 (E_INT16.ext O0.2)
        obtain ⟨_, _, ⟨T14, L14, k14_, n14⟩, -, X14, ⟨Lc14, hQ14, l14, y14, z14⟩, st14⟩ := X12.virtualBack hx (y := (⟨"com/example/strict_wire/strictwire/wire/FieldType", "holds", "(J)Z"⟩ : MethodName)) (z := (⟨"com/example/strict_wire/strictwire/wire/FieldType", "holds", "(J)Z"⟩ : MethodName)) hown (mvT hZ (hw _ (List.mem_of_getElem? (i := 4) rfl))) (mvT hZ (hw _ (List.mem_of_getElem? (i := 5) rfl))) (notFace_of_selects (args := #[]) (mvT hZ (hw _ (List.mem_of_getElem? (i := 7) rfl)))) (mvT hZ (hw _ (List.mem_of_getElem? (i := 7) rfl))) (mvT hZ (hw _ (List.mem_of_getElem? (i := 6) rfl))) (by decide) (backOf (W := 0) (rm1 l Z a0 hw [] w_INT16 q1 (2 : Int32) w_BOOLEAN w_INT8 w_INT64 w_INT32 w_INT16 h0 n0 hG O0 F_INT16_smallestBytes) hZ (hw _ (List.mem_of_getElem? (i := 8) rfl)) (hw _ (List.mem_of_getElem? (i := 2) rfl)) (by decide) (by decide)) q14a q14c (g := (mkF m 135 #[.val (.int p0), .val (.long q1), .second, .val (.int ((p0 &&& (2147483647 : Int32)) % (5 : Int32))), .val (.ref w_INT16), .val (.int (if q1 = (((q1.toInt32).toInt16.toInt32).toInt64) then (1 : Int32) else (0 : Int32)))] [(.long q1), (.ref w_INT16)])) rfl (by rw [hml]; rfl) (Steps.refl _) (argsL := [(.long q1)]) (rest := []) (lenOf pd_0 rfl) rfl (by show 2 * 0 + _ ≤ _; exact Nat.le_of_eq rfl) (hb hby at_135) (fun _ _ => ⟨rfl, e12, (by decide : 0 + 0 ≤ _), (by decide : 0 + 0 ≤ _)⟩)
        dsimp only [Pt.U, Pt.locs, Pt.cells, Pt.slots] at X14 l14 y14 z14 st14 hQ14
        subst l14 y14 z14
        obtain ⟨rfl, Nq14, e14⟩ := hQ14
        have N14 := Fr.app N0 Nq14
        have k15 : ∀ t, Steps p.tables e below (T14.setTop (mkF m 148 #[.val (.int p0), .val (.long q1), .second, .val (.int ((p0 &&& (2147483647 : Int32)) % (5 : Int32))), .val (.ref w_INT16), .val (.int (if q1 = (((q1.toInt32).toInt16.toInt32).toInt64) then (1 : Int32) else (0 : Int32)))] [(.int (1 : Int32))])) t → Steps p.tables e below (s₁.setTop (entryFrame m #[(.int p0), (.long q1)] maxLocals)) t := by
          intro t k
          refine k13 _ ?_
          show Steps p.tables e below (T12.setTop (mkF m 91 #[.val (.int p0), .val (.long q1), .second, .val (.int ((p0 &&& (2147483647 : Int32)) % (5 : Int32))), .val (.ref w_INT16), .unset] [(.int (if q1 = (((q1.toInt32).toInt16.toInt32).toInt64) then (1 : Int32) else (0 : Int32)))])) _
          refine XS.istore X12.here hx rfl (hb hby at_91) rfl (l' := #[.val (.int p0), .val (.long q1), .second, .val (.int ((p0 &&& (2147483647 : Int32)) % (5 : Int32))), .val (.ref w_INT16), .val (.int (if q1 = (((q1.toInt32).toInt16.toInt32).toInt64) then (1 : Int32) else (0 : Int32)))]) rfl ?_
          show Steps p.tables e below (T12.setTop (mkF m 93 #[.val (.int p0), .val (.long q1), .second, .val (.int ((p0 &&& (2147483647 : Int32)) % (5 : Int32))), .val (.ref w_INT16), .val (.int (if q1 = (((q1.toInt32).toInt16.toInt32).toInt64) then (1 : Int32) else (0 : Int32)))] [])) _
          refine XS.goto X12.here hx rfl (pc0 := 93) (pc' := 132) rfl (hb hby at_93) (by decide) (by decide) ?_
          show Steps p.tables e below (T12.setTop (mkF m 132 #[.val (.int p0), .val (.long q1), .second, .val (.int ((p0 &&& (2147483647 : Int32)) % (5 : Int32))), .val (.ref w_INT16), .val (.int (if q1 = (((q1.toInt32).toInt16.toInt32).toInt64) then (1 : Int32) else (0 : Int32)))] [])) _
          refine XS.aload X12.here hx rfl (hb hby at_132) rfl rfl ?_
          show Steps p.tables e below (T12.setTop (mkF m 134 #[.val (.int p0), .val (.long q1), .second, .val (.int ((p0 &&& (2147483647 : Int32)) % (5 : Int32))), .val (.ref w_INT16), .val (.int (if q1 = (((q1.toInt32).toInt16.toInt32).toInt64) then (1 : Int32) else (0 : Int32)))] [(.ref w_INT16)])) _
          refine XS.lloadN X12.here hx rfl (hb hby at_134) rfl ?_
          show Steps p.tables e below (T12.setTop (mkF m 135 #[.val (.int p0), .val (.long q1), .second, .val (.int ((p0 &&& (2147483647 : Int32)) % (5 : Int32))), .val (.ref w_INT16), .val (.int (if q1 = (((q1.toInt32).toInt16.toInt32).toInt64) then (1 : Int32) else (0 : Int32)))] [(.long q1), (.ref w_INT16)])) _
          refine st14.trans ?_
          show Steps p.tables e below (T14.setTop (mkF m 138 #[.val (.int p0), .val (.long q1), .second, .val (.int ((p0 &&& (2147483647 : Int32)) % (5 : Int32))), .val (.ref w_INT16), .val (.int (if q1 = (((q1.toInt32).toInt16.toInt32).toInt64) then (1 : Int32) else (0 : Int32)))] [(.int (own_f1 w_INT16 q1 (2 : Int32) w_BOOLEAN w_INT8 w_INT64 w_INT32 w_INT16))])) _
          refine XS.iload X14.here hx rfl (hb hby at_138) rfl ?_
          show Steps p.tables e below (T14.setTop (mkF m 140 #[.val (.int p0), .val (.long q1), .second, .val (.int ((p0 &&& (2147483647 : Int32)) % (5 : Int32))), .val (.ref w_INT16), .val (.int (if q1 = (((q1.toInt32).toInt16.toInt32).toInt64) then (1 : Int32) else (0 : Int32)))] [(.int (if q1 = (((q1.toInt32).toInt16.toInt32).toInt64) then (1 : Int32) else (0 : Int32))), (.int (own_f1 w_INT16 q1 (2 : Int32) w_BOOLEAN w_INT8 w_INT64 w_INT32 w_INT16))])) _
          refine XS.icmpNo X14.here hx rfl (hb hby at_140) rfl (teq (own_p_INT16 q1 w_BOOLEAN w_INT8 w_INT64 w_INT32 w_INT16 hG)).2 ?_
          show Steps p.tables e below (T14.setTop (mkF m 143 #[.val (.int p0), .val (.long q1), .second, .val (.int ((p0 &&& (2147483647 : Int32)) % (5 : Int32))), .val (.ref w_INT16), .val (.int (if q1 = (((q1.toInt32).toInt16.toInt32).toInt64) then (1 : Int32) else (0 : Int32)))] [])) _
          refine XS.iconst X14.here hx rfl (hb hby at_143) ?_
          show Steps p.tables e below (T14.setTop (mkF m 144 #[.val (.int p0), .val (.long q1), .second, .val (.int ((p0 &&& (2147483647 : Int32)) % (5 : Int32))), .val (.ref w_INT16), .val (.int (if q1 = (((q1.toInt32).toInt16.toInt32).toInt64) then (1 : Int32) else (0 : Int32)))] [(.int (1 : Int32))])) _
          refine XS.goto X14.here hx rfl (pc0 := 144) (pc' := 148) rfl (hb hby at_144) (by decide) (by decide) ?_
          exact k
        obtain ⟨fs, hr, hrun, hended, hW, hsame⟩ := X14.leave (v := some (.int (1 : Int32))) (fun h => by rw [Bd.returns] at h; cases h)
        refine ⟨_, _, k15 _ ?_, hrun, hended, _, _, rfl, ?_, ⟨_, rfl⟩, hW, hsame.mono (by decide) (by decide)⟩
        · exact retN X14 hx (t := .boolean) Bd.returns (by simp) (hb hby at_148) hr
        · show own_R (some (.int 1)) n0 _ T14.heap _
          rw [e14]
          exact ⟨rfl, N14⟩
      · have k16 : ∀ t, Steps p.tables e below (s₁.setTop (mkF m 98 #[.val (.int p0), .val (.long q1), .second, .val (.int ((p0 &&& (2147483647 : Int32)) % (5 : Int32))), .unset, .unset] [(.int (3 : Int32)), (.int ((p0 &&& (2147483647 : Int32)) % (5 : Int32)))])) t → Steps p.tables e below (s₁.setTop (entryFrame m #[(.int p0), (.long q1)] maxLocals)) t := by
          intro t k
          refine k11 _ ?_
          show Steps p.tables e below (s₁.setTop (mkF m 69 #[.val (.int p0), .val (.long q1), .second, .val (.int ((p0 &&& (2147483647 : Int32)) % (5 : Int32))), .unset, .unset] [(.int (2 : Int32)), (.int ((p0 &&& (2147483647 : Int32)) % (5 : Int32)))])) _
          refine XS.icmpYes X0.here hx rfl (pc0 := 69) (pc' := 96) rfl (hb hby at_69) rfl (feq hc69_6).2 (by decide) (by decide) ?_
          show Steps p.tables e below (s₁.setTop (mkF m 96 #[.val (.int p0), .val (.long q1), .second, .val (.int ((p0 &&& (2147483647 : Int32)) % (5 : Int32))), .unset, .unset] [])) _
          refine XS.iloadN X0.here hx rfl (hb hby at_96) rfl ?_
          show Steps p.tables e below (s₁.setTop (mkF m 97 #[.val (.int p0), .val (.long q1), .second, .val (.int ((p0 &&& (2147483647 : Int32)) % (5 : Int32))), .unset, .unset] [(.int ((p0 &&& (2147483647 : Int32)) % (5 : Int32)))])) _
          refine XS.iconst X0.here hx rfl (hb hby at_97) ?_
          exact k
        by_cases hc98_8 : ((p0 &&& (2147483647 : Int32)) % (5 : Int32)) = (3 : Int32)
        · obtain ⟨T17, X17, e17, st17⟩ := getS2 X0 hx hZ hown (host := "") (Or.inl (hw _ (List.mem_of_getElem? (i := 17) rfl))) Via.refl e0 (S_INT32.ext O0.2) (g := (mkF m 101 #[.val (.int p0), .val (.long q1), .second, .val (.int ((p0 &&& (2147483647 : Int32)) % (5 : Int32))), .unset, .unset] [])) rfl (hb hby at_101)
          have k18 : ∀ t, Steps p.tables e below (T17.setTop (mkF m 119 #[.val (.int p0), .val (.long q1), .second, .val (.int ((p0 &&& (2147483647 : Int32)) % (5 : Int32))), .val (.ref w_INT32), .unset] [(.int (if q1 = ((q1.toInt32).toInt64) then (1 : Int32) else (0 : Int32)))])) t → Steps p.tables e below (s₁.setTop (entryFrame m #[(.int p0), (.long q1)] maxLocals)) t := by
            intro t k
            refine k16 _ ?_
            show Steps p.tables e below (s₁.setTop (mkF m 98 #[.val (.int p0), .val (.long q1), .second, .val (.int ((p0 &&& (2147483647 : Int32)) % (5 : Int32))), .unset, .unset] [(.int (3 : Int32)), (.int ((p0 &&& (2147483647 : Int32)) % (5 : Int32)))])) _
            refine XS.icmpNo X0.here hx rfl (hb hby at_98) rfl (teq hc98_8).2 ?_
            show Steps p.tables e below (s₁.setTop (mkF m 101 #[.val (.int p0), .val (.long q1), .second, .val (.int ((p0 &&& (2147483647 : Int32)) % (5 : Int32))), .unset, .unset] [])) _
            refine st17 _ ?_
            show Steps p.tables e below (T17.setTop (mkF m 104 #[.val (.int p0), .val (.long q1), .second, .val (.int ((p0 &&& (2147483647 : Int32)) % (5 : Int32))), .unset, .unset] [(.ref w_INT32)])) _
            refine XS.astore X17.here hx rfl (hb hby at_104) rfl rfl (l' := #[.val (.int p0), .val (.long q1), .second, .val (.int ((p0 &&& (2147483647 : Int32)) % (5 : Int32))), .val (.ref w_INT32), .unset]) rfl ?_
            show Steps p.tables e below (T17.setTop (mkF m 106 #[.val (.int p0), .val (.long q1), .second, .val (.int ((p0 &&& (2147483647 : Int32)) % (5 : Int32))), .val (.ref w_INT32), .unset] [])) _
            refine XS.lloadN X17.here hx rfl (hb hby at_106) rfl ?_
            show Steps p.tables e below (T17.setTop (mkF m 107 #[.val (.int p0), .val (.long q1), .second, .val (.int ((p0 &&& (2147483647 : Int32)) % (5 : Int32))), .val (.ref w_INT32), .unset] [(.long q1)])) _
            refine XS.lloadN X17.here hx rfl (hb hby at_107) rfl ?_
            show Steps p.tables e below (T17.setTop (mkF m 108 #[.val (.int p0), .val (.long q1), .second, .val (.int ((p0 &&& (2147483647 : Int32)) % (5 : Int32))), .val (.ref w_INT32), .unset] [(.long q1), (.long q1)])) _
            refine XS.l2i X17.here hx rfl (hb hby at_108) rfl ?_
            show Steps p.tables e below (T17.setTop (mkF m 109 #[.val (.int p0), .val (.long q1), .second, .val (.int ((p0 &&& (2147483647 : Int32)) % (5 : Int32))), .val (.ref w_INT32), .unset] [(.int (q1.toInt32)), (.long q1)])) _
            refine XS.i2l X17.here hx rfl (hb hby at_109) rfl ?_
            show Steps p.tables e below (T17.setTop (mkF m 110 #[.val (.int p0), .val (.long q1), .second, .val (.int ((p0 &&& (2147483647 : Int32)) % (5 : Int32))), .val (.ref w_INT32), .unset] [(.long ((q1.toInt32).toInt64)), (.long q1)])) _
            refine XS.lcmp X17.here hx rfl (hb hby at_110) rfl ?_
            show Steps p.tables e below (T17.setTop (mkF m 111 #[.val (.int p0), .val (.long q1), .second, .val (.int ((p0 &&& (2147483647 : Int32)) % (5 : Int32))), .val (.ref w_INT32), .unset] [(.int (lcmpW q1 ((q1.toInt32).toInt64)))])) _
            by_cases hc111_9 : q1 = ((q1.toInt32).toInt64)
            · refine XS.ifNo X17.here hx rfl (hb hby at_111) rfl ((if0 _ _).trans (teq ((lw_eq _ _).mpr hc111_9)).2) ?_
              show Steps p.tables e below (T17.setTop (mkF m 114 #[.val (.int p0), .val (.long q1), .second, .val (.int ((p0 &&& (2147483647 : Int32)) % (5 : Int32))), .val (.ref w_INT32), .unset] [])) _
              refine XS.iconst X17.here hx rfl (hb hby at_114) ?_
              show Steps p.tables e below (T17.setTop (mkF m 115 #[.val (.int p0), .val (.long q1), .second, .val (.int ((p0 &&& (2147483647 : Int32)) % (5 : Int32))), .val (.ref w_INT32), .unset] [(.int (1 : Int32))])) _
              refine XS.goto X17.here hx rfl (pc0 := 115) (pc' := 119) rfl (hb hby at_115) (by decide) (by decide) ?_
              try simp only [if_pos hc111_9] at k
              exact k
            · refine XS.ifYes X17.here hx rfl (pc0 := 111) (pc' := 118) rfl (hb hby at_111) rfl ((if0 _ _).trans (feq (fun q => hc111_9 ((lw_eq _ _).mp q))).2) (by decide) (by decide) ?_
              show Steps p.tables e below (T17.setTop (mkF m 118 #[.val (.int p0), .val (.long q1), .second, .val (.int ((p0 &&& (2147483647 : Int32)) % (5 : Int32))), .val (.ref w_INT32), .unset] [])) _
              refine XS.iconst X17.here hx rfl (hb hby at_118) ?_
              try simp only [if_neg hc111_9] at k
              exact k
          obtain ⟨cq19, kq19, q19a, q19b, q19c⟩ := isOf hZ e17 (E_INT32.ext O0.2)
          obtain ⟨_, _, ⟨T19, L19, k19_, n19⟩, -, X19, ⟨Lc19, hQ19, l19, y19, z19⟩, st19⟩ := X17.virtualBack hx (y := (⟨"com/example/strict_wire/strictwire/wire/FieldType", "holds", "(J)Z"⟩ : MethodName)) (z := (⟨"com/example/strict_wire/strictwire/wire/FieldType", "holds", "(J)Z"⟩ : MethodName)) hown (mvT hZ (hw _ (List.mem_of_getElem? (i := 4) rfl))) (mvT hZ (hw _ (List.mem_of_getElem? (i := 5) rfl))) (notFace_of_selects (args := #[]) (mvT hZ (hw _ (List.mem_of_getElem? (i := 7) rfl)))) (mvT hZ (hw _ (List.mem_of_getElem? (i := 7) rfl))) (mvT hZ (hw _ (List.mem_of_getElem? (i := 6) rfl))) (by decide) (backOf (W := 0) (rm1 l Z a0 hw [] w_INT32 q1 (4 : Int32) w_BOOLEAN w_INT8 w_INT64 w_INT32 w_INT16 h0 n0 hG O0 F_INT32_smallestBytes) hZ (hw _ (List.mem_of_getElem? (i := 8) rfl)) (hw _ (List.mem_of_getElem? (i := 2) rfl)) (by decide) (by decide)) q19a q19c (g := (mkF m 135 #[.val (.int p0), .val (.long q1), .second, .val (.int ((p0 &&& (2147483647 : Int32)) % (5 : Int32))), .val (.ref w_INT32), .val (.int (if q1 = ((q1.toInt32).toInt64) then (1 : Int32) else (0 : Int32)))] [(.long q1), (.ref w_INT32)])) rfl (by rw [hml]; rfl) (Steps.refl _) (argsL := [(.long q1)]) (rest := []) (lenOf pd_0 rfl) rfl (by show 2 * 0 + _ ≤ _; exact Nat.le_of_eq rfl) (hb hby at_135) (fun _ _ => ⟨rfl, e17, (by decide : 0 + 0 ≤ _), (by decide : 0 + 0 ≤ _)⟩)
          dsimp only [Pt.U, Pt.locs, Pt.cells, Pt.slots] at X19 l19 y19 z19 st19 hQ19
          subst l19 y19 z19
          obtain ⟨rfl, Nq19, e19⟩ := hQ19
          have N19 := Fr.app N0 Nq19
          have k20 : ∀ t, Steps p.tables e below (T19.setTop (mkF m 148 #[.val (.int p0), .val (.long q1), .second, .val (.int ((p0 &&& (2147483647 : Int32)) % (5 : Int32))), .val (.ref w_INT32), .val (.int (if q1 = ((q1.toInt32).toInt64) then (1 : Int32) else (0 : Int32)))] [(.int (1 : Int32))])) t → Steps p.tables e below (s₁.setTop (entryFrame m #[(.int p0), (.long q1)] maxLocals)) t := by
            intro t k
            refine k18 _ ?_
            show Steps p.tables e below (T17.setTop (mkF m 119 #[.val (.int p0), .val (.long q1), .second, .val (.int ((p0 &&& (2147483647 : Int32)) % (5 : Int32))), .val (.ref w_INT32), .unset] [(.int (if q1 = ((q1.toInt32).toInt64) then (1 : Int32) else (0 : Int32)))])) _
            refine XS.istore X17.here hx rfl (hb hby at_119) rfl (l' := #[.val (.int p0), .val (.long q1), .second, .val (.int ((p0 &&& (2147483647 : Int32)) % (5 : Int32))), .val (.ref w_INT32), .val (.int (if q1 = ((q1.toInt32).toInt64) then (1 : Int32) else (0 : Int32)))]) rfl ?_
            show Steps p.tables e below (T17.setTop (mkF m 121 #[.val (.int p0), .val (.long q1), .second, .val (.int ((p0 &&& (2147483647 : Int32)) % (5 : Int32))), .val (.ref w_INT32), .val (.int (if q1 = ((q1.toInt32).toInt64) then (1 : Int32) else (0 : Int32)))] [])) _
            refine XS.goto X17.here hx rfl (pc0 := 121) (pc' := 132) rfl (hb hby at_121) (by decide) (by decide) ?_
            show Steps p.tables e below (T17.setTop (mkF m 132 #[.val (.int p0), .val (.long q1), .second, .val (.int ((p0 &&& (2147483647 : Int32)) % (5 : Int32))), .val (.ref w_INT32), .val (.int (if q1 = ((q1.toInt32).toInt64) then (1 : Int32) else (0 : Int32)))] [])) _
            refine XS.aload X17.here hx rfl (hb hby at_132) rfl rfl ?_
            show Steps p.tables e below (T17.setTop (mkF m 134 #[.val (.int p0), .val (.long q1), .second, .val (.int ((p0 &&& (2147483647 : Int32)) % (5 : Int32))), .val (.ref w_INT32), .val (.int (if q1 = ((q1.toInt32).toInt64) then (1 : Int32) else (0 : Int32)))] [(.ref w_INT32)])) _
            refine XS.lloadN X17.here hx rfl (hb hby at_134) rfl ?_
            show Steps p.tables e below (T17.setTop (mkF m 135 #[.val (.int p0), .val (.long q1), .second, .val (.int ((p0 &&& (2147483647 : Int32)) % (5 : Int32))), .val (.ref w_INT32), .val (.int (if q1 = ((q1.toInt32).toInt64) then (1 : Int32) else (0 : Int32)))] [(.long q1), (.ref w_INT32)])) _
            refine st19.trans ?_
            show Steps p.tables e below (T19.setTop (mkF m 138 #[.val (.int p0), .val (.long q1), .second, .val (.int ((p0 &&& (2147483647 : Int32)) % (5 : Int32))), .val (.ref w_INT32), .val (.int (if q1 = ((q1.toInt32).toInt64) then (1 : Int32) else (0 : Int32)))] [(.int (own_f1 w_INT32 q1 (4 : Int32) w_BOOLEAN w_INT8 w_INT64 w_INT32 w_INT16))])) _
            refine XS.iload X19.here hx rfl (hb hby at_138) rfl ?_
            show Steps p.tables e below (T19.setTop (mkF m 140 #[.val (.int p0), .val (.long q1), .second, .val (.int ((p0 &&& (2147483647 : Int32)) % (5 : Int32))), .val (.ref w_INT32), .val (.int (if q1 = ((q1.toInt32).toInt64) then (1 : Int32) else (0 : Int32)))] [(.int (if q1 = ((q1.toInt32).toInt64) then (1 : Int32) else (0 : Int32))), (.int (own_f1 w_INT32 q1 (4 : Int32) w_BOOLEAN w_INT8 w_INT64 w_INT32 w_INT16))])) _
            refine XS.icmpNo X19.here hx rfl (hb hby at_140) rfl (teq (own_p_INT32 q1 w_BOOLEAN w_INT8 w_INT64 w_INT32 w_INT16 hG)).2 ?_
            show Steps p.tables e below (T19.setTop (mkF m 143 #[.val (.int p0), .val (.long q1), .second, .val (.int ((p0 &&& (2147483647 : Int32)) % (5 : Int32))), .val (.ref w_INT32), .val (.int (if q1 = ((q1.toInt32).toInt64) then (1 : Int32) else (0 : Int32)))] [])) _
            refine XS.iconst X19.here hx rfl (hb hby at_143) ?_
            show Steps p.tables e below (T19.setTop (mkF m 144 #[.val (.int p0), .val (.long q1), .second, .val (.int ((p0 &&& (2147483647 : Int32)) % (5 : Int32))), .val (.ref w_INT32), .val (.int (if q1 = ((q1.toInt32).toInt64) then (1 : Int32) else (0 : Int32)))] [(.int (1 : Int32))])) _
            refine XS.goto X19.here hx rfl (pc0 := 144) (pc' := 148) rfl (hb hby at_144) (by decide) (by decide) ?_
            exact k
          obtain ⟨fs, hr, hrun, hended, hW, hsame⟩ := X19.leave (v := some (.int (1 : Int32))) (fun h => by rw [Bd.returns] at h; cases h)
          refine ⟨_, _, k20 _ ?_, hrun, hended, _, _, rfl, ?_, ⟨_, rfl⟩, hW, hsame.mono (by decide) (by decide)⟩
          · exact retN X19 hx (t := .boolean) Bd.returns (by simp) (hb hby at_148) hr
          · show own_R (some (.int 1)) n0 _ T19.heap _
            rw [e19]
            exact ⟨rfl, N19⟩
        · obtain ⟨T21, X21, e21, st21⟩ := getS2 X0 hx hZ hown (host := "") (Or.inl (hw _ (List.mem_of_getElem? (i := 16) rfl))) Via.refl e0 (S_INT64.ext O0.2) (g := (mkF m 124 #[.val (.int p0), .val (.long q1), .second, .val (.int ((p0 &&& (2147483647 : Int32)) % (5 : Int32))), .unset, .unset] [])) rfl (hb hby at_124)
          obtain ⟨cq22, kq22, q22a, q22b, q22c⟩ := isOf hZ e21 (E_INT64.ext O0.2)
          obtain ⟨_, _, ⟨T22, L22, k22_, n22⟩, -, X22, ⟨Lc22, hQ22, l22, y22, z22⟩, st22⟩ := X21.virtualBack hx (y := (⟨"com/example/strict_wire/strictwire/wire/FieldType", "holds", "(J)Z"⟩ : MethodName)) (z := (⟨"com/example/strict_wire/strictwire/wire/FieldType", "holds", "(J)Z"⟩ : MethodName)) hown (mvT hZ (hw _ (List.mem_of_getElem? (i := 4) rfl))) (mvT hZ (hw _ (List.mem_of_getElem? (i := 5) rfl))) (notFace_of_selects (args := #[]) (mvT hZ (hw _ (List.mem_of_getElem? (i := 7) rfl)))) (mvT hZ (hw _ (List.mem_of_getElem? (i := 7) rfl))) (mvT hZ (hw _ (List.mem_of_getElem? (i := 6) rfl))) (by decide) (backOf (W := 0) (rm1 l Z a0 hw [] w_INT64 q1 (8 : Int32) w_BOOLEAN w_INT8 w_INT64 w_INT32 w_INT16 h0 n0 hG O0 F_INT64_smallestBytes) hZ (hw _ (List.mem_of_getElem? (i := 8) rfl)) (hw _ (List.mem_of_getElem? (i := 2) rfl)) (by decide) (by decide)) q22a q22c (g := (mkF m 135 #[.val (.int p0), .val (.long q1), .second, .val (.int ((p0 &&& (2147483647 : Int32)) % (5 : Int32))), .val (.ref w_INT64), .val (.int (1 : Int32))] [(.long q1), (.ref w_INT64)])) rfl (by rw [hml]; rfl) (Steps.refl _) (argsL := [(.long q1)]) (rest := []) (lenOf pd_0 rfl) rfl (by show 2 * 0 + _ ≤ _; exact Nat.le_of_eq rfl) (hb hby at_135) (fun _ _ => ⟨rfl, e21, (by decide : 0 + 0 ≤ _), (by decide : 0 + 0 ≤ _)⟩)
          dsimp only [Pt.U, Pt.locs, Pt.cells, Pt.slots] at X22 l22 y22 z22 st22 hQ22
          subst l22 y22 z22
          obtain ⟨rfl, Nq22, e22⟩ := hQ22
          have N22 := Fr.app N0 Nq22
          have k23 : ∀ t, Steps p.tables e below (T22.setTop (mkF m 148 #[.val (.int p0), .val (.long q1), .second, .val (.int ((p0 &&& (2147483647 : Int32)) % (5 : Int32))), .val (.ref w_INT64), .val (.int (1 : Int32))] [(.int (1 : Int32))])) t → Steps p.tables e below (s₁.setTop (entryFrame m #[(.int p0), (.long q1)] maxLocals)) t := by
            intro t k
            refine k16 _ ?_
            show Steps p.tables e below (s₁.setTop (mkF m 98 #[.val (.int p0), .val (.long q1), .second, .val (.int ((p0 &&& (2147483647 : Int32)) % (5 : Int32))), .unset, .unset] [(.int (3 : Int32)), (.int ((p0 &&& (2147483647 : Int32)) % (5 : Int32)))])) _
            refine XS.icmpYes X0.here hx rfl (pc0 := 98) (pc' := 124) rfl (hb hby at_98) rfl (feq hc98_8).2 (by decide) (by decide) ?_
            show Steps p.tables e below (s₁.setTop (mkF m 124 #[.val (.int p0), .val (.long q1), .second, .val (.int ((p0 &&& (2147483647 : Int32)) % (5 : Int32))), .unset, .unset] [])) _
            refine st21 _ ?_
            show Steps p.tables e below (T21.setTop (mkF m 127 #[.val (.int p0), .val (.long q1), .second, .val (.int ((p0 &&& (2147483647 : Int32)) % (5 : Int32))), .unset, .unset] [(.ref w_INT64)])) _
            refine XS.astore X21.here hx rfl (hb hby at_127) rfl rfl (l' := #[.val (.int p0), .val (.long q1), .second, .val (.int ((p0 &&& (2147483647 : Int32)) % (5 : Int32))), .val (.ref w_INT64), .unset]) rfl ?_
            show Steps p.tables e below (T21.setTop (mkF m 129 #[.val (.int p0), .val (.long q1), .second, .val (.int ((p0 &&& (2147483647 : Int32)) % (5 : Int32))), .val (.ref w_INT64), .unset] [])) _
            refine XS.iconst X21.here hx rfl (hb hby at_129) ?_
            show Steps p.tables e below (T21.setTop (mkF m 130 #[.val (.int p0), .val (.long q1), .second, .val (.int ((p0 &&& (2147483647 : Int32)) % (5 : Int32))), .val (.ref w_INT64), .unset] [(.int (1 : Int32))])) _
            refine XS.istore X21.here hx rfl (hb hby at_130) rfl (l' := #[.val (.int p0), .val (.long q1), .second, .val (.int ((p0 &&& (2147483647 : Int32)) % (5 : Int32))), .val (.ref w_INT64), .val (.int (1 : Int32))]) rfl ?_
            show Steps p.tables e below (T21.setTop (mkF m 132 #[.val (.int p0), .val (.long q1), .second, .val (.int ((p0 &&& (2147483647 : Int32)) % (5 : Int32))), .val (.ref w_INT64), .val (.int (1 : Int32))] [])) _
            refine XS.aload X21.here hx rfl (hb hby at_132) rfl rfl ?_
            show Steps p.tables e below (T21.setTop (mkF m 134 #[.val (.int p0), .val (.long q1), .second, .val (.int ((p0 &&& (2147483647 : Int32)) % (5 : Int32))), .val (.ref w_INT64), .val (.int (1 : Int32))] [(.ref w_INT64)])) _
            refine XS.lloadN X21.here hx rfl (hb hby at_134) rfl ?_
            show Steps p.tables e below (T21.setTop (mkF m 135 #[.val (.int p0), .val (.long q1), .second, .val (.int ((p0 &&& (2147483647 : Int32)) % (5 : Int32))), .val (.ref w_INT64), .val (.int (1 : Int32))] [(.long q1), (.ref w_INT64)])) _
            refine st22.trans ?_
            show Steps p.tables e below (T22.setTop (mkF m 138 #[.val (.int p0), .val (.long q1), .second, .val (.int ((p0 &&& (2147483647 : Int32)) % (5 : Int32))), .val (.ref w_INT64), .val (.int (1 : Int32))] [(.int (own_f1 w_INT64 q1 (8 : Int32) w_BOOLEAN w_INT8 w_INT64 w_INT32 w_INT16))])) _
            refine XS.iload X22.here hx rfl (hb hby at_138) rfl ?_
            show Steps p.tables e below (T22.setTop (mkF m 140 #[.val (.int p0), .val (.long q1), .second, .val (.int ((p0 &&& (2147483647 : Int32)) % (5 : Int32))), .val (.ref w_INT64), .val (.int (1 : Int32))] [(.int (1 : Int32)), (.int (own_f1 w_INT64 q1 (8 : Int32) w_BOOLEAN w_INT8 w_INT64 w_INT32 w_INT16))])) _
            refine XS.icmpNo X22.here hx rfl (hb hby at_140) rfl (teq (own_p_INT64 q1 w_BOOLEAN w_INT8 w_INT64 w_INT32 w_INT16 hG)).2 ?_
            show Steps p.tables e below (T22.setTop (mkF m 143 #[.val (.int p0), .val (.long q1), .second, .val (.int ((p0 &&& (2147483647 : Int32)) % (5 : Int32))), .val (.ref w_INT64), .val (.int (1 : Int32))] [])) _
            refine XS.iconst X22.here hx rfl (hb hby at_143) ?_
            show Steps p.tables e below (T22.setTop (mkF m 144 #[.val (.int p0), .val (.long q1), .second, .val (.int ((p0 &&& (2147483647 : Int32)) % (5 : Int32))), .val (.ref w_INT64), .val (.int (1 : Int32))] [(.int (1 : Int32))])) _
            refine XS.goto X22.here hx rfl (pc0 := 144) (pc' := 148) rfl (hb hby at_144) (by decide) (by decide) ?_
            exact k
          obtain ⟨fs, hr, hrun, hended, hW, hsame⟩ := X22.leave (v := some (.int (1 : Int32))) (fun h => by rw [Bd.returns] at h; cases h)
          refine ⟨_, _, k23 _ ?_, hrun, hended, _, _, rfl, ?_, ⟨_, rfl⟩, hW, hsame.mono (by decide) (by decide)⟩
          · exact retN X22 hx (t := .boolean) Bd.returns (by simp) (hb hby at_148) hr
          · show own_R (some (.int 1)) n0 _ T22.heap _
            rw [e22]
            exact ⟨rfl, N22⟩
set_option maxRecDepth 65536 in
set_option maxHeartbeats 40000000 in
theorem comes_1 {Post : Tables → Env → Array Value → State → Outcome → State → Prop} (hpost : ∀ tb e args s v u, (limb_1_1.after args s (.returned v) u = true ∧ limb_1_2.after args s (.returned v) u = true ∧ True) → FrameEnd s (.returned v) u (Jvm.fieldLocs frame_1_writes args s ++ Jvm.arrayLocs frame_1_arrays args s ++ Jvm.staticLocs frame_1_statics s) 0 0 → Post tb e args s (.returned v) u) :
    ArmFor flags0 classFile x code maxLocals ret World_1 tables_1 room_1 Calls_1 rest_1 Pre_1 Post := by
  intro l hfl _ _ p e ha hc hk s m args below hf hA hF happ hP
  obtain ⟨hcalls, hrest, hpre⟩ := hP
  obtain ⟨-, -, -, hnamed, -, -, -, hat⟩ := (Spec.applies_iff hf).mp happ
  obtain ⟨hg, hn⟩ := and_e (Cond.before_iff.mp (show (Jvm.Cond.and given_1 narrow_1).before args s = true from hpre))
  obtain ⟨g0a, g0b⟩ := and_e hg
  obtain ⟨g1a, g1b⟩ := and_e g0b
  obtain ⟨w0, w1, rfl⟩ : ∃ w0 w1 : Value, args = #[w0, w1] := by
    have hs : args.size = 2 := by simpa [Cond.value, given_1] using g0a
    obtain ⟨L⟩ := args
    match L, hs with
    | [w0, w1], _ => exact ⟨w0, w1, rfl⟩
  have hw := fun d (hd : d ∈ tables_1) => atoms_spec (ws := Jvm.Cond.code x code maxLocals ret :: tables_1) hat d (List.mem_cons_of_mem _ hd)
  have hfit : Fit s := fun {y c} hc i hi => by
    obtain ⟨ha, rfl⟩ := Array.getElem?_eq_some_iff.mp hc
    have q := List.all_eq_true.mp ((Array.all_eq_true_iff_forall_mem.mp hF) _ (Array.getElem_mem ha)) i (List.mem_range.mpr hi)
    simpa [Array.getElem?_eq_getElem hi] using q
  obtain ⟨i0, ei0⟩ := is_v g1a
  obtain rfl : w0 = (.int i0) := Option.some.inj ei0
  obtain ⟨i1, ei1⟩ := isL_v g1b
  obtain rfl : w1 = (.long i1) := Option.some.inj ei1
  obtain ⟨nv0, nr0⟩ := and_e hn
  obtain ⟨nv1, nr1⟩ := and_e nr0
  obtain ⟨nv2, nr2⟩ := and_e nr1
  obtain ⟨nv3, nr3⟩ := and_e nr2
  obtain ⟨nv4, nr4⟩ := and_e nr3
  obtain ⟨nv5, nr5⟩ := and_e nr4
  obtain ⟨nv6, nr6⟩ := and_e nr5
  obtain ⟨nv7, nr7⟩ := and_e nr6
  obtain ⟨nv8, nr8⟩ := and_e nr7
  obtain ⟨nv9, nr9⟩ := and_e nr8
  obtain ⟨nv10, nr10⟩ := and_e nr9
  obtain ⟨nv11, nr11⟩ := and_e nr10
  obtain ⟨nv12, nr12⟩ := and_e nr11
  obtain ⟨nv13, nr13⟩ := and_e nr12
  have nv14 := nr13
  obtain ⟨w_BOOLEAN, ew_BOOLEAN⟩ := exa_v nv0
  have E_BOOLEAN := Exa.start ew_BOOLEAN nv0
  have S_BOOLEAN := Sta.start ew_BOOLEAN (Or.inr ⟨(hw _ (List.mem_of_getElem? (i := 2) rfl)), (hw _ (List.mem_of_getElem? (i := 3) rfl))⟩)
  obtain ⟨w_INT8, ew_INT8⟩ := exa_v nv1
  have E_INT8 := Exa.start ew_INT8 nv1
  have S_INT8 := Sta.start ew_INT8 (Or.inr ⟨(hw _ (List.mem_of_getElem? (i := 2) rfl)), (hw _ (List.mem_of_getElem? (i := 11) rfl))⟩)
  obtain ⟨w_INT64, ew_INT64⟩ := exa_v nv4
  have E_INT64 := Exa.start ew_INT64 nv4
  have S_INT64 := Sta.start ew_INT64 (Or.inr ⟨(hw _ (List.mem_of_getElem? (i := 2) rfl)), (hw _ (List.mem_of_getElem? (i := 13) rfl))⟩)
  obtain ⟨w_INT32, ew_INT32⟩ := exa_v nv7
  have E_INT32 := Exa.start ew_INT32 nv7
  have S_INT32 := Sta.start ew_INT32 (Or.inr ⟨(hw _ (List.mem_of_getElem? (i := 2) rfl)), (hw _ (List.mem_of_getElem? (i := 18) rfl))⟩)
  obtain ⟨w_INT16, ew_INT16⟩ := exa_v nv10
  have E_INT16 := Exa.start ew_INT16 nv10
  have S_INT16 := Sta.start ew_INT16 (Or.inr ⟨(hw _ (List.mem_of_getElem? (i := 2) rfl)), (hw _ (List.mem_of_getElem? (i := 20) rfl))⟩)
  have F_INT8_ordinal := own_fld ew_INT8 nv2
  have F_BOOLEAN_ordinal := own_fld ew_BOOLEAN nv3
  have F_INT64_ordinal := own_fld ew_INT64 nv5
  have F_INT8_smallestBytes := own_fld ew_INT8 nv6
  have F_INT32_ordinal := own_fld ew_INT32 nv8
  have F_INT32_smallestBytes := own_fld ew_INT32 nv9
  have F_INT16_ordinal := own_fld ew_INT16 nv11
  have F_INT16_smallestBytes := own_fld ew_INT16 nv12
  have F_BOOLEAN_smallestBytes := own_fld ew_BOOLEAN nv13
  have F_INT64_smallestBytes := own_fld ew_INT64 nv14
  obtain ⟨n, o, h1, h2, h3, _, L, rfl, ⟨rfl, N⟩, hq⟩ := rm0 l s _ hw tables_1 i0 i1 w_BOOLEAN w_INT8 w_INT64 w_INT32 w_INT16 s.heap s.heap.size (⟨S_BOOLEAN, E_BOOLEAN, S_INT8, E_INT8, S_INT64, E_INT64, S_INT32, E_INT32, S_INT16, E_INT16, F_INT8_ordinal, F_BOOLEAN_ordinal, F_INT64_ordinal, F_INT8_smallestBytes, F_INT32_ordinal, F_INT32_smallestBytes, F_INT16_ordinal, F_INT16_smallestBytes, F_BOOLEAN_smallestBytes, F_INT64_smallestBytes⟩ : own_G s w_BOOLEAN w_INT8 w_INT64 w_INT32 w_INT16) (Old.start s) p e ha hc hk s m _ below hf ((Spec.applies_iff_loose hf).mp happ).1 ⟨rfl, State.Warmed39.refl s, rfl⟩ trivial
  refine ⟨n, _, h1, h2, h3, hpost _ _ _ _ _ _ ⟨Cond.after_iff.mpr rfl, Cond.after_iff.mpr (eq_i res_at (Term.int_eval (1)) rfl), trivial⟩ ⟨hq.1, hq.2.1, (hq.2.2.sift fun y hy => Or.inr (N y hy)).mono (by decide) (by decide)⟩⟩
theorem main_1_1 : Claimed_1_1 := comes_1 fun _ _ _ _ _ _ h hF => ⟨h.1, hF⟩
theorem main_1_2 : Claimed_1_2 := comes_1 fun _ _ _ _ _ _ h hF => ⟨h.2.1, hF⟩
end Jvm.Pilot.@@N@@
namespace Jvm.Pilot.@@N@@
open Jvm Jvm.ClassFile Sem Op Lib Jvm.Free Jvm.Stand Jvm.Pilot.@@N@@.Jvm.D
/-! MADE BY PROGRAM (witnessworld.py) out of the Statement's table words and the real class files: 12 classes; the members and pool entries that the words name. The judged class is class 1, her method 1. -/
namespace start1
open Jvm.ClassFile
def u (s : String) : CpInfo := .utf8 (stringToUtf16 s)
/-- a pool by its gaps: so many unusable entries, then the entry; so many at the end -/
def gap : Nat → List CpInfo → List CpInfo
  | 0, r => r
  | n + 1, r => .unusable :: gap n r
def poolList (es : List (Nat × CpInfo)) (last : Nat) : List CpInfo := es.foldr (fun e r => gap e.1 (e.2 :: r)) (gap last [])
def pool (es : List (Nat × CpInfo)) (last : Nat) : Array CpInfo := ⟨poolList es last⟩
def fileOf (pool : Array CpInfo) (this : Nat) (attrs : Array Attribute := #[]) (ms : Array MethodInfo := #[]) (fl : Nat := 33) (sup : Nat := 0) (ifs : Array Nat := #[]) (fds : Array FieldInfo := #[]) : ClassFile where
  minorVersion := 0
  majorVersion := 65
  constantPool := pool
  accessFlags := fl
  thisClass := this
  superClass := sup
  interfaces := ifs
  fields := fds
  methods := ms
  attributes := attrs
def plain (name : String) (sup : Option ClassId) : Class where
  name := name
  kind := .ordinary
  loader := none
  accessFlags := 33
  super := sup
  interfaces := #[]
  cf := none
  fields := #[]
  methods := #[]
  instanceTypes := #[]
  staticTypes := #[]
  resolved := #[]
  callSites := []
  init := .initialized
  statics := none
  mirror := none

def pool0 : Array CpInfo := pool [(5, u "<init>"), (0, u "()V"), (1, .class_ 10), (1, u "java/lang/Object")] 113

def k0m0 : Method := { name := "<init>", desc := "()V", sig := { parameters := [], returnType := none }, accessFlags := 1, code := none }
/-- java/lang/Object -/
def k0 : Class := { plain "java/lang/Object" none with
  accessFlags := 33
  interfaces := #[]
  cf := some (fileOf pool0 8 #[] #[{ accessFlags := 1, nameIndex := 5, descriptorIndex := 6, attributes := #[] }] 33 0 #[] #[])
  fields := #[]
  methods := #[k0m0]
  instanceTypes := #[]
  staticTypes := #[]
  resolved := Array.replicate 124 none
  statics := none }

def pool1 : Array CpInfo := pool [(2, .class_ 4), (1, u "java/lang/Object"), (0, u "<init>"), (0, u "()V"), (0, .integer 2147483647), (0, .fieldref 9 10), (0, .class_ 11), (0, .nameAndType 12 13), (0, u "com/example/strict_wire/strictwire/wire/FieldType"), (0, u "BOOLEAN"), (0, u "Lcom/example/strict_wire/strictwire/wire/FieldType;"), (0, .fieldref 9 15), (0, .nameAndType 16 13), (0, u "INT8"), (0, .fieldref 9 18), (0, .nameAndType 19 13), (0, u "INT16"), (0, .fieldref 9 21), (0, .nameAndType 22 13), (0, u "INT32"), (0, .fieldref 9 24), (0, .nameAndType 25 13), (0, u "INT64"), (0, .methodref 9 27), (0, .nameAndType 28 29), (0, u "holds"), (0, u "(J)Z"), (0, .class_ 31), (0, u "com/example/strict_wire/strictwire/wire/FieldTypeHoldsPinLaw"), (2, u "law"), (0, u "(IJ)Z")] 3

def k1m0 : Method := { name := "<init>", desc := "()V", sig := { parameters := [], returnType := none }, accessFlags := 1, code := none }
def k1c1 : Code := { maxStack := 4, maxLocals := 6, code := code, exceptionTable := #[], attributes := #[] }
def k1m1 : Method := { name := "law", desc := "(IJ)Z", sig := { parameters := [.int, .long], returnType := some .boolean }, accessFlags := 9, code := some k1c1 }
/-- com/example/strict_wire/strictwire/wire/FieldTypeHoldsPinLaw -/
def k1 : Class := { plain "com/example/strict_wire/strictwire/wire/FieldTypeHoldsPinLaw" (some 0) with
  accessFlags := 49
  interfaces := #[]
  cf := some (fileOf pool1 30 #[] #[{ accessFlags := 1, nameIndex := 5, descriptorIndex := 6, attributes := #[] }, { accessFlags := 9, nameIndex := 34, descriptorIndex := 35, attributes := #[] }] 49 2 #[] #[])
  fields := #[]
  methods := #[k1m0, k1m1]
  instanceTypes := #[]
  staticTypes := #[]
  resolved := Array.replicate 39 none
  statics := none }

def pool2 : Array CpInfo := pool [(1, .class_ 2), (0, u "java/lang/constant/Constable"), (0, .class_ 4), (0, u "java/lang/Object")] 6

/-- java/lang/constant/Constable -/
def k2 : Class := { plain "java/lang/constant/Constable" (some 0) with
  accessFlags := 1537
  interfaces := #[]
  cf := some (fileOf pool2 1 #[] #[] 1537 3 #[] #[])
  fields := #[]
  methods := #[]
  instanceTypes := #[]
  staticTypes := #[]
  resolved := Array.replicate 11 none
  statics := none }

def pool3 : Array CpInfo := pool [(1, .class_ 2), (0, u "java/lang/Comparable"), (0, .class_ 4), (0, u "java/lang/Object")] 7

/-- java/lang/Comparable -/
def k3 : Class := { plain "java/lang/Comparable" (some 0) with
  accessFlags := 1537
  interfaces := #[]
  cf := some (fileOf pool3 1 #[] #[] 1537 3 #[] #[])
  fields := #[]
  methods := #[]
  instanceTypes := #[]
  staticTypes := #[]
  resolved := Array.replicate 12 none
  statics := none }

def pool4 : Array CpInfo := pool [(1, .class_ 2), (0, u "java/io/Serializable"), (0, .class_ 4), (0, u "java/lang/Object")] 2

/-- java/io/Serializable -/
def k4 : Class := { plain "java/io/Serializable" (some 0) with
  accessFlags := 1537
  interfaces := #[]
  cf := some (fileOf pool4 1 #[] #[] 1537 3 #[] #[])
  fields := #[]
  methods := #[]
  instanceTypes := #[]
  staticTypes := #[]
  resolved := Array.replicate 7 none
  statics := none }

def pool5 : Array CpInfo := pool [(2, .class_ 4), (1, u "java/lang/Enum"), (0, u "name"), (0, u "Ljava/lang/String;"), (2, u "ordinal"), (0, u "I"), (1, .class_ 14), (1, u "java/lang/Object"), (4, u "hash"), (86, .class_ 108), (1, u "java/lang/Enum$EnumDesc"), (2, .class_ 112), (0, u "java/lang/constant/Constable"), (0, .class_ 114), (0, u "java/lang/Comparable"), (0, .class_ 116), (0, u "java/io/Serializable")] 87

/-- java/lang/Enum -/
def k5 : Class := { plain "java/lang/Enum" (some 0) with
  accessFlags := 1057
  interfaces := #[2, 3, 4]
  cf := some (fileOf pool5 2 #[.nestMembers #[106]] #[] 1057 12 #[111, 113, 115] #[{ accessFlags := 18, nameIndex := 5, descriptorIndex := 6, attributes := #[] }, { accessFlags := 18, nameIndex := 9, descriptorIndex := 10, attributes := #[] }, { accessFlags := 2, nameIndex := 19, descriptorIndex := 10, attributes := #[] }])
  fields := #[{ name := "name", type := (.object "java/lang/String"), accessFlags := 18, slot := 0, constantValue := 0 }, { name := "ordinal", type := .int, accessFlags := 18, slot := 1, constantValue := 0 }, { name := "hash", type := .int, accessFlags := 2, slot := 2, constantValue := 0 }]
  methods := #[]
  instanceTypes := #[(.object "java/lang/String"), .int, .int]
  staticTypes := #[]
  resolved := Array.replicate 204 none
  statics := none }

def pool6 : Array CpInfo := pool [(1, .class_ 2), (0, u "com/example/strict_wire/strictwire/wire/FieldType"), (0, .fieldref 1 4), (0, .nameAndType 5 6), (0, u "BOOLEAN"), (0, u "Lcom/example/strict_wire/strictwire/wire/FieldType;"), (2, u "INT8"), (2, u "INT16"), (2, u "INT32"), (0, .fieldref 1 17), (0, .nameAndType 18 6), (0, u "INT64"), (2, u "STRING"), (2, u "BYTES"), (2, u "RECORDS"), (2, u "ARRAY"), (2, u "$VALUES"), (0, u "[Lcom/example/strict_wire/strictwire/wire/FieldType;"), (6, .class_ 43), (1, u "java/lang/Enum"), (6, .fieldref 1 51), (0, .nameAndType 52 53), (0, u "smallestBytes"), (0, u "I"), (38, u "holds"), (0, u "(J)Z")] 5

def k6c0 : Code := { maxStack := 4, maxLocals := 6, code := prog_43_method_7_code, exceptionTable := #[], attributes := #[] }
def k6m0 : Method := { name := "holds", desc := "(J)Z", sig := { parameters := [.long], returnType := some .boolean }, accessFlags := 0, code := some k6c0 }
/-- com/example/strict_wire/strictwire/wire/FieldType -/
def k6 : Class := { plain "com/example/strict_wire/strictwire/wire/FieldType" (some 5) with
  accessFlags := 16432
  interfaces := #[]
  cf := some (fileOf pool6 1 #[] #[{ accessFlags := 0, nameIndex := 92, descriptorIndex := 93, attributes := #[] }] 16432 41 #[] #[{ accessFlags := 16409, nameIndex := 5, descriptorIndex := 6, attributes := #[] }, { accessFlags := 16409, nameIndex := 9, descriptorIndex := 6, attributes := #[] }, { accessFlags := 16409, nameIndex := 12, descriptorIndex := 6, attributes := #[] }, { accessFlags := 16409, nameIndex := 15, descriptorIndex := 6, attributes := #[] }, { accessFlags := 16409, nameIndex := 18, descriptorIndex := 6, attributes := #[] }, { accessFlags := 16409, nameIndex := 21, descriptorIndex := 6, attributes := #[] }, { accessFlags := 16409, nameIndex := 24, descriptorIndex := 6, attributes := #[] }, { accessFlags := 16409, nameIndex := 27, descriptorIndex := 6, attributes := #[] }, { accessFlags := 16409, nameIndex := 30, descriptorIndex := 6, attributes := #[] }, { accessFlags := 18, nameIndex := 52, descriptorIndex := 53, attributes := #[] }, { accessFlags := 4122, nameIndex := 33, descriptorIndex := 34, attributes := #[] }])
  fields := #[{ name := "BOOLEAN", type := (.object "com/example/strict_wire/strictwire/wire/FieldType"), accessFlags := 16409, slot := 0, constantValue := 0 }, { name := "INT8", type := (.object "com/example/strict_wire/strictwire/wire/FieldType"), accessFlags := 16409, slot := 1, constantValue := 0 }, { name := "INT16", type := (.object "com/example/strict_wire/strictwire/wire/FieldType"), accessFlags := 16409, slot := 2, constantValue := 0 }, { name := "INT32", type := (.object "com/example/strict_wire/strictwire/wire/FieldType"), accessFlags := 16409, slot := 3, constantValue := 0 }, { name := "INT64", type := (.object "com/example/strict_wire/strictwire/wire/FieldType"), accessFlags := 16409, slot := 4, constantValue := 0 }, { name := "STRING", type := (.object "com/example/strict_wire/strictwire/wire/FieldType"), accessFlags := 16409, slot := 5, constantValue := 0 }, { name := "BYTES", type := (.object "com/example/strict_wire/strictwire/wire/FieldType"), accessFlags := 16409, slot := 6, constantValue := 0 }, { name := "RECORDS", type := (.object "com/example/strict_wire/strictwire/wire/FieldType"), accessFlags := 16409, slot := 7, constantValue := 0 }, { name := "ARRAY", type := (.object "com/example/strict_wire/strictwire/wire/FieldType"), accessFlags := 16409, slot := 8, constantValue := 0 }, { name := "smallestBytes", type := .int, accessFlags := 18, slot := 3, constantValue := 0 }, { name := "$VALUES", type := (.array (.object "com/example/strict_wire/strictwire/wire/FieldType")), accessFlags := 4122, slot := 9, constantValue := 0 }]
  methods := #[k6m0]
  instanceTypes := #[(.object "java/lang/String"), .int, .int, .int]
  staticTypes := #[(.object "com/example/strict_wire/strictwire/wire/FieldType"), (.object "com/example/strict_wire/strictwire/wire/FieldType"), (.object "com/example/strict_wire/strictwire/wire/FieldType"), (.object "com/example/strict_wire/strictwire/wire/FieldType"), (.object "com/example/strict_wire/strictwire/wire/FieldType"), (.object "com/example/strict_wire/strictwire/wire/FieldType"), (.object "com/example/strict_wire/strictwire/wire/FieldType"), (.object "com/example/strict_wire/strictwire/wire/FieldType"), (.object "com/example/strict_wire/strictwire/wire/FieldType"), (.array (.object "com/example/strict_wire/strictwire/wire/FieldType"))]
  resolved := Array.replicate 99 none
  statics := some 0 }

def pool7 : Array CpInfo := pool [(1, u "java/lang/Cloneable"), (0, .class_ 1), (0, u "java/lang/Object"), (0, .class_ 3)] 3

/-- java/lang/Cloneable -/
def k7 : Class := { plain "java/lang/Cloneable" (some 0) with
  accessFlags := 1537
  interfaces := #[]
  cf := some (fileOf pool7 2 #[] #[] 1537 4 #[] #[])
  fields := #[]
  methods := #[]
  instanceTypes := #[]
  staticTypes := #[]
  resolved := Array.replicate 8 none
  statics := none }

/-- the primitive byte -/
def k8 : Class := { plain "byte" none with kind := .primitive 'B', accessFlags := 0x411 }
/-- [B -/
def k9 : Class := { plain "[B" (some 0) with kind := .array 8 .byte, interfaces := #[7, 4], accessFlags := 1041 }

/-- the primitive int -/
def k10 : Class := { plain "int" none with kind := .primitive 'I', accessFlags := 0x411 }
/-- [I -/
def k11 : Class := { plain "[I" (some 0) with kind := .array 10 .int, interfaces := #[7, 4], accessFlags := 1041 }

def heap : Heap := #[{ cls := 6, slots := #[.ref 1, .ref 2, .ref 5, .ref 4, .ref 3, .null, .null, .null, .null, .null], vm := .statics 6 },
  { cls := 6, slots := #[.null, .int 0, .int 0, .int 1], vm := .none },
  { cls := 6, slots := #[.null, .int 1, .int 0, .int 1], vm := .none },
  { cls := 6, slots := #[.null, .int 4, .int 0, .int 8], vm := .none },
  { cls := 6, slots := #[.null, .int 3, .int 0, .int 4], vm := .none },
  { cls := 6, slots := #[.null, .int 2, .int 0, .int 2], vm := .none }]
def classes : Array Class := #[k0, k1, k2, k3, k4, k5, k6, k7, k8, k9, k10, k11]
def interned : List (Array UInt16 × Addr) := []
def slotsUsed : Nat := 30
def theMethod : MethodId := ⟨1, 1⟩
def args0 : Array Value := #[.int 5, .long 5]
def aboutOver (below : List Frame) : State where
  vm := { classes := classes, interned := interned.toArray }
  heap := heap
  slotsUsed := slotsUsed
  threads := #[{ frames := .invoking theMethod args0 :: below }]
def below0 : List Frame := [.native { method := ⟨0, 0⟩, args := #[] }]
def about1 : State := aboutOver below0
def p0 : Program := .bare "" "" ""
def e0 : Env := launch0.env 0 0 0
theorem w_frames : about1.frames = Frame.invoking theMethod args0 :: below0 := rfl
set_option maxRecDepth 65536 in
theorem w_args : argsFit about1.vm theMethod args0 = true := by decide +kernel
set_option maxRecDepth 65536 in
theorem w_heap : heapFits about1 = true := by decide +kernel
set_option maxRecDepth 65536 in
theorem w_runnable : about1.curStatus? = some .runnable := by decide +kernel
set_option maxRecDepth 65536 in
theorem w_alone : about1.alone = true := by decide +kernel
set_option maxRecDepth 65536 in
theorem w_named : about1.methodNamed? x = some theMethod := by decide +kernel
set_option maxRecDepth 65536 in
theorem w_hears : about1.hears theMethod below0 = true := by decide +kernel
set_option maxRecDepth 65536 in
theorem w_ripe : about1.ripe theMethod args0 below0 = true := by decide +kernel
theorem w_running : about1.status = .running := rfl
set_option maxRecDepth 65536 in
theorem w_room : about1.hasRoom e0.platform room_1 = true :=
  launch0.hasRoom_least _ room_1 (by decide +kernel) (by decide +kernel) (by decide +kernel) (by decide +kernel) (by decide +kernel) (by decide +kernel)
theorem allAtoms_all (ts : List Jvm.Cond) (a : Array Jvm.Value) (st : Jvm.State) : (allAtoms ts).before a st = ts.all (fun c => c.before a st) := by
  induction ts with
  | nil => rfl
  | cons c t ih =>
    show (Jvm.Cond.and c (allAtoms t)).before a st = _
    rw [Jvm.Cond.before_and, ih, List.all_cons]
def words1 : List Jvm.Cond := Jvm.Cond.code x code maxLocals ret :: tables_1
/-- a 'code' word, met by the world's own term for the bytes: nothing is compared byte by byte -/
theorem code_word {y : MethodName} {bytes : ByteArray} {mx : Nat} {rt : Option FieldType} {a : Array Value} {s : State} {m : MethodId} {meth : Method} {c : Code} (h1 : s.methodNamed? y = some m) (h2 : s.vm.method? m = some meth) (h3 : meth.code = some c) (h4 : c.code = bytes)
    (h5 : (c.maxLocals == mx && c.exceptionTable.isEmpty && decide (c.maxStack ≤ mostOperands) && decide (meth.sig.returnType = rt) && !meth.locks && decide (parseMethodDescriptor y.desc = some meth.sig)) = true) : (Jvm.Cond.code y bytes mx rt).before a s = true := by
  simp only [Bool.and_eq_true, beq_iff_eq, Bool.not_eq_true', decide_eq_true_eq] at h5
  obtain ⟨⟨⟨⟨⟨g1, g2⟩, g3⟩, g4⟩, g5⟩, g6⟩ := h5
  simp [Cond.before, Cond.holds, Cond.value, h1, h2, h3, h4, g1, g2, g3, g4, g5, g6]
def isCode : Jvm.Cond → Bool
  | .code _ _ _ _ => true
  | _ => false
theorem all_split {L : List Jvm.Cond} {P : Jvm.Cond → Bool} (h1 : L.all (fun c => isCode c || P c) = true) (h2 : ∀ c ∈ L.filter isCode, P c = true) : L.all P = true := by
  refine List.all_eq_true.mpr fun c hc => ?_
  have h := List.all_eq_true.mp h1 c hc
  rcases Bool.eq_false_or_eq_true (isCode c) with hi | hi
  · exact h2 c (List.mem_filter.mpr ⟨hc, hi⟩)
  · simpa [hi] using h
set_option maxRecDepth 65536 in
theorem w_c0 : (Jvm.Cond.code x code maxLocals ret).before args0 about1 = true := code_word (m := ⟨1, 1⟩) (meth := k1m1) (c := k1c1) (by decide +kernel) rfl rfl rfl (by decide +kernel)
set_option maxRecDepth 65536 in
theorem w_c1 : (Jvm.Cond.code ({ cls := "com/example/strict_wire/strictwire/wire/FieldType", name := "holds", desc := "(J)Z" } : Jvm.MethodName) prog_43_method_7_code (6 : Nat) (Option.some Jvm.ClassFile.FieldType.boolean)).before args0 about1 = true := code_word (m := ⟨6, 0⟩) (meth := k6m0) (c := k6c0) (by decide +kernel) rfl rfl rfl (by decide +kernel)
def codes1 : List Jvm.Cond := [Jvm.Cond.code x code maxLocals ret, Jvm.Cond.code ({ cls := "com/example/strict_wire/strictwire/wire/FieldType", name := "holds", desc := "(J)Z" } : Jvm.MethodName) prog_43_method_7_code (6 : Nat) (Option.some Jvm.ClassFile.FieldType.boolean)]
set_option maxRecDepth 65536 in
theorem codes_eq : words1.filter isCode = codes1 := rfl
theorem w_codes : ∀ c ∈ words1.filter isCode, c.before args0 about1 = true := by
  rw [codes_eq]
  intro c hc
  simp only [codes1, List.mem_cons, List.not_mem_nil, or_false] at hc
  rcases hc with rfl | rfl
  · exact w_c0
  · exact w_c1
set_option maxRecDepth 65536 in
theorem w_t1 : words1.all (fun c => isCode c || c.before args0 about1) = true := by decide +kernel
theorem w_tables : (allAtoms (Jvm.Cond.code x code maxLocals ret :: tables_1)).before args0 about1 = true := by
  rw [allAtoms_all]
  show words1.all (fun c => c.before args0 about1) = true
  refine all_split ?_ w_codes
  rw [w_t1]
set_option maxRecDepth 65536 in
theorem w_case : (Jvm.Cond.and given_1 narrow_1).before args0 about1 = true := by decide +kernel
theorem w_applies : (headSpec (Jvm.Cond.code x code maxLocals ret :: tables_1) room_1).applies x e0.platform about1 = true :=
  (Spec.applies_iff w_frames).mpr ⟨w_running, w_runnable, w_alone, w_named, w_hears, w_ripe, w_room, w_tables⟩
theorem atStart : AtStart classFile x code maxLocals ret World_1 tables_1 room_1 Calls_1 rest_1 Pre_1 launch0 p0 e0 about1 theMethod args0 below0 :=
  ⟨lists_1, trivial, launch0.admits_env _ _ _, launch0.least_env, fairChoices_fair.cas, fairChoices_fair.clock, w_frames, w_args, w_heap, w_applies, trivial, trivial, w_case⟩
end start1
theorem witness_1 : WitnessClaimed_1 := ⟨start1.p0, start1.e0, start1.about1, start1.theMethod, start1.args0, start1.below0, start1.atStart⟩
end Jvm.Pilot.@@N@@
