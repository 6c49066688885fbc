import JvmDerived
import JvmDerived.Pilot.@@N@@Statement
import JvmDerived.Pilot.@@N@@Code
set_option linter.unusedVariables false
set_option linter.unusedSimpArgs false
namespace Jvm.Pilot.@@N@@
open Jvm Jvm.ClassFile Sem Op Lib Jvm.Free Jvm.Stand Jvm.LawKit Jvm.RoadKit Bundle Jvm.Pilot.@@N@@.Jvm.D
def own_Q (r : Option Value) (h0 : Heap) (n0 : Nat) (v : Option Value) (h : Heap) (L : List Loc) : Prop := v = r ∧ Fr n0 L ∧ h = h0
def own_R (r : Option Value) (n0 : Nat) (v : Option Value) (h : Heap) (L : List Loc) : Prop := v = r ∧ Fr n0 L
theorem own_fld {s : State} {args : Array Value} {t : Term} {a : Addr} {C n d : String} {k : Int32} (ev : t.eval args s none [] s = some (.ref a)) (h : (Jvm.Cond.eq (Jvm.Term.field t C n d) (Jvm.Term.int k)).value args s none s [] = some true) : Fld s s.heap a C n d (.int k) := by
  obtain ⟨x, y, hx, hy, hk, hk'⟩ := cmp_v (Or.inl h)
  have hy' : y = .int k := (Option.some.inj hy).symm
  subst hy'
  obtain ⟨z, rfl⟩ := hk'
  have e : z = k := by simpa [Cond.value, hx, hy] using h
  subst e
  exact Fld.start (by rw [← fld_at ev]; exact hx)
theorem own_nefld {Z : State} {h : Heap} {a b : Addr} {C n d : String} {v w : Value} (F : Fld Z h a C n d v) (G : Fld Z h b C n d w) (q : v ≠ w) : a ≠ b := fun e => by
  subst e
  obtain ⟨c1, f1, k1, i1, g1, a1, a2, a3, a4, a5, a6, a7⟩ := F
  obtain ⟨c2, f2, k2, i2, g2, b1, b2, b3, b4, b5, b6, b7⟩ := G
  cases a1.symm.trans b1
  cases a2.symm.trans b2
  exact q (Option.some.inj (a7.symm.trans b7))
def own_G (Z : State) (w_START_TAG w_PUNCTUATION w_END_TAG w_WORD : Addr) : Prop := Sta Z Z.heap "com/example/wee_wrapper/weewrapper/model/Token$Kind" "START_TAG" "Lcom/example/wee_wrapper/weewrapper/model/Token$Kind;" (.ref w_START_TAG) ∧ Exa Z Z.heap w_START_TAG "com/example/wee_wrapper/weewrapper/model/Token$Kind" ∧ Sta Z Z.heap "com/example/wee_wrapper/weewrapper/model/Token$Kind" "PUNCTUATION" "Lcom/example/wee_wrapper/weewrapper/model/Token$Kind;" (.ref w_PUNCTUATION) ∧ Exa Z Z.heap w_PUNCTUATION "com/example/wee_wrapper/weewrapper/model/Token$Kind" ∧ Sta Z Z.heap "com/example/wee_wrapper/weewrapper/model/Token$Kind" "END_TAG" "Lcom/example/wee_wrapper/weewrapper/model/Token$Kind;" (.ref w_END_TAG) ∧ Exa Z Z.heap w_END_TAG "com/example/wee_wrapper/weewrapper/model/Token$Kind" ∧ Sta Z Z.heap "com/example/wee_wrapper/weewrapper/model/Token$Kind" "WORD" "Lcom/example/wee_wrapper/weewrapper/model/Token$Kind;" (.ref w_WORD) ∧ Exa Z Z.heap w_WORD "com/example/wee_wrapper/weewrapper/model/Token$Kind" ∧ Fld Z Z.heap w_PUNCTUATION "java/lang/Enum" "ordinal" "I" (.int (3 : Int32)) ∧ Fld Z Z.heap w_START_TAG "java/lang/Enum" "ordinal" "I" (.int (0 : Int32)) ∧ Fld Z Z.heap w_END_TAG "java/lang/Enum" "ordinal" "I" (.int (1 : Int32)) ∧ Fld Z Z.heap w_WORD "java/lang/Enum" "ordinal" "I" (.int (2 : Int32))
def own_GC (Z : State) (w_CS : Int32) : Prop := Sta Z Z.heap "java/lang/String" "COMPACT_STRINGS" "Z" (.int w_CS) ∧ (¬ w_CS = (0 : Int32))
theorem own_ncs {s : State} {args : Array Value} {t : Term} {x : Int32} (ev : t.eval args s none [] s = some (.int x)) (h : (Jvm.Cond.not (Jvm.Cond.eq t (Jvm.Term.int (0 : Int32)))).value args s none s [] = some true) : ¬ x = (0 : Int32) := by
  have q := not_v h
  simpa [Cond.value, ev, Term.eval] using q
theorem own_wS {Z : State} {a0 : Array Value} (hw : ∀ d ∈ tables_1, d.before a0 Z = true) : ∀ a ∈ Bundle.stringAtoms, a.before a0 Z = true := by
  intro a ha
  simp only [Bundle.stringAtoms, List.mem_cons, List.not_mem_nil, or_false] at ha
  rcases ha with rfl | rfl | rfl | rfl | rfl | rfl | rfl
  · exact hw _ (List.mem_of_getElem? (i := 13) rfl)
  · exact hw _ (List.mem_of_getElem? (i := 12) rfl)
  · exact hw _ (List.mem_of_getElem? (i := 26) rfl)
  · exact hw _ (List.mem_of_getElem? (i := 27) rfl)
  · exact hw _ (List.mem_of_getElem? (i := 28) rfl)
  · exact hw _ (List.mem_of_getElem? (i := 29) rfl)
  · exact hw _ (List.mem_of_getElem? (i := 30) rfl)
def own_EL : List (String × Nat) := [("java/lang/String", 7)]
theorem own_EW {Z : State} {a0 : Array Value} (hw : ∀ d ∈ tables_1, d.before a0 Z = true) : EW Z a0 own_EL := EW.cons ((hw _ (List.mem_of_getElem? (i := 25) rfl))) (by decide) (EW.nil)
theorem own_mem_7 : ("java/lang/String", 7) ∈ own_EL := List.mem_of_getElem? (i := 0) rfl
theorem own_backH {p : Program} {l : Launch} {e : Env} {R : Room} {s : State} {args : Array Value} {below : List Frame} {Z : State} {a0 : Array Value} {EL : List (String × Nat)} {h : Heap} {vm0 : Vm} {y : MethodName} {bytes : ByteArray} {maxL : Nat} {ret : Option FieldType} {rm : Room} {len W : Nat} {as' : Array Value} {Q : Option Value → Heap → List Loc → Prop} {sf : List Addr}
    (hM : MetFree l y (head1 [Cond.code y bytes maxL ret] rm) (fun a U => a = as' ∧ Z.Warmed39 U.vm ∧ U.heap = h ∧ CHv Z EL U.vm h ∧ ∀ x ∈ sf, Safe Z EL U.vm h x) (fun _ _ _ _ _ => True) (fun _ U o U' => ∃ v L, o = .returned v ∧ Q v U'.heap L ∧ CHr Z EL U.vm U.heap U'.vm U'.heap ∧ ReturnedEndW U o U' L rm.cells rm.slots))
    (hZ : Z.Warmed39 vm0) (wc : (Cond.code y bytes maxL ret).before a0 Z = true) (wz : (Cond.initialized y.cls).before a0 Z = true) (hf : rm.frames + 1 ≤ R.frames) (hl : W + (maxL + 11) + rm.locals ≤ R.locals) (hEL : EW Z a0 EL) (H : CHv Z EL vm0 h) (hs : ∀ x ∈ sf, x < h.size ∧ Safe Z EL vm0 h x) :
    BackS l R p e below (s.setVm vm0) args y len W (fun A a => a = as' ∧ A.U.heap = h ∧ A.cells + rm.cells ≤ R.cells ∧ A.slots + rm.slots ≤ R.slots) (fun A _ v B => ∃ L, Q v B.U.heap L ∧ B.locs = A.locs ++ L ∧ B.cells = A.cells + rm.cells ∧ B.slots = A.slots + rm.slots ∧ CHr Z EL vm0 h B.U.vm B.U.heap) :=
  BackS.of_freeW (bytes := bytes) (maxL := maxL) (ret := ret) (E := fun _ first o t L k n => k = rm.cells ∧ n = rm.slots ∧ (∃ v, o = .returned v ∧ Q v t.heap L) ∧ CHr Z EL first.vm first.heap t.vm t.heap) hM hf hl
    (fun m meth c A a Y hp => have hU : Z.Warmed39 A.U.vm := wtrans (s := s.setVm vm0) hZ Y.warmed
      ⟨by show (Cond.and _ .tt).before a A.U = true; rw [Cond.before_and, mv hU wc]; rfl, mv hU wc, mv hU wz, hp.2.2.1, hp.2.2.2⟩)
    (fun m meth c A a g mk Y hp => ⟨hp.1, wtrans (s := s.setVm vm0) hZ Y.warmed, hp.2.1, (CHv.at Y hZ hEL H).1, fun x hx => (CHv.at Y hZ hEL H).safe (hs x hx).1 (hs x hx).2⟩) (fun _ _ _ _ _ _ _ _ _ => trivial)
    (fun _ _ _ _ ⟨v, L, h1, h2, h3, h4⟩ => ⟨L, _, _, h4, rfl, rfl, ⟨v, h1, h2⟩, h3⟩)
    (fun m meth c A a g mk v t L k n Y hp _ _ ⟨e1, e2, ⟨v', e3, e4⟩, e5⟩ => by
      cases e3; subst e1 e2
      refine ⟨L, e4, rfl, rfl, rfl, (CHv.at Y hZ hEL H).trans ?_⟩
      rw [← hp.2.1]; exact e5)
def own_CP (Z : State) (r2 : Addr) (cb : ClassId) (n : Int32) (h0 : Heap) (n0 : Nat) (v : Option Value) (h : Heap) (L : List Loc) : Prop := v = some (.int n) ∧ Fr n0 L ∧ Keep h0 h [r2] ∧ ∃ vs, Arv Z h r2 cb .byte n vs (.int (0 : Int32))
def own_CQ (Z : State) (n : Int32) (h0 : Heap) (n0 : Nat) (v : Option Value) (h : Heap) (L : List Loc) : Prop := ∃ b : Addr, v = some (.ref b) ∧ Fr n0 L ∧ Keep h0 h [] ∧ h0.size ≤ b ∧ n0 ≤ b ∧ ∃ k vs, Arv Z h b k .byte n vs (.int (0 : Int32))
def own_SI (Z : State) (r0 : Addr) (n : Int32) (h0 : Heap) (n0 : Nat) (v : Option Value) (h : Heap) (L : List Loc) : Prop := v = none ∧ Fr n0 L ∧ Keep h0 h [r0] ∧ Exa Z h r0 "java/lang/String" ∧ ∃ b k vs, Fld Z h r0 "java/lang/String" "value" "[B" (.ref b) ∧ Arv Z h b k .byte n vs (.int (0 : Int32))
theorem pn_0 : plainName "java/lang/String" = true := by first | (simp [plainName, overriddenIn]; done) | decide +kernel
theorem ef_rmS2_0 (m : MethodId) (x0 : Addr) (x1 : Addr) (x2 : Int32) (x3 : Int32) : entryFrame m #[(.ref x0), (.ref x1), (.int x2), (.int x3), .null] 6 = mkF m 0 #[.val (.ref x0), .val (.ref x1), .val (.int x2), .val (.int x3), .val .null, .unset] [] := by first | (simp [entryFrame, mkF, argsToLocals, Value.category]; done) | rfl
theorem d4_0 : decode jdk_42_method_149_code 0 = .ok (.aload_n 0, 1) := by decide +kernel
theorem d4_1 : decode jdk_42_method_149_code 1 = .ok (.invokespecial 1, 3) := by decide +kernel
theorem d4_4 : decode jdk_42_method_149_code 4 = .ok (.iload_n 3, 1) := by decide +kernel
theorem d4_5 : decode jdk_42_method_149_code 5 = .ok (.ifCond .ne 22, 3) := by decide +kernel
theorem d4_8 : decode jdk_42_method_149_code 8 = .ok (.aload_n 0, 1) := by decide +kernel
theorem d4_9 : decode jdk_42_method_149_code 9 = .ok (.ldc 7, 2) := by decide +kernel
theorem d4_11 : decode jdk_42_method_149_code 11 = .ok (.getfield 9, 3) := by decide +kernel
theorem d4_14 : decode jdk_42_method_149_code 14 = .ok (.putfield 9, 3) := by decide +kernel
theorem d4_17 : decode jdk_42_method_149_code 17 = .ok (.aload_n 0, 1) := by decide +kernel
theorem d4_18 : decode jdk_42_method_149_code 18 = .ok (.ldc 7, 2) := by decide +kernel
theorem d4_20 : decode jdk_42_method_149_code 20 = .ok (.getfield 15, 3) := by decide +kernel
theorem d4_23 : decode jdk_42_method_149_code 23 = .ok (.putfield 15, 3) := by decide +kernel
theorem d4_26 : decode jdk_42_method_149_code 26 = .ok (.return_, 1) := by decide +kernel
set_option maxRecDepth 65536 in
set_option maxHeartbeats 40000000 in
theorem rmS2_0 (l : Launch) (Z : State) (a0 : Array Value) (hw : ∀ d ∈ tables_1, d.before a0 Z = true) (ws : List Jvm.Cond) (r0 : Addr) (r1 : Addr) (ck : ClassId) (w_CS : Int32) (h0 : Heap) (n0 : Nat) (hG : own_GC Z w_CS) (O0 : Old Z n0 h0) (Z0 : n0 ≤ h0.size) (g_r0 : n0 ≤ r0) (E_r0 : Exa Z h0 r0 "java/lang/String") (F_value_r0 : Fld Z h0 r0 "java/lang/String" "value" "[B" .null) (F_coder_r0 : Fld Z h0 r0 "java/lang/String" "coder" "B" (.int (0 : Int32))) (hne : r1 ≠ r0) (Vs : Arv Z h0 r1 ck .char (0 : Int32) [] (.int (0 : Int32))) :
    MetFree l (⟨"java/lang/String", "<init>", "([CIILjava/lang/Void;)V"⟩ : MethodName) (head1 (Jvm.Cond.code (⟨"java/lang/String", "<init>", "([CIILjava/lang/Void;)V"⟩ : MethodName) jdk_42_method_149_code 6 none :: ws) ({ frames := 2, cells := 4, slots := 8, locals := 35 } : Room)) (fun a U => a = #[(.ref r0), (.ref r1), (.int (0 : Int32)), (.int (0 : Int32)), .null] ∧ Z.Warmed39 U.vm ∧ U.heap = h0 ∧ CHv Z own_EL U.vm h0 ∧ ∀ x ∈ ([r0] : List Addr), Safe Z own_EL U.vm h0 x) (fun _ _ _ _ _ => True) (fun _ U o U' => ∃ v L, o = .returned v ∧ own_SI Z r0 (0 : Int32) h0 n0 v U'.heap L ∧ CHr Z own_EL U.vm U.heap U'.vm U'.heap ∧ ReturnedEndW U o U' L ({ frames := 2, cells := 4, slots := 8, locals := 35 } : Room).cells ({ frames := 2, cells := 4, slots := 8, locals := 35 } : Room).slots) := by
  refine MetFree.of_bodySF (plainFor_of_name pn_0) hisR ?_
  intro p e s m args below meth c s₁ Bd hml0 hP hK
  obtain ⟨rfl, hZ, hh, hH, hSf⟩ := hP
  have hx := Bd.exec
  have hby := Bd.bytes
  have hml : c.maxLocals = 6 := hml0
  have hown : s.vm.findClass "java/lang/String" = some m.cls := findClass_of_methodNamed Bd.named
  have hnm := (name_of_methodNamed Bd.named Bd.method).1
  have X0 : Stand p l e ({ frames := 2, cells := 4, slots := 8, locals := 35 } : Room) (s.setVm s.vm) m #[(.ref r0), (.ref r1), (.int (0 : Int32)), (.int (0 : Int32)), .null] below meth c s₁ [] 0 0 := Stand.of_body Bd
  have e0 : s₁.heap = h0 := by rw [← hh, Bd.state]; rfl
  have N0 := Fr.nil n0
  have pre0 : ∀ t, Steps p.tables e below (s₁.setTop (mkF m 0 #[.val (.ref r0), .val (.ref r1), .val (.int (0 : Int32)), .val (.int (0 : Int32)), .val .null, .unset] [])) t → Steps p.tables e below (s₁.setTop (entryFrame m #[(.ref r0), (.ref r1), (.int (0 : Int32)), (.int (0 : Int32)), .null] 6)) t := fun t k => castTop (ef_rmS2_0 m r0 r1 (0 : Int32) (0 : Int32)) k
  have hS : s.Since s.vm 0 := (State.WarmedH.refl s).since 0
  have hk : 0 ≤ h0.size := Nat.zero_le _
  replace hZ : Z.Warmed39 (s.setVm s.vm).vm := hZ
  replace hown : (s.setVm s.vm).vm.findClass "java/lang/String" = some m.cls := hown
  have HC : CHr Z own_EL s.vm h0 s.vm h0 := CHr.refl hH
  have Sf_r0 : Safe Z own_EL s.vm h0 r0 := hSf _ (List.mem_of_getElem? (i := 0) rfl)
  have hG' := hG
  obtain ⟨S_CS, hCS⟩ := hG'
  have K0 : Keep h0 h0 [r0] := Keep.refl _ _
  obtain ⟨T1, X1, e1, st1⟩ := initO X0 hx hZ hown (hw _ (List.mem_of_getElem? (i := 22) rfl)) (hw _ (List.mem_of_getElem? (i := 23) rfl)) (hw _ (List.mem_of_getElem? (i := 24) rfl)) e0 (g := (mkF m 1 #[.val (.ref r0), .val (.ref r1), .val (.int (0 : Int32)), .val (.int (0 : Int32)), .val .null, .unset] [(.ref r0)])) rfl (by rw [hml]; rfl) rfl (hb hby d4_1) (by decide) (W := 0) (by show 2 * 0 + _ ≤ _; exact Nat.le_of_eq rfl) (by decide)
  have k2 : ∀ t, Steps p.tables e below (T1.setTop (mkF m 9 #[.val (.ref r0), .val (.ref r1), .val (.int (0 : Int32)), .val (.int (0 : Int32)), .val .null, .unset] [(.ref r0)])) t → Steps p.tables e below (s₁.setTop (entryFrame m #[(.ref r0), (.ref r1), (.int (0 : Int32)), (.int (0 : Int32)), .null] 6)) t := by
    intro t k
    refine pre0 _ ?_
    show Steps p.tables e below (s₁.setTop (mkF m 0 #[.val (.ref r0), .val (.ref r1), .val (.int (0 : Int32)), .val (.int (0 : Int32)), .val .null, .unset] [])) _
    refine XS.aloadN X0.here hx rfl (hb hby d4_0) rfl rfl ?_
    show Steps p.tables e below (s₁.setTop (mkF m 1 #[.val (.ref r0), .val (.ref r1), .val (.int (0 : Int32)), .val (.int (0 : Int32)), .val .null, .unset] [(.ref r0)])) _
    refine st1 _ ?_
    show Steps p.tables e below (T1.setTop (mkF m 4 #[.val (.ref r0), .val (.ref r1), .val (.int (0 : Int32)), .val (.int (0 : Int32)), .val .null, .unset] [])) _
    refine XS.iloadN X1.here hx rfl (hb hby d4_4) rfl ?_
    show Steps p.tables e below (T1.setTop (mkF m 5 #[.val (.ref r0), .val (.ref r1), .val (.int (0 : Int32)), .val (.int (0 : Int32)), .val .null, .unset] [(.int (0 : Int32))])) _
    refine XS.ifNo X1.here hx rfl (hb hby d4_5) rfl ((if0 _ _).trans (teq (by decide)).2) ?_
    show Steps p.tables e below (T1.setTop (mkF m 8 #[.val (.ref r0), .val (.ref r1), .val (.int (0 : Int32)), .val (.int (0 : Int32)), .val .null, .unset] [])) _
    refine XS.aloadN X1.here hx rfl (hb hby d4_8) rfl rfl ?_
    exact k
  obtain ⟨a3, T3, h3, kk3, d3, kc3, X3, e3, E3, hS, hk', hZ', hown, Ea3, Fc3, Fv3, Vd3, -, -, hC3, -, hs3, st3⟩ := ldcCH X1 hx hZ hown (hw _ (List.mem_of_getElem? (i := 25) rfl)) (own_wS hw) e1 hS hk (own_EW hw) (own_mem_7 : ("java/lang/String", 7) ∈ own_EL) HC.1 (vs := []) (z := (0 : Int32)) (by decide) (by decide) (by decide) (g := (mkF m 9 #[.val (.ref r0), .val (.ref r1), .val (.int (0 : Int32)), .val (.int (0 : Int32)), .val .null, .unset] [(.ref r0)])) rfl (hb hby d4_9) (n := 0) (by decide) (by decide) (by decide) (by decide)
  replace Sf_r0 := hC3.safe E_r0.lt Sf_r0
  replace HC := HC.trans hC3
  replace hZ := hZ'
  replace Vs := Vs.ext E3
  replace E_r0 := E_r0.ext E3
  replace F_value_r0 := F_value_r0.ext E3
  replace F_coder_r0 := F_coder_r0.ext E3
  replace O0 := O0.ext E3
  replace K0 := K0.ext E3
  replace hk := hk'
  have ne_a3_r0 := (hs3 _ Sf_r0).1
  have ne_d3_r0 := (hs3 _ Sf_r0).2
  obtain ⟨T4, X4, e4, st4⟩ := getF X3 hx hZ hown (host := "") (Or.inl (hw _ (List.mem_of_getElem? (i := 31) rfl))) Via.refl e3 Fv3 (g := (mkF m 11 #[.val (.ref r0), .val (.ref r1), .val (.int (0 : Int32)), .val (.int (0 : Int32)), .val .null, .unset] [(.ref a3), (.ref r0)])) rfl rfl (hb hby d4_11)
  obtain ⟨T5, h5, X5, e5, W5, st5⟩ := putF X4 hx hZ hown (host := "") (Or.inl (hw _ (List.mem_of_getElem? (i := 31) rfl))) Via.refl e4 F_value_r0 E_r0 (Or.inr ⟨(hw _ (List.mem_of_getElem? (i := 27) rfl)), rfl, hnm⟩) (hw _ (List.mem_of_getElem? (i := 12) rfl)) (ty := (.array .byte)) (by decide) rfl rfl (g := (mkF m 14 #[.val (.ref r0), .val (.ref r1), .val (.int (0 : Int32)), .val (.int (0 : Int32)), .val .null, .unset] [(.ref d3), (.ref r0)])) rfl rfl (hb hby d4_14)
  have So : Safe Z own_EL T3.vm h3 r0 := Sf_r0
  replace Vs := Vs.other W5 hne
  replace E_r0 := E_r0.wr W5
  replace F_coder_r0 := F_coder_r0.other W5 (Or.inr (slot_ne (Or.inr (hw _ (List.mem_of_getElem? (i := 28) rfl))) (Or.inr (hw _ (List.mem_of_getElem? (i := 27) rfl))) (by decide) (t := .byte) (t' := (.array .byte)) (by decide) (by decide)))
  replace Ea3 := Ea3.wr W5
  replace Fc3 := Fc3.other W5 (Or.inl (Ne.symm ne_a3_r0))
  replace Fv3 := Fv3.other W5 (Or.inl (Ne.symm ne_a3_r0))
  replace Vd3 := Vd3.other W5 (Ne.symm ne_d3_r0)
  replace Sf_r0 := Safe.wr W5 So HC.1 Sf_r0
  replace HC := HC.trans (CHr.wr W5 So HC.1)
  replace O0 := O0.wr W5 g_r0
  replace K0 := K0.wr W5 (Or.inl (List.mem_of_getElem? (i := 0) rfl))
  replace hk := Nat.le_trans hk (Nat.le_of_eq W5.size.symm)
  replace F_value_r0 := F_value_r0.same W5
  have N5 := Fr.snoc X5 N0 g_r0
  have k6 : ∀ t, Steps p.tables e below (T5.setTop (mkF m 18 #[.val (.ref r0), .val (.ref r1), .val (.int (0 : Int32)), .val (.int (0 : Int32)), .val .null, .unset] [(.ref r0)])) t → Steps p.tables e below (s₁.setTop (entryFrame m #[(.ref r0), (.ref r1), (.int (0 : Int32)), (.int (0 : Int32)), .null] 6)) t := by
    intro t k
    refine k2 _ ?_
    show Steps p.tables e below (T1.setTop (mkF m 9 #[.val (.ref r0), .val (.ref r1), .val (.int (0 : Int32)), .val (.int (0 : Int32)), .val .null, .unset] [(.ref r0)])) _
    refine st3 _ ?_
    show Steps p.tables e below (T3.setTop (mkF m 11 #[.val (.ref r0), .val (.ref r1), .val (.int (0 : Int32)), .val (.int (0 : Int32)), .val .null, .unset] [(.ref a3), (.ref r0)])) _
    refine st4 _ ?_
    show Steps p.tables e below (T4.setTop (mkF m 14 #[.val (.ref r0), .val (.ref r1), .val (.int (0 : Int32)), .val (.int (0 : Int32)), .val .null, .unset] [(.ref d3), (.ref r0)])) _
    refine st5 _ ?_
    show Steps p.tables e below (T5.setTop (mkF m 17 #[.val (.ref r0), .val (.ref r1), .val (.int (0 : Int32)), .val (.int (0 : Int32)), .val .null, .unset] [])) _
    refine XS.aloadN X5.here hx rfl (hb hby d4_17) rfl rfl ?_
    exact k
  obtain ⟨a7, T7, h7, kk7, d7, kc7, X7, e7, E7, hS, hk', hZ', hown, Ea7, Fc7, Fv7, Vd7, -, -, hC7, -, hs7, st7⟩ := ldcCH X5 hx hZ hown (hw _ (List.mem_of_getElem? (i := 25) rfl)) (own_wS hw) e5 hS hk (own_EW hw) (own_mem_7 : ("java/lang/String", 7) ∈ own_EL) HC.1 (vs := []) (z := (0 : Int32)) (by decide) (by decide) (by decide) (g := (mkF m 18 #[.val (.ref r0), .val (.ref r1), .val (.int (0 : Int32)), .val (.int (0 : Int32)), .val .null, .unset] [(.ref r0)])) rfl (hb hby d4_18) (n := 0) (by decide) (by decide) (by decide) (by decide)
  replace Sf_r0 := hC7.safe E_r0.lt Sf_r0
  replace HC := HC.trans hC7
  replace hZ := hZ'
  replace Vs := Vs.ext E7
  replace E_r0 := E_r0.ext E7
  replace F_value_r0 := F_value_r0.ext E7
  replace F_coder_r0 := F_coder_r0.ext E7
  replace Ea3 := Ea3.ext E7
  replace Fc3 := Fc3.ext E7
  replace Fv3 := Fv3.ext E7
  replace Vd3 := Vd3.ext E7
  replace O0 := O0.ext E7
  replace K0 := K0.ext E7
  replace hk := hk'
  have ne_a7_r0 := (hs7 _ Sf_r0).1
  have ne_d7_r0 := (hs7 _ Sf_r0).2
  obtain ⟨T8, X8, e8, st8⟩ := getF X7 hx hZ hown (host := "") (Or.inl (hw _ (List.mem_of_getElem? (i := 32) rfl))) Via.refl e7 Fc7 (g := (mkF m 20 #[.val (.ref r0), .val (.ref r1), .val (.int (0 : Int32)), .val (.int (0 : Int32)), .val .null, .unset] [(.ref a7), (.ref r0)])) rfl rfl (hb hby d4_20)
  obtain ⟨T9, h9, X9, e9, W9, st9⟩ := putFN X8 hx hZ hown (hw _ (List.mem_of_getElem? (i := 32) rfl)) Via.refl e8 F_coder_r0 E_r0 (Or.inr ⟨(hw _ (List.mem_of_getElem? (i := 28) rfl)), rfl, hnm⟩) (hw _ (List.mem_of_getElem? (i := 12) rfl)) (ty := .byte) (v' := (.int ((0 : Int32).toInt8.toInt32))) (by decide) rfl (fits_nar_byte _) (g := (mkF m 23 #[.val (.ref r0), .val (.ref r1), .val (.int (0 : Int32)), .val (.int (0 : Int32)), .val .null, .unset] [(.int (0 : Int32)), (.ref r0)])) rfl rfl (hb hby d4_23)
  have So : Safe Z own_EL T7.vm h7 r0 := Sf_r0
  replace Vs := Vs.other W9 hne
  replace E_r0 := E_r0.wr W9
  replace F_value_r0 := F_value_r0.other W9 (Or.inr (slot_ne (Or.inr (hw _ (List.mem_of_getElem? (i := 27) rfl))) (Or.inr (hw _ (List.mem_of_getElem? (i := 28) rfl))) (by decide) (t := (.array .byte)) (t' := .byte) (by decide) (by decide)))
  replace Ea3 := Ea3.wr W9
  replace Fc3 := Fc3.other W9 (Or.inl (Ne.symm ne_a3_r0))
  replace Fv3 := Fv3.other W9 (Or.inl (Ne.symm ne_a3_r0))
  replace Vd3 := Vd3.other W9 (Ne.symm ne_d3_r0)
  replace Ea7 := Ea7.wr W9
  replace Fc7 := Fc7.other W9 (Or.inl (Ne.symm ne_a7_r0))
  replace Fv7 := Fv7.other W9 (Or.inl (Ne.symm ne_a7_r0))
  replace Vd7 := Vd7.other W9 (Ne.symm ne_d7_r0)
  replace Sf_r0 := Safe.wr W9 So HC.1 Sf_r0
  replace HC := HC.trans (CHr.wr W9 So HC.1)
  replace O0 := O0.wr W9 g_r0
  replace K0 := K0.wr W9 (Or.inl (List.mem_of_getElem? (i := 0) rfl))
  replace hk := Nat.le_trans hk (Nat.le_of_eq W9.size.symm)
  replace F_coder_r0 := F_coder_r0.same W9
  have N9 := Fr.snoc X9 N5 g_r0
  have k10 : ∀ t, Steps p.tables e below (T9.setTop (mkF m 26 #[.val (.ref r0), .val (.ref r1), .val (.int (0 : Int32)), .val (.int (0 : Int32)), .val .null, .unset] [])) t → Steps p.tables e below (s₁.setTop (entryFrame m #[(.ref r0), (.ref r1), (.int (0 : Int32)), (.int (0 : Int32)), .null] 6)) t := by
    intro t k
    refine k6 _ ?_
    show Steps p.tables e below (T5.setTop (mkF m 18 #[.val (.ref r0), .val (.ref r1), .val (.int (0 : Int32)), .val (.int (0 : Int32)), .val .null, .unset] [(.ref r0)])) _
    refine st7 _ ?_
    show Steps p.tables e below (T7.setTop (mkF m 20 #[.val (.ref r0), .val (.ref r1), .val (.int (0 : Int32)), .val (.int (0 : Int32)), .val .null, .unset] [(.ref a7), (.ref r0)])) _
    refine st8 _ ?_
    show Steps p.tables e below (T8.setTop (mkF m 23 #[.val (.ref r0), .val (.ref r1), .val (.int (0 : Int32)), .val (.int (0 : Int32)), .val .null, .unset] [(.int (0 : Int32)), (.ref r0)])) _
    refine st9 _ ?_
    exact k
  obtain ⟨fs, hr, hrun, hended, hEW⟩ := X9.leaveW hS (by rw [e9]; exact hk) (v := none) (fun _ => rfl)
  have HCf : CHr Z own_EL s.vm s.heap T9.vm T9.heap := by
    rw [hh, e9]
    exact HC.trans (CHv.at X9 hZ (own_EW hw) HC.1)
  refine ⟨_, _, k10 _ ?_, hrun, hended, _, _, rfl, ?_, HCf, hEW.1, hEW.2.1, hEW.2.2.1, hEW.2.2.2.mono (by decide) (by decide)⟩
  · exact X9.returnOut hx Bd.returns (hb hby d4_26) hr
  · show own_SI Z r0 (0 : Int32) h0 n0 _ T9.heap _
    rw [e9]
    exact ⟨rfl, N9, K0, E_r0, _, _, _, F_value_r0, Vd3⟩
theorem ef_rmS1_0 (m : MethodId) (x0 : Addr) (x1 : Addr) : entryFrame m #[(.ref x0), (.ref x1)] 2 = mkF m 0 #[.val (.ref x0), .val (.ref x1)] [] := by first | (simp [entryFrame, mkF, argsToLocals, Value.category]; done) | rfl
theorem d3_0 : decode jdk_42_method_3_code 0 = .ok (.aload_n 0, 1) := by decide +kernel
theorem d3_1 : decode jdk_42_method_3_code 1 = .ok (.aload_n 1, 1) := by decide +kernel
theorem d3_2 : decode jdk_42_method_3_code 2 = .ok (.iconst 0, 1) := by decide +kernel
theorem d3_3 : decode jdk_42_method_3_code 3 = .ok (.aload_n 1, 1) := by decide +kernel
theorem d3_4 : decode jdk_42_method_3_code 4 = .ok (.arraylength, 1) := by decide +kernel
theorem d3_5 : decode jdk_42_method_3_code 5 = .ok (.aconst_null, 1) := by decide +kernel
theorem pd_0 : parseMethodDescriptor "([CIILjava/lang/Void;)V" = some ⟨[(.array .char), .int, .int, (.object "java/lang/Void")], none⟩ := by decide +kernel
theorem d3_6 : decode jdk_42_method_3_code 6 = .ok (.invokespecial 27, 3) := by decide +kernel
theorem d3_9 : decode jdk_42_method_3_code 9 = .ok (.return_, 1) := by decide +kernel
set_option maxRecDepth 65536 in
set_option maxHeartbeats 40000000 in
theorem rmS1_0 (l : Launch) (Z : State) (a0 : Array Value) (hw : ∀ d ∈ tables_1, d.before a0 Z = true) (ws : List Jvm.Cond) (r0 : Addr) (r1 : Addr) (ck : ClassId) (w_CS : Int32) (h0 : Heap) (n0 : Nat) (hG : own_GC Z w_CS) (O0 : Old Z n0 h0) (Z0 : n0 ≤ h0.size) (g_r0 : n0 ≤ r0) (E_r0 : Exa Z h0 r0 "java/lang/String") (F_value_r0 : Fld Z h0 r0 "java/lang/String" "value" "[B" .null) (F_coder_r0 : Fld Z h0 r0 "java/lang/String" "coder" "B" (.int (0 : Int32))) (hne : r1 ≠ r0) (Vs : Arv Z h0 r1 ck .char (0 : Int32) [] (.int (0 : Int32))) :
    MetFree l (⟨"java/lang/String", "<init>", "([C)V"⟩ : MethodName) (head1 (Jvm.Cond.code (⟨"java/lang/String", "<init>", "([C)V"⟩ : MethodName) jdk_42_method_3_code 2 none :: ws) ({ frames := 3, cells := 4, slots := 8, locals := 52 } : Room)) (fun a U => a = #[(.ref r0), (.ref r1)] ∧ Z.Warmed39 U.vm ∧ U.heap = h0 ∧ CHv Z own_EL U.vm h0 ∧ ∀ x ∈ ([r0] : List Addr), Safe Z own_EL U.vm h0 x) (fun _ _ _ _ _ => True) (fun _ U o U' => ∃ v L, o = .returned v ∧ own_SI Z r0 (0 : Int32) h0 n0 v U'.heap L ∧ CHr Z own_EL U.vm U.heap U'.vm U'.heap ∧ ReturnedEndW U o U' L ({ frames := 3, cells := 4, slots := 8, locals := 52 } : Room).cells ({ frames := 3, cells := 4, slots := 8, locals := 52 } : Room).slots) := by
  refine MetFree.of_bodySF (plainFor_of_name pn_0) hisR ?_
  intro p e s m args below meth c s₁ Bd hml0 hP hK
  obtain ⟨rfl, hZ, hh, hH, hSf⟩ := hP
  have hx := Bd.exec
  have hby := Bd.bytes
  have hml : c.maxLocals = 2 := hml0
  have hown : s.vm.findClass "java/lang/String" = some m.cls := findClass_of_methodNamed Bd.named
  have hnm := (name_of_methodNamed Bd.named Bd.method).1
  have X0 : Stand p l e ({ frames := 3, cells := 4, slots := 8, locals := 52 } : Room) (s.setVm s.vm) m #[(.ref r0), (.ref r1)] below meth c s₁ [] 0 0 := Stand.of_body Bd
  have e0 : s₁.heap = h0 := by rw [← hh, Bd.state]; rfl
  have N0 := Fr.nil n0
  have pre0 : ∀ t, Steps p.tables e below (s₁.setTop (mkF m 0 #[.val (.ref r0), .val (.ref r1)] [])) t → Steps p.tables e below (s₁.setTop (entryFrame m #[(.ref r0), (.ref r1)] 2)) t := fun t k => castTop (ef_rmS1_0 m r0 r1) k
  have hS : s.Since s.vm 0 := (State.WarmedH.refl s).since 0
  have hk : 0 ≤ h0.size := Nat.zero_le _
  replace hZ : Z.Warmed39 (s.setVm s.vm).vm := hZ
  replace hown : (s.setVm s.vm).vm.findClass "java/lang/String" = some m.cls := hown
  have HC : CHr Z own_EL s.vm h0 s.vm h0 := CHr.refl hH
  have Sf_r0 : Safe Z own_EL s.vm h0 r0 := hSf _ (List.mem_of_getElem? (i := 0) rfl)
  have hG' := hG
  obtain ⟨S_CS, hCS⟩ := hG'
  have K0 : Keep h0 h0 [r0] := Keep.refl _ _
  have k2 : ∀ t, Steps p.tables e below (s₁.setTop (mkF m 6 #[.val (.ref r0), .val (.ref r1)] [.null, (.int (0 : Int32)), (.int (0 : Int32)), (.ref r1), (.ref r0)])) t → Steps p.tables e below (s₁.setTop (entryFrame m #[(.ref r0), (.ref r1)] 2)) t := by
    intro t k
    refine pre0 _ ?_
    show Steps p.tables e below (s₁.setTop (mkF m 0 #[.val (.ref r0), .val (.ref r1)] [])) _
    refine XS.aloadN X0.here hx rfl (hb hby d3_0) rfl rfl ?_
    show Steps p.tables e below (s₁.setTop (mkF m 1 #[.val (.ref r0), .val (.ref r1)] [(.ref r0)])) _
    refine XS.aloadN X0.here hx rfl (hb hby d3_1) rfl rfl ?_
    show Steps p.tables e below (s₁.setTop (mkF m 2 #[.val (.ref r0), .val (.ref r1)] [(.ref r1), (.ref r0)])) _
    refine XS.iconst X0.here hx rfl (hb hby d3_2) ?_
    show Steps p.tables e below (s₁.setTop (mkF m 3 #[.val (.ref r0), .val (.ref r1)] [(.int (0 : Int32)), (.ref r1), (.ref r0)])) _
    refine XS.aloadN X0.here hx rfl (hb hby d3_3) rfl rfl ?_
    show Steps p.tables e below (s₁.setTop (mkF m 4 #[.val (.ref r0), .val (.ref r1)] [(.ref r1), (.int (0 : Int32)), (.ref r1), (.ref r0)])) _
    obtain ⟨cl_1, Ar_1, -, S_1, N_1, -, -⟩ := id Vs
    refine X0.arraylength hx (by rw [e0]; exact Ar_1.1) (State.isArrayOf_alike hZ.alike Ar_1.2.1) (g := (mkF m 4 #[.val (.ref r0), .val (.ref r1)] [(.ref r1), (.int (0 : Int32)), (.ref r1), (.ref r0)])) rfl rfl (hb hby d3_4) _ ?_
    rw [len_of S_1 N_1]
    show Steps p.tables e below (s₁.setTop (mkF m 5 #[.val (.ref r0), .val (.ref r1)] [(.int (0 : Int32)), (.int (0 : Int32)), (.ref r1), (.ref r0)])) _
    refine XS.aconstNull X0.here hx rfl (hb hby d3_5) ?_
    exact k
  obtain ⟨_, _, ⟨T3, L3, k3_, n3⟩, -, X3, hS3, hg3, ⟨Lc3, hQ3, l3, y3, z3, hC3⟩, st3⟩ := X0.specialBackS hx (y := (⟨"java/lang/String", "<init>", "([CIILjava/lang/Void;)V"⟩ : MethodName)) rfl hown (mvT hZ (hw _ (List.mem_of_getElem? (i := 18) rfl))) (mvT hZ (hw _ (List.mem_of_getElem? (i := 19) rfl))) (mvT hZ (hw _ (List.mem_of_getElem? (i := 21) rfl))) (by decide) (own_backH (W := 0) (rmS2_0 l Z a0 hw [] r0 r1 ck w_CS h0 n0 hG O0 (O0.1 ▸ O0.2.1) g_r0 E_r0 F_value_r0 F_coder_r0 hne Vs) hZ (hw _ (List.mem_of_getElem? (i := 21) rfl)) (hw _ (List.mem_of_getElem? (i := 13) rfl)) (by decide) (by decide) (own_EW hw) HC.1 (fun x hx => by cases List.mem_singleton.mp hx; exact ⟨E_r0.lt, Sf_r0⟩)) (g := (mkF m 6 #[.val (.ref r0), .val (.ref r1)] [.null, (.int (0 : Int32)), (.int (0 : Int32)), (.ref r1), (.ref r0)])) rfl (by rw [hml]; rfl) (Steps.refl _) (a := r0) (argsL := [(.ref r1), (.int (0 : Int32)), (.int (0 : Int32)), .null]) (rest := []) (lenOf pd_0 rfl) rfl (by show 2 * 0 + _ ≤ _; exact Nat.le_of_eq rfl) (hb hby d3_6) (fun _ _ => ⟨rfl, e0, (by decide : 0 + 4 ≤ _), (by decide : 0 + 8 ≤ _)⟩)
  dsimp only [Pt.U, Pt.locs, Pt.cells, Pt.slots] at X3 l3 y3 z3 st3 hQ3
  subst l3 y3 z3
  dsimp only [Pt.U, Pt.locs, Pt.cells, Pt.slots] at hC3
  dsimp only [Pt.U, Pt.locs, Pt.cells, Pt.slots] at hS3 hg3
  obtain ⟨X3, hS, hZ, hown⟩ := rebS hS (show _ ≤ s₁.heap.size by rw [e0]; exact hk) X3 hS3 hg3 hZ hown
  replace hk := Nat.le_refl T3.heap.size
  replace Sf_r0 := hC3.safe E_r0.lt Sf_r0
  replace HC := HC.trans hC3
  obtain ⟨rfl, Nq3, Kq3, Eq3, bv3, kq3, vs3, Fq3, Vq3⟩ := hQ3
  have N3 := Fr.app N0 Nq3
  replace Vs := Vs.keep Kq3 (fun q => hne (List.mem_singleton.mp q))
  replace E_r0 := E_r0.keep Kq3
  replace O0 := O0.keep Kq3 (fun x hx => by cases List.mem_singleton.mp hx; exact g_r0)
  replace K0 := K0.trans Kq3 (fun x hx => by cases List.mem_singleton.mp hx; exact (Or.inl (List.mem_of_getElem? (i := 0) rfl)))
  have k4 : ∀ t, Steps p.tables e below (T3.setTop (mkF m 9 #[.val (.ref r0), .val (.ref r1)] [])) t → Steps p.tables e below (s₁.setTop (entryFrame m #[(.ref r0), (.ref r1)] 2)) t := by
    intro t k
    refine k2 _ ?_
    show Steps p.tables e below (s₁.setTop (mkF m 6 #[.val (.ref r0), .val (.ref r1)] [.null, (.int (0 : Int32)), (.int (0 : Int32)), (.ref r1), (.ref r0)])) _
    refine st3.trans ?_
    exact k
  obtain ⟨fs, hr, hrun, hended, hEW⟩ := X3.leaveW hS hk (v := none) (fun _ => rfl)
  have HCf : CHr Z own_EL s.vm s.heap T3.vm T3.heap := by
    rw [hh]
    exact HC.trans (CHv.at X3 hZ (own_EW hw) HC.1)
  refine ⟨_, _, k4 _ ?_, hrun, hended, _, _, rfl, ?_, HCf, hEW.1, hEW.2.1, hEW.2.2.1, hEW.2.2.2.mono (by decide) (by decide)⟩
  · exact X3.returnOut hx Bd.returns (hb hby d3_9) hr
  · show own_SI Z r0 (0 : Int32) h0 n0 _ T3.heap _
    exact ⟨rfl, N3, K0, E_r0, _, _, _, Fq3, Vq3⟩
theorem pn_1 : plainName "java/lang/StringUTF16" = true := by first | (simp [plainName, overriddenIn]; done) | decide +kernel
theorem ef_rmC1_1 (m : MethodId) (x0 : Addr) (x1 : Int32) (x2 : Addr) (x3 : Int32) (x4 : Int32) : entryFrame m #[(.ref x0), (.int x1), (.ref x2), (.int x3), (.int x4)] 7 = mkF m 0 #[.val (.ref x0), .val (.int x1), .val (.ref x2), .val (.int x3), .val (.int x4), .unset, .unset] [] := by first | (simp [entryFrame, mkF, argsToLocals, Value.category]; done) | rfl
theorem d10_0 : decode jdk_52_method_21_code 0 = .ok (.iconst 0, 1) := by decide +kernel
theorem d10_1 : decode jdk_52_method_21_code 1 = .ok (.istore 5, 2) := by decide +kernel
theorem d10_3 : decode jdk_52_method_21_code 3 = .ok (.iload 5, 2) := by decide +kernel
theorem d10_5 : decode jdk_52_method_21_code 5 = .ok (.iload 4, 2) := by decide +kernel
theorem d10_7 : decode jdk_52_method_21_code 7 = .ok (.if_icmp .ge 37, 3) := by decide +kernel
theorem d10_10 : decode jdk_52_method_21_code 10 = .ok (.aload_n 0, 1) := by decide +kernel
theorem d10_11 : decode jdk_52_method_21_code 11 = .ok (.iload_n 1, 1) := by decide +kernel
theorem d10_12 : decode jdk_52_method_21_code 12 = .ok (.caload, 1) := by decide +kernel
theorem d10_13 : decode jdk_52_method_21_code 13 = .ok (.istore 6, 2) := by decide +kernel
theorem d10_15 : decode jdk_52_method_21_code 15 = .ok (.iload 6, 2) := by decide +kernel
theorem d10_17 : decode jdk_52_method_21_code 17 = .ok (.sipush 255, 3) := by decide +kernel
theorem d10_20 : decode jdk_52_method_21_code 20 = .ok (.if_icmp .le 6, 3) := by decide +kernel
theorem d10_26 : decode jdk_52_method_21_code 26 = .ok (.aload_n 2, 1) := by decide +kernel
theorem d10_27 : decode jdk_52_method_21_code 27 = .ok (.iload_n 3, 1) := by decide +kernel
theorem d10_28 : decode jdk_52_method_21_code 28 = .ok (.iload 6, 2) := by decide +kernel
theorem d10_30 : decode jdk_52_method_21_code 30 = .ok (.i2b, 1) := by decide +kernel
theorem d10_31 : decode jdk_52_method_21_code 31 = .ok (.bastore, 1) := by decide +kernel
theorem d10_32 : decode jdk_52_method_21_code 32 = .ok (.iinc 1 1, 3) := by decide +kernel
theorem d10_35 : decode jdk_52_method_21_code 35 = .ok (.iinc 3 1, 3) := by decide +kernel
theorem d10_38 : decode jdk_52_method_21_code 38 = .ok (.iinc 5 1, 3) := by decide +kernel
theorem d10_41 : decode jdk_52_method_21_code 41 = .ok (.goto (-38), 3) := by decide +kernel
theorem d10_44 : decode jdk_52_method_21_code 44 = .ok (.iload 4, 2) := by decide +kernel
theorem d10_46 : decode jdk_52_method_21_code 46 = .ok (.ireturn, 1) := by decide +kernel
set_option maxRecDepth 65536 in
set_option maxHeartbeats 40000000 in
theorem rmC1_1 (l : Launch) (Z : State) (a0 : Array Value) (hw : ∀ d ∈ tables_1, d.before a0 Z = true) (ws : List Jvm.Cond) (r0 : Addr) (r2 : Addr) (ck cb : ClassId) (v0 : Int32) (h0 : Heap) (n0 : Nat) (Z0 : n0 ≤ h0.size) (g_r2 : n0 ≤ r2) (hne : r0 ≠ r2) (Vs : Arv Z h0 r0 ck .char (1 : Int32) [(.int v0)] (.int (0 : Int32))) (Vd : Arv Z h0 r2 cb .byte (1 : Int32) [(.int (0 : Int32))] (.int (0 : Int32))) (hv0 : ¬ (255 : Int32) < v0) :
    MetFree l (⟨"java/lang/StringUTF16", "compress", "([CI[BII)I"⟩ : MethodName) (head1 (Jvm.Cond.code (⟨"java/lang/StringUTF16", "compress", "([CI[BII)I"⟩ : MethodName) jdk_52_method_21_code 7 (some .int) :: ws) ({ frames := 0, cells := 0, slots := 0, locals := 0 } : Room)) (fun a U => a = #[(.ref r0), (.int (0 : Int32)), (.ref r2), (.int (0 : Int32)), (.int (1 : Int32))] ∧ Z.Warmed39 U.vm ∧ U.heap = h0) (fun _ _ _ _ _ => True) (fun _ U o U' => ∃ v L, o = .returned v ∧ own_CP Z r2 cb (1 : Int32) h0 n0 v U'.heap L ∧ FrameEnd U o U' L ({ frames := 0, cells := 0, slots := 0, locals := 0 } : Room).cells ({ frames := 0, cells := 0, slots := 0, locals := 0 } : Room).slots) := by
  refine MetFree.of_bodySF (plainFor_of_name pn_1) hisR ?_
  intro p e s m args below meth c s₁ Bd hml0 hP hK
  obtain ⟨rfl, hZ, hh⟩ := hP
  have hx := Bd.exec
  have hby := Bd.bytes
  have hml : c.maxLocals = 7 := hml0
  have hown : s.vm.findClass "java/lang/StringUTF16" = some m.cls := findClass_of_methodNamed Bd.named
  have hnm := (name_of_methodNamed Bd.named Bd.method).1
  have X0 : Stand p l e ({ frames := 0, cells := 0, slots := 0, locals := 0 } : Room) s m #[(.ref r0), (.int (0 : Int32)), (.ref r2), (.int (0 : Int32)), (.int (1 : Int32))] below meth c s₁ [] 0 0 := Stand.of_body Bd
  have e0 : s₁.heap = h0 := by rw [← hh, Bd.state]; rfl
  have N0 := Fr.nil n0
  have pre0 : ∀ t, Steps p.tables e below (s₁.setTop (mkF m 0 #[.val (.ref r0), .val (.int (0 : Int32)), .val (.ref r2), .val (.int (0 : Int32)), .val (.int (1 : Int32)), .unset, .unset] [])) t → Steps p.tables e below (s₁.setTop (entryFrame m #[(.ref r0), (.int (0 : Int32)), (.ref r2), (.int (0 : Int32)), (.int (1 : Int32))] 7)) t := fun t k => castTop (ef_rmC1_1 m r0 (0 : Int32) r2 (0 : Int32) (1 : Int32)) k
  have K0 : Keep h0 h0 [r2] := Keep.refl _ _
  have k2 : ∀ t, Steps p.tables e below (s₁.setTop (mkF m 31 #[.val (.ref r0), .val (.int (0 : Int32)), .val (.ref r2), .val (.int (0 : Int32)), .val (.int (1 : Int32)), .val (.int (0 : Int32)), .val (.int v0)] [(.int (v0.toInt8.toInt32)), (.int (0 : Int32)), (.ref r2)])) t → Steps p.tables e below (s₁.setTop (entryFrame m #[(.ref r0), (.int (0 : Int32)), (.ref r2), (.int (0 : Int32)), (.int (1 : Int32))] 7)) t := by
    intro t k
    refine pre0 _ ?_
    show Steps p.tables e below (s₁.setTop (mkF m 0 #[.val (.ref r0), .val (.int (0 : Int32)), .val (.ref r2), .val (.int (0 : Int32)), .val (.int (1 : Int32)), .unset, .unset] [])) _
    refine XS.iconst X0.here hx rfl (hb hby d10_0) ?_
    show Steps p.tables e below (s₁.setTop (mkF m 1 #[.val (.ref r0), .val (.int (0 : Int32)), .val (.ref r2), .val (.int (0 : Int32)), .val (.int (1 : Int32)), .unset, .unset] [(.int (0 : Int32))])) _
    refine XS.istore X0.here hx rfl (hb hby d10_1) rfl (l' := #[.val (.ref r0), .val (.int (0 : Int32)), .val (.ref r2), .val (.int (0 : Int32)), .val (.int (1 : Int32)), .val (.int (0 : Int32)), .unset]) rfl ?_
    show Steps p.tables e below (s₁.setTop (mkF m 3 #[.val (.ref r0), .val (.int (0 : Int32)), .val (.ref r2), .val (.int (0 : Int32)), .val (.int (1 : Int32)), .val (.int (0 : Int32)), .unset] [])) _
    refine XS.iload X0.here hx rfl (hb hby d10_3) rfl ?_
    show Steps p.tables e below (s₁.setTop (mkF m 5 #[.val (.ref r0), .val (.int (0 : Int32)), .val (.ref r2), .val (.int (0 : Int32)), .val (.int (1 : Int32)), .val (.int (0 : Int32)), .unset] [(.int (0 : Int32))])) _
    refine XS.iload X0.here hx rfl (hb hby d10_5) rfl ?_
    show Steps p.tables e below (s₁.setTop (mkF m 7 #[.val (.ref r0), .val (.int (0 : Int32)), .val (.ref r2), .val (.int (0 : Int32)), .val (.int (1 : Int32)), .val (.int (0 : Int32)), .unset] [(.int (1 : Int32)), (.int (0 : Int32))])) _
    refine XS.icmpNo X0.here hx rfl (hb hby d10_7) rfl (tlt (by decide)).2.1 ?_
    show Steps p.tables e below (s₁.setTop (mkF m 10 #[.val (.ref r0), .val (.int (0 : Int32)), .val (.ref r2), .val (.int (0 : Int32)), .val (.int (1 : Int32)), .val (.int (0 : Int32)), .unset] [])) _
    refine XS.aloadN X0.here hx rfl (hb hby d10_10) rfl rfl ?_
    show Steps p.tables e below (s₁.setTop (mkF m 11 #[.val (.ref r0), .val (.int (0 : Int32)), .val (.ref r2), .val (.int (0 : Int32)), .val (.int (1 : Int32)), .val (.int (0 : Int32)), .unset] [(.ref r0)])) _
    refine XS.iloadN X0.here hx rfl (hb hby d10_11) rfl ?_
    show Steps p.tables e below (s₁.setTop (mkF m 12 #[.val (.ref r0), .val (.int (0 : Int32)), .val (.ref r2), .val (.int (0 : Int32)), .val (.int (1 : Int32)), .val (.int (0 : Int32)), .unset] [(.int (0 : Int32)), (.ref r0)])) _
    obtain ⟨cl_1, Ar_1, q_1, S_1, N_1, H_1, G_1⟩ := id Vs
    have hin_1 : ¬ ((0 : Int32) < 0 ∨ cl_1.slots.size ≤ ((0 : Int32)).toNatClampNeg) := inb_of S_1 ⟨by decide, by decide⟩
    refine X0.caload hx (j := (0 : Int32)) (v := (.int v0)) (by rw [e0]; exact Ar_1.1) (State.isArrayOf_alike hZ.alike Ar_1.2.1) Ar_1.2.2 hin_1 (Has.at H_1 hin_1 rfl) (g := (mkF m 12 #[.val (.ref r0), .val (.int (0 : Int32)), .val (.ref r2), .val (.int (0 : Int32)), .val (.int (1 : Int32)), .val (.int (0 : Int32)), .unset] [(.int (0 : Int32)), (.ref r0)])) rfl rfl (hb hby d10_12) _ ?_
    show Steps p.tables e below (s₁.setTop (mkF m 13 #[.val (.ref r0), .val (.int (0 : Int32)), .val (.ref r2), .val (.int (0 : Int32)), .val (.int (1 : Int32)), .val (.int (0 : Int32)), .unset] [(.int v0)])) _
    refine XS.istore X0.here hx rfl (hb hby d10_13) rfl (l' := #[.val (.ref r0), .val (.int (0 : Int32)), .val (.ref r2), .val (.int (0 : Int32)), .val (.int (1 : Int32)), .val (.int (0 : Int32)), .val (.int v0)]) rfl ?_
    show Steps p.tables e below (s₁.setTop (mkF m 15 #[.val (.ref r0), .val (.int (0 : Int32)), .val (.ref r2), .val (.int (0 : Int32)), .val (.int (1 : Int32)), .val (.int (0 : Int32)), .val (.int v0)] [])) _
    refine XS.iload X0.here hx rfl (hb hby d10_15) rfl ?_
    show Steps p.tables e below (s₁.setTop (mkF m 17 #[.val (.ref r0), .val (.int (0 : Int32)), .val (.ref r2), .val (.int (0 : Int32)), .val (.int (1 : Int32)), .val (.int (0 : Int32)), .val (.int v0)] [(.int v0)])) _
    refine XS.sipush X0.here hx rfl (hb hby d10_17) ?_
    show Steps p.tables e below (s₁.setTop (mkF m 20 #[.val (.ref r0), .val (.int (0 : Int32)), .val (.ref r2), .val (.int (0 : Int32)), .val (.int (1 : Int32)), .val (.int (0 : Int32)), .val (.int v0)] [(.int (255 : Int32)), (.int v0)])) _
    refine XS.icmpYes X0.here hx rfl (pc0 := 20) (pc' := 26) rfl (hb hby d10_20) rfl (flt hv0).2.2.2 (by decide) (by decide) ?_
    show Steps p.tables e below (s₁.setTop (mkF m 26 #[.val (.ref r0), .val (.int (0 : Int32)), .val (.ref r2), .val (.int (0 : Int32)), .val (.int (1 : Int32)), .val (.int (0 : Int32)), .val (.int v0)] [])) _
    refine XS.aloadN X0.here hx rfl (hb hby d10_26) rfl rfl ?_
    show Steps p.tables e below (s₁.setTop (mkF m 27 #[.val (.ref r0), .val (.int (0 : Int32)), .val (.ref r2), .val (.int (0 : Int32)), .val (.int (1 : Int32)), .val (.int (0 : Int32)), .val (.int v0)] [(.ref r2)])) _
    refine XS.iloadN X0.here hx rfl (hb hby d10_27) rfl ?_
    show Steps p.tables e below (s₁.setTop (mkF m 28 #[.val (.ref r0), .val (.int (0 : Int32)), .val (.ref r2), .val (.int (0 : Int32)), .val (.int (1 : Int32)), .val (.int (0 : Int32)), .val (.int v0)] [(.int (0 : Int32)), (.ref r2)])) _
    refine XS.iload X0.here hx rfl (hb hby d10_28) rfl ?_
    show Steps p.tables e below (s₁.setTop (mkF m 30 #[.val (.ref r0), .val (.int (0 : Int32)), .val (.ref r2), .val (.int (0 : Int32)), .val (.int (1 : Int32)), .val (.int (0 : Int32)), .val (.int v0)] [(.int v0), (.int (0 : Int32)), (.ref r2)])) _
    refine XS.i2b X0.here hx rfl (hb hby d10_30) rfl ?_
    exact k
  obtain ⟨cl_3, Ar_3, q_3, S_3, N_3, H_3, G_3⟩ := id Vd
  have hin_3 : ¬ ((0 : Int32) < 0 ∨ cl_3.slots.size ≤ ((0 : Int32)).toNatClampNeg) := inb_of S_3 ⟨by decide, by decide⟩
  obtain ⟨T3, h3, X3, e3, W3, st3⟩ := stB X0 hx hZ e0 Ar_3 (j := (0 : Int32)) hin_3 (g := (mkF m 31 #[.val (.ref r0), .val (.int (0 : Int32)), .val (.ref r2), .val (.int (0 : Int32)), .val (.int (1 : Int32)), .val (.int (0 : Int32)), .val (.int v0)] [(.int (v0.toInt8.toInt32)), (.int (0 : Int32)), (.ref r2)])) rfl rfl (hb hby d10_31)
  have Vn3 : Arv Z h3 r2 cb .byte (1 : Int32) [(.int ((v0.toInt8.toInt32).toInt8.toInt32))] (.int (0 : Int32)) := Arv.set Ar_3 q_3 S_3 N_3 H_3 G_3 (fits_nar_byte _) W3 0 rfl (Nat.le_of_ble_eq_true rfl)
  replace Vs := Vs.other W3 hne
  replace K0 := K0.wr W3 (Or.inl (List.mem_of_getElem? (i := 0) rfl))
  replace Vd := Vn3
  have N3 := Fr.snoc X3 N0 g_r2
  have Zs3 : n0 ≤ h3.size := by rw [W3.size]; exact Z0
  have k4 : ∀ t, Steps p.tables e below (T3.setTop (mkF m 46 #[.val (.ref r0), .val (.int (1 : Int32)), .val (.ref r2), .val (.int (1 : Int32)), .val (.int (1 : Int32)), .val (.int (1 : Int32)), .val (.int v0)] [(.int (1 : Int32))])) t → Steps p.tables e below (s₁.setTop (entryFrame m #[(.ref r0), (.int (0 : Int32)), (.ref r2), (.int (0 : Int32)), (.int (1 : Int32))] 7)) t := by
    intro t k
    refine k2 _ ?_
    show Steps p.tables e below (s₁.setTop (mkF m 31 #[.val (.ref r0), .val (.int (0 : Int32)), .val (.ref r2), .val (.int (0 : Int32)), .val (.int (1 : Int32)), .val (.int (0 : Int32)), .val (.int v0)] [(.int (v0.toInt8.toInt32)), (.int (0 : Int32)), (.ref r2)])) _
    refine st3 _ ?_
    show Steps p.tables e below (T3.setTop (mkF m 32 #[.val (.ref r0), .val (.int (0 : Int32)), .val (.ref r2), .val (.int (0 : Int32)), .val (.int (1 : Int32)), .val (.int (0 : Int32)), .val (.int v0)] [])) _
    refine XS.iinc X3.here hx rfl (hb hby d10_32) rfl (l' := #[.val (.ref r0), .val (.int (1 : Int32)), .val (.ref r2), .val (.int (0 : Int32)), .val (.int (1 : Int32)), .val (.int (0 : Int32)), .val (.int v0)]) rfl ?_
    show Steps p.tables e below (T3.setTop (mkF m 35 #[.val (.ref r0), .val (.int (1 : Int32)), .val (.ref r2), .val (.int (0 : Int32)), .val (.int (1 : Int32)), .val (.int (0 : Int32)), .val (.int v0)] [])) _
    refine XS.iinc X3.here hx rfl (hb hby d10_35) rfl (l' := #[.val (.ref r0), .val (.int (1 : Int32)), .val (.ref r2), .val (.int (1 : Int32)), .val (.int (1 : Int32)), .val (.int (0 : Int32)), .val (.int v0)]) rfl ?_
    show Steps p.tables e below (T3.setTop (mkF m 38 #[.val (.ref r0), .val (.int (1 : Int32)), .val (.ref r2), .val (.int (1 : Int32)), .val (.int (1 : Int32)), .val (.int (0 : Int32)), .val (.int v0)] [])) _
    refine XS.iinc X3.here hx rfl (hb hby d10_38) rfl (l' := #[.val (.ref r0), .val (.int (1 : Int32)), .val (.ref r2), .val (.int (1 : Int32)), .val (.int (1 : Int32)), .val (.int (1 : Int32)), .val (.int v0)]) rfl ?_
    show Steps p.tables e below (T3.setTop (mkF m 41 #[.val (.ref r0), .val (.int (1 : Int32)), .val (.ref r2), .val (.int (1 : Int32)), .val (.int (1 : Int32)), .val (.int (1 : Int32)), .val (.int v0)] [])) _
    refine XS.goto X3.here hx rfl (pc0 := 41) (pc' := 3) rfl (hb hby d10_41) (by decide) (by decide) ?_
    show Steps p.tables e below (T3.setTop (mkF m 3 #[.val (.ref r0), .val (.int (1 : Int32)), .val (.ref r2), .val (.int (1 : Int32)), .val (.int (1 : Int32)), .val (.int (1 : Int32)), .val (.int v0)] [])) _
    refine XS.iload X3.here hx rfl (hb hby d10_3) rfl ?_
    show Steps p.tables e below (T3.setTop (mkF m 5 #[.val (.ref r0), .val (.int (1 : Int32)), .val (.ref r2), .val (.int (1 : Int32)), .val (.int (1 : Int32)), .val (.int (1 : Int32)), .val (.int v0)] [(.int (1 : Int32))])) _
    refine XS.iload X3.here hx rfl (hb hby d10_5) rfl ?_
    show Steps p.tables e below (T3.setTop (mkF m 7 #[.val (.ref r0), .val (.int (1 : Int32)), .val (.ref r2), .val (.int (1 : Int32)), .val (.int (1 : Int32)), .val (.int (1 : Int32)), .val (.int v0)] [(.int (1 : Int32)), (.int (1 : Int32))])) _
    refine XS.icmpYes X3.here hx rfl (pc0 := 7) (pc' := 44) rfl (hb hby d10_7) rfl (flt (by decide)).2.1 (by decide) (by decide) ?_
    show Steps p.tables e below (T3.setTop (mkF m 44 #[.val (.ref r0), .val (.int (1 : Int32)), .val (.ref r2), .val (.int (1 : Int32)), .val (.int (1 : Int32)), .val (.int (1 : Int32)), .val (.int v0)] [])) _
    refine XS.iload X3.here hx rfl (hb hby d10_44) rfl ?_
    exact k
  obtain ⟨fs, hr, hrun, hended, hW, hsame⟩ := X3.leave (v := some (.int (1 : Int32))) (fun h => by rw [Bd.returns] at h; cases h)
  refine ⟨_, _, k4 _ ?_, hrun, hended, _, _, rfl, ?_, ⟨_, rfl⟩, hW, hsame.mono (by decide) (by decide)⟩
  · exact retOut X3 hx Bd.returns rfl (Or.inl ⟨rfl, Or.inl rfl, _, rfl⟩) (hb hby d10_46) hr
  · show own_CP Z r2 cb (1 : Int32) h0 n0 _ T3.heap _
    rw [e3]
    exact ⟨rfl, N3, K0, _, Vd⟩
theorem ef_rmC2_1 (m : MethodId) (x0 : Addr) (x1 : Int32) (x2 : Int32) : entryFrame m #[(.ref x0), (.int x1), (.int x2)] 6 = mkF m 0 #[.val (.ref x0), .val (.int x1), .val (.int x2), .unset, .unset, .unset] [] := by first | (simp [entryFrame, mkF, argsToLocals, Value.category]; done) | rfl
theorem d9_0 : decode jdk_52_method_16_code 0 = .ok (.iload_n 2, 1) := by decide +kernel
theorem d9_1 : decode jdk_52_method_16_code 1 = .ok (.newarray .byte, 2) := by decide +kernel
theorem d9_3 : decode jdk_52_method_16_code 3 = .ok (.astore_n 3, 1) := by decide +kernel
theorem d9_4 : decode jdk_52_method_16_code 4 = .ok (.aload_n 0, 1) := by decide +kernel
theorem d9_5 : decode jdk_52_method_16_code 5 = .ok (.iload_n 1, 1) := by decide +kernel
theorem d9_6 : decode jdk_52_method_16_code 6 = .ok (.aload_n 3, 1) := by decide +kernel
theorem d9_7 : decode jdk_52_method_16_code 7 = .ok (.iconst 0, 1) := by decide +kernel
theorem d9_8 : decode jdk_52_method_16_code 8 = .ok (.iload_n 2, 1) := by decide +kernel
theorem pd_1 : parseMethodDescriptor "([CI[BII)I" = some ⟨[(.array .char), .int, (.array .byte), .int, .int], some .int⟩ := by decide +kernel
theorem d9_9 : decode jdk_52_method_16_code 9 = .ok (.invokestatic 115, 3) := by decide +kernel
theorem d9_12 : decode jdk_52_method_16_code 12 = .ok (.istore 4, 2) := by decide +kernel
theorem d9_14 : decode jdk_52_method_16_code 14 = .ok (.iload 4, 2) := by decide +kernel
theorem d9_16 : decode jdk_52_method_16_code 16 = .ok (.iload_n 2, 1) := by decide +kernel
theorem d9_17 : decode jdk_52_method_16_code 17 = .ok (.if_icmp .eq 40, 3) := by decide +kernel
theorem d9_57 : decode jdk_52_method_16_code 57 = .ok (.aload_n 3, 1) := by decide +kernel
theorem d9_58 : decode jdk_52_method_16_code 58 = .ok (.areturn, 1) := by decide +kernel
set_option maxRecDepth 65536 in
set_option maxHeartbeats 40000000 in
theorem rmC2_1 (l : Launch) (Z : State) (a0 : Array Value) (hw : ∀ d ∈ tables_1, d.before a0 Z = true) (ws : List Jvm.Cond) (r0 : Addr) (ck : ClassId) (v0 : Int32) (h0 : Heap) (n0 : Nat) (Z0 : n0 ≤ h0.size) (Vs : Arv Z h0 r0 ck .char (1 : Int32) [(.int v0)] (.int (0 : Int32))) (hv0 : ¬ (255 : Int32) < v0) :
    MetFree l (⟨"java/lang/StringUTF16", "compress", "([CII)[B"⟩ : MethodName) (head1 (Jvm.Cond.code (⟨"java/lang/StringUTF16", "compress", "([CII)[B"⟩ : MethodName) jdk_52_method_16_code 6 (some (.array .byte)) :: ws) ({ frames := 1, cells := 1, slots := 1, locals := 18 } : Room)) (fun a U => a = #[(.ref r0), (.int (0 : Int32)), (.int (1 : Int32))] ∧ Z.Warmed39 U.vm ∧ U.heap = h0) (fun _ _ _ _ _ => True) (fun _ U o U' => ∃ v L, o = .returned v ∧ own_CQ Z (1 : Int32) h0 n0 v U'.heap L ∧ FrameEnd U o U' L ({ frames := 1, cells := 1, slots := 1, locals := 18 } : Room).cells ({ frames := 1, cells := 1, slots := 1, locals := 18 } : Room).slots) := by
  refine MetFree.of_bodySF (plainFor_of_name pn_1) hisR ?_
  intro p e s m args below meth c s₁ Bd hml0 hP hK
  obtain ⟨rfl, hZ, hh⟩ := hP
  have hx := Bd.exec
  have hby := Bd.bytes
  have hml : c.maxLocals = 6 := hml0
  have hown : s.vm.findClass "java/lang/StringUTF16" = some m.cls := findClass_of_methodNamed Bd.named
  have hnm := (name_of_methodNamed Bd.named Bd.method).1
  have X0 : Stand p l e ({ frames := 1, cells := 1, slots := 1, locals := 18 } : Room) s m #[(.ref r0), (.int (0 : Int32)), (.int (1 : Int32))] below meth c s₁ [] 0 0 := Stand.of_body Bd
  have e0 : s₁.heap = h0 := by rw [← hh, Bd.state]; rfl
  have N0 := Fr.nil n0
  have pre0 : ∀ t, Steps p.tables e below (s₁.setTop (mkF m 0 #[.val (.ref r0), .val (.int (0 : Int32)), .val (.int (1 : Int32)), .unset, .unset, .unset] [])) t → Steps p.tables e below (s₁.setTop (entryFrame m #[(.ref r0), (.int (0 : Int32)), (.int (1 : Int32))] 6)) t := fun t k => castTop (ef_rmC2_1 m r0 (0 : Int32) (1 : Int32)) k
  have K0 : Keep h0 h0 [] := Keep.refl _ _
  obtain ⟨T1, h1, c1, X1, e1, E1, A1, st1⟩ := newP X0 hx hZ (hw _ (List.mem_of_getElem? (i := 26) rfl)) e0 (g := (mkF m 1 #[.val (.ref r0), .val (.int (0 : Int32)), .val (.int (1 : Int32)), .unset, .unset, .unset] [(.int (1 : Int32))])) rfl (hb hby d9_1) rfl (by decide) (cap := 1) (by decide) (by decide) (by decide) (by decide)
  obtain ⟨b1, g1⟩ : ∃ z, z = h0.size := ⟨_, rfl⟩
  rw [← g1] at A1 st1
  have ne_r0_b1 : r0 ≠ b1 := Nat.ne_of_lt (Nat.lt_of_lt_of_le Vs.lt (Nat.le_of_eq g1.symm))
  have gn_b1 : n0 ≤ b1 := Nat.le_trans Z0 (Nat.le_of_eq g1.symm)
  have sz_b1_K0 : h0.size ≤ b1 := Nat.le_trans K0.1 (Nat.le_of_eq g1.symm)
  replace Vs := Vs.ext E1
  replace K0 := K0.ext E1
  have Zs1 : n0 ≤ h1.size := Nat.le_trans Z0 E1.1
  have V_b1 : Arv Z h1 b1 c1 .byte (1 : Int32) [(.int (0 : Int32))] (.int (0 : Int32)) := (Arv.new A1 (by decide)).pad (pad_rep [] (.int (0 : Int32)) 1)
  obtain ⟨_, _, ⟨T2, L2, k2_, n2⟩, -, X2, ⟨Lc2, hQ2, l2, y2, z2⟩, st2⟩ := Jvm.LawKit.callS X1 hx (y := (⟨"java/lang/StringUTF16", "compress", "([CI[BII)I"⟩ : MethodName)) hown (mvT hZ (hw _ (List.mem_of_getElem? (i := 62) rfl))) (mvT hZ (hw _ (List.mem_of_getElem? (i := 63) rfl))) (mvT hZ (hw _ (List.mem_of_getElem? (i := 60) rfl))) (mvT hZ (hw _ (List.mem_of_getElem? (i := 64) rfl))) (by decide) (backOf (W := 0) (rmC1_1 l Z a0 hw [] r0 b1 ck c1 v0 h1 n0 Zs1 gn_b1 ne_r0_b1 Vs V_b1 hv0) hZ (hw _ (List.mem_of_getElem? (i := 64) rfl)) (hw _ (List.mem_of_getElem? (i := 60) rfl)) (by decide) (by decide)) (g := (mkF m 9 #[.val (.ref r0), .val (.int (0 : Int32)), .val (.int (1 : Int32)), .val (.ref b1), .unset, .unset] [(.int (1 : Int32)), (.int (0 : Int32)), (.ref b1), (.int (0 : Int32)), (.ref r0)])) rfl (by rw [hml]; rfl) (argsL := [(.ref r0), (.int (0 : Int32)), (.ref b1), (.int (0 : Int32)), (.int (1 : Int32))]) (rest := []) (lenOf pd_1 rfl) rfl (by show 2 * 0 + _ ≤ _; exact Nat.le_of_eq rfl) (hb hby d9_9) (fun _ _ => ⟨rfl, e1, (by decide : 1 + 0 ≤ _), (by decide : 1 + 0 ≤ _)⟩)
  dsimp only [Pt.U, Pt.locs, Pt.cells, Pt.slots] at X2 l2 y2 z2 st2 hQ2
  subst l2 y2 z2
  obtain ⟨rfl, Nq2, Kq2, vs2, Vq2⟩ := hQ2
  have N2 := Fr.app N0 Nq2
  have Zs2 : n0 ≤ T2.heap.size := Nat.le_trans Zs1 Kq2.1
  replace Vs := Vs.keep Kq2 (fun q => ne_r0_b1 (List.mem_singleton.mp q))
  replace K0 := K0.trans Kq2 (fun x hx => by cases List.mem_singleton.mp hx; exact (Or.inr sz_b1_K0))
  have k3 : ∀ t, Steps p.tables e below (T2.setTop (mkF m 58 #[.val (.ref r0), .val (.int (0 : Int32)), .val (.int (1 : Int32)), .val (.ref b1), .val (.int (1 : Int32)), .unset] [(.ref b1)])) t → Steps p.tables e below (s₁.setTop (entryFrame m #[(.ref r0), (.int (0 : Int32)), (.int (1 : Int32))] 6)) t := by
    intro t k
    refine pre0 _ ?_
    show Steps p.tables e below (s₁.setTop (mkF m 0 #[.val (.ref r0), .val (.int (0 : Int32)), .val (.int (1 : Int32)), .unset, .unset, .unset] [])) _
    refine XS.iloadN X0.here hx rfl (hb hby d9_0) rfl ?_
    show Steps p.tables e below (s₁.setTop (mkF m 1 #[.val (.ref r0), .val (.int (0 : Int32)), .val (.int (1 : Int32)), .unset, .unset, .unset] [(.int (1 : Int32))])) _
    refine st1 _ ?_
    show Steps p.tables e below (T1.setTop (mkF m 3 #[.val (.ref r0), .val (.int (0 : Int32)), .val (.int (1 : Int32)), .unset, .unset, .unset] [(.ref b1)])) _
    refine XS.astoreN X1.here hx rfl (hb hby d9_3) rfl rfl (l' := #[.val (.ref r0), .val (.int (0 : Int32)), .val (.int (1 : Int32)), .val (.ref b1), .unset, .unset]) rfl ?_
    show Steps p.tables e below (T1.setTop (mkF m 4 #[.val (.ref r0), .val (.int (0 : Int32)), .val (.int (1 : Int32)), .val (.ref b1), .unset, .unset] [])) _
    refine XS.aloadN X1.here hx rfl (hb hby d9_4) rfl rfl ?_
    show Steps p.tables e below (T1.setTop (mkF m 5 #[.val (.ref r0), .val (.int (0 : Int32)), .val (.int (1 : Int32)), .val (.ref b1), .unset, .unset] [(.ref r0)])) _
    refine XS.iloadN X1.here hx rfl (hb hby d9_5) rfl ?_
    show Steps p.tables e below (T1.setTop (mkF m 6 #[.val (.ref r0), .val (.int (0 : Int32)), .val (.int (1 : Int32)), .val (.ref b1), .unset, .unset] [(.int (0 : Int32)), (.ref r0)])) _
    refine XS.aloadN X1.here hx rfl (hb hby d9_6) rfl rfl ?_
    show Steps p.tables e below (T1.setTop (mkF m 7 #[.val (.ref r0), .val (.int (0 : Int32)), .val (.int (1 : Int32)), .val (.ref b1), .unset, .unset] [(.ref b1), (.int (0 : Int32)), (.ref r0)])) _
    refine XS.iconst X1.here hx rfl (hb hby d9_7) ?_
    show Steps p.tables e below (T1.setTop (mkF m 8 #[.val (.ref r0), .val (.int (0 : Int32)), .val (.int (1 : Int32)), .val (.ref b1), .unset, .unset] [(.int (0 : Int32)), (.ref b1), (.int (0 : Int32)), (.ref r0)])) _
    refine XS.iloadN X1.here hx rfl (hb hby d9_8) rfl ?_
    show Steps p.tables e below (T1.setTop (mkF m 9 #[.val (.ref r0), .val (.int (0 : Int32)), .val (.int (1 : Int32)), .val (.ref b1), .unset, .unset] [(.int (1 : Int32)), (.int (0 : Int32)), (.ref b1), (.int (0 : Int32)), (.ref r0)])) _
    refine st2 _ ?_
    show Steps p.tables e below (T2.setTop (mkF m 12 #[.val (.ref r0), .val (.int (0 : Int32)), .val (.int (1 : Int32)), .val (.ref b1), .unset, .unset] [(.int (1 : Int32))])) _
    refine XS.istore X2.here hx rfl (hb hby d9_12) rfl (l' := #[.val (.ref r0), .val (.int (0 : Int32)), .val (.int (1 : Int32)), .val (.ref b1), .val (.int (1 : Int32)), .unset]) rfl ?_
    show Steps p.tables e below (T2.setTop (mkF m 14 #[.val (.ref r0), .val (.int (0 : Int32)), .val (.int (1 : Int32)), .val (.ref b1), .val (.int (1 : Int32)), .unset] [])) _
    refine XS.iload X2.here hx rfl (hb hby d9_14) rfl ?_
    show Steps p.tables e below (T2.setTop (mkF m 16 #[.val (.ref r0), .val (.int (0 : Int32)), .val (.int (1 : Int32)), .val (.ref b1), .val (.int (1 : Int32)), .unset] [(.int (1 : Int32))])) _
    refine XS.iloadN X2.here hx rfl (hb hby d9_16) rfl ?_
    show Steps p.tables e below (T2.setTop (mkF m 17 #[.val (.ref r0), .val (.int (0 : Int32)), .val (.int (1 : Int32)), .val (.ref b1), .val (.int (1 : Int32)), .unset] [(.int (1 : Int32)), (.int (1 : Int32))])) _
    refine XS.icmpYes X2.here hx rfl (pc0 := 17) (pc' := 57) rfl (hb hby d9_17) rfl (teq (by decide)).1 (by decide) (by decide) ?_
    show Steps p.tables e below (T2.setTop (mkF m 57 #[.val (.ref r0), .val (.int (0 : Int32)), .val (.int (1 : Int32)), .val (.ref b1), .val (.int (1 : Int32)), .unset] [])) _
    refine XS.aloadN X2.here hx rfl (hb hby d9_57) rfl rfl ?_
    exact k
  obtain ⟨fs, hr, hrun, hended, hW, hsame⟩ := X2.leave (v := some (.ref b1)) (fun h => by rw [Bd.returns] at h; cases h)
  refine ⟨_, _, k3 _ ?_, hrun, hended, _, _, rfl, ?_, ⟨_, rfl⟩, hW, hsame.mono (by decide) (by decide)⟩
  · exact retOut X2 hx Bd.returns rfl (Or.inr (Or.inr (Or.inr (Or.inr ⟨rfl, rfl, rfl⟩)))) (hb hby d9_58) hr
  · show own_CQ Z (1 : Int32) h0 n0 _ T2.heap _
    exact ⟨_, rfl, N2, K0, sz_b1_K0, gn_b1, _, _, Vq2⟩
theorem ef_rmCF_1 (m : MethodId) (x0 : Addr) (x1 : Int32) : entryFrame m #[(.ref x0), (.int x1)] 2 = mkF m 0 #[.val (.ref x0), .val (.int x1)] [] := by first | (simp [entryFrame, mkF, argsToLocals, Value.category]; done) | rfl
theorem d11_0 : decode jdk_52_method_15_code 0 = .ok (.iload_n 1, 1) := by decide +kernel
theorem d11_1 : decode jdk_52_method_15_code 1 = .ok (.aload_n 0, 1) := by decide +kernel
theorem d11_2 : decode jdk_52_method_15_code 2 = .ok (.arraylength, 1) := by decide +kernel
theorem d11_3 : decode jdk_52_method_15_code 3 = .ok (.isub, 1) := by decide +kernel
theorem d11_4 : decode jdk_52_method_15_code 4 = .ok (.bipush 31, 2) := by decide +kernel
theorem d11_6 : decode jdk_52_method_15_code 6 = .ok (.iushr, 1) := by decide +kernel
theorem d11_7 : decode jdk_52_method_15_code 7 = .ok (.i2b, 1) := by decide +kernel
theorem d11_8 : decode jdk_52_method_15_code 8 = .ok (.ireturn, 1) := by decide +kernel
def own_cf1  : Int32 := (0 : Int32)
set_option maxRecDepth 65536 in
set_option maxHeartbeats 40000000 in
theorem rmCF_1 (l : Launch) (Z : State) (a0 : Array Value) (hw : ∀ d ∈ tables_1, d.before a0 Z = true) (ws : List Jvm.Cond) (r0 : Addr) (cb : ClassId) (vs0 : List Value) (h0 : Heap) (n0 : Nat) (Va : Arv Z h0 r0 cb .byte (1 : Int32) vs0 (.int (0 : Int32))) :
    MetFree l (⟨"java/lang/StringUTF16", "coderFromArrayLen", "([BI)B"⟩ : MethodName) (head1 (Jvm.Cond.code (⟨"java/lang/StringUTF16", "coderFromArrayLen", "([BI)B"⟩ : MethodName) jdk_52_method_15_code 2 (some .byte) :: ws) ({ frames := 0, cells := 0, slots := 0, locals := 0 } : Room)) (fun a U => a = #[(.ref r0), (.int (1 : Int32))] ∧ Z.Warmed39 U.vm ∧ U.heap = h0) (fun _ _ _ _ _ => True) (fun _ U o U' => ∃ v L, o = .returned v ∧ own_Q (some (.int (own_cf1 ))) h0 n0 v U'.heap L ∧ FrameEnd U o U' L ({ frames := 0, cells := 0, slots := 0, locals := 0 } : Room).cells ({ frames := 0, cells := 0, slots := 0, locals := 0 } : Room).slots) := by
  refine MetFree.of_bodySF (plainFor_of_name pn_1) hisR ?_
  intro p e s m args below meth c s₁ Bd hml0 hP hK
  obtain ⟨rfl, hZ, hh⟩ := hP
  have hx := Bd.exec
  have hby := Bd.bytes
  have hml : c.maxLocals = 2 := hml0
  have hown : s.vm.findClass "java/lang/StringUTF16" = some m.cls := findClass_of_methodNamed Bd.named
  have hnm := (name_of_methodNamed Bd.named Bd.method).1
  have X0 : Stand p l e ({ frames := 0, cells := 0, slots := 0, locals := 0 } : Room) s m #[(.ref r0), (.int (1 : Int32))] below meth c s₁ [] 0 0 := Stand.of_body Bd
  have e0 : s₁.heap = h0 := by rw [← hh, Bd.state]; rfl
  have N0 := Fr.nil n0
  have pre0 : ∀ t, Steps p.tables e below (s₁.setTop (mkF m 0 #[.val (.ref r0), .val (.int (1 : Int32))] [])) t → Steps p.tables e below (s₁.setTop (entryFrame m #[(.ref r0), (.int (1 : Int32))] 2)) t := fun t k => castTop (ef_rmCF_1 m r0 (1 : Int32)) k
  have k2 : ∀ t, Steps p.tables e below (s₁.setTop (mkF m 8 #[.val (.ref r0), .val (.int (1 : Int32))] [(.int (0 : Int32))])) t → Steps p.tables e below (s₁.setTop (entryFrame m #[(.ref r0), (.int (1 : Int32))] 2)) t := by
    intro t k
    refine pre0 _ ?_
    show Steps p.tables e below (s₁.setTop (mkF m 0 #[.val (.ref r0), .val (.int (1 : Int32))] [])) _
    refine XS.iloadN X0.here hx rfl (hb hby d11_0) rfl ?_
    show Steps p.tables e below (s₁.setTop (mkF m 1 #[.val (.ref r0), .val (.int (1 : Int32))] [(.int (1 : Int32))])) _
    refine XS.aloadN X0.here hx rfl (hb hby d11_1) rfl rfl ?_
    show Steps p.tables e below (s₁.setTop (mkF m 2 #[.val (.ref r0), .val (.int (1 : Int32))] [(.ref r0), (.int (1 : Int32))])) _
    obtain ⟨cl_1, Ar_1, -, S_1, N_1, -, -⟩ := id Va
    refine X0.arraylength hx (by rw [e0]; exact Ar_1.1) (State.isArrayOf_alike hZ.alike Ar_1.2.1) (g := (mkF m 2 #[.val (.ref r0), .val (.int (1 : Int32))] [(.ref r0), (.int (1 : Int32))])) rfl rfl (hb hby d11_2) _ ?_
    rw [len_of S_1 N_1]
    show Steps p.tables e below (s₁.setTop (mkF m 3 #[.val (.ref r0), .val (.int (1 : Int32))] [(.int (1 : Int32)), (.int (1 : Int32))])) _
    refine XS.isub X0.here hx rfl (hb hby d11_3) rfl ?_
    show Steps p.tables e below (s₁.setTop (mkF m 4 #[.val (.ref r0), .val (.int (1 : Int32))] [(.int (0 : Int32))])) _
    refine XS.bipush X0.here hx rfl (hb hby d11_4) ?_
    show Steps p.tables e below (s₁.setTop (mkF m 6 #[.val (.ref r0), .val (.int (1 : Int32))] [(.int (31 : Int32)), (.int (0 : Int32))])) _
    refine XS.iushr X0.here hx rfl (hb hby d11_6) rfl ?_
    show Steps p.tables e below (s₁.setTop (mkF m 7 #[.val (.ref r0), .val (.int (1 : Int32))] [(.int (0 : Int32))])) _
    refine XS.i2b X0.here hx rfl (hb hby d11_7) rfl ?_
    exact k
  obtain ⟨fs, hr, hrun, hended, hW, hsame⟩ := X0.leave (v := some (.int (0 : Int32))) (fun h => by rw [Bd.returns] at h; cases h)
  refine ⟨_, _, k2 _ ?_, hrun, hended, _, _, rfl, ?_, ⟨_, rfl⟩, hW, hsame.mono (by decide) (by decide)⟩
  · exact retN X0 hx (t := .byte) Bd.returns (by simp) (hb hby d11_8) hr
  · show own_Q (some (.int (own_cf1 ))) h0 n0 _ s₁.heap _
    rw [e0]
    exact ⟨rfl, N0, rfl⟩
theorem ef_rmS2_1 (m : MethodId) (x0 : Addr) (x1 : Addr) (x2 : Int32) (x3 : Int32) : entryFrame m #[(.ref x0), (.ref x1), (.int x2), (.int x3), .null] 6 = mkF m 0 #[.val (.ref x0), .val (.ref x1), .val (.int x2), .val (.int x3), .val .null, .unset] [] := by first | (simp [entryFrame, mkF, argsToLocals, Value.category]; done) | rfl
theorem d4_27 : decode jdk_42_method_149_code 27 = .ok (.getstatic 38, 3) := by decide +kernel
theorem d4_30 : decode jdk_42_method_149_code 30 = .ok (.ifCond .eq 28, 3) := by decide +kernel
theorem d4_33 : decode jdk_42_method_149_code 33 = .ok (.aload_n 1, 1) := by decide +kernel
theorem d4_34 : decode jdk_42_method_149_code 34 = .ok (.iload_n 2, 1) := by decide +kernel
theorem d4_35 : decode jdk_42_method_149_code 35 = .ok (.iload_n 3, 1) := by decide +kernel
theorem pd_2 : parseMethodDescriptor "([CII)[B" = some ⟨[(.array .char), .int, .int], some (.array .byte)⟩ := by decide +kernel
theorem d4_36 : decode jdk_42_method_149_code 36 = .ok (.invokestatic 177, 3) := by decide +kernel
theorem d4_39 : decode jdk_42_method_149_code 39 = .ok (.astore 5, 2) := by decide +kernel
theorem d4_41 : decode jdk_42_method_149_code 41 = .ok (.aload_n 0, 1) := by decide +kernel
theorem d4_42 : decode jdk_42_method_149_code 42 = .ok (.aload 5, 2) := by decide +kernel
theorem d4_44 : decode jdk_42_method_149_code 44 = .ok (.iload_n 3, 1) := by decide +kernel
theorem pd_3 : parseMethodDescriptor "([BI)B" = some ⟨[(.array .byte), .int], some .byte⟩ := by decide +kernel
theorem d4_45 : decode jdk_42_method_149_code 45 = .ok (.invokestatic 47, 3) := by decide +kernel
theorem d4_48 : decode jdk_42_method_149_code 48 = .ok (.putfield 15, 3) := by decide +kernel
theorem d4_51 : decode jdk_42_method_149_code 51 = .ok (.aload_n 0, 1) := by decide +kernel
theorem d4_52 : decode jdk_42_method_149_code 52 = .ok (.aload 5, 2) := by decide +kernel
theorem d4_54 : decode jdk_42_method_149_code 54 = .ok (.putfield 9, 3) := by decide +kernel
theorem d4_57 : decode jdk_42_method_149_code 57 = .ok (.return_, 1) := by decide +kernel
set_option maxRecDepth 65536 in
set_option maxHeartbeats 40000000 in
theorem rmS2_1 (l : Launch) (Z : State) (a0 : Array Value) (hw : ∀ d ∈ tables_1, d.before a0 Z = true) (ws : List Jvm.Cond) (r0 : Addr) (r1 : Addr) (ck : ClassId) (v0 : Int32) (w_CS : Int32) (h0 : Heap) (n0 : Nat) (hG : own_GC Z w_CS) (O0 : Old Z n0 h0) (Z0 : n0 ≤ h0.size) (g_r0 : n0 ≤ r0) (E_r0 : Exa Z h0 r0 "java/lang/String") (F_value_r0 : Fld Z h0 r0 "java/lang/String" "value" "[B" .null) (F_coder_r0 : Fld Z h0 r0 "java/lang/String" "coder" "B" (.int (0 : Int32))) (hne : r1 ≠ r0) (Vs : Arv Z h0 r1 ck .char (1 : Int32) [(.int v0)] (.int (0 : Int32))) (hv0 : ¬ (255 : Int32) < v0) :
    MetFree l (⟨"java/lang/String", "<init>", "([CIILjava/lang/Void;)V"⟩ : MethodName) (head1 (Jvm.Cond.code (⟨"java/lang/String", "<init>", "([CIILjava/lang/Void;)V"⟩ : MethodName) jdk_42_method_149_code 6 none :: ws) ({ frames := 2, cells := 1, slots := 1, locals := 35 } : Room)) (fun a U => a = #[(.ref r0), (.ref r1), (.int (0 : Int32)), (.int (1 : Int32)), .null] ∧ Z.Warmed39 U.vm ∧ U.heap = h0) (fun _ _ _ _ _ => True) (fun _ U o U' => ∃ v L, o = .returned v ∧ own_SI Z r0 (1 : Int32) h0 n0 v U'.heap L ∧ FrameEnd U o U' L ({ frames := 2, cells := 1, slots := 1, locals := 35 } : Room).cells ({ frames := 2, cells := 1, slots := 1, locals := 35 } : Room).slots) := by
  refine MetFree.of_bodySF (plainFor_of_name pn_0) hisR ?_
  intro p e s m args below meth c s₁ Bd hml0 hP hK
  obtain ⟨rfl, hZ, hh⟩ := hP
  have hx := Bd.exec
  have hby := Bd.bytes
  have hml : c.maxLocals = 6 := hml0
  have hown : s.vm.findClass "java/lang/String" = some m.cls := findClass_of_methodNamed Bd.named
  have hnm := (name_of_methodNamed Bd.named Bd.method).1
  have X0 : Stand p l e ({ frames := 2, cells := 1, slots := 1, locals := 35 } : Room) s m #[(.ref r0), (.ref r1), (.int (0 : Int32)), (.int (1 : Int32)), .null] below meth c s₁ [] 0 0 := Stand.of_body Bd
  have e0 : s₁.heap = h0 := by rw [← hh, Bd.state]; rfl
  have N0 := Fr.nil n0
  have pre0 : ∀ t, Steps p.tables e below (s₁.setTop (mkF m 0 #[.val (.ref r0), .val (.ref r1), .val (.int (0 : Int32)), .val (.int (1 : Int32)), .val .null, .unset] [])) t → Steps p.tables e below (s₁.setTop (entryFrame m #[(.ref r0), (.ref r1), (.int (0 : Int32)), (.int (1 : Int32)), .null] 6)) t := fun t k => castTop (ef_rmS2_1 m r0 r1 (0 : Int32) (1 : Int32)) k
  have hG' := hG
  obtain ⟨S_CS, hCS⟩ := hG'
  have K0 : Keep h0 h0 [r0] := Keep.refl _ _
  obtain ⟨T1, X1, e1, st1⟩ := initO X0 hx hZ hown (hw _ (List.mem_of_getElem? (i := 22) rfl)) (hw _ (List.mem_of_getElem? (i := 23) rfl)) (hw _ (List.mem_of_getElem? (i := 24) rfl)) e0 (g := (mkF m 1 #[.val (.ref r0), .val (.ref r1), .val (.int (0 : Int32)), .val (.int (1 : Int32)), .val .null, .unset] [(.ref r0)])) rfl (by rw [hml]; rfl) rfl (hb hby d4_1) (by decide) (W := 0) (by show 2 * 0 + _ ≤ _; exact Nat.le_of_eq rfl) (by decide)
  obtain ⟨T2, X2, e2, st2⟩ := getS2 X1 hx hZ hown (host := "") (Or.inl (hw _ (List.mem_of_getElem? (i := 57) rfl))) Via.refl e1 (S_CS.ext O0.2) (g := (mkF m 27 #[.val (.ref r0), .val (.ref r1), .val (.int (0 : Int32)), .val (.int (1 : Int32)), .val .null, .unset] [])) rfl (hb hby d4_27)
  obtain ⟨_, _, ⟨T3, L3, k3_, n3⟩, -, X3, ⟨Lc3, hQ3, l3, y3, z3⟩, st3⟩ := Jvm.LawKit.callS X2 hx (y := (⟨"java/lang/StringUTF16", "compress", "([CII)[B"⟩ : MethodName)) hown (mvT hZ (hw _ (List.mem_of_getElem? (i := 58) rfl))) (mvT hZ (hw _ (List.mem_of_getElem? (i := 59) rfl))) (mvT hZ (hw _ (List.mem_of_getElem? (i := 60) rfl))) (mvT hZ (hw _ (List.mem_of_getElem? (i := 61) rfl))) (by decide) (backOf (W := 0) (rmC2_1 l Z a0 hw [] r1 ck v0 h0 n0 (O0.1 ▸ O0.2.1) Vs hv0) hZ (hw _ (List.mem_of_getElem? (i := 61) rfl)) (hw _ (List.mem_of_getElem? (i := 60) rfl)) (by decide) (by decide)) (g := (mkF m 36 #[.val (.ref r0), .val (.ref r1), .val (.int (0 : Int32)), .val (.int (1 : Int32)), .val .null, .unset] [(.int (1 : Int32)), (.int (0 : Int32)), (.ref r1)])) rfl (by rw [hml]; rfl) (argsL := [(.ref r1), (.int (0 : Int32)), (.int (1 : Int32))]) (rest := []) (lenOf pd_2 rfl) rfl (by show 2 * 0 + _ ≤ _; exact Nat.le_of_eq rfl) (hb hby d4_36) (fun _ _ => ⟨rfl, e2, (by decide : 0 + 1 ≤ _), (by decide : 0 + 1 ≤ _)⟩)
  dsimp only [Pt.U, Pt.locs, Pt.cells, Pt.slots] at X3 l3 y3 z3 st3 hQ3
  subst l3 y3 z3
  obtain ⟨b3, rfl, Nq3, Kq3, szq3, gn_b3, kq3, vs3, Vq3⟩ := hQ3
  have N3 := Fr.app N0 Nq3
  have ne_r1_b3 : r1 ≠ b3 := Nat.ne_of_lt (Nat.lt_of_lt_of_le Vs.lt szq3)
  have ne_r0_b3 : r0 ≠ b3 := Nat.ne_of_lt (Nat.lt_of_lt_of_le E_r0.lt szq3)
  replace Vs := Vs.keep Kq3 List.not_mem_nil
  replace E_r0 := E_r0.keep Kq3
  replace F_value_r0 := F_value_r0.keep Kq3 List.not_mem_nil
  replace F_coder_r0 := F_coder_r0.keep Kq3 List.not_mem_nil
  replace O0 := O0.keep Kq3 (fun x hx => nomatch hx)
  replace K0 := K0.trans Kq3 (fun x hx => nomatch hx)
  obtain ⟨_, _, ⟨T4, L4, k4_, n4⟩, -, X4, ⟨Lc4, hQ4, l4, y4, z4⟩, st4⟩ := Jvm.LawKit.callS X3 hx (y := (⟨"java/lang/StringUTF16", "coderFromArrayLen", "([BI)B"⟩ : MethodName)) hown (mvT hZ (hw _ (List.mem_of_getElem? (i := 65) rfl))) (mvT hZ (hw _ (List.mem_of_getElem? (i := 66) rfl))) (mvT hZ (hw _ (List.mem_of_getElem? (i := 60) rfl))) (mvT hZ (hw _ (List.mem_of_getElem? (i := 67) rfl))) (by decide) (backOf (W := 1) (rmCF_1 l Z a0 hw [] b3 kq3 vs3 T3.heap n0 Vq3) hZ (hw _ (List.mem_of_getElem? (i := 67) rfl)) (hw _ (List.mem_of_getElem? (i := 60) rfl)) (by decide) (by decide)) (g := (mkF m 45 #[.val (.ref r0), .val (.ref r1), .val (.int (0 : Int32)), .val (.int (1 : Int32)), .val .null, .val (.ref b3)] [(.int (1 : Int32)), (.ref b3), (.ref r0)])) rfl (by rw [hml]; rfl) (argsL := [(.ref b3), (.int (1 : Int32))]) (rest := [(.ref r0)]) (lenOf pd_3 rfl) rfl (by show 2 * 0 + _ ≤ _; exact Nat.le_of_eq rfl) (hb hby d4_45) (fun _ _ => ⟨rfl, rfl, (by decide : 1 + 0 ≤ _), (by decide : 1 + 0 ≤ _)⟩)
  dsimp only [Pt.U, Pt.locs, Pt.cells, Pt.slots] at X4 l4 y4 z4 st4 hQ4
  subst l4 y4 z4
  obtain ⟨rfl, Nq4, e4⟩ := hQ4
  have N4 := Fr.app N3 Nq4
  obtain ⟨T5, h5, X5, e5, W5, st5⟩ := putFN X4 hx hZ hown (hw _ (List.mem_of_getElem? (i := 32) rfl)) Via.refl e4 F_coder_r0 E_r0 (Or.inr ⟨(hw _ (List.mem_of_getElem? (i := 28) rfl)), rfl, hnm⟩) (hw _ (List.mem_of_getElem? (i := 12) rfl)) (ty := .byte) (v' := (.int ((0 : Int32).toInt8.toInt32))) (by decide) rfl (fits_nar_byte _) (g := (mkF m 48 #[.val (.ref r0), .val (.ref r1), .val (.int (0 : Int32)), .val (.int (1 : Int32)), .val .null, .val (.ref b3)] [(.int (0 : Int32)), (.ref r0)])) rfl rfl (hb hby d4_48)
  replace Vs := Vs.other W5 hne
  replace E_r0 := E_r0.wr W5
  replace F_value_r0 := F_value_r0.other W5 (Or.inr (slot_ne (Or.inr (hw _ (List.mem_of_getElem? (i := 27) rfl))) (Or.inr (hw _ (List.mem_of_getElem? (i := 28) rfl))) (by decide) (t := (.array .byte)) (t' := .byte) (by decide) (by decide)))
  replace Vq3 := Vq3.other W5 (Ne.symm ne_r0_b3)
  replace O0 := O0.wr W5 g_r0
  replace K0 := K0.wr W5 (Or.inl (List.mem_of_getElem? (i := 0) rfl))
  replace F_coder_r0 := F_coder_r0.same W5
  have N5 := Fr.snoc X5 N4 g_r0
  obtain ⟨T6, h6, X6, e6, W6, st6⟩ := putF X5 hx hZ hown (host := "") (Or.inl (hw _ (List.mem_of_getElem? (i := 31) rfl))) Via.refl e5 F_value_r0 E_r0 (Or.inr ⟨(hw _ (List.mem_of_getElem? (i := 27) rfl)), rfl, hnm⟩) (hw _ (List.mem_of_getElem? (i := 12) rfl)) (ty := (.array .byte)) (by decide) rfl rfl (g := (mkF m 54 #[.val (.ref r0), .val (.ref r1), .val (.int (0 : Int32)), .val (.int (1 : Int32)), .val .null, .val (.ref b3)] [(.ref b3), (.ref r0)])) rfl rfl (hb hby d4_54)
  replace Vs := Vs.other W6 hne
  replace E_r0 := E_r0.wr W6
  replace F_coder_r0 := F_coder_r0.other W6 (Or.inr (slot_ne (Or.inr (hw _ (List.mem_of_getElem? (i := 28) rfl))) (Or.inr (hw _ (List.mem_of_getElem? (i := 27) rfl))) (by decide) (t := .byte) (t' := (.array .byte)) (by decide) (by decide)))
  replace Vq3 := Vq3.other W6 (Ne.symm ne_r0_b3)
  replace O0 := O0.wr W6 g_r0
  replace K0 := K0.wr W6 (Or.inl (List.mem_of_getElem? (i := 0) rfl))
  replace F_value_r0 := F_value_r0.same W6
  have N6 := Fr.snoc X6 N5 g_r0
  have k7 : ∀ t, Steps p.tables e below (T6.setTop (mkF m 57 #[.val (.ref r0), .val (.ref r1), .val (.int (0 : Int32)), .val (.int (1 : Int32)), .val .null, .val (.ref b3)] [])) t → Steps p.tables e below (s₁.setTop (entryFrame m #[(.ref r0), (.ref r1), (.int (0 : Int32)), (.int (1 : Int32)), .null] 6)) t := by
    intro t k
    refine pre0 _ ?_
    show Steps p.tables e below (s₁.setTop (mkF m 0 #[.val (.ref r0), .val (.ref r1), .val (.int (0 : Int32)), .val (.int (1 : Int32)), .val .null, .unset] [])) _
    refine XS.aloadN X0.here hx rfl (hb hby d4_0) rfl rfl ?_
    show Steps p.tables e below (s₁.setTop (mkF m 1 #[.val (.ref r0), .val (.ref r1), .val (.int (0 : Int32)), .val (.int (1 : Int32)), .val .null, .unset] [(.ref r0)])) _
    refine st1 _ ?_
    show Steps p.tables e below (T1.setTop (mkF m 4 #[.val (.ref r0), .val (.ref r1), .val (.int (0 : Int32)), .val (.int (1 : Int32)), .val .null, .unset] [])) _
    refine XS.iloadN X1.here hx rfl (hb hby d4_4) rfl ?_
    show Steps p.tables e below (T1.setTop (mkF m 5 #[.val (.ref r0), .val (.ref r1), .val (.int (0 : Int32)), .val (.int (1 : Int32)), .val .null, .unset] [(.int (1 : Int32))])) _
    refine XS.ifYes X1.here hx rfl (pc0 := 5) (pc' := 27) rfl (hb hby d4_5) rfl ((if0 _ _).trans (feq (by decide)).2) (by decide) (by decide) ?_
    show Steps p.tables e below (T1.setTop (mkF m 27 #[.val (.ref r0), .val (.ref r1), .val (.int (0 : Int32)), .val (.int (1 : Int32)), .val .null, .unset] [])) _
    refine st2 _ ?_
    show Steps p.tables e below (T2.setTop (mkF m 30 #[.val (.ref r0), .val (.ref r1), .val (.int (0 : Int32)), .val (.int (1 : Int32)), .val .null, .unset] [(.int w_CS)])) _
    refine XS.ifNo X2.here hx rfl (hb hby d4_30) rfl ((if0 _ _).trans (feq hCS).1) ?_
    show Steps p.tables e below (T2.setTop (mkF m 33 #[.val (.ref r0), .val (.ref r1), .val (.int (0 : Int32)), .val (.int (1 : Int32)), .val .null, .unset] [])) _
    refine XS.aloadN X2.here hx rfl (hb hby d4_33) rfl rfl ?_
    show Steps p.tables e below (T2.setTop (mkF m 34 #[.val (.ref r0), .val (.ref r1), .val (.int (0 : Int32)), .val (.int (1 : Int32)), .val .null, .unset] [(.ref r1)])) _
    refine XS.iloadN X2.here hx rfl (hb hby d4_34) rfl ?_
    show Steps p.tables e below (T2.setTop (mkF m 35 #[.val (.ref r0), .val (.ref r1), .val (.int (0 : Int32)), .val (.int (1 : Int32)), .val .null, .unset] [(.int (0 : Int32)), (.ref r1)])) _
    refine XS.iloadN X2.here hx rfl (hb hby d4_35) rfl ?_
    show Steps p.tables e below (T2.setTop (mkF m 36 #[.val (.ref r0), .val (.ref r1), .val (.int (0 : Int32)), .val (.int (1 : Int32)), .val .null, .unset] [(.int (1 : Int32)), (.int (0 : Int32)), (.ref r1)])) _
    refine st3 _ ?_
    show Steps p.tables e below (T3.setTop (mkF m 39 #[.val (.ref r0), .val (.ref r1), .val (.int (0 : Int32)), .val (.int (1 : Int32)), .val .null, .unset] [(.ref b3)])) _
    refine XS.astore X3.here hx rfl (hb hby d4_39) rfl rfl (l' := #[.val (.ref r0), .val (.ref r1), .val (.int (0 : Int32)), .val (.int (1 : Int32)), .val .null, .val (.ref b3)]) rfl ?_
    show Steps p.tables e below (T3.setTop (mkF m 41 #[.val (.ref r0), .val (.ref r1), .val (.int (0 : Int32)), .val (.int (1 : Int32)), .val .null, .val (.ref b3)] [])) _
    refine XS.aloadN X3.here hx rfl (hb hby d4_41) rfl rfl ?_
    show Steps p.tables e below (T3.setTop (mkF m 42 #[.val (.ref r0), .val (.ref r1), .val (.int (0 : Int32)), .val (.int (1 : Int32)), .val .null, .val (.ref b3)] [(.ref r0)])) _
    refine XS.aload X3.here hx rfl (hb hby d4_42) rfl rfl ?_
    show Steps p.tables e below (T3.setTop (mkF m 44 #[.val (.ref r0), .val (.ref r1), .val (.int (0 : Int32)), .val (.int (1 : Int32)), .val .null, .val (.ref b3)] [(.ref b3), (.ref r0)])) _
    refine XS.iloadN X3.here hx rfl (hb hby d4_44) rfl ?_
    show Steps p.tables e below (T3.setTop (mkF m 45 #[.val (.ref r0), .val (.ref r1), .val (.int (0 : Int32)), .val (.int (1 : Int32)), .val .null, .val (.ref b3)] [(.int (1 : Int32)), (.ref b3), (.ref r0)])) _
    refine st4 _ ?_
    show Steps p.tables e below (T4.setTop (mkF m 48 #[.val (.ref r0), .val (.ref r1), .val (.int (0 : Int32)), .val (.int (1 : Int32)), .val .null, .val (.ref b3)] [(.int (0 : Int32)), (.ref r0)])) _
    refine st5 _ ?_
    show Steps p.tables e below (T5.setTop (mkF m 51 #[.val (.ref r0), .val (.ref r1), .val (.int (0 : Int32)), .val (.int (1 : Int32)), .val .null, .val (.ref b3)] [])) _
    refine XS.aloadN X5.here hx rfl (hb hby d4_51) rfl rfl ?_
    show Steps p.tables e below (T5.setTop (mkF m 52 #[.val (.ref r0), .val (.ref r1), .val (.int (0 : Int32)), .val (.int (1 : Int32)), .val .null, .val (.ref b3)] [(.ref r0)])) _
    refine XS.aload X5.here hx rfl (hb hby d4_52) rfl rfl ?_
    show Steps p.tables e below (T5.setTop (mkF m 54 #[.val (.ref r0), .val (.ref r1), .val (.int (0 : Int32)), .val (.int (1 : Int32)), .val .null, .val (.ref b3)] [(.ref b3), (.ref r0)])) _
    refine st6 _ ?_
    exact k
  obtain ⟨fs, hr, hrun, hended, hW, hsame⟩ := X6.leave (v := none) (fun _ => rfl)
  refine ⟨_, _, k7 _ ?_, hrun, hended, _, _, rfl, ?_, ⟨_, rfl⟩, hW, hsame.mono (by decide) (by decide)⟩
  · exact X6.returnOut hx Bd.returns (hb hby d4_57) hr
  · show own_SI Z r0 (1 : Int32) h0 n0 _ T6.heap _
    rw [e6]
    exact ⟨rfl, N6, K0, E_r0, _, _, _, F_value_r0, Vq3⟩
theorem ef_rmS1_1 (m : MethodId) (x0 : Addr) (x1 : Addr) : entryFrame m #[(.ref x0), (.ref x1)] 2 = mkF m 0 #[.val (.ref x0), .val (.ref x1)] [] := by first | (simp [entryFrame, mkF, argsToLocals, Value.category]; done) | rfl
set_option maxRecDepth 65536 in
set_option maxHeartbeats 40000000 in
theorem rmS1_1 (l : Launch) (Z : State) (a0 : Array Value) (hw : ∀ d ∈ tables_1, d.before a0 Z = true) (ws : List Jvm.Cond) (r0 : Addr) (r1 : Addr) (ck : ClassId) (v0 : Int32) (w_CS : Int32) (h0 : Heap) (n0 : Nat) (hG : own_GC Z w_CS) (O0 : Old Z n0 h0) (Z0 : n0 ≤ h0.size) (g_r0 : n0 ≤ r0) (E_r0 : Exa Z h0 r0 "java/lang/String") (F_value_r0 : Fld Z h0 r0 "java/lang/String" "value" "[B" .null) (F_coder_r0 : Fld Z h0 r0 "java/lang/String" "coder" "B" (.int (0 : Int32))) (hne : r1 ≠ r0) (Vs : Arv Z h0 r1 ck .char (1 : Int32) [(.int v0)] (.int (0 : Int32))) (hv0 : ¬ (255 : Int32) < v0) :
    MetFree l (⟨"java/lang/String", "<init>", "([C)V"⟩ : MethodName) (head1 (Jvm.Cond.code (⟨"java/lang/String", "<init>", "([C)V"⟩ : MethodName) jdk_42_method_3_code 2 none :: ws) ({ frames := 3, cells := 1, slots := 1, locals := 52 } : Room)) (fun a U => a = #[(.ref r0), (.ref r1)] ∧ Z.Warmed39 U.vm ∧ U.heap = h0) (fun _ _ _ _ _ => True) (fun _ U o U' => ∃ v L, o = .returned v ∧ own_SI Z r0 (1 : Int32) h0 n0 v U'.heap L ∧ FrameEnd U o U' L ({ frames := 3, cells := 1, slots := 1, locals := 52 } : Room).cells ({ frames := 3, cells := 1, slots := 1, locals := 52 } : Room).slots) := by
  refine MetFree.of_bodySF (plainFor_of_name pn_0) hisR ?_
  intro p e s m args below meth c s₁ Bd hml0 hP hK
  obtain ⟨rfl, hZ, hh⟩ := hP
  have hx := Bd.exec
  have hby := Bd.bytes
  have hml : c.maxLocals = 2 := hml0
  have hown : s.vm.findClass "java/lang/String" = some m.cls := findClass_of_methodNamed Bd.named
  have hnm := (name_of_methodNamed Bd.named Bd.method).1
  have X0 : Stand p l e ({ frames := 3, cells := 1, slots := 1, locals := 52 } : Room) s m #[(.ref r0), (.ref r1)] below meth c s₁ [] 0 0 := Stand.of_body Bd
  have e0 : s₁.heap = h0 := by rw [← hh, Bd.state]; rfl
  have N0 := Fr.nil n0
  have pre0 : ∀ t, Steps p.tables e below (s₁.setTop (mkF m 0 #[.val (.ref r0), .val (.ref r1)] [])) t → Steps p.tables e below (s₁.setTop (entryFrame m #[(.ref r0), (.ref r1)] 2)) t := fun t k => castTop (ef_rmS1_1 m r0 r1) k
  have hG' := hG
  obtain ⟨S_CS, hCS⟩ := hG'
  have K0 : Keep h0 h0 [r0] := Keep.refl _ _
  have k2 : ∀ t, Steps p.tables e below (s₁.setTop (mkF m 6 #[.val (.ref r0), .val (.ref r1)] [.null, (.int (1 : Int32)), (.int (0 : Int32)), (.ref r1), (.ref r0)])) t → Steps p.tables e below (s₁.setTop (entryFrame m #[(.ref r0), (.ref r1)] 2)) t := by
    intro t k
    refine pre0 _ ?_
    show Steps p.tables e below (s₁.setTop (mkF m 0 #[.val (.ref r0), .val (.ref r1)] [])) _
    refine XS.aloadN X0.here hx rfl (hb hby d3_0) rfl rfl ?_
    show Steps p.tables e below (s₁.setTop (mkF m 1 #[.val (.ref r0), .val (.ref r1)] [(.ref r0)])) _
    refine XS.aloadN X0.here hx rfl (hb hby d3_1) rfl rfl ?_
    show Steps p.tables e below (s₁.setTop (mkF m 2 #[.val (.ref r0), .val (.ref r1)] [(.ref r1), (.ref r0)])) _
    refine XS.iconst X0.here hx rfl (hb hby d3_2) ?_
    show Steps p.tables e below (s₁.setTop (mkF m 3 #[.val (.ref r0), .val (.ref r1)] [(.int (0 : Int32)), (.ref r1), (.ref r0)])) _
    refine XS.aloadN X0.here hx rfl (hb hby d3_3) rfl rfl ?_
    show Steps p.tables e below (s₁.setTop (mkF m 4 #[.val (.ref r0), .val (.ref r1)] [(.ref r1), (.int (0 : Int32)), (.ref r1), (.ref r0)])) _
    obtain ⟨cl_1, Ar_1, -, S_1, N_1, -, -⟩ := id Vs
    refine X0.arraylength hx (by rw [e0]; exact Ar_1.1) (State.isArrayOf_alike hZ.alike Ar_1.2.1) (g := (mkF m 4 #[.val (.ref r0), .val (.ref r1)] [(.ref r1), (.int (0 : Int32)), (.ref r1), (.ref r0)])) rfl rfl (hb hby d3_4) _ ?_
    rw [len_of S_1 N_1]
    show Steps p.tables e below (s₁.setTop (mkF m 5 #[.val (.ref r0), .val (.ref r1)] [(.int (1 : Int32)), (.int (0 : Int32)), (.ref r1), (.ref r0)])) _
    refine XS.aconstNull X0.here hx rfl (hb hby d3_5) ?_
    exact k
  obtain ⟨_, _, ⟨T3, L3, k3_, n3⟩, -, X3, ⟨Lc3, hQ3, l3, y3, z3⟩, st3⟩ := X0.specialBack hx (y := (⟨"java/lang/String", "<init>", "([CIILjava/lang/Void;)V"⟩ : MethodName)) rfl hown (mvT hZ (hw _ (List.mem_of_getElem? (i := 18) rfl))) (mvT hZ (hw _ (List.mem_of_getElem? (i := 19) rfl))) (mvT hZ (hw _ (List.mem_of_getElem? (i := 21) rfl))) (by decide) (backOf (W := 0) (rmS2_1 l Z a0 hw [] r0 r1 ck v0 w_CS h0 n0 hG O0 (O0.1 ▸ O0.2.1) g_r0 E_r0 F_value_r0 F_coder_r0 hne Vs hv0) hZ (hw _ (List.mem_of_getElem? (i := 21) rfl)) (hw _ (List.mem_of_getElem? (i := 13) rfl)) (by decide) (by decide)) (g := (mkF m 6 #[.val (.ref r0), .val (.ref r1)] [.null, (.int (1 : Int32)), (.int (0 : Int32)), (.ref r1), (.ref r0)])) rfl (by rw [hml]; rfl) (Steps.refl _) (a := r0) (argsL := [(.ref r1), (.int (0 : Int32)), (.int (1 : Int32)), .null]) (rest := []) (lenOf pd_0 rfl) rfl (by show 2 * 0 + _ ≤ _; exact Nat.le_of_eq rfl) (hb hby d3_6) (fun _ _ => ⟨rfl, e0, (by decide : 0 + 1 ≤ _), (by decide : 0 + 1 ≤ _)⟩)
  dsimp only [Pt.U, Pt.locs, Pt.cells, Pt.slots] at X3 l3 y3 z3 st3 hQ3
  subst l3 y3 z3
  obtain ⟨rfl, Nq3, Kq3, Eq3, bv3, kq3, vs3, Fq3, Vq3⟩ := hQ3
  have N3 := Fr.app N0 Nq3
  replace Vs := Vs.keep Kq3 (fun q => hne (List.mem_singleton.mp q))
  replace E_r0 := E_r0.keep Kq3
  replace O0 := O0.keep Kq3 (fun x hx => by cases List.mem_singleton.mp hx; exact g_r0)
  replace K0 := K0.trans Kq3 (fun x hx => by cases List.mem_singleton.mp hx; exact (Or.inl (List.mem_of_getElem? (i := 0) rfl)))
  have k4 : ∀ t, Steps p.tables e below (T3.setTop (mkF m 9 #[.val (.ref r0), .val (.ref r1)] [])) t → Steps p.tables e below (s₁.setTop (entryFrame m #[(.ref r0), (.ref r1)] 2)) t := by
    intro t k
    refine k2 _ ?_
    show Steps p.tables e below (s₁.setTop (mkF m 6 #[.val (.ref r0), .val (.ref r1)] [.null, (.int (1 : Int32)), (.int (0 : Int32)), (.ref r1), (.ref r0)])) _
    refine st3.trans ?_
    exact k
  obtain ⟨fs, hr, hrun, hended, hW, hsame⟩ := X3.leave (v := none) (fun _ => rfl)
  refine ⟨_, _, k4 _ ?_, hrun, hended, _, _, rfl, ?_, ⟨_, rfl⟩, hW, hsame.mono (by decide) (by decide)⟩
  · exact X3.returnOut hx Bd.returns (hb hby d3_9) hr
  · show own_SI Z r0 (1 : Int32) h0 n0 _ T3.heap _
    exact ⟨rfl, N3, K0, E_r0, _, _, _, Fq3, Vq3⟩
theorem ef_rmC1_2 (m : MethodId) (x0 : Addr) (x1 : Int32) (x2 : Addr) (x3 : Int32) (x4 : Int32) : entryFrame m #[(.ref x0), (.int x1), (.ref x2), (.int x3), (.int x4)] 7 = mkF m 0 #[.val (.ref x0), .val (.int x1), .val (.ref x2), .val (.int x3), .val (.int x4), .unset, .unset] [] := by first | (simp [entryFrame, mkF, argsToLocals, Value.category]; done) | rfl
set_option maxRecDepth 65536 in
set_option maxHeartbeats 40000000 in
theorem rmC1_2 (l : Launch) (Z : State) (a0 : Array Value) (hw : ∀ d ∈ tables_1, d.before a0 Z = true) (ws : List Jvm.Cond) (r0 : Addr) (r2 : Addr) (ck cb : ClassId) (v0 v1 : Int32) (h0 : Heap) (n0 : Nat) (Z0 : n0 ≤ h0.size) (g_r2 : n0 ≤ r2) (hne : r0 ≠ r2) (Vs : Arv Z h0 r0 ck .char (2 : Int32) [(.int v0), (.int v1)] (.int (0 : Int32))) (Vd : Arv Z h0 r2 cb .byte (2 : Int32) [(.int (0 : Int32)), (.int (0 : Int32))] (.int (0 : Int32))) (hv0 : ¬ (255 : Int32) < v0) (hv1 : ¬ (255 : Int32) < v1) :
    MetFree l (⟨"java/lang/StringUTF16", "compress", "([CI[BII)I"⟩ : MethodName) (head1 (Jvm.Cond.code (⟨"java/lang/StringUTF16", "compress", "([CI[BII)I"⟩ : MethodName) jdk_52_method_21_code 7 (some .int) :: ws) ({ frames := 0, cells := 0, slots := 0, locals := 0 } : Room)) (fun a U => a = #[(.ref r0), (.int (0 : Int32)), (.ref r2), (.int (0 : Int32)), (.int (2 : Int32))] ∧ Z.Warmed39 U.vm ∧ U.heap = h0) (fun _ _ _ _ _ => True) (fun _ U o U' => ∃ v L, o = .returned v ∧ own_CP Z r2 cb (2 : Int32) h0 n0 v U'.heap L ∧ FrameEnd U o U' L ({ frames := 0, cells := 0, slots := 0, locals := 0 } : Room).cells ({ frames := 0, cells := 0, slots := 0, locals := 0 } : Room).slots) := by
  refine MetFree.of_bodySF (plainFor_of_name pn_1) hisR ?_
  intro p e s m args below meth c s₁ Bd hml0 hP hK
  obtain ⟨rfl, hZ, hh⟩ := hP
  have hx := Bd.exec
  have hby := Bd.bytes
  have hml : c.maxLocals = 7 := hml0
  have hown : s.vm.findClass "java/lang/StringUTF16" = some m.cls := findClass_of_methodNamed Bd.named
  have hnm := (name_of_methodNamed Bd.named Bd.method).1
  have X0 : Stand p l e ({ frames := 0, cells := 0, slots := 0, locals := 0 } : Room) s m #[(.ref r0), (.int (0 : Int32)), (.ref r2), (.int (0 : Int32)), (.int (2 : Int32))] below meth c s₁ [] 0 0 := Stand.of_body Bd
  have e0 : s₁.heap = h0 := by rw [← hh, Bd.state]; rfl
  have N0 := Fr.nil n0
  have pre0 : ∀ t, Steps p.tables e below (s₁.setTop (mkF m 0 #[.val (.ref r0), .val (.int (0 : Int32)), .val (.ref r2), .val (.int (0 : Int32)), .val (.int (2 : Int32)), .unset, .unset] [])) t → Steps p.tables e below (s₁.setTop (entryFrame m #[(.ref r0), (.int (0 : Int32)), (.ref r2), (.int (0 : Int32)), (.int (2 : Int32))] 7)) t := fun t k => castTop (ef_rmC1_2 m r0 (0 : Int32) r2 (0 : Int32) (2 : Int32)) k
  have K0 : Keep h0 h0 [r2] := Keep.refl _ _
  have k2 : ∀ t, Steps p.tables e below (s₁.setTop (mkF m 31 #[.val (.ref r0), .val (.int (0 : Int32)), .val (.ref r2), .val (.int (0 : Int32)), .val (.int (2 : Int32)), .val (.int (0 : Int32)), .val (.int v0)] [(.int (v0.toInt8.toInt32)), (.int (0 : Int32)), (.ref r2)])) t → Steps p.tables e below (s₁.setTop (entryFrame m #[(.ref r0), (.int (0 : Int32)), (.ref r2), (.int (0 : Int32)), (.int (2 : Int32))] 7)) t := by
    intro t k
    refine pre0 _ ?_
    show Steps p.tables e below (s₁.setTop (mkF m 0 #[.val (.ref r0), .val (.int (0 : Int32)), .val (.ref r2), .val (.int (0 : Int32)), .val (.int (2 : Int32)), .unset, .unset] [])) _
    refine XS.iconst X0.here hx rfl (hb hby d10_0) ?_
    show Steps p.tables e below (s₁.setTop (mkF m 1 #[.val (.ref r0), .val (.int (0 : Int32)), .val (.ref r2), .val (.int (0 : Int32)), .val (.int (2 : Int32)), .unset, .unset] [(.int (0 : Int32))])) _
    refine XS.istore X0.here hx rfl (hb hby d10_1) rfl (l' := #[.val (.ref r0), .val (.int (0 : Int32)), .val (.ref r2), .val (.int (0 : Int32)), .val (.int (2 : Int32)), .val (.int (0 : Int32)), .unset]) rfl ?_
    show Steps p.tables e below (s₁.setTop (mkF m 3 #[.val (.ref r0), .val (.int (0 : Int32)), .val (.ref r2), .val (.int (0 : Int32)), .val (.int (2 : Int32)), .val (.int (0 : Int32)), .unset] [])) _
    refine XS.iload X0.here hx rfl (hb hby d10_3) rfl ?_
    show Steps p.tables e below (s₁.setTop (mkF m 5 #[.val (.ref r0), .val (.int (0 : Int32)), .val (.ref r2), .val (.int (0 : Int32)), .val (.int (2 : Int32)), .val (.int (0 : Int32)), .unset] [(.int (0 : Int32))])) _
    refine XS.iload X0.here hx rfl (hb hby d10_5) rfl ?_
    show Steps p.tables e below (s₁.setTop (mkF m 7 #[.val (.ref r0), .val (.int (0 : Int32)), .val (.ref r2), .val (.int (0 : Int32)), .val (.int (2 : Int32)), .val (.int (0 : Int32)), .unset] [(.int (2 : Int32)), (.int (0 : Int32))])) _
    refine XS.icmpNo X0.here hx rfl (hb hby d10_7) rfl (tlt (by decide)).2.1 ?_
    show Steps p.tables e below (s₁.setTop (mkF m 10 #[.val (.ref r0), .val (.int (0 : Int32)), .val (.ref r2), .val (.int (0 : Int32)), .val (.int (2 : Int32)), .val (.int (0 : Int32)), .unset] [])) _
    refine XS.aloadN X0.here hx rfl (hb hby d10_10) rfl rfl ?_
    show Steps p.tables e below (s₁.setTop (mkF m 11 #[.val (.ref r0), .val (.int (0 : Int32)), .val (.ref r2), .val (.int (0 : Int32)), .val (.int (2 : Int32)), .val (.int (0 : Int32)), .unset] [(.ref r0)])) _
    refine XS.iloadN X0.here hx rfl (hb hby d10_11) rfl ?_
    show Steps p.tables e below (s₁.setTop (mkF m 12 #[.val (.ref r0), .val (.int (0 : Int32)), .val (.ref r2), .val (.int (0 : Int32)), .val (.int (2 : Int32)), .val (.int (0 : Int32)), .unset] [(.int (0 : Int32)), (.ref r0)])) _
    obtain ⟨cl_1, Ar_1, q_1, S_1, N_1, H_1, G_1⟩ := id Vs
    have hin_1 : ¬ ((0 : Int32) < 0 ∨ cl_1.slots.size ≤ ((0 : Int32)).toNatClampNeg) := inb_of S_1 ⟨by decide, by decide⟩
    refine X0.caload hx (j := (0 : Int32)) (v := (.int v0)) (by rw [e0]; exact Ar_1.1) (State.isArrayOf_alike hZ.alike Ar_1.2.1) Ar_1.2.2 hin_1 (Has.at H_1 hin_1 rfl) (g := (mkF m 12 #[.val (.ref r0), .val (.int (0 : Int32)), .val (.ref r2), .val (.int (0 : Int32)), .val (.int (2 : Int32)), .val (.int (0 : Int32)), .unset] [(.int (0 : Int32)), (.ref r0)])) rfl rfl (hb hby d10_12) _ ?_
    show Steps p.tables e below (s₁.setTop (mkF m 13 #[.val (.ref r0), .val (.int (0 : Int32)), .val (.ref r2), .val (.int (0 : Int32)), .val (.int (2 : Int32)), .val (.int (0 : Int32)), .unset] [(.int v0)])) _
    refine XS.istore X0.here hx rfl (hb hby d10_13) rfl (l' := #[.val (.ref r0), .val (.int (0 : Int32)), .val (.ref r2), .val (.int (0 : Int32)), .val (.int (2 : Int32)), .val (.int (0 : Int32)), .val (.int v0)]) rfl ?_
    show Steps p.tables e below (s₁.setTop (mkF m 15 #[.val (.ref r0), .val (.int (0 : Int32)), .val (.ref r2), .val (.int (0 : Int32)), .val (.int (2 : Int32)), .val (.int (0 : Int32)), .val (.int v0)] [])) _
    refine XS.iload X0.here hx rfl (hb hby d10_15) rfl ?_
    show Steps p.tables e below (s₁.setTop (mkF m 17 #[.val (.ref r0), .val (.int (0 : Int32)), .val (.ref r2), .val (.int (0 : Int32)), .val (.int (2 : Int32)), .val (.int (0 : Int32)), .val (.int v0)] [(.int v0)])) _
    refine XS.sipush X0.here hx rfl (hb hby d10_17) ?_
    show Steps p.tables e below (s₁.setTop (mkF m 20 #[.val (.ref r0), .val (.int (0 : Int32)), .val (.ref r2), .val (.int (0 : Int32)), .val (.int (2 : Int32)), .val (.int (0 : Int32)), .val (.int v0)] [(.int (255 : Int32)), (.int v0)])) _
    refine XS.icmpYes X0.here hx rfl (pc0 := 20) (pc' := 26) rfl (hb hby d10_20) rfl (flt hv0).2.2.2 (by decide) (by decide) ?_
    show Steps p.tables e below (s₁.setTop (mkF m 26 #[.val (.ref r0), .val (.int (0 : Int32)), .val (.ref r2), .val (.int (0 : Int32)), .val (.int (2 : Int32)), .val (.int (0 : Int32)), .val (.int v0)] [])) _
    refine XS.aloadN X0.here hx rfl (hb hby d10_26) rfl rfl ?_
    show Steps p.tables e below (s₁.setTop (mkF m 27 #[.val (.ref r0), .val (.int (0 : Int32)), .val (.ref r2), .val (.int (0 : Int32)), .val (.int (2 : Int32)), .val (.int (0 : Int32)), .val (.int v0)] [(.ref r2)])) _
    refine XS.iloadN X0.here hx rfl (hb hby d10_27) rfl ?_
    show Steps p.tables e below (s₁.setTop (mkF m 28 #[.val (.ref r0), .val (.int (0 : Int32)), .val (.ref r2), .val (.int (0 : Int32)), .val (.int (2 : Int32)), .val (.int (0 : Int32)), .val (.int v0)] [(.int (0 : Int32)), (.ref r2)])) _
    refine XS.iload X0.here hx rfl (hb hby d10_28) rfl ?_
    show Steps p.tables e below (s₁.setTop (mkF m 30 #[.val (.ref r0), .val (.int (0 : Int32)), .val (.ref r2), .val (.int (0 : Int32)), .val (.int (2 : Int32)), .val (.int (0 : Int32)), .val (.int v0)] [(.int v0), (.int (0 : Int32)), (.ref r2)])) _
    refine XS.i2b X0.here hx rfl (hb hby d10_30) rfl ?_
    exact k
  obtain ⟨cl_3, Ar_3, q_3, S_3, N_3, H_3, G_3⟩ := id Vd
  have hin_3 : ¬ ((0 : Int32) < 0 ∨ cl_3.slots.size ≤ ((0 : Int32)).toNatClampNeg) := inb_of S_3 ⟨by decide, by decide⟩
  obtain ⟨T3, h3, X3, e3, W3, st3⟩ := stB X0 hx hZ e0 Ar_3 (j := (0 : Int32)) hin_3 (g := (mkF m 31 #[.val (.ref r0), .val (.int (0 : Int32)), .val (.ref r2), .val (.int (0 : Int32)), .val (.int (2 : Int32)), .val (.int (0 : Int32)), .val (.int v0)] [(.int (v0.toInt8.toInt32)), (.int (0 : Int32)), (.ref r2)])) rfl rfl (hb hby d10_31)
  have Vn3 : Arv Z h3 r2 cb .byte (2 : Int32) [(.int ((v0.toInt8.toInt32).toInt8.toInt32)), (.int (0 : Int32))] (.int (0 : Int32)) := Arv.set Ar_3 q_3 S_3 N_3 H_3 G_3 (fits_nar_byte _) W3 0 rfl (Nat.le_of_ble_eq_true rfl)
  replace Vs := Vs.other W3 hne
  replace K0 := K0.wr W3 (Or.inl (List.mem_of_getElem? (i := 0) rfl))
  replace Vd := Vn3
  have N3 := Fr.snoc X3 N0 g_r2
  have Zs3 : n0 ≤ h3.size := by rw [W3.size]; exact Z0
  have k5 : ∀ t, Steps p.tables e below (T3.setTop (mkF m 31 #[.val (.ref r0), .val (.int (1 : Int32)), .val (.ref r2), .val (.int (1 : Int32)), .val (.int (2 : Int32)), .val (.int (1 : Int32)), .val (.int v1)] [(.int (v1.toInt8.toInt32)), (.int (1 : Int32)), (.ref r2)])) t → Steps p.tables e below (s₁.setTop (entryFrame m #[(.ref r0), (.int (0 : Int32)), (.ref r2), (.int (0 : Int32)), (.int (2 : Int32))] 7)) t := by
    intro t k
    refine k2 _ ?_
    show Steps p.tables e below (s₁.setTop (mkF m 31 #[.val (.ref r0), .val (.int (0 : Int32)), .val (.ref r2), .val (.int (0 : Int32)), .val (.int (2 : Int32)), .val (.int (0 : Int32)), .val (.int v0)] [(.int (v0.toInt8.toInt32)), (.int (0 : Int32)), (.ref r2)])) _
    refine st3 _ ?_
    show Steps p.tables e below (T3.setTop (mkF m 32 #[.val (.ref r0), .val (.int (0 : Int32)), .val (.ref r2), .val (.int (0 : Int32)), .val (.int (2 : Int32)), .val (.int (0 : Int32)), .val (.int v0)] [])) _
    refine XS.iinc X3.here hx rfl (hb hby d10_32) rfl (l' := #[.val (.ref r0), .val (.int (1 : Int32)), .val (.ref r2), .val (.int (0 : Int32)), .val (.int (2 : Int32)), .val (.int (0 : Int32)), .val (.int v0)]) rfl ?_
    show Steps p.tables e below (T3.setTop (mkF m 35 #[.val (.ref r0), .val (.int (1 : Int32)), .val (.ref r2), .val (.int (0 : Int32)), .val (.int (2 : Int32)), .val (.int (0 : Int32)), .val (.int v0)] [])) _
    refine XS.iinc X3.here hx rfl (hb hby d10_35) rfl (l' := #[.val (.ref r0), .val (.int (1 : Int32)), .val (.ref r2), .val (.int (1 : Int32)), .val (.int (2 : Int32)), .val (.int (0 : Int32)), .val (.int v0)]) rfl ?_
    show Steps p.tables e below (T3.setTop (mkF m 38 #[.val (.ref r0), .val (.int (1 : Int32)), .val (.ref r2), .val (.int (1 : Int32)), .val (.int (2 : Int32)), .val (.int (0 : Int32)), .val (.int v0)] [])) _
    refine XS.iinc X3.here hx rfl (hb hby d10_38) rfl (l' := #[.val (.ref r0), .val (.int (1 : Int32)), .val (.ref r2), .val (.int (1 : Int32)), .val (.int (2 : Int32)), .val (.int (1 : Int32)), .val (.int v0)]) rfl ?_
    show Steps p.tables e below (T3.setTop (mkF m 41 #[.val (.ref r0), .val (.int (1 : Int32)), .val (.ref r2), .val (.int (1 : Int32)), .val (.int (2 : Int32)), .val (.int (1 : Int32)), .val (.int v0)] [])) _
    refine XS.goto X3.here hx rfl (pc0 := 41) (pc' := 3) rfl (hb hby d10_41) (by decide) (by decide) ?_
    show Steps p.tables e below (T3.setTop (mkF m 3 #[.val (.ref r0), .val (.int (1 : Int32)), .val (.ref r2), .val (.int (1 : Int32)), .val (.int (2 : Int32)), .val (.int (1 : Int32)), .val (.int v0)] [])) _
    refine XS.iload X3.here hx rfl (hb hby d10_3) rfl ?_
    show Steps p.tables e below (T3.setTop (mkF m 5 #[.val (.ref r0), .val (.int (1 : Int32)), .val (.ref r2), .val (.int (1 : Int32)), .val (.int (2 : Int32)), .val (.int (1 : Int32)), .val (.int v0)] [(.int (1 : Int32))])) _
    refine XS.iload X3.here hx rfl (hb hby d10_5) rfl ?_
    show Steps p.tables e below (T3.setTop (mkF m 7 #[.val (.ref r0), .val (.int (1 : Int32)), .val (.ref r2), .val (.int (1 : Int32)), .val (.int (2 : Int32)), .val (.int (1 : Int32)), .val (.int v0)] [(.int (2 : Int32)), (.int (1 : Int32))])) _
    refine XS.icmpNo X3.here hx rfl (hb hby d10_7) rfl (tlt (by decide)).2.1 ?_
    show Steps p.tables e below (T3.setTop (mkF m 10 #[.val (.ref r0), .val (.int (1 : Int32)), .val (.ref r2), .val (.int (1 : Int32)), .val (.int (2 : Int32)), .val (.int (1 : Int32)), .val (.int v0)] [])) _
    refine XS.aloadN X3.here hx rfl (hb hby d10_10) rfl rfl ?_
    show Steps p.tables e below (T3.setTop (mkF m 11 #[.val (.ref r0), .val (.int (1 : Int32)), .val (.ref r2), .val (.int (1 : Int32)), .val (.int (2 : Int32)), .val (.int (1 : Int32)), .val (.int v0)] [(.ref r0)])) _
    refine XS.iloadN X3.here hx rfl (hb hby d10_11) rfl ?_
    show Steps p.tables e below (T3.setTop (mkF m 12 #[.val (.ref r0), .val (.int (1 : Int32)), .val (.ref r2), .val (.int (1 : Int32)), .val (.int (2 : Int32)), .val (.int (1 : Int32)), .val (.int v0)] [(.int (1 : Int32)), (.ref r0)])) _
    obtain ⟨cl_4, Ar_4, q_4, S_4, N_4, H_4, G_4⟩ := id Vs
    have hin_4 : ¬ ((1 : Int32) < 0 ∨ cl_4.slots.size ≤ ((1 : Int32)).toNatClampNeg) := inb_of S_4 ⟨by decide, by decide⟩
    refine X3.caload hx (j := (1 : Int32)) (v := (.int v1)) (by rw [e3]; exact Ar_4.1) (State.isArrayOf_alike hZ.alike Ar_4.2.1) Ar_4.2.2 hin_4 (Has.at H_4 hin_4 rfl) (g := (mkF m 12 #[.val (.ref r0), .val (.int (1 : Int32)), .val (.ref r2), .val (.int (1 : Int32)), .val (.int (2 : Int32)), .val (.int (1 : Int32)), .val (.int v0)] [(.int (1 : Int32)), (.ref r0)])) rfl rfl (hb hby d10_12) _ ?_
    show Steps p.tables e below (T3.setTop (mkF m 13 #[.val (.ref r0), .val (.int (1 : Int32)), .val (.ref r2), .val (.int (1 : Int32)), .val (.int (2 : Int32)), .val (.int (1 : Int32)), .val (.int v0)] [(.int v1)])) _
    refine XS.istore X3.here hx rfl (hb hby d10_13) rfl (l' := #[.val (.ref r0), .val (.int (1 : Int32)), .val (.ref r2), .val (.int (1 : Int32)), .val (.int (2 : Int32)), .val (.int (1 : Int32)), .val (.int v1)]) rfl ?_
    show Steps p.tables e below (T3.setTop (mkF m 15 #[.val (.ref r0), .val (.int (1 : Int32)), .val (.ref r2), .val (.int (1 : Int32)), .val (.int (2 : Int32)), .val (.int (1 : Int32)), .val (.int v1)] [])) _
    refine XS.iload X3.here hx rfl (hb hby d10_15) rfl ?_
    show Steps p.tables e below (T3.setTop (mkF m 17 #[.val (.ref r0), .val (.int (1 : Int32)), .val (.ref r2), .val (.int (1 : Int32)), .val (.int (2 : Int32)), .val (.int (1 : Int32)), .val (.int v1)] [(.int v1)])) _
    refine XS.sipush X3.here hx rfl (hb hby d10_17) ?_
    show Steps p.tables e below (T3.setTop (mkF m 20 #[.val (.ref r0), .val (.int (1 : Int32)), .val (.ref r2), .val (.int (1 : Int32)), .val (.int (2 : Int32)), .val (.int (1 : Int32)), .val (.int v1)] [(.int (255 : Int32)), (.int v1)])) _
    refine XS.icmpYes X3.here hx rfl (pc0 := 20) (pc' := 26) rfl (hb hby d10_20) rfl (flt hv1).2.2.2 (by decide) (by decide) ?_
    show Steps p.tables e below (T3.setTop (mkF m 26 #[.val (.ref r0), .val (.int (1 : Int32)), .val (.ref r2), .val (.int (1 : Int32)), .val (.int (2 : Int32)), .val (.int (1 : Int32)), .val (.int v1)] [])) _
    refine XS.aloadN X3.here hx rfl (hb hby d10_26) rfl rfl ?_
    show Steps p.tables e below (T3.setTop (mkF m 27 #[.val (.ref r0), .val (.int (1 : Int32)), .val (.ref r2), .val (.int (1 : Int32)), .val (.int (2 : Int32)), .val (.int (1 : Int32)), .val (.int v1)] [(.ref r2)])) _
    refine XS.iloadN X3.here hx rfl (hb hby d10_27) rfl ?_
    show Steps p.tables e below (T3.setTop (mkF m 28 #[.val (.ref r0), .val (.int (1 : Int32)), .val (.ref r2), .val (.int (1 : Int32)), .val (.int (2 : Int32)), .val (.int (1 : Int32)), .val (.int v1)] [(.int (1 : Int32)), (.ref r2)])) _
    refine XS.iload X3.here hx rfl (hb hby d10_28) rfl ?_
    show Steps p.tables e below (T3.setTop (mkF m 30 #[.val (.ref r0), .val (.int (1 : Int32)), .val (.ref r2), .val (.int (1 : Int32)), .val (.int (2 : Int32)), .val (.int (1 : Int32)), .val (.int v1)] [(.int v1), (.int (1 : Int32)), (.ref r2)])) _
    refine XS.i2b X3.here hx rfl (hb hby d10_30) rfl ?_
    exact k
  obtain ⟨cl_6, Ar_6, q_6, S_6, N_6, H_6, G_6⟩ := id Vd
  have hin_6 : ¬ ((1 : Int32) < 0 ∨ cl_6.slots.size ≤ ((1 : Int32)).toNatClampNeg) := inb_of S_6 ⟨by decide, by decide⟩
  obtain ⟨T6, h6, X6, e6, W6, st6⟩ := stB X3 hx hZ e3 Ar_6 (j := (1 : Int32)) hin_6 (g := (mkF m 31 #[.val (.ref r0), .val (.int (1 : Int32)), .val (.ref r2), .val (.int (1 : Int32)), .val (.int (2 : Int32)), .val (.int (1 : Int32)), .val (.int v1)] [(.int (v1.toInt8.toInt32)), (.int (1 : Int32)), (.ref r2)])) rfl rfl (hb hby d10_31)
  have Vn6 : Arv Z h6 r2 cb .byte (2 : Int32) [(.int ((v0.toInt8.toInt32).toInt8.toInt32)), (.int ((v1.toInt8.toInt32).toInt8.toInt32))] (.int (0 : Int32)) := Arv.set Ar_6 q_6 S_6 N_6 H_6 G_6 (fits_nar_byte _) W6 1 rfl (Nat.le_of_ble_eq_true rfl)
  replace Vs := Vs.other W6 hne
  replace K0 := K0.wr W6 (Or.inl (List.mem_of_getElem? (i := 0) rfl))
  replace Vd := Vn6
  have N6 := Fr.snoc X6 N3 g_r2
  have Zs6 : n0 ≤ h6.size := by rw [W6.size]; exact Zs3
  have k7 : ∀ t, Steps p.tables e below (T6.setTop (mkF m 46 #[.val (.ref r0), .val (.int (2 : Int32)), .val (.ref r2), .val (.int (2 : Int32)), .val (.int (2 : Int32)), .val (.int (2 : Int32)), .val (.int v1)] [(.int (2 : Int32))])) t → Steps p.tables e below (s₁.setTop (entryFrame m #[(.ref r0), (.int (0 : Int32)), (.ref r2), (.int (0 : Int32)), (.int (2 : Int32))] 7)) t := by
    intro t k
    refine k5 _ ?_
    show Steps p.tables e below (T3.setTop (mkF m 31 #[.val (.ref r0), .val (.int (1 : Int32)), .val (.ref r2), .val (.int (1 : Int32)), .val (.int (2 : Int32)), .val (.int (1 : Int32)), .val (.int v1)] [(.int (v1.toInt8.toInt32)), (.int (1 : Int32)), (.ref r2)])) _
    refine st6 _ ?_
    show Steps p.tables e below (T6.setTop (mkF m 32 #[.val (.ref r0), .val (.int (1 : Int32)), .val (.ref r2), .val (.int (1 : Int32)), .val (.int (2 : Int32)), .val (.int (1 : Int32)), .val (.int v1)] [])) _
    refine XS.iinc X6.here hx rfl (hb hby d10_32) rfl (l' := #[.val (.ref r0), .val (.int (2 : Int32)), .val (.ref r2), .val (.int (1 : Int32)), .val (.int (2 : Int32)), .val (.int (1 : Int32)), .val (.int v1)]) rfl ?_
    show Steps p.tables e below (T6.setTop (mkF m 35 #[.val (.ref r0), .val (.int (2 : Int32)), .val (.ref r2), .val (.int (1 : Int32)), .val (.int (2 : Int32)), .val (.int (1 : Int32)), .val (.int v1)] [])) _
    refine XS.iinc X6.here hx rfl (hb hby d10_35) rfl (l' := #[.val (.ref r0), .val (.int (2 : Int32)), .val (.ref r2), .val (.int (2 : Int32)), .val (.int (2 : Int32)), .val (.int (1 : Int32)), .val (.int v1)]) rfl ?_
    show Steps p.tables e below (T6.setTop (mkF m 38 #[.val (.ref r0), .val (.int (2 : Int32)), .val (.ref r2), .val (.int (2 : Int32)), .val (.int (2 : Int32)), .val (.int (1 : Int32)), .val (.int v1)] [])) _
    refine XS.iinc X6.here hx rfl (hb hby d10_38) rfl (l' := #[.val (.ref r0), .val (.int (2 : Int32)), .val (.ref r2), .val (.int (2 : Int32)), .val (.int (2 : Int32)), .val (.int (2 : Int32)), .val (.int v1)]) rfl ?_
    show Steps p.tables e below (T6.setTop (mkF m 41 #[.val (.ref r0), .val (.int (2 : Int32)), .val (.ref r2), .val (.int (2 : Int32)), .val (.int (2 : Int32)), .val (.int (2 : Int32)), .val (.int v1)] [])) _
    refine XS.goto X6.here hx rfl (pc0 := 41) (pc' := 3) rfl (hb hby d10_41) (by decide) (by decide) ?_
    show Steps p.tables e below (T6.setTop (mkF m 3 #[.val (.ref r0), .val (.int (2 : Int32)), .val (.ref r2), .val (.int (2 : Int32)), .val (.int (2 : Int32)), .val (.int (2 : Int32)), .val (.int v1)] [])) _
    refine XS.iload X6.here hx rfl (hb hby d10_3) rfl ?_
    show Steps p.tables e below (T6.setTop (mkF m 5 #[.val (.ref r0), .val (.int (2 : Int32)), .val (.ref r2), .val (.int (2 : Int32)), .val (.int (2 : Int32)), .val (.int (2 : Int32)), .val (.int v1)] [(.int (2 : Int32))])) _
    refine XS.iload X6.here hx rfl (hb hby d10_5) rfl ?_
    show Steps p.tables e below (T6.setTop (mkF m 7 #[.val (.ref r0), .val (.int (2 : Int32)), .val (.ref r2), .val (.int (2 : Int32)), .val (.int (2 : Int32)), .val (.int (2 : Int32)), .val (.int v1)] [(.int (2 : Int32)), (.int (2 : Int32))])) _
    refine XS.icmpYes X6.here hx rfl (pc0 := 7) (pc' := 44) rfl (hb hby d10_7) rfl (flt (by decide)).2.1 (by decide) (by decide) ?_
    show Steps p.tables e below (T6.setTop (mkF m 44 #[.val (.ref r0), .val (.int (2 : Int32)), .val (.ref r2), .val (.int (2 : Int32)), .val (.int (2 : Int32)), .val (.int (2 : Int32)), .val (.int v1)] [])) _
    refine XS.iload X6.here hx rfl (hb hby d10_44) rfl ?_
    exact k
  obtain ⟨fs, hr, hrun, hended, hW, hsame⟩ := X6.leave (v := some (.int (2 : Int32))) (fun h => by rw [Bd.returns] at h; cases h)
  refine ⟨_, _, k7 _ ?_, hrun, hended, _, _, rfl, ?_, ⟨_, rfl⟩, hW, hsame.mono (by decide) (by decide)⟩
  · exact retOut X6 hx Bd.returns rfl (Or.inl ⟨rfl, Or.inl rfl, _, rfl⟩) (hb hby d10_46) hr
  · show own_CP Z r2 cb (2 : Int32) h0 n0 _ T6.heap _
    rw [e6]
    exact ⟨rfl, N6, K0, _, Vd⟩
theorem ef_rmC2_2 (m : MethodId) (x0 : Addr) (x1 : Int32) (x2 : Int32) : entryFrame m #[(.ref x0), (.int x1), (.int x2)] 6 = mkF m 0 #[.val (.ref x0), .val (.int x1), .val (.int x2), .unset, .unset, .unset] [] := by first | (simp [entryFrame, mkF, argsToLocals, Value.category]; done) | rfl
set_option maxRecDepth 65536 in
set_option maxHeartbeats 40000000 in
theorem rmC2_2 (l : Launch) (Z : State) (a0 : Array Value) (hw : ∀ d ∈ tables_1, d.before a0 Z = true) (ws : List Jvm.Cond) (r0 : Addr) (ck : ClassId) (v0 v1 : Int32) (h0 : Heap) (n0 : Nat) (Z0 : n0 ≤ h0.size) (Vs : Arv Z h0 r0 ck .char (2 : Int32) [(.int v0), (.int v1)] (.int (0 : Int32))) (hv0 : ¬ (255 : Int32) < v0) (hv1 : ¬ (255 : Int32) < v1) :
    MetFree l (⟨"java/lang/StringUTF16", "compress", "([CII)[B"⟩ : MethodName) (head1 (Jvm.Cond.code (⟨"java/lang/StringUTF16", "compress", "([CII)[B"⟩ : MethodName) jdk_52_method_16_code 6 (some (.array .byte)) :: ws) ({ frames := 1, cells := 1, slots := 2, locals := 18 } : Room)) (fun a U => a = #[(.ref r0), (.int (0 : Int32)), (.int (2 : Int32))] ∧ Z.Warmed39 U.vm ∧ U.heap = h0) (fun _ _ _ _ _ => True) (fun _ U o U' => ∃ v L, o = .returned v ∧ own_CQ Z (2 : Int32) h0 n0 v U'.heap L ∧ FrameEnd U o U' L ({ frames := 1, cells := 1, slots := 2, locals := 18 } : Room).cells ({ frames := 1, cells := 1, slots := 2, locals := 18 } : Room).slots) := by
  refine MetFree.of_bodySF (plainFor_of_name pn_1) hisR ?_
  intro p e s m args below meth c s₁ Bd hml0 hP hK
  obtain ⟨rfl, hZ, hh⟩ := hP
  have hx := Bd.exec
  have hby := Bd.bytes
  have hml : c.maxLocals = 6 := hml0
  have hown : s.vm.findClass "java/lang/StringUTF16" = some m.cls := findClass_of_methodNamed Bd.named
  have hnm := (name_of_methodNamed Bd.named Bd.method).1
  have X0 : Stand p l e ({ frames := 1, cells := 1, slots := 2, locals := 18 } : Room) s m #[(.ref r0), (.int (0 : Int32)), (.int (2 : Int32))] below meth c s₁ [] 0 0 := Stand.of_body Bd
  have e0 : s₁.heap = h0 := by rw [← hh, Bd.state]; rfl
  have N0 := Fr.nil n0
  have pre0 : ∀ t, Steps p.tables e below (s₁.setTop (mkF m 0 #[.val (.ref r0), .val (.int (0 : Int32)), .val (.int (2 : Int32)), .unset, .unset, .unset] [])) t → Steps p.tables e below (s₁.setTop (entryFrame m #[(.ref r0), (.int (0 : Int32)), (.int (2 : Int32))] 6)) t := fun t k => castTop (ef_rmC2_2 m r0 (0 : Int32) (2 : Int32)) k
  have K0 : Keep h0 h0 [] := Keep.refl _ _
  obtain ⟨T1, h1, c1, X1, e1, E1, A1, st1⟩ := newP X0 hx hZ (hw _ (List.mem_of_getElem? (i := 26) rfl)) e0 (g := (mkF m 1 #[.val (.ref r0), .val (.int (0 : Int32)), .val (.int (2 : Int32)), .unset, .unset, .unset] [(.int (2 : Int32))])) rfl (hb hby d9_1) rfl (by decide) (cap := 2) (by decide) (by decide) (by decide) (by decide)
  obtain ⟨b1, g1⟩ : ∃ z, z = h0.size := ⟨_, rfl⟩
  rw [← g1] at A1 st1
  have ne_r0_b1 : r0 ≠ b1 := Nat.ne_of_lt (Nat.lt_of_lt_of_le Vs.lt (Nat.le_of_eq g1.symm))
  have gn_b1 : n0 ≤ b1 := Nat.le_trans Z0 (Nat.le_of_eq g1.symm)
  have sz_b1_K0 : h0.size ≤ b1 := Nat.le_trans K0.1 (Nat.le_of_eq g1.symm)
  replace Vs := Vs.ext E1
  replace K0 := K0.ext E1
  have Zs1 : n0 ≤ h1.size := Nat.le_trans Z0 E1.1
  have V_b1 : Arv Z h1 b1 c1 .byte (2 : Int32) [(.int (0 : Int32)), (.int (0 : Int32))] (.int (0 : Int32)) := (Arv.new A1 (by decide)).pad (pad_rep [] (.int (0 : Int32)) 2)
  obtain ⟨_, _, ⟨T2, L2, k2_, n2⟩, -, X2, ⟨Lc2, hQ2, l2, y2, z2⟩, st2⟩ := Jvm.LawKit.callS X1 hx (y := (⟨"java/lang/StringUTF16", "compress", "([CI[BII)I"⟩ : MethodName)) hown (mvT hZ (hw _ (List.mem_of_getElem? (i := 62) rfl))) (mvT hZ (hw _ (List.mem_of_getElem? (i := 63) rfl))) (mvT hZ (hw _ (List.mem_of_getElem? (i := 60) rfl))) (mvT hZ (hw _ (List.mem_of_getElem? (i := 64) rfl))) (by decide) (backOf (W := 0) (rmC1_2 l Z a0 hw [] r0 b1 ck c1 v0 v1 h1 n0 Zs1 gn_b1 ne_r0_b1 Vs V_b1 hv0 hv1) hZ (hw _ (List.mem_of_getElem? (i := 64) rfl)) (hw _ (List.mem_of_getElem? (i := 60) rfl)) (by decide) (by decide)) (g := (mkF m 9 #[.val (.ref r0), .val (.int (0 : Int32)), .val (.int (2 : Int32)), .val (.ref b1), .unset, .unset] [(.int (2 : Int32)), (.int (0 : Int32)), (.ref b1), (.int (0 : Int32)), (.ref r0)])) rfl (by rw [hml]; rfl) (argsL := [(.ref r0), (.int (0 : Int32)), (.ref b1), (.int (0 : Int32)), (.int (2 : Int32))]) (rest := []) (lenOf pd_1 rfl) rfl (by show 2 * 0 + _ ≤ _; exact Nat.le_of_eq rfl) (hb hby d9_9) (fun _ _ => ⟨rfl, e1, (by decide : 1 + 0 ≤ _), (by decide : 2 + 0 ≤ _)⟩)
  dsimp only [Pt.U, Pt.locs, Pt.cells, Pt.slots] at X2 l2 y2 z2 st2 hQ2
  subst l2 y2 z2
  obtain ⟨rfl, Nq2, Kq2, vs2, Vq2⟩ := hQ2
  have N2 := Fr.app N0 Nq2
  have Zs2 : n0 ≤ T2.heap.size := Nat.le_trans Zs1 Kq2.1
  replace Vs := Vs.keep Kq2 (fun q => ne_r0_b1 (List.mem_singleton.mp q))
  replace K0 := K0.trans Kq2 (fun x hx => by cases List.mem_singleton.mp hx; exact (Or.inr sz_b1_K0))
  have k3 : ∀ t, Steps p.tables e below (T2.setTop (mkF m 58 #[.val (.ref r0), .val (.int (0 : Int32)), .val (.int (2 : Int32)), .val (.ref b1), .val (.int (2 : Int32)), .unset] [(.ref b1)])) t → Steps p.tables e below (s₁.setTop (entryFrame m #[(.ref r0), (.int (0 : Int32)), (.int (2 : Int32))] 6)) t := by
    intro t k
    refine pre0 _ ?_
    show Steps p.tables e below (s₁.setTop (mkF m 0 #[.val (.ref r0), .val (.int (0 : Int32)), .val (.int (2 : Int32)), .unset, .unset, .unset] [])) _
    refine XS.iloadN X0.here hx rfl (hb hby d9_0) rfl ?_
    show Steps p.tables e below (s₁.setTop (mkF m 1 #[.val (.ref r0), .val (.int (0 : Int32)), .val (.int (2 : Int32)), .unset, .unset, .unset] [(.int (2 : Int32))])) _
    refine st1 _ ?_
    show Steps p.tables e below (T1.setTop (mkF m 3 #[.val (.ref r0), .val (.int (0 : Int32)), .val (.int (2 : Int32)), .unset, .unset, .unset] [(.ref b1)])) _
    refine XS.astoreN X1.here hx rfl (hb hby d9_3) rfl rfl (l' := #[.val (.ref r0), .val (.int (0 : Int32)), .val (.int (2 : Int32)), .val (.ref b1), .unset, .unset]) rfl ?_
    show Steps p.tables e below (T1.setTop (mkF m 4 #[.val (.ref r0), .val (.int (0 : Int32)), .val (.int (2 : Int32)), .val (.ref b1), .unset, .unset] [])) _
    refine XS.aloadN X1.here hx rfl (hb hby d9_4) rfl rfl ?_
    show Steps p.tables e below (T1.setTop (mkF m 5 #[.val (.ref r0), .val (.int (0 : Int32)), .val (.int (2 : Int32)), .val (.ref b1), .unset, .unset] [(.ref r0)])) _
    refine XS.iloadN X1.here hx rfl (hb hby d9_5) rfl ?_
    show Steps p.tables e below (T1.setTop (mkF m 6 #[.val (.ref r0), .val (.int (0 : Int32)), .val (.int (2 : Int32)), .val (.ref b1), .unset, .unset] [(.int (0 : Int32)), (.ref r0)])) _
    refine XS.aloadN X1.here hx rfl (hb hby d9_6) rfl rfl ?_
    show Steps p.tables e below (T1.setTop (mkF m 7 #[.val (.ref r0), .val (.int (0 : Int32)), .val (.int (2 : Int32)), .val (.ref b1), .unset, .unset] [(.ref b1), (.int (0 : Int32)), (.ref r0)])) _
    refine XS.iconst X1.here hx rfl (hb hby d9_7) ?_
    show Steps p.tables e below (T1.setTop (mkF m 8 #[.val (.ref r0), .val (.int (0 : Int32)), .val (.int (2 : Int32)), .val (.ref b1), .unset, .unset] [(.int (0 : Int32)), (.ref b1), (.int (0 : Int32)), (.ref r0)])) _
    refine XS.iloadN X1.here hx rfl (hb hby d9_8) rfl ?_
    show Steps p.tables e below (T1.setTop (mkF m 9 #[.val (.ref r0), .val (.int (0 : Int32)), .val (.int (2 : Int32)), .val (.ref b1), .unset, .unset] [(.int (2 : Int32)), (.int (0 : Int32)), (.ref b1), (.int (0 : Int32)), (.ref r0)])) _
    refine st2 _ ?_
    show Steps p.tables e below (T2.setTop (mkF m 12 #[.val (.ref r0), .val (.int (0 : Int32)), .val (.int (2 : Int32)), .val (.ref b1), .unset, .unset] [(.int (2 : Int32))])) _
    refine XS.istore X2.here hx rfl (hb hby d9_12) rfl (l' := #[.val (.ref r0), .val (.int (0 : Int32)), .val (.int (2 : Int32)), .val (.ref b1), .val (.int (2 : Int32)), .unset]) rfl ?_
    show Steps p.tables e below (T2.setTop (mkF m 14 #[.val (.ref r0), .val (.int (0 : Int32)), .val (.int (2 : Int32)), .val (.ref b1), .val (.int (2 : Int32)), .unset] [])) _
    refine XS.iload X2.here hx rfl (hb hby d9_14) rfl ?_
    show Steps p.tables e below (T2.setTop (mkF m 16 #[.val (.ref r0), .val (.int (0 : Int32)), .val (.int (2 : Int32)), .val (.ref b1), .val (.int (2 : Int32)), .unset] [(.int (2 : Int32))])) _
    refine XS.iloadN X2.here hx rfl (hb hby d9_16) rfl ?_
    show Steps p.tables e below (T2.setTop (mkF m 17 #[.val (.ref r0), .val (.int (0 : Int32)), .val (.int (2 : Int32)), .val (.ref b1), .val (.int (2 : Int32)), .unset] [(.int (2 : Int32)), (.int (2 : Int32))])) _
    refine XS.icmpYes X2.here hx rfl (pc0 := 17) (pc' := 57) rfl (hb hby d9_17) rfl (teq (by decide)).1 (by decide) (by decide) ?_
    show Steps p.tables e below (T2.setTop (mkF m 57 #[.val (.ref r0), .val (.int (0 : Int32)), .val (.int (2 : Int32)), .val (.ref b1), .val (.int (2 : Int32)), .unset] [])) _
    refine XS.aloadN X2.here hx rfl (hb hby d9_57) rfl rfl ?_
    exact k
  obtain ⟨fs, hr, hrun, hended, hW, hsame⟩ := X2.leave (v := some (.ref b1)) (fun h => by rw [Bd.returns] at h; cases h)
  refine ⟨_, _, k3 _ ?_, hrun, hended, _, _, rfl, ?_, ⟨_, rfl⟩, hW, hsame.mono (by decide) (by decide)⟩
  · exact retOut X2 hx Bd.returns rfl (Or.inr (Or.inr (Or.inr (Or.inr ⟨rfl, rfl, rfl⟩)))) (hb hby d9_58) hr
  · show own_CQ Z (2 : Int32) h0 n0 _ T2.heap _
    exact ⟨_, rfl, N2, K0, sz_b1_K0, gn_b1, _, _, Vq2⟩
theorem ef_rmCF_2 (m : MethodId) (x0 : Addr) (x1 : Int32) : entryFrame m #[(.ref x0), (.int x1)] 2 = mkF m 0 #[.val (.ref x0), .val (.int x1)] [] := by first | (simp [entryFrame, mkF, argsToLocals, Value.category]; done) | rfl
def own_cf2  : Int32 := (0 : Int32)
set_option maxRecDepth 65536 in
set_option maxHeartbeats 40000000 in
theorem rmCF_2 (l : Launch) (Z : State) (a0 : Array Value) (hw : ∀ d ∈ tables_1, d.before a0 Z = true) (ws : List Jvm.Cond) (r0 : Addr) (cb : ClassId) (vs0 : List Value) (h0 : Heap) (n0 : Nat) (Va : Arv Z h0 r0 cb .byte (2 : Int32) vs0 (.int (0 : Int32))) :
    MetFree l (⟨"java/lang/StringUTF16", "coderFromArrayLen", "([BI)B"⟩ : MethodName) (head1 (Jvm.Cond.code (⟨"java/lang/StringUTF16", "coderFromArrayLen", "([BI)B"⟩ : MethodName) jdk_52_method_15_code 2 (some .byte) :: ws) ({ frames := 0, cells := 0, slots := 0, locals := 0 } : Room)) (fun a U => a = #[(.ref r0), (.int (2 : Int32))] ∧ Z.Warmed39 U.vm ∧ U.heap = h0) (fun _ _ _ _ _ => True) (fun _ U o U' => ∃ v L, o = .returned v ∧ own_Q (some (.int (own_cf2 ))) h0 n0 v U'.heap L ∧ FrameEnd U o U' L ({ frames := 0, cells := 0, slots := 0, locals := 0 } : Room).cells ({ frames := 0, cells := 0, slots := 0, locals := 0 } : Room).slots) := by
  refine MetFree.of_bodySF (plainFor_of_name pn_1) hisR ?_
  intro p e s m args below meth c s₁ Bd hml0 hP hK
  obtain ⟨rfl, hZ, hh⟩ := hP
  have hx := Bd.exec
  have hby := Bd.bytes
  have hml : c.maxLocals = 2 := hml0
  have hown : s.vm.findClass "java/lang/StringUTF16" = some m.cls := findClass_of_methodNamed Bd.named
  have hnm := (name_of_methodNamed Bd.named Bd.method).1
  have X0 : Stand p l e ({ frames := 0, cells := 0, slots := 0, locals := 0 } : Room) s m #[(.ref r0), (.int (2 : Int32))] below meth c s₁ [] 0 0 := Stand.of_body Bd
  have e0 : s₁.heap = h0 := by rw [← hh, Bd.state]; rfl
  have N0 := Fr.nil n0
  have pre0 : ∀ t, Steps p.tables e below (s₁.setTop (mkF m 0 #[.val (.ref r0), .val (.int (2 : Int32))] [])) t → Steps p.tables e below (s₁.setTop (entryFrame m #[(.ref r0), (.int (2 : Int32))] 2)) t := fun t k => castTop (ef_rmCF_2 m r0 (2 : Int32)) k
  have k2 : ∀ t, Steps p.tables e below (s₁.setTop (mkF m 8 #[.val (.ref r0), .val (.int (2 : Int32))] [(.int (0 : Int32))])) t → Steps p.tables e below (s₁.setTop (entryFrame m #[(.ref r0), (.int (2 : Int32))] 2)) t := by
    intro t k
    refine pre0 _ ?_
    show Steps p.tables e below (s₁.setTop (mkF m 0 #[.val (.ref r0), .val (.int (2 : Int32))] [])) _
    refine XS.iloadN X0.here hx rfl (hb hby d11_0) rfl ?_
    show Steps p.tables e below (s₁.setTop (mkF m 1 #[.val (.ref r0), .val (.int (2 : Int32))] [(.int (2 : Int32))])) _
    refine XS.aloadN X0.here hx rfl (hb hby d11_1) rfl rfl ?_
    show Steps p.tables e below (s₁.setTop (mkF m 2 #[.val (.ref r0), .val (.int (2 : Int32))] [(.ref r0), (.int (2 : Int32))])) _
    obtain ⟨cl_1, Ar_1, -, S_1, N_1, -, -⟩ := id Va
    refine X0.arraylength hx (by rw [e0]; exact Ar_1.1) (State.isArrayOf_alike hZ.alike Ar_1.2.1) (g := (mkF m 2 #[.val (.ref r0), .val (.int (2 : Int32))] [(.ref r0), (.int (2 : Int32))])) rfl rfl (hb hby d11_2) _ ?_
    rw [len_of S_1 N_1]
    show Steps p.tables e below (s₁.setTop (mkF m 3 #[.val (.ref r0), .val (.int (2 : Int32))] [(.int (2 : Int32)), (.int (2 : Int32))])) _
    refine XS.isub X0.here hx rfl (hb hby d11_3) rfl ?_
    show Steps p.tables e below (s₁.setTop (mkF m 4 #[.val (.ref r0), .val (.int (2 : Int32))] [(.int (0 : Int32))])) _
    refine XS.bipush X0.here hx rfl (hb hby d11_4) ?_
    show Steps p.tables e below (s₁.setTop (mkF m 6 #[.val (.ref r0), .val (.int (2 : Int32))] [(.int (31 : Int32)), (.int (0 : Int32))])) _
    refine XS.iushr X0.here hx rfl (hb hby d11_6) rfl ?_
    show Steps p.tables e below (s₁.setTop (mkF m 7 #[.val (.ref r0), .val (.int (2 : Int32))] [(.int (0 : Int32))])) _
    refine XS.i2b X0.here hx rfl (hb hby d11_7) rfl ?_
    exact k
  obtain ⟨fs, hr, hrun, hended, hW, hsame⟩ := X0.leave (v := some (.int (0 : Int32))) (fun h => by rw [Bd.returns] at h; cases h)
  refine ⟨_, _, k2 _ ?_, hrun, hended, _, _, rfl, ?_, ⟨_, rfl⟩, hW, hsame.mono (by decide) (by decide)⟩
  · exact retN X0 hx (t := .byte) Bd.returns (by simp) (hb hby d11_8) hr
  · show own_Q (some (.int (own_cf2 ))) h0 n0 _ s₁.heap _
    rw [e0]
    exact ⟨rfl, N0, rfl⟩
theorem ef_rmS2_2 (m : MethodId) (x0 : Addr) (x1 : Addr) (x2 : Int32) (x3 : Int32) : entryFrame m #[(.ref x0), (.ref x1), (.int x2), (.int x3), .null] 6 = mkF m 0 #[.val (.ref x0), .val (.ref x1), .val (.int x2), .val (.int x3), .val .null, .unset] [] := by first | (simp [entryFrame, mkF, argsToLocals, Value.category]; done) | rfl
set_option maxRecDepth 65536 in
set_option maxHeartbeats 40000000 in
theorem rmS2_2 (l : Launch) (Z : State) (a0 : Array Value) (hw : ∀ d ∈ tables_1, d.before a0 Z = true) (ws : List Jvm.Cond) (r0 : Addr) (r1 : Addr) (ck : ClassId) (v0 v1 : Int32) (w_CS : Int32) (h0 : Heap) (n0 : Nat) (hG : own_GC Z w_CS) (O0 : Old Z n0 h0) (Z0 : n0 ≤ h0.size) (g_r0 : n0 ≤ r0) (E_r0 : Exa Z h0 r0 "java/lang/String") (F_value_r0 : Fld Z h0 r0 "java/lang/String" "value" "[B" .null) (F_coder_r0 : Fld Z h0 r0 "java/lang/String" "coder" "B" (.int (0 : Int32))) (hne : r1 ≠ r0) (Vs : Arv Z h0 r1 ck .char (2 : Int32) [(.int v0), (.int v1)] (.int (0 : Int32))) (hv0 : ¬ (255 : Int32) < v0) (hv1 : ¬ (255 : Int32) < v1) :
    MetFree l (⟨"java/lang/String", "<init>", "([CIILjava/lang/Void;)V"⟩ : MethodName) (head1 (Jvm.Cond.code (⟨"java/lang/String", "<init>", "([CIILjava/lang/Void;)V"⟩ : MethodName) jdk_42_method_149_code 6 none :: ws) ({ frames := 2, cells := 1, slots := 2, locals := 35 } : Room)) (fun a U => a = #[(.ref r0), (.ref r1), (.int (0 : Int32)), (.int (2 : Int32)), .null] ∧ Z.Warmed39 U.vm ∧ U.heap = h0) (fun _ _ _ _ _ => True) (fun _ U o U' => ∃ v L, o = .returned v ∧ own_SI Z r0 (2 : Int32) h0 n0 v U'.heap L ∧ FrameEnd U o U' L ({ frames := 2, cells := 1, slots := 2, locals := 35 } : Room).cells ({ frames := 2, cells := 1, slots := 2, locals := 35 } : Room).slots) := by
  refine MetFree.of_bodySF (plainFor_of_name pn_0) hisR ?_
  intro p e s m args below meth c s₁ Bd hml0 hP hK
  obtain ⟨rfl, hZ, hh⟩ := hP
  have hx := Bd.exec
  have hby := Bd.bytes
  have hml : c.maxLocals = 6 := hml0
  have hown : s.vm.findClass "java/lang/String" = some m.cls := findClass_of_methodNamed Bd.named
  have hnm := (name_of_methodNamed Bd.named Bd.method).1
  have X0 : Stand p l e ({ frames := 2, cells := 1, slots := 2, locals := 35 } : Room) s m #[(.ref r0), (.ref r1), (.int (0 : Int32)), (.int (2 : Int32)), .null] below meth c s₁ [] 0 0 := Stand.of_body Bd
  have e0 : s₁.heap = h0 := by rw [← hh, Bd.state]; rfl
  have N0 := Fr.nil n0
  have pre0 : ∀ t, Steps p.tables e below (s₁.setTop (mkF m 0 #[.val (.ref r0), .val (.ref r1), .val (.int (0 : Int32)), .val (.int (2 : Int32)), .val .null, .unset] [])) t → Steps p.tables e below (s₁.setTop (entryFrame m #[(.ref r0), (.ref r1), (.int (0 : Int32)), (.int (2 : Int32)), .null] 6)) t := fun t k => castTop (ef_rmS2_2 m r0 r1 (0 : Int32) (2 : Int32)) k
  have hG' := hG
  obtain ⟨S_CS, hCS⟩ := hG'
  have K0 : Keep h0 h0 [r0] := Keep.refl _ _
  obtain ⟨T1, X1, e1, st1⟩ := initO X0 hx hZ hown (hw _ (List.mem_of_getElem? (i := 22) rfl)) (hw _ (List.mem_of_getElem? (i := 23) rfl)) (hw _ (List.mem_of_getElem? (i := 24) rfl)) e0 (g := (mkF m 1 #[.val (.ref r0), .val (.ref r1), .val (.int (0 : Int32)), .val (.int (2 : Int32)), .val .null, .unset] [(.ref r0)])) rfl (by rw [hml]; rfl) rfl (hb hby d4_1) (by decide) (W := 0) (by show 2 * 0 + _ ≤ _; exact Nat.le_of_eq rfl) (by decide)
  obtain ⟨T2, X2, e2, st2⟩ := getS2 X1 hx hZ hown (host := "") (Or.inl (hw _ (List.mem_of_getElem? (i := 57) rfl))) Via.refl e1 (S_CS.ext O0.2) (g := (mkF m 27 #[.val (.ref r0), .val (.ref r1), .val (.int (0 : Int32)), .val (.int (2 : Int32)), .val .null, .unset] [])) rfl (hb hby d4_27)
  obtain ⟨_, _, ⟨T3, L3, k3_, n3⟩, -, X3, ⟨Lc3, hQ3, l3, y3, z3⟩, st3⟩ := Jvm.LawKit.callS X2 hx (y := (⟨"java/lang/StringUTF16", "compress", "([CII)[B"⟩ : MethodName)) hown (mvT hZ (hw _ (List.mem_of_getElem? (i := 58) rfl))) (mvT hZ (hw _ (List.mem_of_getElem? (i := 59) rfl))) (mvT hZ (hw _ (List.mem_of_getElem? (i := 60) rfl))) (mvT hZ (hw _ (List.mem_of_getElem? (i := 61) rfl))) (by decide) (backOf (W := 0) (rmC2_2 l Z a0 hw [] r1 ck v0 v1 h0 n0 (O0.1 ▸ O0.2.1) Vs hv0 hv1) hZ (hw _ (List.mem_of_getElem? (i := 61) rfl)) (hw _ (List.mem_of_getElem? (i := 60) rfl)) (by decide) (by decide)) (g := (mkF m 36 #[.val (.ref r0), .val (.ref r1), .val (.int (0 : Int32)), .val (.int (2 : Int32)), .val .null, .unset] [(.int (2 : Int32)), (.int (0 : Int32)), (.ref r1)])) rfl (by rw [hml]; rfl) (argsL := [(.ref r1), (.int (0 : Int32)), (.int (2 : Int32))]) (rest := []) (lenOf pd_2 rfl) rfl (by show 2 * 0 + _ ≤ _; exact Nat.le_of_eq rfl) (hb hby d4_36) (fun _ _ => ⟨rfl, e2, (by decide : 0 + 1 ≤ _), (by decide : 0 + 2 ≤ _)⟩)
  dsimp only [Pt.U, Pt.locs, Pt.cells, Pt.slots] at X3 l3 y3 z3 st3 hQ3
  subst l3 y3 z3
  obtain ⟨b3, rfl, Nq3, Kq3, szq3, gn_b3, kq3, vs3, Vq3⟩ := hQ3
  have N3 := Fr.app N0 Nq3
  have ne_r1_b3 : r1 ≠ b3 := Nat.ne_of_lt (Nat.lt_of_lt_of_le Vs.lt szq3)
  have ne_r0_b3 : r0 ≠ b3 := Nat.ne_of_lt (Nat.lt_of_lt_of_le E_r0.lt szq3)
  replace Vs := Vs.keep Kq3 List.not_mem_nil
  replace E_r0 := E_r0.keep Kq3
  replace F_value_r0 := F_value_r0.keep Kq3 List.not_mem_nil
  replace F_coder_r0 := F_coder_r0.keep Kq3 List.not_mem_nil
  replace O0 := O0.keep Kq3 (fun x hx => nomatch hx)
  replace K0 := K0.trans Kq3 (fun x hx => nomatch hx)
  obtain ⟨_, _, ⟨T4, L4, k4_, n4⟩, -, X4, ⟨Lc4, hQ4, l4, y4, z4⟩, st4⟩ := Jvm.LawKit.callS X3 hx (y := (⟨"java/lang/StringUTF16", "coderFromArrayLen", "([BI)B"⟩ : MethodName)) hown (mvT hZ (hw _ (List.mem_of_getElem? (i := 65) rfl))) (mvT hZ (hw _ (List.mem_of_getElem? (i := 66) rfl))) (mvT hZ (hw _ (List.mem_of_getElem? (i := 60) rfl))) (mvT hZ (hw _ (List.mem_of_getElem? (i := 67) rfl))) (by decide) (backOf (W := 1) (rmCF_2 l Z a0 hw [] b3 kq3 vs3 T3.heap n0 Vq3) hZ (hw _ (List.mem_of_getElem? (i := 67) rfl)) (hw _ (List.mem_of_getElem? (i := 60) rfl)) (by decide) (by decide)) (g := (mkF m 45 #[.val (.ref r0), .val (.ref r1), .val (.int (0 : Int32)), .val (.int (2 : Int32)), .val .null, .val (.ref b3)] [(.int (2 : Int32)), (.ref b3), (.ref r0)])) rfl (by rw [hml]; rfl) (argsL := [(.ref b3), (.int (2 : Int32))]) (rest := [(.ref r0)]) (lenOf pd_3 rfl) rfl (by show 2 * 0 + _ ≤ _; exact Nat.le_of_eq rfl) (hb hby d4_45) (fun _ _ => ⟨rfl, rfl, (by decide : 1 + 0 ≤ _), (by decide : 2 + 0 ≤ _)⟩)
  dsimp only [Pt.U, Pt.locs, Pt.cells, Pt.slots] at X4 l4 y4 z4 st4 hQ4
  subst l4 y4 z4
  obtain ⟨rfl, Nq4, e4⟩ := hQ4
  have N4 := Fr.app N3 Nq4
  obtain ⟨T5, h5, X5, e5, W5, st5⟩ := putFN X4 hx hZ hown (hw _ (List.mem_of_getElem? (i := 32) rfl)) Via.refl e4 F_coder_r0 E_r0 (Or.inr ⟨(hw _ (List.mem_of_getElem? (i := 28) rfl)), rfl, hnm⟩) (hw _ (List.mem_of_getElem? (i := 12) rfl)) (ty := .byte) (v' := (.int ((0 : Int32).toInt8.toInt32))) (by decide) rfl (fits_nar_byte _) (g := (mkF m 48 #[.val (.ref r0), .val (.ref r1), .val (.int (0 : Int32)), .val (.int (2 : Int32)), .val .null, .val (.ref b3)] [(.int (0 : Int32)), (.ref r0)])) rfl rfl (hb hby d4_48)
  replace Vs := Vs.other W5 hne
  replace E_r0 := E_r0.wr W5
  replace F_value_r0 := F_value_r0.other W5 (Or.inr (slot_ne (Or.inr (hw _ (List.mem_of_getElem? (i := 27) rfl))) (Or.inr (hw _ (List.mem_of_getElem? (i := 28) rfl))) (by decide) (t := (.array .byte)) (t' := .byte) (by decide) (by decide)))
  replace Vq3 := Vq3.other W5 (Ne.symm ne_r0_b3)
  replace O0 := O0.wr W5 g_r0
  replace K0 := K0.wr W5 (Or.inl (List.mem_of_getElem? (i := 0) rfl))
  replace F_coder_r0 := F_coder_r0.same W5
  have N5 := Fr.snoc X5 N4 g_r0
  obtain ⟨T6, h6, X6, e6, W6, st6⟩ := putF X5 hx hZ hown (host := "") (Or.inl (hw _ (List.mem_of_getElem? (i := 31) rfl))) Via.refl e5 F_value_r0 E_r0 (Or.inr ⟨(hw _ (List.mem_of_getElem? (i := 27) rfl)), rfl, hnm⟩) (hw _ (List.mem_of_getElem? (i := 12) rfl)) (ty := (.array .byte)) (by decide) rfl rfl (g := (mkF m 54 #[.val (.ref r0), .val (.ref r1), .val (.int (0 : Int32)), .val (.int (2 : Int32)), .val .null, .val (.ref b3)] [(.ref b3), (.ref r0)])) rfl rfl (hb hby d4_54)
  replace Vs := Vs.other W6 hne
  replace E_r0 := E_r0.wr W6
  replace F_coder_r0 := F_coder_r0.other W6 (Or.inr (slot_ne (Or.inr (hw _ (List.mem_of_getElem? (i := 28) rfl))) (Or.inr (hw _ (List.mem_of_getElem? (i := 27) rfl))) (by decide) (t := .byte) (t' := (.array .byte)) (by decide) (by decide)))
  replace Vq3 := Vq3.other W6 (Ne.symm ne_r0_b3)
  replace O0 := O0.wr W6 g_r0
  replace K0 := K0.wr W6 (Or.inl (List.mem_of_getElem? (i := 0) rfl))
  replace F_value_r0 := F_value_r0.same W6
  have N6 := Fr.snoc X6 N5 g_r0
  have k7 : ∀ t, Steps p.tables e below (T6.setTop (mkF m 57 #[.val (.ref r0), .val (.ref r1), .val (.int (0 : Int32)), .val (.int (2 : Int32)), .val .null, .val (.ref b3)] [])) t → Steps p.tables e below (s₁.setTop (entryFrame m #[(.ref r0), (.ref r1), (.int (0 : Int32)), (.int (2 : Int32)), .null] 6)) t := by
    intro t k
    refine pre0 _ ?_
    show Steps p.tables e below (s₁.setTop (mkF m 0 #[.val (.ref r0), .val (.ref r1), .val (.int (0 : Int32)), .val (.int (2 : Int32)), .val .null, .unset] [])) _
    refine XS.aloadN X0.here hx rfl (hb hby d4_0) rfl rfl ?_
    show Steps p.tables e below (s₁.setTop (mkF m 1 #[.val (.ref r0), .val (.ref r1), .val (.int (0 : Int32)), .val (.int (2 : Int32)), .val .null, .unset] [(.ref r0)])) _
    refine st1 _ ?_
    show Steps p.tables e below (T1.setTop (mkF m 4 #[.val (.ref r0), .val (.ref r1), .val (.int (0 : Int32)), .val (.int (2 : Int32)), .val .null, .unset] [])) _
    refine XS.iloadN X1.here hx rfl (hb hby d4_4) rfl ?_
    show Steps p.tables e below (T1.setTop (mkF m 5 #[.val (.ref r0), .val (.ref r1), .val (.int (0 : Int32)), .val (.int (2 : Int32)), .val .null, .unset] [(.int (2 : Int32))])) _
    refine XS.ifYes X1.here hx rfl (pc0 := 5) (pc' := 27) rfl (hb hby d4_5) rfl ((if0 _ _).trans (feq (by decide)).2) (by decide) (by decide) ?_
    show Steps p.tables e below (T1.setTop (mkF m 27 #[.val (.ref r0), .val (.ref r1), .val (.int (0 : Int32)), .val (.int (2 : Int32)), .val .null, .unset] [])) _
    refine st2 _ ?_
    show Steps p.tables e below (T2.setTop (mkF m 30 #[.val (.ref r0), .val (.ref r1), .val (.int (0 : Int32)), .val (.int (2 : Int32)), .val .null, .unset] [(.int w_CS)])) _
    refine XS.ifNo X2.here hx rfl (hb hby d4_30) rfl ((if0 _ _).trans (feq hCS).1) ?_
    show Steps p.tables e below (T2.setTop (mkF m 33 #[.val (.ref r0), .val (.ref r1), .val (.int (0 : Int32)), .val (.int (2 : Int32)), .val .null, .unset] [])) _
    refine XS.aloadN X2.here hx rfl (hb hby d4_33) rfl rfl ?_
    show Steps p.tables e below (T2.setTop (mkF m 34 #[.val (.ref r0), .val (.ref r1), .val (.int (0 : Int32)), .val (.int (2 : Int32)), .val .null, .unset] [(.ref r1)])) _
    refine XS.iloadN X2.here hx rfl (hb hby d4_34) rfl ?_
    show Steps p.tables e below (T2.setTop (mkF m 35 #[.val (.ref r0), .val (.ref r1), .val (.int (0 : Int32)), .val (.int (2 : Int32)), .val .null, .unset] [(.int (0 : Int32)), (.ref r1)])) _
    refine XS.iloadN X2.here hx rfl (hb hby d4_35) rfl ?_
    show Steps p.tables e below (T2.setTop (mkF m 36 #[.val (.ref r0), .val (.ref r1), .val (.int (0 : Int32)), .val (.int (2 : Int32)), .val .null, .unset] [(.int (2 : Int32)), (.int (0 : Int32)), (.ref r1)])) _
    refine st3 _ ?_
    show Steps p.tables e below (T3.setTop (mkF m 39 #[.val (.ref r0), .val (.ref r1), .val (.int (0 : Int32)), .val (.int (2 : Int32)), .val .null, .unset] [(.ref b3)])) _
    refine XS.astore X3.here hx rfl (hb hby d4_39) rfl rfl (l' := #[.val (.ref r0), .val (.ref r1), .val (.int (0 : Int32)), .val (.int (2 : Int32)), .val .null, .val (.ref b3)]) rfl ?_
    show Steps p.tables e below (T3.setTop (mkF m 41 #[.val (.ref r0), .val (.ref r1), .val (.int (0 : Int32)), .val (.int (2 : Int32)), .val .null, .val (.ref b3)] [])) _
    refine XS.aloadN X3.here hx rfl (hb hby d4_41) rfl rfl ?_
    show Steps p.tables e below (T3.setTop (mkF m 42 #[.val (.ref r0), .val (.ref r1), .val (.int (0 : Int32)), .val (.int (2 : Int32)), .val .null, .val (.ref b3)] [(.ref r0)])) _
    refine XS.aload X3.here hx rfl (hb hby d4_42) rfl rfl ?_
    show Steps p.tables e below (T3.setTop (mkF m 44 #[.val (.ref r0), .val (.ref r1), .val (.int (0 : Int32)), .val (.int (2 : Int32)), .val .null, .val (.ref b3)] [(.ref b3), (.ref r0)])) _
    refine XS.iloadN X3.here hx rfl (hb hby d4_44) rfl ?_
    show Steps p.tables e below (T3.setTop (mkF m 45 #[.val (.ref r0), .val (.ref r1), .val (.int (0 : Int32)), .val (.int (2 : Int32)), .val .null, .val (.ref b3)] [(.int (2 : Int32)), (.ref b3), (.ref r0)])) _
    refine st4 _ ?_
    show Steps p.tables e below (T4.setTop (mkF m 48 #[.val (.ref r0), .val (.ref r1), .val (.int (0 : Int32)), .val (.int (2 : Int32)), .val .null, .val (.ref b3)] [(.int (0 : Int32)), (.ref r0)])) _
    refine st5 _ ?_
    show Steps p.tables e below (T5.setTop (mkF m 51 #[.val (.ref r0), .val (.ref r1), .val (.int (0 : Int32)), .val (.int (2 : Int32)), .val .null, .val (.ref b3)] [])) _
    refine XS.aloadN X5.here hx rfl (hb hby d4_51) rfl rfl ?_
    show Steps p.tables e below (T5.setTop (mkF m 52 #[.val (.ref r0), .val (.ref r1), .val (.int (0 : Int32)), .val (.int (2 : Int32)), .val .null, .val (.ref b3)] [(.ref r0)])) _
    refine XS.aload X5.here hx rfl (hb hby d4_52) rfl rfl ?_
    show Steps p.tables e below (T5.setTop (mkF m 54 #[.val (.ref r0), .val (.ref r1), .val (.int (0 : Int32)), .val (.int (2 : Int32)), .val .null, .val (.ref b3)] [(.ref b3), (.ref r0)])) _
    refine st6 _ ?_
    exact k
  obtain ⟨fs, hr, hrun, hended, hW, hsame⟩ := X6.leave (v := none) (fun _ => rfl)
  refine ⟨_, _, k7 _ ?_, hrun, hended, _, _, rfl, ?_, ⟨_, rfl⟩, hW, hsame.mono (by decide) (by decide)⟩
  · exact X6.returnOut hx Bd.returns (hb hby d4_57) hr
  · show own_SI Z r0 (2 : Int32) h0 n0 _ T6.heap _
    rw [e6]
    exact ⟨rfl, N6, K0, E_r0, _, _, _, F_value_r0, Vq3⟩
theorem ef_rmS1_2 (m : MethodId) (x0 : Addr) (x1 : Addr) : entryFrame m #[(.ref x0), (.ref x1)] 2 = mkF m 0 #[.val (.ref x0), .val (.ref x1)] [] := by first | (simp [entryFrame, mkF, argsToLocals, Value.category]; done) | rfl
set_option maxRecDepth 65536 in
set_option maxHeartbeats 40000000 in
theorem rmS1_2 (l : Launch) (Z : State) (a0 : Array Value) (hw : ∀ d ∈ tables_1, d.before a0 Z = true) (ws : List Jvm.Cond) (r0 : Addr) (r1 : Addr) (ck : ClassId) (v0 v1 : Int32) (w_CS : Int32) (h0 : Heap) (n0 : Nat) (hG : own_GC Z w_CS) (O0 : Old Z n0 h0) (Z0 : n0 ≤ h0.size) (g_r0 : n0 ≤ r0) (E_r0 : Exa Z h0 r0 "java/lang/String") (F_value_r0 : Fld Z h0 r0 "java/lang/String" "value" "[B" .null) (F_coder_r0 : Fld Z h0 r0 "java/lang/String" "coder" "B" (.int (0 : Int32))) (hne : r1 ≠ r0) (Vs : Arv Z h0 r1 ck .char (2 : Int32) [(.int v0), (.int v1)] (.int (0 : Int32))) (hv0 : ¬ (255 : Int32) < v0) (hv1 : ¬ (255 : Int32) < v1) :
    MetFree l (⟨"java/lang/String", "<init>", "([C)V"⟩ : MethodName) (head1 (Jvm.Cond.code (⟨"java/lang/String", "<init>", "([C)V"⟩ : MethodName) jdk_42_method_3_code 2 none :: ws) ({ frames := 3, cells := 1, slots := 2, locals := 52 } : Room)) (fun a U => a = #[(.ref r0), (.ref r1)] ∧ Z.Warmed39 U.vm ∧ U.heap = h0) (fun _ _ _ _ _ => True) (fun _ U o U' => ∃ v L, o = .returned v ∧ own_SI Z r0 (2 : Int32) h0 n0 v U'.heap L ∧ FrameEnd U o U' L ({ frames := 3, cells := 1, slots := 2, locals := 52 } : Room).cells ({ frames := 3, cells := 1, slots := 2, locals := 52 } : Room).slots) := by
  refine MetFree.of_bodySF (plainFor_of_name pn_0) hisR ?_
  intro p e s m args below meth c s₁ Bd hml0 hP hK
  obtain ⟨rfl, hZ, hh⟩ := hP
  have hx := Bd.exec
  have hby := Bd.bytes
  have hml : c.maxLocals = 2 := hml0
  have hown : s.vm.findClass "java/lang/String" = some m.cls := findClass_of_methodNamed Bd.named
  have hnm := (name_of_methodNamed Bd.named Bd.method).1
  have X0 : Stand p l e ({ frames := 3, cells := 1, slots := 2, locals := 52 } : Room) s m #[(.ref r0), (.ref r1)] below meth c s₁ [] 0 0 := Stand.of_body Bd
  have e0 : s₁.heap = h0 := by rw [← hh, Bd.state]; rfl
  have N0 := Fr.nil n0
  have pre0 : ∀ t, Steps p.tables e below (s₁.setTop (mkF m 0 #[.val (.ref r0), .val (.ref r1)] [])) t → Steps p.tables e below (s₁.setTop (entryFrame m #[(.ref r0), (.ref r1)] 2)) t := fun t k => castTop (ef_rmS1_2 m r0 r1) k
  have hG' := hG
  obtain ⟨S_CS, hCS⟩ := hG'
  have K0 : Keep h0 h0 [r0] := Keep.refl _ _
  have k2 : ∀ t, Steps p.tables e below (s₁.setTop (mkF m 6 #[.val (.ref r0), .val (.ref r1)] [.null, (.int (2 : Int32)), (.int (0 : Int32)), (.ref r1), (.ref r0)])) t → Steps p.tables e below (s₁.setTop (entryFrame m #[(.ref r0), (.ref r1)] 2)) t := by
    intro t k
    refine pre0 _ ?_
    show Steps p.tables e below (s₁.setTop (mkF m 0 #[.val (.ref r0), .val (.ref r1)] [])) _
    refine XS.aloadN X0.here hx rfl (hb hby d3_0) rfl rfl ?_
    show Steps p.tables e below (s₁.setTop (mkF m 1 #[.val (.ref r0), .val (.ref r1)] [(.ref r0)])) _
    refine XS.aloadN X0.here hx rfl (hb hby d3_1) rfl rfl ?_
    show Steps p.tables e below (s₁.setTop (mkF m 2 #[.val (.ref r0), .val (.ref r1)] [(.ref r1), (.ref r0)])) _
    refine XS.iconst X0.here hx rfl (hb hby d3_2) ?_
    show Steps p.tables e below (s₁.setTop (mkF m 3 #[.val (.ref r0), .val (.ref r1)] [(.int (0 : Int32)), (.ref r1), (.ref r0)])) _
    refine XS.aloadN X0.here hx rfl (hb hby d3_3) rfl rfl ?_
    show Steps p.tables e below (s₁.setTop (mkF m 4 #[.val (.ref r0), .val (.ref r1)] [(.ref r1), (.int (0 : Int32)), (.ref r1), (.ref r0)])) _
    obtain ⟨cl_1, Ar_1, -, S_1, N_1, -, -⟩ := id Vs
    refine X0.arraylength hx (by rw [e0]; exact Ar_1.1) (State.isArrayOf_alike hZ.alike Ar_1.2.1) (g := (mkF m 4 #[.val (.ref r0), .val (.ref r1)] [(.ref r1), (.int (0 : Int32)), (.ref r1), (.ref r0)])) rfl rfl (hb hby d3_4) _ ?_
    rw [len_of S_1 N_1]
    show Steps p.tables e below (s₁.setTop (mkF m 5 #[.val (.ref r0), .val (.ref r1)] [(.int (2 : Int32)), (.int (0 : Int32)), (.ref r1), (.ref r0)])) _
    refine XS.aconstNull X0.here hx rfl (hb hby d3_5) ?_
    exact k
  obtain ⟨_, _, ⟨T3, L3, k3_, n3⟩, -, X3, ⟨Lc3, hQ3, l3, y3, z3⟩, st3⟩ := X0.specialBack hx (y := (⟨"java/lang/String", "<init>", "([CIILjava/lang/Void;)V"⟩ : MethodName)) rfl hown (mvT hZ (hw _ (List.mem_of_getElem? (i := 18) rfl))) (mvT hZ (hw _ (List.mem_of_getElem? (i := 19) rfl))) (mvT hZ (hw _ (List.mem_of_getElem? (i := 21) rfl))) (by decide) (backOf (W := 0) (rmS2_2 l Z a0 hw [] r0 r1 ck v0 v1 w_CS h0 n0 hG O0 (O0.1 ▸ O0.2.1) g_r0 E_r0 F_value_r0 F_coder_r0 hne Vs hv0 hv1) hZ (hw _ (List.mem_of_getElem? (i := 21) rfl)) (hw _ (List.mem_of_getElem? (i := 13) rfl)) (by decide) (by decide)) (g := (mkF m 6 #[.val (.ref r0), .val (.ref r1)] [.null, (.int (2 : Int32)), (.int (0 : Int32)), (.ref r1), (.ref r0)])) rfl (by rw [hml]; rfl) (Steps.refl _) (a := r0) (argsL := [(.ref r1), (.int (0 : Int32)), (.int (2 : Int32)), .null]) (rest := []) (lenOf pd_0 rfl) rfl (by show 2 * 0 + _ ≤ _; exact Nat.le_of_eq rfl) (hb hby d3_6) (fun _ _ => ⟨rfl, e0, (by decide : 0 + 1 ≤ _), (by decide : 0 + 2 ≤ _)⟩)
  dsimp only [Pt.U, Pt.locs, Pt.cells, Pt.slots] at X3 l3 y3 z3 st3 hQ3
  subst l3 y3 z3
  obtain ⟨rfl, Nq3, Kq3, Eq3, bv3, kq3, vs3, Fq3, Vq3⟩ := hQ3
  have N3 := Fr.app N0 Nq3
  replace Vs := Vs.keep Kq3 (fun q => hne (List.mem_singleton.mp q))
  replace E_r0 := E_r0.keep Kq3
  replace O0 := O0.keep Kq3 (fun x hx => by cases List.mem_singleton.mp hx; exact g_r0)
  replace K0 := K0.trans Kq3 (fun x hx => by cases List.mem_singleton.mp hx; exact (Or.inl (List.mem_of_getElem? (i := 0) rfl)))
  have k4 : ∀ t, Steps p.tables e below (T3.setTop (mkF m 9 #[.val (.ref r0), .val (.ref r1)] [])) t → Steps p.tables e below (s₁.setTop (entryFrame m #[(.ref r0), (.ref r1)] 2)) t := by
    intro t k
    refine k2 _ ?_
    show Steps p.tables e below (s₁.setTop (mkF m 6 #[.val (.ref r0), .val (.ref r1)] [.null, (.int (2 : Int32)), (.int (0 : Int32)), (.ref r1), (.ref r0)])) _
    refine st3.trans ?_
    exact k
  obtain ⟨fs, hr, hrun, hended, hW, hsame⟩ := X3.leave (v := none) (fun _ => rfl)
  refine ⟨_, _, k4 _ ?_, hrun, hended, _, _, rfl, ?_, ⟨_, rfl⟩, hW, hsame.mono (by decide) (by decide)⟩
  · exact X3.returnOut hx Bd.returns (hb hby d3_9) hr
  · show own_SI Z r0 (2 : Int32) h0 n0 _ T3.heap _
    exact ⟨rfl, N3, K0, E_r0, _, _, _, Fq3, Vq3⟩
theorem own_c2 (p : Int32) : ¬ (255 : Int32) < (nar .char ((p &&& (255 : Int32)).toUInt32.toUInt16.toUInt32.toInt32)) := by
  have a := c_mask p 255 8 (by decide) (by decide)
  have b := c_i2c (p &&& 255)
  have d := c_i2c ((p &&& 255).toUInt32.toUInt16.toUInt32.toInt32)
  have z : (255 : Int32).toInt = 255 := by decide
  rw [Int32.lt_iff_toInt_lt]
  show ¬ _ < (((p &&& 255).toUInt32.toUInt16.toUInt32.toInt32).toUInt32.toUInt16.toUInt32.toInt32).toInt
  omega
def own_TQ (Z : State) (h0 : Heap) (n0 : Nat) (v : Option Value) (h : Heap) (L : List Loc) : Prop := ∃ b : Addr, v = some (.ref b) ∧ Fr n0 L ∧ Keep h0 h [] ∧ Exa Z h b "java/lang/String"
theorem pn_2 : plainName "com/example/wee_wrapper/weewrapper/model/TokenIsTagPinLaw" = true := by first | (simp [plainName, overriddenIn]; done) | decide +kernel
theorem ef_rm2 (m : MethodId) (x0 : Int32) (x1 : Int32) (x2 : Int32) : entryFrame m #[(.int x0), (.int x1), (.int x2)] 7 = mkF m 0 #[.val (.int x0), .val (.int x1), .val (.int x2), .unset, .unset, .unset, .unset] [] := by first | (simp [entryFrame, mkF, argsToLocals, Value.category]; done) | rfl
theorem d2_0 : decode method_3_code 0 = .ok (.iload_n 1, 1) := by decide +kernel
theorem d2_1 : decode method_3_code 1 = .ok (.sipush 255, 3) := by decide +kernel
theorem d2_4 : decode method_3_code 4 = .ok (.iand, 1) := by decide +kernel
theorem d2_5 : decode method_3_code 5 = .ok (.i2c, 1) := by decide +kernel
theorem d2_6 : decode method_3_code 6 = .ok (.istore_n 3, 1) := by decide +kernel
theorem d2_7 : decode method_3_code 7 = .ok (.iload_n 2, 1) := by decide +kernel
theorem d2_8 : decode method_3_code 8 = .ok (.sipush 255, 3) := by decide +kernel
theorem d2_11 : decode method_3_code 11 = .ok (.iand, 1) := by decide +kernel
theorem d2_12 : decode method_3_code 12 = .ok (.i2c, 1) := by decide +kernel
theorem d2_13 : decode method_3_code 13 = .ok (.istore 4, 2) := by decide +kernel
theorem d2_15 : decode method_3_code 15 = .ok (.iload_n 0, 1) := by decide +kernel
theorem d2_16 : decode method_3_code 16 = .ok (.ldc 22, 2) := by decide +kernel
theorem d2_18 : decode method_3_code 18 = .ok (.iand, 1) := by decide +kernel
theorem d2_19 : decode method_3_code 19 = .ok (.iconst 3, 1) := by decide +kernel
theorem d2_20 : decode method_3_code 20 = .ok (.irem, 1) := by decide +kernel
theorem d2_21 : decode method_3_code 21 = .ok (.istore 5, 2) := by decide +kernel
theorem d2_23 : decode method_3_code 23 = .ok (.iload 5, 2) := by decide +kernel
theorem d2_25 : decode method_3_code 25 = .ok (.ifCond .ne 18, 3) := by decide +kernel
theorem d2_28 : decode method_3_code 28 = .ok (.new 23, 3) := by decide +kernel
theorem d2_31 : decode method_3_code 31 = .ok (.dup, 1) := by decide +kernel
theorem d2_32 : decode method_3_code 32 = .ok (.iconst 0, 1) := by decide +kernel
theorem d2_33 : decode method_3_code 33 = .ok (.newarray .char, 2) := by decide +kernel
theorem pd_4 : parseMethodDescriptor "([C)V" = some ⟨[(.array .char)], none⟩ := by decide +kernel
theorem d2_35 : decode method_3_code 35 = .ok (.invokespecial 25, 3) := by decide +kernel
theorem d2_38 : decode method_3_code 38 = .ok (.astore 6, 2) := by decide +kernel
theorem d2_40 : decode method_3_code 40 = .ok (.goto 49, 3) := by decide +kernel
theorem d2_89 : decode method_3_code 89 = .ok (.aload 6, 2) := by decide +kernel
theorem d2_91 : decode method_3_code 91 = .ok (.areturn, 1) := by decide +kernel
theorem d2_43 : decode method_3_code 43 = .ok (.iload 5, 2) := by decide +kernel
theorem d2_45 : decode method_3_code 45 = .ok (.iconst 1, 1) := by decide +kernel
theorem d2_46 : decode method_3_code 46 = .ok (.if_icmp .ne 22, 3) := by decide +kernel
theorem d2_49 : decode method_3_code 49 = .ok (.new 23, 3) := by decide +kernel
theorem d2_52 : decode method_3_code 52 = .ok (.dup, 1) := by decide +kernel
theorem d2_53 : decode method_3_code 53 = .ok (.iconst 1, 1) := by decide +kernel
theorem d2_54 : decode method_3_code 54 = .ok (.newarray .char, 2) := by decide +kernel
theorem d2_56 : decode method_3_code 56 = .ok (.dup, 1) := by decide +kernel
theorem d2_57 : decode method_3_code 57 = .ok (.iconst 0, 1) := by decide +kernel
theorem d2_58 : decode method_3_code 58 = .ok (.iload_n 3, 1) := by decide +kernel
theorem d2_59 : decode method_3_code 59 = .ok (.castore, 1) := by decide +kernel
theorem d2_60 : decode method_3_code 60 = .ok (.invokespecial 25, 3) := by decide +kernel
theorem d2_63 : decode method_3_code 63 = .ok (.astore 6, 2) := by decide +kernel
theorem d2_65 : decode method_3_code 65 = .ok (.goto 24, 3) := by decide +kernel
theorem d2_68 : decode method_3_code 68 = .ok (.new 23, 3) := by decide +kernel
theorem d2_71 : decode method_3_code 71 = .ok (.dup, 1) := by decide +kernel
theorem d2_72 : decode method_3_code 72 = .ok (.iconst 2, 1) := by decide +kernel
theorem d2_73 : decode method_3_code 73 = .ok (.newarray .char, 2) := by decide +kernel
theorem d2_75 : decode method_3_code 75 = .ok (.dup, 1) := by decide +kernel
theorem d2_76 : decode method_3_code 76 = .ok (.iconst 0, 1) := by decide +kernel
theorem d2_77 : decode method_3_code 77 = .ok (.iload_n 3, 1) := by decide +kernel
theorem d2_78 : decode method_3_code 78 = .ok (.castore, 1) := by decide +kernel
theorem d2_79 : decode method_3_code 79 = .ok (.dup, 1) := by decide +kernel
theorem d2_80 : decode method_3_code 80 = .ok (.iconst 1, 1) := by decide +kernel
theorem d2_81 : decode method_3_code 81 = .ok (.iload 4, 2) := by decide +kernel
theorem d2_83 : decode method_3_code 83 = .ok (.castore, 1) := by decide +kernel
theorem d2_84 : decode method_3_code 84 = .ok (.invokespecial 25, 3) := by decide +kernel
theorem d2_87 : decode method_3_code 87 = .ok (.astore 6, 2) := by decide +kernel
set_option maxRecDepth 65536 in
set_option maxHeartbeats 40000000 in
theorem rm2 (l : Launch) (Z : State) (a0 : Array Value) (hw : ∀ d ∈ tables_1, d.before a0 Z = true) (ws : List Jvm.Cond) (p0 : Int32) (p1 : Int32) (p2 : Int32) (w_CS : Int32) (h0 : Heap) (n0 : Nat) (hG : own_GC Z w_CS) (O0 : Old Z n0 h0) :
    MetFree l (⟨"com/example/wee_wrapper/weewrapper/model/TokenIsTagPinLaw", "textOf", "(III)Ljava/lang/String;"⟩ : MethodName) (head1 (Jvm.Cond.code (⟨"com/example/wee_wrapper/weewrapper/model/TokenIsTagPinLaw", "textOf", "(III)Ljava/lang/String;"⟩ : MethodName) method_3_code 7 (some (.object "java/lang/String")) :: ws) ({ frames := 4, cells := 8, slots := 60, locals := 80 } : Room)) (fun a U => a = #[(.int p0), (.int p1), (.int p2)] ∧ Z.Warmed39 U.vm ∧ U.heap = h0 ∧ CHv Z own_EL U.vm h0 ∧ ∀ x ∈ ([] : List Addr), Safe Z own_EL U.vm h0 x) (fun _ _ _ _ _ => True) (fun _ U o U' => ∃ v L, o = .returned v ∧ own_TQ Z h0 n0 v U'.heap L ∧ CHr Z own_EL U.vm U.heap U'.vm U'.heap ∧ ReturnedEndW U o U' L ({ frames := 4, cells := 8, slots := 60, locals := 80 } : Room).cells ({ frames := 4, cells := 8, slots := 60, locals := 80 } : Room).slots) := by
  refine MetFree.of_bodySF (plainFor_of_name pn_2) hisR ?_
  intro p e s m args below meth c s₁ Bd hml0 hP hK
  obtain ⟨rfl, hZ, hh, hH, hSf⟩ := hP
  have hx := Bd.exec
  have hby := Bd.bytes
  have hml : c.maxLocals = 7 := hml0
  have hown : s.vm.findClass "com/example/wee_wrapper/weewrapper/model/TokenIsTagPinLaw" = some m.cls := findClass_of_methodNamed Bd.named
  have hnm := (name_of_methodNamed Bd.named Bd.method).1
  have X0 : Stand p l e ({ frames := 4, cells := 8, slots := 60, locals := 80 } : Room) (s.setVm s.vm) m #[(.int p0), (.int p1), (.int p2)] below meth c s₁ [] 0 0 := Stand.of_body Bd
  have e0 : s₁.heap = h0 := by rw [← hh, Bd.state]; rfl
  have N0 := Fr.nil n0
  have pre0 : ∀ t, Steps p.tables e below (s₁.setTop (mkF m 0 #[.val (.int p0), .val (.int p1), .val (.int p2), .unset, .unset, .unset, .unset] [])) t → Steps p.tables e below (s₁.setTop (entryFrame m #[(.int p0), (.int p1), (.int p2)] 7)) t := fun t k => castTop (ef_rm2 m p0 p1 p2) k
  have hS : s.Since s.vm 0 := (State.WarmedH.refl s).since 0
  have hk : 0 ≤ h0.size := Nat.zero_le _
  replace hZ : Z.Warmed39 (s.setVm s.vm).vm := hZ
  replace hown : (s.setVm s.vm).vm.findClass "com/example/wee_wrapper/weewrapper/model/TokenIsTagPinLaw" = some m.cls := hown
  have HC : CHr Z own_EL s.vm h0 s.vm h0 := CHr.refl hH
  have hG' := hG
  obtain ⟨S_CS, hCS⟩ := hG'
  have K0 : Keep h0 h0 [] := Keep.refl _ _
  have k1 : ∀ t, Steps p.tables e below (s₁.setTop (mkF m 25 #[.val (.int p0), .val (.int p1), .val (.int p2), .val (.int ((p1 &&& (255 : Int32)).toUInt32.toUInt16.toUInt32.toInt32)), .val (.int ((p2 &&& (255 : Int32)).toUInt32.toUInt16.toUInt32.toInt32)), .val (.int ((p0 &&& (2147483647 : Int32)) % (3 : Int32))), .unset] [(.int ((p0 &&& (2147483647 : Int32)) % (3 : Int32)))])) t → Steps p.tables e below (s₁.setTop (entryFrame m #[(.int p0), (.int p1), (.int p2)] 7)) t := by
    intro t k
    refine pre0 _ ?_
    show Steps p.tables e below (s₁.setTop (mkF m 0 #[.val (.int p0), .val (.int p1), .val (.int p2), .unset, .unset, .unset, .unset] [])) _
    refine XS.iloadN X0.here hx rfl (hb hby d2_0) rfl ?_
    show Steps p.tables e below (s₁.setTop (mkF m 1 #[.val (.int p0), .val (.int p1), .val (.int p2), .unset, .unset, .unset, .unset] [(.int p1)])) _
    refine XS.sipush X0.here hx rfl (hb hby d2_1) ?_
    show Steps p.tables e below (s₁.setTop (mkF m 4 #[.val (.int p0), .val (.int p1), .val (.int p2), .unset, .unset, .unset, .unset] [(.int (255 : Int32)), (.int p1)])) _
    refine XS.iand X0.here hx rfl (hb hby d2_4) rfl ?_
    show Steps p.tables e below (s₁.setTop (mkF m 5 #[.val (.int p0), .val (.int p1), .val (.int p2), .unset, .unset, .unset, .unset] [(.int (p1 &&& (255 : Int32)))])) _
    refine XS.i2c X0.here hx rfl (hb hby d2_5) rfl ?_
    show Steps p.tables e below (s₁.setTop (mkF m 6 #[.val (.int p0), .val (.int p1), .val (.int p2), .unset, .unset, .unset, .unset] [(.int ((p1 &&& (255 : Int32)).toUInt32.toUInt16.toUInt32.toInt32))])) _
    refine XS.istoreN X0.here hx rfl (hb hby d2_6) rfl (l' := #[.val (.int p0), .val (.int p1), .val (.int p2), .val (.int ((p1 &&& (255 : Int32)).toUInt32.toUInt16.toUInt32.toInt32)), .unset, .unset, .unset]) rfl ?_
    show Steps p.tables e below (s₁.setTop (mkF m 7 #[.val (.int p0), .val (.int p1), .val (.int p2), .val (.int ((p1 &&& (255 : Int32)).toUInt32.toUInt16.toUInt32.toInt32)), .unset, .unset, .unset] [])) _
    refine XS.iloadN X0.here hx rfl (hb hby d2_7) rfl ?_
    show Steps p.tables e below (s₁.setTop (mkF m 8 #[.val (.int p0), .val (.int p1), .val (.int p2), .val (.int ((p1 &&& (255 : Int32)).toUInt32.toUInt16.toUInt32.toInt32)), .unset, .unset, .unset] [(.int p2)])) _
    refine XS.sipush X0.here hx rfl (hb hby d2_8) ?_
    show Steps p.tables e below (s₁.setTop (mkF m 11 #[.val (.int p0), .val (.int p1), .val (.int p2), .val (.int ((p1 &&& (255 : Int32)).toUInt32.toUInt16.toUInt32.toInt32)), .unset, .unset, .unset] [(.int (255 : Int32)), (.int p2)])) _
    refine XS.iand X0.here hx rfl (hb hby d2_11) rfl ?_
    show Steps p.tables e below (s₁.setTop (mkF m 12 #[.val (.int p0), .val (.int p1), .val (.int p2), .val (.int ((p1 &&& (255 : Int32)).toUInt32.toUInt16.toUInt32.toInt32)), .unset, .unset, .unset] [(.int (p2 &&& (255 : Int32)))])) _
    refine XS.i2c X0.here hx rfl (hb hby d2_12) rfl ?_
    show Steps p.tables e below (s₁.setTop (mkF m 13 #[.val (.int p0), .val (.int p1), .val (.int p2), .val (.int ((p1 &&& (255 : Int32)).toUInt32.toUInt16.toUInt32.toInt32)), .unset, .unset, .unset] [(.int ((p2 &&& (255 : Int32)).toUInt32.toUInt16.toUInt32.toInt32))])) _
    refine XS.istore X0.here hx rfl (hb hby d2_13) rfl (l' := #[.val (.int p0), .val (.int p1), .val (.int p2), .val (.int ((p1 &&& (255 : Int32)).toUInt32.toUInt16.toUInt32.toInt32)), .val (.int ((p2 &&& (255 : Int32)).toUInt32.toUInt16.toUInt32.toInt32)), .unset, .unset]) rfl ?_
    show Steps p.tables e below (s₁.setTop (mkF m 15 #[.val (.int p0), .val (.int p1), .val (.int p2), .val (.int ((p1 &&& (255 : Int32)).toUInt32.toUInt16.toUInt32.toInt32)), .val (.int ((p2 &&& (255 : Int32)).toUInt32.toUInt16.toUInt32.toInt32)), .unset, .unset] [])) _
    refine XS.iloadN X0.here hx rfl (hb hby d2_15) rfl ?_
    show Steps p.tables e below (s₁.setTop (mkF m 16 #[.val (.int p0), .val (.int p1), .val (.int p2), .val (.int ((p1 &&& (255 : Int32)).toUInt32.toUInt16.toUInt32.toInt32)), .val (.int ((p2 &&& (255 : Int32)).toUInt32.toUInt16.toUInt32.toInt32)), .unset, .unset] [(.int p0)])) _
    refine X0.ldcInt hx hown (mvT hZ (hw _ (List.mem_of_getElem? (i := 10) rfl))) (g := (mkF m 16 #[.val (.int p0), .val (.int p1), .val (.int p2), .val (.int ((p1 &&& (255 : Int32)).toUInt32.toUInt16.toUInt32.toInt32)), .val (.int ((p2 &&& (255 : Int32)).toUInt32.toUInt16.toUInt32.toInt32)), .unset, .unset] [(.int p0)])) rfl (hb hby d2_16) _ ?_
    show Steps p.tables e below (s₁.setTop (mkF m 18 #[.val (.int p0), .val (.int p1), .val (.int p2), .val (.int ((p1 &&& (255 : Int32)).toUInt32.toUInt16.toUInt32.toInt32)), .val (.int ((p2 &&& (255 : Int32)).toUInt32.toUInt16.toUInt32.toInt32)), .unset, .unset] [(.int (2147483647 : Int32)), (.int p0)])) _
    refine XS.iand X0.here hx rfl (hb hby d2_18) rfl ?_
    show Steps p.tables e below (s₁.setTop (mkF m 19 #[.val (.int p0), .val (.int p1), .val (.int p2), .val (.int ((p1 &&& (255 : Int32)).toUInt32.toUInt16.toUInt32.toInt32)), .val (.int ((p2 &&& (255 : Int32)).toUInt32.toUInt16.toUInt32.toInt32)), .unset, .unset] [(.int (p0 &&& (2147483647 : Int32)))])) _
    refine XS.iconst X0.here hx rfl (hb hby d2_19) ?_
    show Steps p.tables e below (s₁.setTop (mkF m 20 #[.val (.int p0), .val (.int p1), .val (.int p2), .val (.int ((p1 &&& (255 : Int32)).toUInt32.toUInt16.toUInt32.toInt32)), .val (.int ((p2 &&& (255 : Int32)).toUInt32.toUInt16.toUInt32.toInt32)), .unset, .unset] [(.int (3 : Int32)), (.int (p0 &&& (2147483647 : Int32)))])) _
    refine iremM X0 hx rfl (hb hby d2_20) rfl (by decide) ?_
    show Steps p.tables e below (s₁.setTop (mkF m 21 #[.val (.int p0), .val (.int p1), .val (.int p2), .val (.int ((p1 &&& (255 : Int32)).toUInt32.toUInt16.toUInt32.toInt32)), .val (.int ((p2 &&& (255 : Int32)).toUInt32.toUInt16.toUInt32.toInt32)), .unset, .unset] [(.int ((p0 &&& (2147483647 : Int32)) % (3 : Int32)))])) _
    refine XS.istore X0.here hx rfl (hb hby d2_21) rfl (l' := #[.val (.int p0), .val (.int p1), .val (.int p2), .val (.int ((p1 &&& (255 : Int32)).toUInt32.toUInt16.toUInt32.toInt32)), .val (.int ((p2 &&& (255 : Int32)).toUInt32.toUInt16.toUInt32.toInt32)), .val (.int ((p0 &&& (2147483647 : Int32)) % (3 : Int32))), .unset]) rfl ?_
    show Steps p.tables e below (s₁.setTop (mkF m 23 #[.val (.int p0), .val (.int p1), .val (.int p2), .val (.int ((p1 &&& (255 : Int32)).toUInt32.toUInt16.toUInt32.toInt32)), .val (.int ((p2 &&& (255 : Int32)).toUInt32.toUInt16.toUInt32.toInt32)), .val (.int ((p0 &&& (2147483647 : Int32)) % (3 : Int32))), .unset] [])) _
    refine XS.iload X0.here hx rfl (hb hby d2_23) rfl ?_
    exact k
  by_cases hc25_1 : ((p0 &&& (2147483647 : Int32)) % (3 : Int32)) = (0 : Int32)
  · obtain ⟨T2, h2, X2, e2, E2, A2, D2, -, st2⟩ := newO X0 hx hZ hown (hw _ (List.mem_of_getElem? (i := 11) rfl)) (hw _ (List.mem_of_getElem? (i := 12) rfl)) (hw _ (List.mem_of_getElem? (i := 13) rfl)) e0 (g := (mkF m 28 #[.val (.int p0), .val (.int p1), .val (.int p2), .val (.int ((p1 &&& (255 : Int32)).toUInt32.toUInt16.toUInt32.toInt32)), .val (.int ((p2 &&& (255 : Int32)).toUInt32.toUInt16.toUInt32.toInt32)), .val (.int ((p0 &&& (2147483647 : Int32)) % (3 : Int32))), .unset] [])) rfl (hb hby d2_28) (by decide) (by decide)
    obtain ⟨b2, g2⟩ : ∃ z, z = h0.size := ⟨_, rfl⟩
    rw [← g2] at A2 D2 st2
    have gn_b2 : n0 ≤ b2 := Nat.le_trans (O0.1 ▸ O0.2.1) (Nat.le_of_eq g2.symm)
    have sz_b2_K0 : h0.size ≤ b2 := Nat.le_trans K0.1 (Nat.le_of_eq g2.symm)
    have Sf_b2 : Safe Z own_EL s.vm h0 b2 := Safe.new (Nat.le_of_eq g2.symm)
    replace O0 := O0.ext E2
    replace K0 := K0.ext E2
    replace hk := Nat.le_trans hk E2.1
    replace Sf_b2 := Safe.ext E2 HC.1 Sf_b2
    replace HC := HC.trans (CHr.ext E2 HC.1)
    have E_b2 := A2
    have F_value_b2 : Fld Z h2 b2 "java/lang/String" "value" "[B" .null := D2 (Or.inr (hw _ (List.mem_of_getElem? (i := 27) rfl))) (ty := (.array .byte)) (by decide)
    have F_coder_b2 : Fld Z h2 b2 "java/lang/String" "coder" "B" (.int (0 : Int32)) := D2 (Or.inr (hw _ (List.mem_of_getElem? (i := 28) rfl))) (ty := .byte) (by decide)
    obtain ⟨T3, h3, c3, X3, e3, E3, A3, st3⟩ := newP X2 hx hZ (hw _ (List.mem_of_getElem? (i := 14) rfl)) e2 (g := (mkF m 33 #[.val (.int p0), .val (.int p1), .val (.int p2), .val (.int ((p1 &&& (255 : Int32)).toUInt32.toUInt16.toUInt32.toInt32)), .val (.int ((p2 &&& (255 : Int32)).toUInt32.toUInt16.toUInt32.toInt32)), .val (.int ((p0 &&& (2147483647 : Int32)) % (3 : Int32))), .unset] [(.int (0 : Int32)), (.ref b2), (.ref b2)])) rfl (hb hby d2_33) rfl (by decide) (cap := 0) (by decide) (by decide) (by decide) (by decide)
    obtain ⟨b3, g3⟩ : ∃ z, z = h2.size := ⟨_, rfl⟩
    rw [← g3] at A3 st3
    have ne_b2_b3 : b2 ≠ b3 := Nat.ne_of_lt (Nat.lt_of_lt_of_le E_b2.lt (Nat.le_of_eq g3.symm))
    have gn_b3 : n0 ≤ b3 := Nat.le_trans (O0.1 ▸ O0.2.1) (Nat.le_of_eq g3.symm)
    have sz_b3_K0 : h0.size ≤ b3 := Nat.le_trans K0.1 (Nat.le_of_eq g3.symm)
    replace E_b2 := E_b2.ext E3
    replace F_value_b2 := F_value_b2.ext E3
    replace F_coder_b2 := F_coder_b2.ext E3
    replace O0 := O0.ext E3
    replace K0 := K0.ext E3
    replace hk := Nat.le_trans hk E3.1
    replace Sf_b2 := Safe.ext E3 HC.1 Sf_b2
    replace HC := HC.trans (CHr.ext E3 HC.1)
    have V_b3 : Arv Z h3 b3 c3 .char (0 : Int32) [] (.int (0 : Int32)) := Arv.new A3 (by decide)
    have k5 : ∀ t, Steps p.tables e below (T3.setTop (mkF m 35 #[.val (.int p0), .val (.int p1), .val (.int p2), .val (.int ((p1 &&& (255 : Int32)).toUInt32.toUInt16.toUInt32.toInt32)), .val (.int ((p2 &&& (255 : Int32)).toUInt32.toUInt16.toUInt32.toInt32)), .val (.int ((p0 &&& (2147483647 : Int32)) % (3 : Int32))), .unset] [(.ref b3), (.ref b2), (.ref b2)])) t → Steps p.tables e below (s₁.setTop (entryFrame m #[(.int p0), (.int p1), (.int p2)] 7)) t := by
      intro t k
      refine k1 _ ?_
      show Steps p.tables e below (s₁.setTop (mkF m 25 #[.val (.int p0), .val (.int p1), .val (.int p2), .val (.int ((p1 &&& (255 : Int32)).toUInt32.toUInt16.toUInt32.toInt32)), .val (.int ((p2 &&& (255 : Int32)).toUInt32.toUInt16.toUInt32.toInt32)), .val (.int ((p0 &&& (2147483647 : Int32)) % (3 : Int32))), .unset] [(.int ((p0 &&& (2147483647 : Int32)) % (3 : Int32)))])) _
      refine XS.ifNo X0.here hx rfl (hb hby d2_25) rfl ((if0 _ _).trans (teq hc25_1).2) ?_
      show Steps p.tables e below (s₁.setTop (mkF m 28 #[.val (.int p0), .val (.int p1), .val (.int p2), .val (.int ((p1 &&& (255 : Int32)).toUInt32.toUInt16.toUInt32.toInt32)), .val (.int ((p2 &&& (255 : Int32)).toUInt32.toUInt16.toUInt32.toInt32)), .val (.int ((p0 &&& (2147483647 : Int32)) % (3 : Int32))), .unset] [])) _
      refine st2 _ ?_
      show Steps p.tables e below (T2.setTop (mkF m 31 #[.val (.int p0), .val (.int p1), .val (.int p2), .val (.int ((p1 &&& (255 : Int32)).toUInt32.toUInt16.toUInt32.toInt32)), .val (.int ((p2 &&& (255 : Int32)).toUInt32.toUInt16.toUInt32.toInt32)), .val (.int ((p0 &&& (2147483647 : Int32)) % (3 : Int32))), .unset] [(.ref b2)])) _
      refine XS.dup X2.here hx rfl (hb hby d2_31) rfl rfl ?_
      show Steps p.tables e below (T2.setTop (mkF m 32 #[.val (.int p0), .val (.int p1), .val (.int p2), .val (.int ((p1 &&& (255 : Int32)).toUInt32.toUInt16.toUInt32.toInt32)), .val (.int ((p2 &&& (255 : Int32)).toUInt32.toUInt16.toUInt32.toInt32)), .val (.int ((p0 &&& (2147483647 : Int32)) % (3 : Int32))), .unset] [(.ref b2), (.ref b2)])) _
      refine XS.iconst X2.here hx rfl (hb hby d2_32) ?_
      show Steps p.tables e below (T2.setTop (mkF m 33 #[.val (.int p0), .val (.int p1), .val (.int p2), .val (.int ((p1 &&& (255 : Int32)).toUInt32.toUInt16.toUInt32.toInt32)), .val (.int ((p2 &&& (255 : Int32)).toUInt32.toUInt16.toUInt32.toInt32)), .val (.int ((p0 &&& (2147483647 : Int32)) % (3 : Int32))), .unset] [(.int (0 : Int32)), (.ref b2), (.ref b2)])) _
      refine st3 _ ?_
      exact k
    obtain ⟨_, _, ⟨T4, L4, k4_, n4⟩, -, X4, hS4, hg4, ⟨Lc4, hQ4, l4, y4, z4, hC4⟩, st4⟩ := X3.specialBackS hx (y := (⟨"java/lang/String", "<init>", "([C)V"⟩ : MethodName)) rfl hown (mvT hZ (hw _ (List.mem_of_getElem? (i := 15) rfl))) (mvT hZ (hw _ (List.mem_of_getElem? (i := 16) rfl))) (mvT hZ (hw _ (List.mem_of_getElem? (i := 17) rfl))) (by decide) (own_backH (W := 1) (rmS1_0 l Z a0 hw [] b2 b3 c3 w_CS h3 n0 hG O0 (O0.1 ▸ O0.2.1) gn_b2 E_b2 F_value_b2 F_coder_b2 (Ne.symm ne_b2_b3) V_b3) hZ (hw _ (List.mem_of_getElem? (i := 17) rfl)) (hw _ (List.mem_of_getElem? (i := 13) rfl)) (by decide) (by decide) (own_EW hw) HC.1 (fun x hx => by cases List.mem_singleton.mp hx; exact ⟨E_b2.lt, Sf_b2⟩)) (g := (mkF m 35 #[.val (.int p0), .val (.int p1), .val (.int p2), .val (.int ((p1 &&& (255 : Int32)).toUInt32.toUInt16.toUInt32.toInt32)), .val (.int ((p2 &&& (255 : Int32)).toUInt32.toUInt16.toUInt32.toInt32)), .val (.int ((p0 &&& (2147483647 : Int32)) % (3 : Int32))), .unset] [(.ref b3), (.ref b2), (.ref b2)])) rfl (by rw [hml]; rfl) (Steps.refl _) (a := b2) (argsL := [(.ref b3)]) (rest := [(.ref b2)]) (lenOf pd_4 rfl) rfl (by show 2 * 0 + _ ≤ _; exact Nat.le_of_eq rfl) (hb hby d2_35) (fun _ _ => ⟨rfl, e3, (by decide : 2 + 4 ≤ _), (by decide : 4 + 8 ≤ _)⟩)
    dsimp only [Pt.U, Pt.locs, Pt.cells, Pt.slots] at X4 l4 y4 z4 st4 hQ4
    subst l4 y4 z4
    dsimp only [Pt.U, Pt.locs, Pt.cells, Pt.slots] at hC4
    dsimp only [Pt.U, Pt.locs, Pt.cells, Pt.slots] at hS4 hg4
    obtain ⟨X4, hS, hZ, hown⟩ := rebS hS (show _ ≤ T3.heap.size by rw [e3]; exact hk) X4 hS4 hg4 hZ hown
    replace hk := Nat.le_refl T4.heap.size
    replace Sf_b2 := hC4.safe E_b2.lt Sf_b2
    replace HC := HC.trans hC4
    obtain ⟨rfl, Nq4, Kq4, Eq4, bv4, kq4, vs4, Fq4, Vq4⟩ := hQ4
    have N4 := Fr.app N0 Nq4
    replace E_b2 := E_b2.keep Kq4
    replace V_b3 := V_b3.keep Kq4 (fun q => (Ne.symm ne_b2_b3) (List.mem_singleton.mp q))
    replace O0 := O0.keep Kq4 (fun x hx => by cases List.mem_singleton.mp hx; exact gn_b2)
    replace K0 := K0.trans Kq4 (fun x hx => by cases List.mem_singleton.mp hx; exact (Or.inr sz_b2_K0))
    have k6 : ∀ t, Steps p.tables e below (T4.setTop (mkF m 91 #[.val (.int p0), .val (.int p1), .val (.int p2), .val (.int ((p1 &&& (255 : Int32)).toUInt32.toUInt16.toUInt32.toInt32)), .val (.int ((p2 &&& (255 : Int32)).toUInt32.toUInt16.toUInt32.toInt32)), .val (.int ((p0 &&& (2147483647 : Int32)) % (3 : Int32))), .val (.ref b2)] [(.ref b2)])) t → Steps p.tables e below (s₁.setTop (entryFrame m #[(.int p0), (.int p1), (.int p2)] 7)) t := by
      intro t k
      refine k5 _ ?_
      show Steps p.tables e below (T3.setTop (mkF m 35 #[.val (.int p0), .val (.int p1), .val (.int p2), .val (.int ((p1 &&& (255 : Int32)).toUInt32.toUInt16.toUInt32.toInt32)), .val (.int ((p2 &&& (255 : Int32)).toUInt32.toUInt16.toUInt32.toInt32)), .val (.int ((p0 &&& (2147483647 : Int32)) % (3 : Int32))), .unset] [(.ref b3), (.ref b2), (.ref b2)])) _
      refine st4.trans ?_
      show Steps p.tables e below (T4.setTop (mkF m 38 #[.val (.int p0), .val (.int p1), .val (.int p2), .val (.int ((p1 &&& (255 : Int32)).toUInt32.toUInt16.toUInt32.toInt32)), .val (.int ((p2 &&& (255 : Int32)).toUInt32.toUInt16.toUInt32.toInt32)), .val (.int ((p0 &&& (2147483647 : Int32)) % (3 : Int32))), .unset] [(.ref b2)])) _
      refine XS.astore X4.here hx rfl (hb hby d2_38) rfl rfl (l' := #[.val (.int p0), .val (.int p1), .val (.int p2), .val (.int ((p1 &&& (255 : Int32)).toUInt32.toUInt16.toUInt32.toInt32)), .val (.int ((p2 &&& (255 : Int32)).toUInt32.toUInt16.toUInt32.toInt32)), .val (.int ((p0 &&& (2147483647 : Int32)) % (3 : Int32))), .val (.ref b2)]) rfl ?_
      show Steps p.tables e below (T4.setTop (mkF m 40 #[.val (.int p0), .val (.int p1), .val (.int p2), .val (.int ((p1 &&& (255 : Int32)).toUInt32.toUInt16.toUInt32.toInt32)), .val (.int ((p2 &&& (255 : Int32)).toUInt32.toUInt16.toUInt32.toInt32)), .val (.int ((p0 &&& (2147483647 : Int32)) % (3 : Int32))), .val (.ref b2)] [])) _
      refine XS.goto X4.here hx rfl (pc0 := 40) (pc' := 89) rfl (hb hby d2_40) (by decide) (by decide) ?_
      show Steps p.tables e below (T4.setTop (mkF m 89 #[.val (.int p0), .val (.int p1), .val (.int p2), .val (.int ((p1 &&& (255 : Int32)).toUInt32.toUInt16.toUInt32.toInt32)), .val (.int ((p2 &&& (255 : Int32)).toUInt32.toUInt16.toUInt32.toInt32)), .val (.int ((p0 &&& (2147483647 : Int32)) % (3 : Int32))), .val (.ref b2)] [])) _
      refine XS.aload X4.here hx rfl (hb hby d2_89) rfl rfl ?_
      exact k
    obtain ⟨fs, hr, hrun, hended, hEW⟩ := X4.leaveW hS hk (v := some (.ref b2)) (fun h => by rw [Bd.returns] at h; cases h)
    have HCf : CHr Z own_EL s.vm s.heap T4.vm T4.heap := by
      rw [hh]
      exact HC.trans (CHv.at X4 hZ (own_EW hw) HC.1)
    refine ⟨_, _, k6 _ ?_, hrun, hended, _, _, rfl, ?_, HCf, hEW.1, hEW.2.1, hEW.2.2.1, hEW.2.2.2.mono (by decide) (by decide)⟩
    · exact retOut X4 hx Bd.returns rfl (Or.inr (Or.inr (Or.inr (Or.inr ⟨rfl, rfl, rfl⟩)))) (hb hby d2_91) hr
    · show own_TQ Z h0 n0 _ T4.heap _
      exact ⟨_, rfl, N4, K0, E_b2⟩
  · have k7 : ∀ t, Steps p.tables e below (s₁.setTop (mkF m 46 #[.val (.int p0), .val (.int p1), .val (.int p2), .val (.int ((p1 &&& (255 : Int32)).toUInt32.toUInt16.toUInt32.toInt32)), .val (.int ((p2 &&& (255 : Int32)).toUInt32.toUInt16.toUInt32.toInt32)), .val (.int ((p0 &&& (2147483647 : Int32)) % (3 : Int32))), .unset] [(.int (1 : Int32)), (.int ((p0 &&& (2147483647 : Int32)) % (3 : Int32)))])) t → Steps p.tables e below (s₁.setTop (entryFrame m #[(.int p0), (.int p1), (.int p2)] 7)) t := by
      intro t k
      refine k1 _ ?_
      show Steps p.tables e below (s₁.setTop (mkF m 25 #[.val (.int p0), .val (.int p1), .val (.int p2), .val (.int ((p1 &&& (255 : Int32)).toUInt32.toUInt16.toUInt32.toInt32)), .val (.int ((p2 &&& (255 : Int32)).toUInt32.toUInt16.toUInt32.toInt32)), .val (.int ((p0 &&& (2147483647 : Int32)) % (3 : Int32))), .unset] [(.int ((p0 &&& (2147483647 : Int32)) % (3 : Int32)))])) _
      refine XS.ifYes X0.here hx rfl (pc0 := 25) (pc' := 43) rfl (hb hby d2_25) rfl ((if0 _ _).trans (feq hc25_1).2) (by decide) (by decide) ?_
      show Steps p.tables e below (s₁.setTop (mkF m 43 #[.val (.int p0), .val (.int p1), .val (.int p2), .val (.int ((p1 &&& (255 : Int32)).toUInt32.toUInt16.toUInt32.toInt32)), .val (.int ((p2 &&& (255 : Int32)).toUInt32.toUInt16.toUInt32.toInt32)), .val (.int ((p0 &&& (2147483647 : Int32)) % (3 : Int32))), .unset] [])) _
      refine XS.iload X0.here hx rfl (hb hby d2_43) rfl ?_
      show Steps p.tables e below (s₁.setTop (mkF m 45 #[.val (.int p0), .val (.int p1), .val (.int p2), .val (.int ((p1 &&& (255 : Int32)).toUInt32.toUInt16.toUInt32.toInt32)), .val (.int ((p2 &&& (255 : Int32)).toUInt32.toUInt16.toUInt32.toInt32)), .val (.int ((p0 &&& (2147483647 : Int32)) % (3 : Int32))), .unset] [(.int ((p0 &&& (2147483647 : Int32)) % (3 : Int32)))])) _
      refine XS.iconst X0.here hx rfl (hb hby d2_45) ?_
      exact k
    by_cases hc46_2 : ((p0 &&& (2147483647 : Int32)) % (3 : Int32)) = (1 : Int32)
    · obtain ⟨T8, h8, X8, e8, E8, A8, D8, -, st8⟩ := newO X0 hx hZ hown (hw _ (List.mem_of_getElem? (i := 11) rfl)) (hw _ (List.mem_of_getElem? (i := 12) rfl)) (hw _ (List.mem_of_getElem? (i := 13) rfl)) e0 (g := (mkF m 49 #[.val (.int p0), .val (.int p1), .val (.int p2), .val (.int ((p1 &&& (255 : Int32)).toUInt32.toUInt16.toUInt32.toInt32)), .val (.int ((p2 &&& (255 : Int32)).toUInt32.toUInt16.toUInt32.toInt32)), .val (.int ((p0 &&& (2147483647 : Int32)) % (3 : Int32))), .unset] [])) rfl (hb hby d2_49) (by decide) (by decide)
      obtain ⟨b8, g8⟩ : ∃ z, z = h0.size := ⟨_, rfl⟩
      rw [← g8] at A8 D8 st8
      have gn_b8 : n0 ≤ b8 := Nat.le_trans (O0.1 ▸ O0.2.1) (Nat.le_of_eq g8.symm)
      have sz_b8_K0 : h0.size ≤ b8 := Nat.le_trans K0.1 (Nat.le_of_eq g8.symm)
      have Sf_b8 : Safe Z own_EL s.vm h0 b8 := Safe.new (Nat.le_of_eq g8.symm)
      replace O0 := O0.ext E8
      replace K0 := K0.ext E8
      replace hk := Nat.le_trans hk E8.1
      replace Sf_b8 := Safe.ext E8 HC.1 Sf_b8
      replace HC := HC.trans (CHr.ext E8 HC.1)
      have E_b8 := A8
      have F_value_b8 : Fld Z h8 b8 "java/lang/String" "value" "[B" .null := D8 (Or.inr (hw _ (List.mem_of_getElem? (i := 27) rfl))) (ty := (.array .byte)) (by decide)
      have F_coder_b8 : Fld Z h8 b8 "java/lang/String" "coder" "B" (.int (0 : Int32)) := D8 (Or.inr (hw _ (List.mem_of_getElem? (i := 28) rfl))) (ty := .byte) (by decide)
      obtain ⟨T9, h9, c9, X9, e9, E9, A9, st9⟩ := newP X8 hx hZ (hw _ (List.mem_of_getElem? (i := 14) rfl)) e8 (g := (mkF m 54 #[.val (.int p0), .val (.int p1), .val (.int p2), .val (.int ((p1 &&& (255 : Int32)).toUInt32.toUInt16.toUInt32.toInt32)), .val (.int ((p2 &&& (255 : Int32)).toUInt32.toUInt16.toUInt32.toInt32)), .val (.int ((p0 &&& (2147483647 : Int32)) % (3 : Int32))), .unset] [(.int (1 : Int32)), (.ref b8), (.ref b8)])) rfl (hb hby d2_54) rfl (by decide) (cap := 1) (by decide) (by decide) (by decide) (by decide)
      obtain ⟨b9, g9⟩ : ∃ z, z = h8.size := ⟨_, rfl⟩
      rw [← g9] at A9 st9
      have ne_b8_b9 : b8 ≠ b9 := Nat.ne_of_lt (Nat.lt_of_lt_of_le E_b8.lt (Nat.le_of_eq g9.symm))
      have gn_b9 : n0 ≤ b9 := Nat.le_trans (O0.1 ▸ O0.2.1) (Nat.le_of_eq g9.symm)
      have sz_b9_K0 : h0.size ≤ b9 := Nat.le_trans K0.1 (Nat.le_of_eq g9.symm)
      replace E_b8 := E_b8.ext E9
      replace F_value_b8 := F_value_b8.ext E9
      replace F_coder_b8 := F_coder_b8.ext E9
      replace O0 := O0.ext E9
      replace K0 := K0.ext E9
      replace hk := Nat.le_trans hk E9.1
      replace Sf_b8 := Safe.ext E9 HC.1 Sf_b8
      replace HC := HC.trans (CHr.ext E9 HC.1)
      have V_b9 : Arv Z h9 b9 c9 .char (1 : Int32) [(.int (0 : Int32))] (.int (0 : Int32)) := (Arv.new A9 (by decide)).pad (pad_rep [] (.int (0 : Int32)) 1)
      obtain ⟨cl_10, Ar_10, q_10, S_10, N_10, H_10, G_10⟩ := id V_b9
      have hin_10 : ¬ ((0 : Int32) < 0 ∨ cl_10.slots.size ≤ ((0 : Int32)).toNatClampNeg) := inb_of S_10 ⟨by decide, by decide⟩
      obtain ⟨T10, h10, X10, e10, W10, st10⟩ := stC X9 hx hZ e9 Ar_10 (j := (0 : Int32)) hin_10 (g := (mkF m 59 #[.val (.int p0), .val (.int p1), .val (.int p2), .val (.int ((p1 &&& (255 : Int32)).toUInt32.toUInt16.toUInt32.toInt32)), .val (.int ((p2 &&& (255 : Int32)).toUInt32.toUInt16.toUInt32.toInt32)), .val (.int ((p0 &&& (2147483647 : Int32)) % (3 : Int32))), .unset] [(.int ((p1 &&& (255 : Int32)).toUInt32.toUInt16.toUInt32.toInt32)), (.int (0 : Int32)), (.ref b9), (.ref b9), (.ref b8), (.ref b8)])) rfl rfl (hb hby d2_59)
      have Vn10 : Arv Z h10 b9 c9 .char (1 : Int32) [(.int (nar .char ((p1 &&& (255 : Int32)).toUInt32.toUInt16.toUInt32.toInt32)))] (.int (0 : Int32)) := Arv.set Ar_10 q_10 S_10 N_10 H_10 G_10 (fits_nar_char _) W10 0 rfl (Nat.le_of_ble_eq_true rfl)
      have So : Safe Z own_EL s.vm h9 b9 := (by obtain ⟨_, A, _⟩ := V_b9; exact Safe.arr hZ.alike A (by decide))
      replace E_b8 := E_b8.wr W10
      replace F_value_b8 := F_value_b8.other W10 (Or.inl ne_b8_b9)
      replace F_coder_b8 := F_coder_b8.other W10 (Or.inl ne_b8_b9)
      replace Sf_b8 := Safe.wr W10 So HC.1 Sf_b8
      replace HC := HC.trans (CHr.wr W10 So HC.1)
      replace O0 := O0.wr W10 gn_b9
      replace K0 := K0.wr W10 (Or.inr sz_b9_K0)
      replace hk := Nat.le_trans hk (Nat.le_of_eq W10.size.symm)
      replace V_b9 := Vn10
      have N10 := Fr.snoc X10 N0 gn_b9
      obtain ⟨_, _, ⟨T11, L11, k11_, n11⟩, -, X11, ⟨Lc11, hQ11, l11, y11, z11⟩, st11⟩ := X10.specialBack hx (y := (⟨"java/lang/String", "<init>", "([C)V"⟩ : MethodName)) rfl hown (mvT hZ (hw _ (List.mem_of_getElem? (i := 15) rfl))) (mvT hZ (hw _ (List.mem_of_getElem? (i := 16) rfl))) (mvT hZ (hw _ (List.mem_of_getElem? (i := 17) rfl))) (by decide) (backOf (W := 1) (rmS1_1 l Z a0 hw [] b8 b9 c9 (nar .char ((p1 &&& (255 : Int32)).toUInt32.toUInt16.toUInt32.toInt32)) w_CS h10 n0 hG O0 (O0.1 ▸ O0.2.1) gn_b8 E_b8 F_value_b8 F_coder_b8 (Ne.symm ne_b8_b9) V_b9 (own_c2 _)) hZ (hw _ (List.mem_of_getElem? (i := 17) rfl)) (hw _ (List.mem_of_getElem? (i := 13) rfl)) (by decide) (by decide)) (g := (mkF m 60 #[.val (.int p0), .val (.int p1), .val (.int p2), .val (.int ((p1 &&& (255 : Int32)).toUInt32.toUInt16.toUInt32.toInt32)), .val (.int ((p2 &&& (255 : Int32)).toUInt32.toUInt16.toUInt32.toInt32)), .val (.int ((p0 &&& (2147483647 : Int32)) % (3 : Int32))), .unset] [(.ref b9), (.ref b8), (.ref b8)])) rfl (by rw [hml]; rfl) (Steps.refl _) (a := b8) (argsL := [(.ref b9)]) (rest := [(.ref b8)]) (lenOf pd_4 rfl) rfl (by show 2 * 0 + _ ≤ _; exact Nat.le_of_eq rfl) (hb hby d2_60) (fun _ _ => ⟨rfl, e10, (by decide : 2 + 1 ≤ _), (by decide : 5 + 1 ≤ _)⟩)
      dsimp only [Pt.U, Pt.locs, Pt.cells, Pt.slots] at X11 l11 y11 z11 st11 hQ11
      subst l11 y11 z11
      obtain ⟨rfl, Nq11, Kq11, Eq11, bv11, kq11, vs11, Fq11, Vq11⟩ := hQ11
      have N11 := Fr.app N10 Nq11
      have So : Safe Z own_EL s.vm h10 b8 := Sf_b8
      replace Sf_b8 := Safe.keep Kq11 (fun x hx => by cases List.mem_singleton.mp hx; exact So) HC.1 Sf_b8
      replace HC := HC.trans (CHr.keep Kq11 (fun x hx => by cases List.mem_singleton.mp hx; exact So) HC.1)
      replace E_b8 := E_b8.keep Kq11
      replace V_b9 := V_b9.keep Kq11 (fun q => (Ne.symm ne_b8_b9) (List.mem_singleton.mp q))
      replace O0 := O0.keep Kq11 (fun x hx => by cases List.mem_singleton.mp hx; exact gn_b8)
      replace K0 := K0.trans Kq11 (fun x hx => by cases List.mem_singleton.mp hx; exact (Or.inr sz_b8_K0))
      replace hk := Nat.le_trans hk Kq11.1
      have k12 : ∀ t, Steps p.tables e below (T11.setTop (mkF m 91 #[.val (.int p0), .val (.int p1), .val (.int p2), .val (.int ((p1 &&& (255 : Int32)).toUInt32.toUInt16.toUInt32.toInt32)), .val (.int ((p2 &&& (255 : Int32)).toUInt32.toUInt16.toUInt32.toInt32)), .val (.int ((p0 &&& (2147483647 : Int32)) % (3 : Int32))), .val (.ref b8)] [(.ref b8)])) t → Steps p.tables e below (s₁.setTop (entryFrame m #[(.int p0), (.int p1), (.int p2)] 7)) t := by
        intro t k
        refine k7 _ ?_
        show Steps p.tables e below (s₁.setTop (mkF m 46 #[.val (.int p0), .val (.int p1), .val (.int p2), .val (.int ((p1 &&& (255 : Int32)).toUInt32.toUInt16.toUInt32.toInt32)), .val (.int ((p2 &&& (255 : Int32)).toUInt32.toUInt16.toUInt32.toInt32)), .val (.int ((p0 &&& (2147483647 : Int32)) % (3 : Int32))), .unset] [(.int (1 : Int32)), (.int ((p0 &&& (2147483647 : Int32)) % (3 : Int32)))])) _
        refine XS.icmpNo X0.here hx rfl (hb hby d2_46) rfl (teq hc46_2).2 ?_
        show Steps p.tables e below (s₁.setTop (mkF m 49 #[.val (.int p0), .val (.int p1), .val (.int p2), .val (.int ((p1 &&& (255 : Int32)).toUInt32.toUInt16.toUInt32.toInt32)), .val (.int ((p2 &&& (255 : Int32)).toUInt32.toUInt16.toUInt32.toInt32)), .val (.int ((p0 &&& (2147483647 : Int32)) % (3 : Int32))), .unset] [])) _
        refine st8 _ ?_
        show Steps p.tables e below (T8.setTop (mkF m 52 #[.val (.int p0), .val (.int p1), .val (.int p2), .val (.int ((p1 &&& (255 : Int32)).toUInt32.toUInt16.toUInt32.toInt32)), .val (.int ((p2 &&& (255 : Int32)).toUInt32.toUInt16.toUInt32.toInt32)), .val (.int ((p0 &&& (2147483647 : Int32)) % (3 : Int32))), .unset] [(.ref b8)])) _
        refine XS.dup X8.here hx rfl (hb hby d2_52) rfl rfl ?_
        show Steps p.tables e below (T8.setTop (mkF m 53 #[.val (.int p0), .val (.int p1), .val (.int p2), .val (.int ((p1 &&& (255 : Int32)).toUInt32.toUInt16.toUInt32.toInt32)), .val (.int ((p2 &&& (255 : Int32)).toUInt32.toUInt16.toUInt32.toInt32)), .val (.int ((p0 &&& (2147483647 : Int32)) % (3 : Int32))), .unset] [(.ref b8), (.ref b8)])) _
        refine XS.iconst X8.here hx rfl (hb hby d2_53) ?_
        show Steps p.tables e below (T8.setTop (mkF m 54 #[.val (.int p0), .val (.int p1), .val (.int p2), .val (.int ((p1 &&& (255 : Int32)).toUInt32.toUInt16.toUInt32.toInt32)), .val (.int ((p2 &&& (255 : Int32)).toUInt32.toUInt16.toUInt32.toInt32)), .val (.int ((p0 &&& (2147483647 : Int32)) % (3 : Int32))), .unset] [(.int (1 : Int32)), (.ref b8), (.ref b8)])) _
        refine st9 _ ?_
        show Steps p.tables e below (T9.setTop (mkF m 56 #[.val (.int p0), .val (.int p1), .val (.int p2), .val (.int ((p1 &&& (255 : Int32)).toUInt32.toUInt16.toUInt32.toInt32)), .val (.int ((p2 &&& (255 : Int32)).toUInt32.toUInt16.toUInt32.toInt32)), .val (.int ((p0 &&& (2147483647 : Int32)) % (3 : Int32))), .unset] [(.ref b9), (.ref b8), (.ref b8)])) _
        refine XS.dup X9.here hx rfl (hb hby d2_56) rfl rfl ?_
        show Steps p.tables e below (T9.setTop (mkF m 57 #[.val (.int p0), .val (.int p1), .val (.int p2), .val (.int ((p1 &&& (255 : Int32)).toUInt32.toUInt16.toUInt32.toInt32)), .val (.int ((p2 &&& (255 : Int32)).toUInt32.toUInt16.toUInt32.toInt32)), .val (.int ((p0 &&& (2147483647 : Int32)) % (3 : Int32))), .unset] [(.ref b9), (.ref b9), (.ref b8), (.ref b8)])) _
        refine XS.iconst X9.here hx rfl (hb hby d2_57) ?_
        show Steps p.tables e below (T9.setTop (mkF m 58 #[.val (.int p0), .val (.int p1), .val (.int p2), .val (.int ((p1 &&& (255 : Int32)).toUInt32.toUInt16.toUInt32.toInt32)), .val (.int ((p2 &&& (255 : Int32)).toUInt32.toUInt16.toUInt32.toInt32)), .val (.int ((p0 &&& (2147483647 : Int32)) % (3 : Int32))), .unset] [(.int (0 : Int32)), (.ref b9), (.ref b9), (.ref b8), (.ref b8)])) _
        refine XS.iloadN X9.here hx rfl (hb hby d2_58) rfl ?_
        show Steps p.tables e below (T9.setTop (mkF m 59 #[.val (.int p0), .val (.int p1), .val (.int p2), .val (.int ((p1 &&& (255 : Int32)).toUInt32.toUInt16.toUInt32.toInt32)), .val (.int ((p2 &&& (255 : Int32)).toUInt32.toUInt16.toUInt32.toInt32)), .val (.int ((p0 &&& (2147483647 : Int32)) % (3 : Int32))), .unset] [(.int ((p1 &&& (255 : Int32)).toUInt32.toUInt16.toUInt32.toInt32)), (.int (0 : Int32)), (.ref b9), (.ref b9), (.ref b8), (.ref b8)])) _
        refine st10 _ ?_
        show Steps p.tables e below (T10.setTop (mkF m 60 #[.val (.int p0), .val (.int p1), .val (.int p2), .val (.int ((p1 &&& (255 : Int32)).toUInt32.toUInt16.toUInt32.toInt32)), .val (.int ((p2 &&& (255 : Int32)).toUInt32.toUInt16.toUInt32.toInt32)), .val (.int ((p0 &&& (2147483647 : Int32)) % (3 : Int32))), .unset] [(.ref b9), (.ref b8), (.ref b8)])) _
        refine st11.trans ?_
        show Steps p.tables e below (T11.setTop (mkF m 63 #[.val (.int p0), .val (.int p1), .val (.int p2), .val (.int ((p1 &&& (255 : Int32)).toUInt32.toUInt16.toUInt32.toInt32)), .val (.int ((p2 &&& (255 : Int32)).toUInt32.toUInt16.toUInt32.toInt32)), .val (.int ((p0 &&& (2147483647 : Int32)) % (3 : Int32))), .unset] [(.ref b8)])) _
        refine XS.astore X11.here hx rfl (hb hby d2_63) rfl rfl (l' := #[.val (.int p0), .val (.int p1), .val (.int p2), .val (.int ((p1 &&& (255 : Int32)).toUInt32.toUInt16.toUInt32.toInt32)), .val (.int ((p2 &&& (255 : Int32)).toUInt32.toUInt16.toUInt32.toInt32)), .val (.int ((p0 &&& (2147483647 : Int32)) % (3 : Int32))), .val (.ref b8)]) rfl ?_
        show Steps p.tables e below (T11.setTop (mkF m 65 #[.val (.int p0), .val (.int p1), .val (.int p2), .val (.int ((p1 &&& (255 : Int32)).toUInt32.toUInt16.toUInt32.toInt32)), .val (.int ((p2 &&& (255 : Int32)).toUInt32.toUInt16.toUInt32.toInt32)), .val (.int ((p0 &&& (2147483647 : Int32)) % (3 : Int32))), .val (.ref b8)] [])) _
        refine XS.goto X11.here hx rfl (pc0 := 65) (pc' := 89) rfl (hb hby d2_65) (by decide) (by decide) ?_
        show Steps p.tables e below (T11.setTop (mkF m 89 #[.val (.int p0), .val (.int p1), .val (.int p2), .val (.int ((p1 &&& (255 : Int32)).toUInt32.toUInt16.toUInt32.toInt32)), .val (.int ((p2 &&& (255 : Int32)).toUInt32.toUInt16.toUInt32.toInt32)), .val (.int ((p0 &&& (2147483647 : Int32)) % (3 : Int32))), .val (.ref b8)] [])) _
        refine XS.aload X11.here hx rfl (hb hby d2_89) rfl rfl ?_
        exact k
      obtain ⟨fs, hr, hrun, hended, hEW⟩ := X11.leaveW hS hk (v := some (.ref b8)) (fun h => by rw [Bd.returns] at h; cases h)
      have HCf : CHr Z own_EL s.vm s.heap T11.vm T11.heap := by
        rw [hh]
        exact HC.trans (CHv.at X11 hZ (own_EW hw) HC.1)
      refine ⟨_, _, k12 _ ?_, hrun, hended, _, _, rfl, ?_, HCf, hEW.1, hEW.2.1, hEW.2.2.1, hEW.2.2.2.mono (by decide) (by decide)⟩
      · exact retOut X11 hx Bd.returns rfl (Or.inr (Or.inr (Or.inr (Or.inr ⟨rfl, rfl, rfl⟩)))) (hb hby d2_91) hr
      · show own_TQ Z h0 n0 _ T11.heap _
        exact ⟨_, rfl, N11, K0, E_b8⟩
    · obtain ⟨T13, h13, X13, e13, E13, A13, D13, -, st13⟩ := newO X0 hx hZ hown (hw _ (List.mem_of_getElem? (i := 11) rfl)) (hw _ (List.mem_of_getElem? (i := 12) rfl)) (hw _ (List.mem_of_getElem? (i := 13) rfl)) e0 (g := (mkF m 68 #[.val (.int p0), .val (.int p1), .val (.int p2), .val (.int ((p1 &&& (255 : Int32)).toUInt32.toUInt16.toUInt32.toInt32)), .val (.int ((p2 &&& (255 : Int32)).toUInt32.toUInt16.toUInt32.toInt32)), .val (.int ((p0 &&& (2147483647 : Int32)) % (3 : Int32))), .unset] [])) rfl (hb hby d2_68) (by decide) (by decide)
      obtain ⟨b13, g13⟩ : ∃ z, z = h0.size := ⟨_, rfl⟩
      rw [← g13] at A13 D13 st13
      have gn_b13 : n0 ≤ b13 := Nat.le_trans (O0.1 ▸ O0.2.1) (Nat.le_of_eq g13.symm)
      have sz_b13_K0 : h0.size ≤ b13 := Nat.le_trans K0.1 (Nat.le_of_eq g13.symm)
      have Sf_b13 : Safe Z own_EL s.vm h0 b13 := Safe.new (Nat.le_of_eq g13.symm)
      replace O0 := O0.ext E13
      replace K0 := K0.ext E13
      replace hk := Nat.le_trans hk E13.1
      replace Sf_b13 := Safe.ext E13 HC.1 Sf_b13
      replace HC := HC.trans (CHr.ext E13 HC.1)
      have E_b13 := A13
      have F_value_b13 : Fld Z h13 b13 "java/lang/String" "value" "[B" .null := D13 (Or.inr (hw _ (List.mem_of_getElem? (i := 27) rfl))) (ty := (.array .byte)) (by decide)
      have F_coder_b13 : Fld Z h13 b13 "java/lang/String" "coder" "B" (.int (0 : Int32)) := D13 (Or.inr (hw _ (List.mem_of_getElem? (i := 28) rfl))) (ty := .byte) (by decide)
      obtain ⟨T14, h14, c14, X14, e14, E14, A14, st14⟩ := newP X13 hx hZ (hw _ (List.mem_of_getElem? (i := 14) rfl)) e13 (g := (mkF m 73 #[.val (.int p0), .val (.int p1), .val (.int p2), .val (.int ((p1 &&& (255 : Int32)).toUInt32.toUInt16.toUInt32.toInt32)), .val (.int ((p2 &&& (255 : Int32)).toUInt32.toUInt16.toUInt32.toInt32)), .val (.int ((p0 &&& (2147483647 : Int32)) % (3 : Int32))), .unset] [(.int (2 : Int32)), (.ref b13), (.ref b13)])) rfl (hb hby d2_73) rfl (by decide) (cap := 2) (by decide) (by decide) (by decide) (by decide)
      obtain ⟨b14, g14⟩ : ∃ z, z = h13.size := ⟨_, rfl⟩
      rw [← g14] at A14 st14
      have ne_b13_b14 : b13 ≠ b14 := Nat.ne_of_lt (Nat.lt_of_lt_of_le E_b13.lt (Nat.le_of_eq g14.symm))
      have gn_b14 : n0 ≤ b14 := Nat.le_trans (O0.1 ▸ O0.2.1) (Nat.le_of_eq g14.symm)
      have sz_b14_K0 : h0.size ≤ b14 := Nat.le_trans K0.1 (Nat.le_of_eq g14.symm)
      replace E_b13 := E_b13.ext E14
      replace F_value_b13 := F_value_b13.ext E14
      replace F_coder_b13 := F_coder_b13.ext E14
      replace O0 := O0.ext E14
      replace K0 := K0.ext E14
      replace hk := Nat.le_trans hk E14.1
      replace Sf_b13 := Safe.ext E14 HC.1 Sf_b13
      replace HC := HC.trans (CHr.ext E14 HC.1)
      have V_b14 : Arv Z h14 b14 c14 .char (2 : Int32) [(.int (0 : Int32)), (.int (0 : Int32))] (.int (0 : Int32)) := (Arv.new A14 (by decide)).pad (pad_rep [] (.int (0 : Int32)) 2)
      obtain ⟨cl_15, Ar_15, q_15, S_15, N_15, H_15, G_15⟩ := id V_b14
      have hin_15 : ¬ ((0 : Int32) < 0 ∨ cl_15.slots.size ≤ ((0 : Int32)).toNatClampNeg) := inb_of S_15 ⟨by decide, by decide⟩
      obtain ⟨T15, h15, X15, e15, W15, st15⟩ := stC X14 hx hZ e14 Ar_15 (j := (0 : Int32)) hin_15 (g := (mkF m 78 #[.val (.int p0), .val (.int p1), .val (.int p2), .val (.int ((p1 &&& (255 : Int32)).toUInt32.toUInt16.toUInt32.toInt32)), .val (.int ((p2 &&& (255 : Int32)).toUInt32.toUInt16.toUInt32.toInt32)), .val (.int ((p0 &&& (2147483647 : Int32)) % (3 : Int32))), .unset] [(.int ((p1 &&& (255 : Int32)).toUInt32.toUInt16.toUInt32.toInt32)), (.int (0 : Int32)), (.ref b14), (.ref b14), (.ref b13), (.ref b13)])) rfl rfl (hb hby d2_78)
      have Vn15 : Arv Z h15 b14 c14 .char (2 : Int32) [(.int (nar .char ((p1 &&& (255 : Int32)).toUInt32.toUInt16.toUInt32.toInt32))), (.int (0 : Int32))] (.int (0 : Int32)) := Arv.set Ar_15 q_15 S_15 N_15 H_15 G_15 (fits_nar_char _) W15 0 rfl (Nat.le_of_ble_eq_true rfl)
      have So : Safe Z own_EL s.vm h14 b14 := (by obtain ⟨_, A, _⟩ := V_b14; exact Safe.arr hZ.alike A (by decide))
      replace E_b13 := E_b13.wr W15
      replace F_value_b13 := F_value_b13.other W15 (Or.inl ne_b13_b14)
      replace F_coder_b13 := F_coder_b13.other W15 (Or.inl ne_b13_b14)
      replace Sf_b13 := Safe.wr W15 So HC.1 Sf_b13
      replace HC := HC.trans (CHr.wr W15 So HC.1)
      replace O0 := O0.wr W15 gn_b14
      replace K0 := K0.wr W15 (Or.inr sz_b14_K0)
      replace hk := Nat.le_trans hk (Nat.le_of_eq W15.size.symm)
      replace V_b14 := Vn15
      have N15 := Fr.snoc X15 N0 gn_b14
      obtain ⟨cl_16, Ar_16, q_16, S_16, N_16, H_16, G_16⟩ := id V_b14
      have hin_16 : ¬ ((1 : Int32) < 0 ∨ cl_16.slots.size ≤ ((1 : Int32)).toNatClampNeg) := inb_of S_16 ⟨by decide, by decide⟩
      obtain ⟨T16, h16, X16, e16, W16, st16⟩ := stC X15 hx hZ e15 Ar_16 (j := (1 : Int32)) hin_16 (g := (mkF m 83 #[.val (.int p0), .val (.int p1), .val (.int p2), .val (.int ((p1 &&& (255 : Int32)).toUInt32.toUInt16.toUInt32.toInt32)), .val (.int ((p2 &&& (255 : Int32)).toUInt32.toUInt16.toUInt32.toInt32)), .val (.int ((p0 &&& (2147483647 : Int32)) % (3 : Int32))), .unset] [(.int ((p2 &&& (255 : Int32)).toUInt32.toUInt16.toUInt32.toInt32)), (.int (1 : Int32)), (.ref b14), (.ref b14), (.ref b13), (.ref b13)])) rfl rfl (hb hby d2_83)
      have Vn16 : Arv Z h16 b14 c14 .char (2 : Int32) [(.int (nar .char ((p1 &&& (255 : Int32)).toUInt32.toUInt16.toUInt32.toInt32))), (.int (nar .char ((p2 &&& (255 : Int32)).toUInt32.toUInt16.toUInt32.toInt32)))] (.int (0 : Int32)) := Arv.set Ar_16 q_16 S_16 N_16 H_16 G_16 (fits_nar_char _) W16 1 rfl (Nat.le_of_ble_eq_true rfl)
      have So : Safe Z own_EL s.vm h15 b14 := (by obtain ⟨_, A, _⟩ := V_b14; exact Safe.arr hZ.alike A (by decide))
      replace E_b13 := E_b13.wr W16
      replace F_value_b13 := F_value_b13.other W16 (Or.inl ne_b13_b14)
      replace F_coder_b13 := F_coder_b13.other W16 (Or.inl ne_b13_b14)
      replace Sf_b13 := Safe.wr W16 So HC.1 Sf_b13
      replace HC := HC.trans (CHr.wr W16 So HC.1)
      replace O0 := O0.wr W16 gn_b14
      replace K0 := K0.wr W16 (Or.inr sz_b14_K0)
      replace hk := Nat.le_trans hk (Nat.le_of_eq W16.size.symm)
      replace V_b14 := Vn16
      have N16 := Fr.snoc X16 N15 gn_b14
      obtain ⟨_, _, ⟨T17, L17, k17_, n17⟩, -, X17, ⟨Lc17, hQ17, l17, y17, z17⟩, st17⟩ := X16.specialBack hx (y := (⟨"java/lang/String", "<init>", "([C)V"⟩ : MethodName)) rfl hown (mvT hZ (hw _ (List.mem_of_getElem? (i := 15) rfl))) (mvT hZ (hw _ (List.mem_of_getElem? (i := 16) rfl))) (mvT hZ (hw _ (List.mem_of_getElem? (i := 17) rfl))) (by decide) (backOf (W := 1) (rmS1_2 l Z a0 hw [] b13 b14 c14 (nar .char ((p1 &&& (255 : Int32)).toUInt32.toUInt16.toUInt32.toInt32)) (nar .char ((p2 &&& (255 : Int32)).toUInt32.toUInt16.toUInt32.toInt32)) w_CS h16 n0 hG O0 (O0.1 ▸ O0.2.1) gn_b13 E_b13 F_value_b13 F_coder_b13 (Ne.symm ne_b13_b14) V_b14 (own_c2 _) (own_c2 _)) hZ (hw _ (List.mem_of_getElem? (i := 17) rfl)) (hw _ (List.mem_of_getElem? (i := 13) rfl)) (by decide) (by decide)) (g := (mkF m 84 #[.val (.int p0), .val (.int p1), .val (.int p2), .val (.int ((p1 &&& (255 : Int32)).toUInt32.toUInt16.toUInt32.toInt32)), .val (.int ((p2 &&& (255 : Int32)).toUInt32.toUInt16.toUInt32.toInt32)), .val (.int ((p0 &&& (2147483647 : Int32)) % (3 : Int32))), .unset] [(.ref b14), (.ref b13), (.ref b13)])) rfl (by rw [hml]; rfl) (Steps.refl _) (a := b13) (argsL := [(.ref b14)]) (rest := [(.ref b13)]) (lenOf pd_4 rfl) rfl (by show 2 * 0 + _ ≤ _; exact Nat.le_of_eq rfl) (hb hby d2_84) (fun _ _ => ⟨rfl, e16, (by decide : 2 + 1 ≤ _), (by decide : 6 + 2 ≤ _)⟩)
      dsimp only [Pt.U, Pt.locs, Pt.cells, Pt.slots] at X17 l17 y17 z17 st17 hQ17
      subst l17 y17 z17
      obtain ⟨rfl, Nq17, Kq17, Eq17, bv17, kq17, vs17, Fq17, Vq17⟩ := hQ17
      have N17 := Fr.app N16 Nq17
      have So : Safe Z own_EL s.vm h16 b13 := Sf_b13
      replace Sf_b13 := Safe.keep Kq17 (fun x hx => by cases List.mem_singleton.mp hx; exact So) HC.1 Sf_b13
      replace HC := HC.trans (CHr.keep Kq17 (fun x hx => by cases List.mem_singleton.mp hx; exact So) HC.1)
      replace E_b13 := E_b13.keep Kq17
      replace V_b14 := V_b14.keep Kq17 (fun q => (Ne.symm ne_b13_b14) (List.mem_singleton.mp q))
      replace O0 := O0.keep Kq17 (fun x hx => by cases List.mem_singleton.mp hx; exact gn_b13)
      replace K0 := K0.trans Kq17 (fun x hx => by cases List.mem_singleton.mp hx; exact (Or.inr sz_b13_K0))
      replace hk := Nat.le_trans hk Kq17.1
      have k18 : ∀ t, Steps p.tables e below (T17.setTop (mkF m 91 #[.val (.int p0), .val (.int p1), .val (.int p2), .val (.int ((p1 &&& (255 : Int32)).toUInt32.toUInt16.toUInt32.toInt32)), .val (.int ((p2 &&& (255 : Int32)).toUInt32.toUInt16.toUInt32.toInt32)), .val (.int ((p0 &&& (2147483647 : Int32)) % (3 : Int32))), .val (.ref b13)] [(.ref b13)])) t → Steps p.tables e below (s₁.setTop (entryFrame m #[(.int p0), (.int p1), (.int p2)] 7)) t := by
        intro t k
        refine k7 _ ?_
        show Steps p.tables e below (s₁.setTop (mkF m 46 #[.val (.int p0), .val (.int p1), .val (.int p2), .val (.int ((p1 &&& (255 : Int32)).toUInt32.toUInt16.toUInt32.toInt32)), .val (.int ((p2 &&& (255 : Int32)).toUInt32.toUInt16.toUInt32.toInt32)), .val (.int ((p0 &&& (2147483647 : Int32)) % (3 : Int32))), .unset] [(.int (1 : Int32)), (.int ((p0 &&& (2147483647 : Int32)) % (3 : Int32)))])) _
        refine XS.icmpYes X0.here hx rfl (pc0 := 46) (pc' := 68) rfl (hb hby d2_46) rfl (feq hc46_2).2 (by decide) (by decide) ?_
        show Steps p.tables e below (s₁.setTop (mkF m 68 #[.val (.int p0), .val (.int p1), .val (.int p2), .val (.int ((p1 &&& (255 : Int32)).toUInt32.toUInt16.toUInt32.toInt32)), .val (.int ((p2 &&& (255 : Int32)).toUInt32.toUInt16.toUInt32.toInt32)), .val (.int ((p0 &&& (2147483647 : Int32)) % (3 : Int32))), .unset] [])) _
        refine st13 _ ?_
        show Steps p.tables e below (T13.setTop (mkF m 71 #[.val (.int p0), .val (.int p1), .val (.int p2), .val (.int ((p1 &&& (255 : Int32)).toUInt32.toUInt16.toUInt32.toInt32)), .val (.int ((p2 &&& (255 : Int32)).toUInt32.toUInt16.toUInt32.toInt32)), .val (.int ((p0 &&& (2147483647 : Int32)) % (3 : Int32))), .unset] [(.ref b13)])) _
        refine XS.dup X13.here hx rfl (hb hby d2_71) rfl rfl ?_
        show Steps p.tables e below (T13.setTop (mkF m 72 #[.val (.int p0), .val (.int p1), .val (.int p2), .val (.int ((p1 &&& (255 : Int32)).toUInt32.toUInt16.toUInt32.toInt32)), .val (.int ((p2 &&& (255 : Int32)).toUInt32.toUInt16.toUInt32.toInt32)), .val (.int ((p0 &&& (2147483647 : Int32)) % (3 : Int32))), .unset] [(.ref b13), (.ref b13)])) _
        refine XS.iconst X13.here hx rfl (hb hby d2_72) ?_
        show Steps p.tables e below (T13.setTop (mkF m 73 #[.val (.int p0), .val (.int p1), .val (.int p2), .val (.int ((p1 &&& (255 : Int32)).toUInt32.toUInt16.toUInt32.toInt32)), .val (.int ((p2 &&& (255 : Int32)).toUInt32.toUInt16.toUInt32.toInt32)), .val (.int ((p0 &&& (2147483647 : Int32)) % (3 : Int32))), .unset] [(.int (2 : Int32)), (.ref b13), (.ref b13)])) _
        refine st14 _ ?_
        show Steps p.tables e below (T14.setTop (mkF m 75 #[.val (.int p0), .val (.int p1), .val (.int p2), .val (.int ((p1 &&& (255 : Int32)).toUInt32.toUInt16.toUInt32.toInt32)), .val (.int ((p2 &&& (255 : Int32)).toUInt32.toUInt16.toUInt32.toInt32)), .val (.int ((p0 &&& (2147483647 : Int32)) % (3 : Int32))), .unset] [(.ref b14), (.ref b13), (.ref b13)])) _
        refine XS.dup X14.here hx rfl (hb hby d2_75) rfl rfl ?_
        show Steps p.tables e below (T14.setTop (mkF m 76 #[.val (.int p0), .val (.int p1), .val (.int p2), .val (.int ((p1 &&& (255 : Int32)).toUInt32.toUInt16.toUInt32.toInt32)), .val (.int ((p2 &&& (255 : Int32)).toUInt32.toUInt16.toUInt32.toInt32)), .val (.int ((p0 &&& (2147483647 : Int32)) % (3 : Int32))), .unset] [(.ref b14), (.ref b14), (.ref b13), (.ref b13)])) _
        refine XS.iconst X14.here hx rfl (hb hby d2_76) ?_
        show Steps p.tables e below (T14.setTop (mkF m 77 #[.val (.int p0), .val (.int p1), .val (.int p2), .val (.int ((p1 &&& (255 : Int32)).toUInt32.toUInt16.toUInt32.toInt32)), .val (.int ((p2 &&& (255 : Int32)).toUInt32.toUInt16.toUInt32.toInt32)), .val (.int ((p0 &&& (2147483647 : Int32)) % (3 : Int32))), .unset] [(.int (0 : Int32)), (.ref b14), (.ref b14), (.ref b13), (.ref b13)])) _
        refine XS.iloadN X14.here hx rfl (hb hby d2_77) rfl ?_
        show Steps p.tables e below (T14.setTop (mkF m 78 #[.val (.int p0), .val (.int p1), .val (.int p2), .val (.int ((p1 &&& (255 : Int32)).toUInt32.toUInt16.toUInt32.toInt32)), .val (.int ((p2 &&& (255 : Int32)).toUInt32.toUInt16.toUInt32.toInt32)), .val (.int ((p0 &&& (2147483647 : Int32)) % (3 : Int32))), .unset] [(.int ((p1 &&& (255 : Int32)).toUInt32.toUInt16.toUInt32.toInt32)), (.int (0 : Int32)), (.ref b14), (.ref b14), (.ref b13), (.ref b13)])) _
        refine st15 _ ?_
        show Steps p.tables e below (T15.setTop (mkF m 79 #[.val (.int p0), .val (.int p1), .val (.int p2), .val (.int ((p1 &&& (255 : Int32)).toUInt32.toUInt16.toUInt32.toInt32)), .val (.int ((p2 &&& (255 : Int32)).toUInt32.toUInt16.toUInt32.toInt32)), .val (.int ((p0 &&& (2147483647 : Int32)) % (3 : Int32))), .unset] [(.ref b14), (.ref b13), (.ref b13)])) _
        refine XS.dup X15.here hx rfl (hb hby d2_79) rfl rfl ?_
        show Steps p.tables e below (T15.setTop (mkF m 80 #[.val (.int p0), .val (.int p1), .val (.int p2), .val (.int ((p1 &&& (255 : Int32)).toUInt32.toUInt16.toUInt32.toInt32)), .val (.int ((p2 &&& (255 : Int32)).toUInt32.toUInt16.toUInt32.toInt32)), .val (.int ((p0 &&& (2147483647 : Int32)) % (3 : Int32))), .unset] [(.ref b14), (.ref b14), (.ref b13), (.ref b13)])) _
        refine XS.iconst X15.here hx rfl (hb hby d2_80) ?_
        show Steps p.tables e below (T15.setTop (mkF m 81 #[.val (.int p0), .val (.int p1), .val (.int p2), .val (.int ((p1 &&& (255 : Int32)).toUInt32.toUInt16.toUInt32.toInt32)), .val (.int ((p2 &&& (255 : Int32)).toUInt32.toUInt16.toUInt32.toInt32)), .val (.int ((p0 &&& (2147483647 : Int32)) % (3 : Int32))), .unset] [(.int (1 : Int32)), (.ref b14), (.ref b14), (.ref b13), (.ref b13)])) _
        refine XS.iload X15.here hx rfl (hb hby d2_81) rfl ?_
        show Steps p.tables e below (T15.setTop (mkF m 83 #[.val (.int p0), .val (.int p1), .val (.int p2), .val (.int ((p1 &&& (255 : Int32)).toUInt32.toUInt16.toUInt32.toInt32)), .val (.int ((p2 &&& (255 : Int32)).toUInt32.toUInt16.toUInt32.toInt32)), .val (.int ((p0 &&& (2147483647 : Int32)) % (3 : Int32))), .unset] [(.int ((p2 &&& (255 : Int32)).toUInt32.toUInt16.toUInt32.toInt32)), (.int (1 : Int32)), (.ref b14), (.ref b14), (.ref b13), (.ref b13)])) _
        refine st16 _ ?_
        show Steps p.tables e below (T16.setTop (mkF m 84 #[.val (.int p0), .val (.int p1), .val (.int p2), .val (.int ((p1 &&& (255 : Int32)).toUInt32.toUInt16.toUInt32.toInt32)), .val (.int ((p2 &&& (255 : Int32)).toUInt32.toUInt16.toUInt32.toInt32)), .val (.int ((p0 &&& (2147483647 : Int32)) % (3 : Int32))), .unset] [(.ref b14), (.ref b13), (.ref b13)])) _
        refine st17.trans ?_
        show Steps p.tables e below (T17.setTop (mkF m 87 #[.val (.int p0), .val (.int p1), .val (.int p2), .val (.int ((p1 &&& (255 : Int32)).toUInt32.toUInt16.toUInt32.toInt32)), .val (.int ((p2 &&& (255 : Int32)).toUInt32.toUInt16.toUInt32.toInt32)), .val (.int ((p0 &&& (2147483647 : Int32)) % (3 : Int32))), .unset] [(.ref b13)])) _
        refine XS.astore X17.here hx rfl (hb hby d2_87) rfl rfl (l' := #[.val (.int p0), .val (.int p1), .val (.int p2), .val (.int ((p1 &&& (255 : Int32)).toUInt32.toUInt16.toUInt32.toInt32)), .val (.int ((p2 &&& (255 : Int32)).toUInt32.toUInt16.toUInt32.toInt32)), .val (.int ((p0 &&& (2147483647 : Int32)) % (3 : Int32))), .val (.ref b13)]) rfl ?_
        show Steps p.tables e below (T17.setTop (mkF m 89 #[.val (.int p0), .val (.int p1), .val (.int p2), .val (.int ((p1 &&& (255 : Int32)).toUInt32.toUInt16.toUInt32.toInt32)), .val (.int ((p2 &&& (255 : Int32)).toUInt32.toUInt16.toUInt32.toInt32)), .val (.int ((p0 &&& (2147483647 : Int32)) % (3 : Int32))), .val (.ref b13)] [])) _
        refine XS.aload X17.here hx rfl (hb hby d2_89) rfl rfl ?_
        exact k
      obtain ⟨fs, hr, hrun, hended, hEW⟩ := X17.leaveW hS hk (v := some (.ref b13)) (fun h => by rw [Bd.returns] at h; cases h)
      have HCf : CHr Z own_EL s.vm s.heap T17.vm T17.heap := by
        rw [hh]
        exact HC.trans (CHv.at X17 hZ (own_EW hw) HC.1)
      refine ⟨_, _, k18 _ ?_, hrun, hended, _, _, rfl, ?_, HCf, hEW.1, hEW.2.1, hEW.2.2.1, hEW.2.2.2.mono (by decide) (by decide)⟩
      · exact retOut X17 hx Bd.returns rfl (Or.inr (Or.inr (Or.inr (Or.inr ⟨rfl, rfl, rfl⟩)))) (hb hby d2_91) hr
      · show own_TQ Z h0 n0 _ T17.heap _
        exact ⟨_, rfl, N17, K0, E_b13⟩
theorem pn_3 : plainName "java/lang/Record" = true := by first | (simp [plainName, overriddenIn]; done) | decide +kernel
theorem ef_rm7 (m : MethodId) (x0 : Addr) : entryFrame m #[(.ref x0)] 1 = mkF m 0 #[.val (.ref x0)] [] := by first | (simp [entryFrame, mkF, argsToLocals, Value.category]; done) | rfl
theorem d7_0 : decode jdk_30_method_1_code 0 = .ok (.aload_n 0, 1) := by decide +kernel
theorem d7_1 : decode jdk_30_method_1_code 1 = .ok (.invokespecial 1, 3) := by decide +kernel
theorem d7_4 : decode jdk_30_method_1_code 4 = .ok (.return_, 1) := by decide +kernel
set_option maxRecDepth 65536 in
set_option maxHeartbeats 40000000 in
theorem rm7 (l : Launch) (Z : State) (a0 : Array Value) (hw : ∀ d ∈ tables_1, d.before a0 Z = true) (ws : List Jvm.Cond) (r0 : Addr) (h0 : Heap) (n0 : Nat) :
    MetFree l (⟨"java/lang/Record", "<init>", "()V"⟩ : MethodName) (head1 (Jvm.Cond.code (⟨"java/lang/Record", "<init>", "()V"⟩ : MethodName) jdk_30_method_1_code 1 none :: ws) ({ frames := 1, cells := 0, slots := 0, locals := 12 } : Room)) (fun a U => a = #[(.ref r0)] ∧ Z.Warmed39 U.vm ∧ U.heap = h0) (fun _ _ _ _ _ => True) (fun _ U o U' => ∃ v L, o = .returned v ∧ own_Q (none) h0 n0 v U'.heap L ∧ FrameEnd U o U' L ({ frames := 1, cells := 0, slots := 0, locals := 12 } : Room).cells ({ frames := 1, cells := 0, slots := 0, locals := 12 } : Room).slots) := by
  refine MetFree.of_bodySF (plainFor_of_name pn_3) hisR ?_
  intro p e s m args below meth c s₁ Bd hml0 hP hK
  obtain ⟨rfl, hZ, hh⟩ := hP
  have hx := Bd.exec
  have hby := Bd.bytes
  have hml : c.maxLocals = 1 := hml0
  have hown : s.vm.findClass "java/lang/Record" = some m.cls := findClass_of_methodNamed Bd.named
  have hnm := (name_of_methodNamed Bd.named Bd.method).1
  have X0 : Stand p l e ({ frames := 1, cells := 0, slots := 0, locals := 12 } : Room) s m #[(.ref r0)] below meth c s₁ [] 0 0 := Stand.of_body Bd
  have e0 : s₁.heap = h0 := by rw [← hh, Bd.state]; rfl
  have N0 := Fr.nil n0
  have pre0 : ∀ t, Steps p.tables e below (s₁.setTop (mkF m 0 #[.val (.ref r0)] [])) t → Steps p.tables e below (s₁.setTop (entryFrame m #[(.ref r0)] 1)) t := fun t k => castTop (ef_rm7 m r0) k
  obtain ⟨T1, X1, e1, st1⟩ := initO X0 hx hZ hown (hw _ (List.mem_of_getElem? (i := 44) rfl)) (hw _ (List.mem_of_getElem? (i := 23) rfl)) (hw _ (List.mem_of_getElem? (i := 24) rfl)) e0 (g := (mkF m 1 #[.val (.ref r0)] [(.ref r0)])) rfl (by rw [hml]; rfl) rfl (hb hby d7_1) (by decide) (W := 0) (by show 2 * 0 + _ ≤ _; exact Nat.le_of_eq rfl) (by decide)
  have k2 : ∀ t, Steps p.tables e below (T1.setTop (mkF m 4 #[.val (.ref r0)] [])) t → Steps p.tables e below (s₁.setTop (entryFrame m #[(.ref r0)] 1)) t := by
    intro t k
    refine pre0 _ ?_
    show Steps p.tables e below (s₁.setTop (mkF m 0 #[.val (.ref r0)] [])) _
    refine XS.aloadN X0.here hx rfl (hb hby d7_0) rfl rfl ?_
    show Steps p.tables e below (s₁.setTop (mkF m 1 #[.val (.ref r0)] [(.ref r0)])) _
    refine st1 _ ?_
    exact k
  obtain ⟨fs, hr, hrun, hended, hW, hsame⟩ := X1.leave (v := none) (fun _ => rfl)
  refine ⟨_, _, k2 _ ?_, hrun, hended, _, _, rfl, ?_, ⟨_, rfl⟩, hW, hsame.mono (by decide) (by decide)⟩
  · exact X1.returnOut hx Bd.returns (hb hby d7_4) hr
  · show own_Q (none) h0 n0 _ T1.heap _
    rw [e1]
    exact ⟨rfl, N0, rfl⟩
theorem pn_4 : plainName "com/example/wee_wrapper/weewrapper/model/Token" = true := by first | (simp [plainName, overriddenIn]; done) | decide +kernel
theorem ef_rm6 (m : MethodId) (x0 : Addr) (x1 : Addr) (x2 : Addr) : entryFrame m #[(.ref x0), (.ref x1), (.ref x2)] 3 = mkF m 0 #[.val (.ref x0), .val (.ref x1), .val (.ref x2)] [] := by first | (simp [entryFrame, mkF, argsToLocals, Value.category]; done) | rfl
theorem d6_0 : decode prog_16_method_1_code 0 = .ok (.aload_n 0, 1) := by decide +kernel
theorem pd_5 : parseMethodDescriptor "()V" = some ⟨[], none⟩ := by decide +kernel
theorem d6_1 : decode prog_16_method_1_code 1 = .ok (.invokespecial 1, 3) := by decide +kernel
theorem d6_4 : decode prog_16_method_1_code 4 = .ok (.aload_n 0, 1) := by decide +kernel
theorem d6_5 : decode prog_16_method_1_code 5 = .ok (.aload_n 1, 1) := by decide +kernel
theorem d6_6 : decode prog_16_method_1_code 6 = .ok (.putfield 7, 3) := by decide +kernel
theorem d6_9 : decode prog_16_method_1_code 9 = .ok (.aload_n 0, 1) := by decide +kernel
theorem d6_10 : decode prog_16_method_1_code 10 = .ok (.aload_n 2, 1) := by decide +kernel
theorem d6_11 : decode prog_16_method_1_code 11 = .ok (.putfield 13, 3) := by decide +kernel
theorem d6_14 : decode prog_16_method_1_code 14 = .ok (.return_, 1) := by decide +kernel
def own_C6 (Z : State) (r0 : Addr) (r1 : Addr) (r2 : Addr) (h0 : Heap) (n0 : Nat) (v : Option Value) (h : Heap) (L : List Loc) : Prop := v = none ∧ Fr n0 L ∧ Keep h0 h [r0] ∧ Exa Z h r0 "com/example/wee_wrapper/weewrapper/model/Token" ∧ Fld Z h r0 "com/example/wee_wrapper/weewrapper/model/Token" "kind" "Lcom/example/wee_wrapper/weewrapper/model/Token$Kind;" (.ref r1)
set_option maxRecDepth 65536 in
set_option maxHeartbeats 40000000 in
theorem rm6 (l : Launch) (Z : State) (a0 : Array Value) (hw : ∀ d ∈ tables_1, d.before a0 Z = true) (ws : List Jvm.Cond) (r0 : Addr) (r1 : Addr) (r2 : Addr) (h0 : Heap) (n0 : Nat) (Z0 : n0 ≤ h0.size) (g_r0 : n0 ≤ r0) (E_r0 : Exa Z h0 r0 "com/example/wee_wrapper/weewrapper/model/Token") (F_kind_r0 : Fld Z h0 r0 "com/example/wee_wrapper/weewrapper/model/Token" "kind" "Lcom/example/wee_wrapper/weewrapper/model/Token$Kind;" .null) (F_text_r0 : Fld Z h0 r0 "com/example/wee_wrapper/weewrapper/model/Token" "text" "Ljava/lang/String;" .null) :
    MetFree l (⟨"com/example/wee_wrapper/weewrapper/model/Token", "<init>", "(Lcom/example/wee_wrapper/weewrapper/model/Token$Kind;Ljava/lang/String;)V"⟩ : MethodName) (head1 (Jvm.Cond.code (⟨"com/example/wee_wrapper/weewrapper/model/Token", "<init>", "(Lcom/example/wee_wrapper/weewrapper/model/Token$Kind;Ljava/lang/String;)V"⟩ : MethodName) prog_16_method_1_code 3 none :: ws) ({ frames := 2, cells := 0, slots := 0, locals := 24 } : Room)) (fun a U => a = #[(.ref r0), (.ref r1), (.ref r2)] ∧ Z.Warmed39 U.vm ∧ U.heap = h0) (fun _ _ _ _ _ => True) (fun _ U o U' => ∃ v L, o = .returned v ∧ own_C6 Z r0 r1 r2 h0 n0 v U'.heap L ∧ FrameEnd U o U' L ({ frames := 2, cells := 0, slots := 0, locals := 24 } : Room).cells ({ frames := 2, cells := 0, slots := 0, locals := 24 } : Room).slots) := by
  refine MetFree.of_bodySF (plainFor_of_name pn_4) hisR ?_
  intro p e s m args below meth c s₁ Bd hml0 hP hK
  obtain ⟨rfl, hZ, hh⟩ := hP
  have hx := Bd.exec
  have hby := Bd.bytes
  have hml : c.maxLocals = 3 := hml0
  have hown : s.vm.findClass "com/example/wee_wrapper/weewrapper/model/Token" = some m.cls := findClass_of_methodNamed Bd.named
  have hnm := (name_of_methodNamed Bd.named Bd.method).1
  have X0 : Stand p l e ({ frames := 2, cells := 0, slots := 0, locals := 24 } : Room) s m #[(.ref r0), (.ref r1), (.ref r2)] below meth c s₁ [] 0 0 := Stand.of_body Bd
  have e0 : s₁.heap = h0 := by rw [← hh, Bd.state]; rfl
  have N0 := Fr.nil n0
  have pre0 : ∀ t, Steps p.tables e below (s₁.setTop (mkF m 0 #[.val (.ref r0), .val (.ref r1), .val (.ref r2)] [])) t → Steps p.tables e below (s₁.setTop (entryFrame m #[(.ref r0), (.ref r1), (.ref r2)] 3)) t := fun t k => castTop (ef_rm6 m r0 r1 r2) k
  have K0 : Keep h0 h0 [r0] := Keep.refl _ _
  obtain ⟨_, _, ⟨T1, L1, k1_, n1⟩, -, X1, ⟨Lc1, hQ1, l1, y1, z1⟩, st1⟩ := X0.specialBack hx (y := (⟨"java/lang/Record", "<init>", "()V"⟩ : MethodName)) rfl hown (mvT hZ (hw _ (List.mem_of_getElem? (i := 39) rfl))) (mvT hZ (hw _ (List.mem_of_getElem? (i := 40) rfl))) (mvT hZ (hw _ (List.mem_of_getElem? (i := 43) rfl))) (by decide) (backOf (W := 0) (rm7 l Z a0 hw [] r0 h0 n0 ) hZ (hw _ (List.mem_of_getElem? (i := 43) rfl)) (hw _ (List.mem_of_getElem? (i := 42) rfl)) (by decide) (by decide)) (g := (mkF m 1 #[.val (.ref r0), .val (.ref r1), .val (.ref r2)] [(.ref r0)])) rfl (by rw [hml]; rfl) (Steps.refl _) (a := r0) (argsL := []) (rest := []) (lenOf pd_5 rfl) rfl (by show 2 * 0 + _ ≤ _; exact Nat.le_of_eq rfl) (hb hby d6_1) (fun _ _ => ⟨rfl, e0, (by decide : 0 + 0 ≤ _), (by decide : 0 + 0 ≤ _)⟩)
  dsimp only [Pt.U, Pt.locs, Pt.cells, Pt.slots] at X1 l1 y1 z1 st1 hQ1
  subst l1 y1 z1
  obtain ⟨rfl, Nq1, e1⟩ := hQ1
  have N1 := Fr.app N0 Nq1
  obtain ⟨T2, h2, X2, e2, W2, st2⟩ := putF X1 hx hZ hown (host := "") (Or.inl (hw _ (List.mem_of_getElem? (i := 45) rfl))) Via.refl e1 F_kind_r0 E_r0 (Or.inr ⟨(hw _ (List.mem_of_getElem? (i := 46) rfl)), rfl, hnm⟩) (hw _ (List.mem_of_getElem? (i := 34) rfl)) (ty := (.object "com/example/wee_wrapper/weewrapper/model/Token$Kind")) (by decide) rfl rfl (g := (mkF m 6 #[.val (.ref r0), .val (.ref r1), .val (.ref r2)] [(.ref r1), (.ref r0)])) rfl rfl (hb hby d6_6)
  replace E_r0 := E_r0.wr W2
  replace F_text_r0 := F_text_r0.other W2 (Or.inr (slot_ne (Or.inr (hw _ (List.mem_of_getElem? (i := 48) rfl))) (Or.inr (hw _ (List.mem_of_getElem? (i := 46) rfl))) (by decide) (t := (.object "java/lang/String")) (t' := (.object "com/example/wee_wrapper/weewrapper/model/Token$Kind")) (by decide) (by decide)))
  replace K0 := K0.wr W2 (Or.inl (List.mem_of_getElem? (i := 0) rfl))
  replace F_kind_r0 := F_kind_r0.same W2
  have N2 := Fr.snoc X2 N1 g_r0
  have Zs2 : n0 ≤ h2.size := by rw [W2.size]; exact Z0
  obtain ⟨T3, h3, X3, e3, W3, st3⟩ := putF X2 hx hZ hown (host := "") (Or.inl (hw _ (List.mem_of_getElem? (i := 47) rfl))) Via.refl e2 F_text_r0 E_r0 (Or.inr ⟨(hw _ (List.mem_of_getElem? (i := 48) rfl)), rfl, hnm⟩) (hw _ (List.mem_of_getElem? (i := 34) rfl)) (ty := (.object "java/lang/String")) (by decide) rfl rfl (g := (mkF m 11 #[.val (.ref r0), .val (.ref r1), .val (.ref r2)] [(.ref r2), (.ref r0)])) rfl rfl (hb hby d6_11)
  replace E_r0 := E_r0.wr W3
  replace F_kind_r0 := F_kind_r0.other W3 (Or.inr (slot_ne (Or.inr (hw _ (List.mem_of_getElem? (i := 46) rfl))) (Or.inr (hw _ (List.mem_of_getElem? (i := 48) rfl))) (by decide) (t := (.object "com/example/wee_wrapper/weewrapper/model/Token$Kind")) (t' := (.object "java/lang/String")) (by decide) (by decide)))
  replace K0 := K0.wr W3 (Or.inl (List.mem_of_getElem? (i := 0) rfl))
  replace F_text_r0 := F_text_r0.same W3
  have N3 := Fr.snoc X3 N2 g_r0
  have Zs3 : n0 ≤ h3.size := by rw [W3.size]; exact Zs2
  have k4 : ∀ t, Steps p.tables e below (T3.setTop (mkF m 14 #[.val (.ref r0), .val (.ref r1), .val (.ref r2)] [])) t → Steps p.tables e below (s₁.setTop (entryFrame m #[(.ref r0), (.ref r1), (.ref r2)] 3)) t := by
    intro t k
    refine pre0 _ ?_
    show Steps p.tables e below (s₁.setTop (mkF m 0 #[.val (.ref r0), .val (.ref r1), .val (.ref r2)] [])) _
    refine XS.aloadN X0.here hx rfl (hb hby d6_0) rfl rfl ?_
    show Steps p.tables e below (s₁.setTop (mkF m 1 #[.val (.ref r0), .val (.ref r1), .val (.ref r2)] [(.ref r0)])) _
    refine st1.trans ?_
    show Steps p.tables e below (T1.setTop (mkF m 4 #[.val (.ref r0), .val (.ref r1), .val (.ref r2)] [])) _
    refine XS.aloadN X1.here hx rfl (hb hby d6_4) rfl rfl ?_
    show Steps p.tables e below (T1.setTop (mkF m 5 #[.val (.ref r0), .val (.ref r1), .val (.ref r2)] [(.ref r0)])) _
    refine XS.aloadN X1.here hx rfl (hb hby d6_5) rfl rfl ?_
    show Steps p.tables e below (T1.setTop (mkF m 6 #[.val (.ref r0), .val (.ref r1), .val (.ref r2)] [(.ref r1), (.ref r0)])) _
    refine st2 _ ?_
    show Steps p.tables e below (T2.setTop (mkF m 9 #[.val (.ref r0), .val (.ref r1), .val (.ref r2)] [])) _
    refine XS.aloadN X2.here hx rfl (hb hby d6_9) rfl rfl ?_
    show Steps p.tables e below (T2.setTop (mkF m 10 #[.val (.ref r0), .val (.ref r1), .val (.ref r2)] [(.ref r0)])) _
    refine XS.aloadN X2.here hx rfl (hb hby d6_10) rfl rfl ?_
    show Steps p.tables e below (T2.setTop (mkF m 11 #[.val (.ref r0), .val (.ref r1), .val (.ref r2)] [(.ref r2), (.ref r0)])) _
    refine st3 _ ?_
    exact k
  obtain ⟨fs, hr, hrun, hended, hW, hsame⟩ := X3.leave (v := none) (fun _ => rfl)
  refine ⟨_, _, k4 _ ?_, hrun, hended, _, _, rfl, ?_, ⟨_, rfl⟩, hW, hsame.mono (by decide) (by decide)⟩
  · exact X3.returnOut hx Bd.returns (hb hby d6_14) hr
  · show own_C6 Z r0 r1 r2 h0 n0 _ T3.heap _
    rw [e3]
    exact ⟨rfl, N3, K0, E_r0, F_kind_r0⟩
theorem ef_rm1 (m : MethodId) (x0 : Int32) : entryFrame m #[(.int x0)] 2 = mkF m 0 #[.val (.int x0), .unset] [] := by first | (simp [entryFrame, mkF, argsToLocals, Value.category]; done) | rfl
theorem d1_0 : decode method_2_code 0 = .ok (.iload_n 0, 1) := by decide +kernel
theorem d1_1 : decode method_2_code 1 = .ok (.ifCond .ne 10, 3) := by decide +kernel
theorem d1_4 : decode method_2_code 4 = .ok (.getstatic 7, 3) := by decide +kernel
theorem d1_7 : decode method_2_code 7 = .ok (.astore_n 1, 1) := by decide +kernel
theorem d1_8 : decode method_2_code 8 = .ok (.goto 31, 3) := by decide +kernel
theorem d1_39 : decode method_2_code 39 = .ok (.aload_n 1, 1) := by decide +kernel
theorem d1_40 : decode method_2_code 40 = .ok (.areturn, 1) := by decide +kernel
theorem d1_11 : decode method_2_code 11 = .ok (.iload_n 0, 1) := by decide +kernel
theorem d1_12 : decode method_2_code 12 = .ok (.iconst 1, 1) := by decide +kernel
theorem d1_13 : decode method_2_code 13 = .ok (.if_icmp .ne 10, 3) := by decide +kernel
theorem d1_16 : decode method_2_code 16 = .ok (.getstatic 13, 3) := by decide +kernel
theorem d1_19 : decode method_2_code 19 = .ok (.astore_n 1, 1) := by decide +kernel
theorem d1_20 : decode method_2_code 20 = .ok (.goto 19, 3) := by decide +kernel
theorem d1_23 : decode method_2_code 23 = .ok (.iload_n 0, 1) := by decide +kernel
theorem d1_24 : decode method_2_code 24 = .ok (.iconst 2, 1) := by decide +kernel
theorem d1_25 : decode method_2_code 25 = .ok (.if_icmp .ne 10, 3) := by decide +kernel
theorem d1_28 : decode method_2_code 28 = .ok (.getstatic 16, 3) := by decide +kernel
theorem d1_31 : decode method_2_code 31 = .ok (.astore_n 1, 1) := by decide +kernel
theorem d1_32 : decode method_2_code 32 = .ok (.goto 7, 3) := by decide +kernel
theorem d1_35 : decode method_2_code 35 = .ok (.getstatic 19, 3) := by decide +kernel
theorem d1_38 : decode method_2_code 38 = .ok (.astore_n 1, 1) := by decide +kernel
def own_f1 (p0 : Int32) (w_START_TAG w_PUNCTUATION w_END_TAG w_WORD : Addr) : Addr := (if p0 = (0 : Int32) then w_START_TAG else (if p0 = (1 : Int32) then w_END_TAG else (if p0 = (2 : Int32) then w_WORD else w_PUNCTUATION)))
set_option maxRecDepth 65536 in
set_option maxHeartbeats 40000000 in
theorem rm1 (l : Launch) (Z : State) (a0 : Array Value) (hw : ∀ d ∈ tables_1, d.before a0 Z = true) (ws : List Jvm.Cond) (p0 : Int32) (w_START_TAG w_PUNCTUATION w_END_TAG w_WORD : Addr) (h0 : Heap) (n0 : Nat) (hG : own_G Z w_START_TAG w_PUNCTUATION w_END_TAG w_WORD) (O0 : Old Z n0 h0) :
    MetFree l (⟨"com/example/wee_wrapper/weewrapper/model/TokenIsTagPinLaw", "kindOf", "(I)Lcom/example/wee_wrapper/weewrapper/model/Token$Kind;"⟩ : MethodName) (head1 (Jvm.Cond.code (⟨"com/example/wee_wrapper/weewrapper/model/TokenIsTagPinLaw", "kindOf", "(I)Lcom/example/wee_wrapper/weewrapper/model/Token$Kind;"⟩ : MethodName) method_2_code 2 (some (.object "com/example/wee_wrapper/weewrapper/model/Token$Kind")) :: ws) ({ frames := 0, cells := 0, slots := 0, locals := 0 } : Room)) (fun a U => a = #[(.int p0)] ∧ Z.Warmed39 U.vm ∧ U.heap = h0) (fun _ _ _ _ _ => True) (fun _ U o U' => ∃ v L, o = .returned v ∧ own_Q (some (.ref (own_f1 p0 w_START_TAG w_PUNCTUATION w_END_TAG w_WORD))) h0 n0 v U'.heap L ∧ FrameEnd U o U' L ({ frames := 0, cells := 0, slots := 0, locals := 0 } : Room).cells ({ frames := 0, cells := 0, slots := 0, locals := 0 } : Room).slots) := by
  refine MetFree.of_bodySF (plainFor_of_name pn_2) hisR ?_
  intro p e s m args below meth c s₁ Bd hml0 hP hK
  obtain ⟨rfl, hZ, hh⟩ := hP
  have hx := Bd.exec
  have hby := Bd.bytes
  have hml : c.maxLocals = 2 := hml0
  have hown : s.vm.findClass "com/example/wee_wrapper/weewrapper/model/TokenIsTagPinLaw" = some m.cls := findClass_of_methodNamed Bd.named
  have hnm := (name_of_methodNamed Bd.named Bd.method).1
  have X0 : Stand p l e ({ frames := 0, cells := 0, slots := 0, locals := 0 } : Room) s m #[(.int p0)] below meth c s₁ [] 0 0 := Stand.of_body Bd
  have e0 : s₁.heap = h0 := by rw [← hh, Bd.state]; rfl
  have N0 := Fr.nil n0
  have pre0 : ∀ t, Steps p.tables e below (s₁.setTop (mkF m 0 #[.val (.int p0), .unset] [])) t → Steps p.tables e below (s₁.setTop (entryFrame m #[(.int p0)] 2)) t := fun t k => castTop (ef_rm1 m p0) k
  obtain ⟨S_START_TAG, E_START_TAG, S_PUNCTUATION, E_PUNCTUATION, S_END_TAG, E_END_TAG, S_WORD, E_WORD, F_PUNCTUATION_ordinal, F_START_TAG_ordinal, F_END_TAG_ordinal, F_WORD_ordinal⟩ := hG
  have k1 : ∀ t, Steps p.tables e below (s₁.setTop (mkF m 1 #[.val (.int p0), .unset] [(.int p0)])) t → Steps p.tables e below (s₁.setTop (entryFrame m #[(.int p0)] 2)) t := by
    intro t k
    refine pre0 _ ?_
    show Steps p.tables e below (s₁.setTop (mkF m 0 #[.val (.int p0), .unset] [])) _
    refine XS.iloadN X0.here hx rfl (hb hby d1_0) rfl ?_
    exact k
  by_cases hc1_1 : p0 = (0 : Int32)
  · obtain ⟨T2, X2, e2, st2⟩ := getS2 X0 hx hZ hown (host := "") (Or.inl (hw _ (List.mem_of_getElem? (i := 4) rfl))) Via.refl e0 (S_START_TAG.ext O0.2) (g := (mkF m 4 #[.val (.int p0), .unset] [])) rfl (hb hby d1_4)
    have k3 : ∀ t, Steps p.tables e below (T2.setTop (mkF m 40 #[.val (.int p0), .val (.ref w_START_TAG)] [(.ref w_START_TAG)])) t → Steps p.tables e below (s₁.setTop (entryFrame m #[(.int p0)] 2)) t := by
      intro t k
      refine k1 _ ?_
      show Steps p.tables e below (s₁.setTop (mkF m 1 #[.val (.int p0), .unset] [(.int p0)])) _
      refine XS.ifNo X0.here hx rfl (hb hby d1_1) rfl ((if0 _ _).trans (teq hc1_1).2) ?_
      show Steps p.tables e below (s₁.setTop (mkF m 4 #[.val (.int p0), .unset] [])) _
      refine st2 _ ?_
      show Steps p.tables e below (T2.setTop (mkF m 7 #[.val (.int p0), .unset] [(.ref w_START_TAG)])) _
      refine XS.astoreN X2.here hx rfl (hb hby d1_7) rfl rfl (l' := #[.val (.int p0), .val (.ref w_START_TAG)]) rfl ?_
      show Steps p.tables e below (T2.setTop (mkF m 8 #[.val (.int p0), .val (.ref w_START_TAG)] [])) _
      refine XS.goto X2.here hx rfl (pc0 := 8) (pc' := 39) rfl (hb hby d1_8) (by decide) (by decide) ?_
      show Steps p.tables e below (T2.setTop (mkF m 39 #[.val (.int p0), .val (.ref w_START_TAG)] [])) _
      refine XS.aloadN X2.here hx rfl (hb hby d1_39) rfl rfl ?_
      exact k
    obtain ⟨fs, hr, hrun, hended, hW, hsame⟩ := X2.leave (v := some (.ref w_START_TAG)) (fun h => by rw [Bd.returns] at h; cases h)
    refine ⟨_, _, k3 _ ?_, hrun, hended, _, _, rfl, ?_, ⟨_, rfl⟩, hW, hsame.mono (by decide) (by decide)⟩
    · exact retOut X2 hx Bd.returns rfl (Or.inr (Or.inr (Or.inr (Or.inr ⟨rfl, rfl, rfl⟩)))) (hb hby d1_40) hr
    · show own_Q (some (.ref (own_f1 p0 w_START_TAG w_PUNCTUATION w_END_TAG w_WORD))) h0 n0 _ T2.heap _
      rw [e2]
      exact ⟨by simp only [own_f1, if_pos hc1_1], N0, rfl⟩
  · have k4 : ∀ t, Steps p.tables e below (s₁.setTop (mkF m 13 #[.val (.int p0), .unset] [(.int (1 : Int32)), (.int p0)])) t → Steps p.tables e below (s₁.setTop (entryFrame m #[(.int p0)] 2)) t := by
      intro t k
      refine k1 _ ?_
      show Steps p.tables e below (s₁.setTop (mkF m 1 #[.val (.int p0), .unset] [(.int p0)])) _
      refine XS.ifYes X0.here hx rfl (pc0 := 1) (pc' := 11) rfl (hb hby d1_1) rfl ((if0 _ _).trans (feq hc1_1).2) (by decide) (by decide) ?_
      show Steps p.tables e below (s₁.setTop (mkF m 11 #[.val (.int p0), .unset] [])) _
      refine XS.iloadN X0.here hx rfl (hb hby d1_11) rfl ?_
      show Steps p.tables e below (s₁.setTop (mkF m 12 #[.val (.int p0), .unset] [(.int p0)])) _
      refine XS.iconst X0.here hx rfl (hb hby d1_12) ?_
      exact k
    by_cases hc13_2 : p0 = (1 : Int32)
    · obtain ⟨T5, X5, e5, st5⟩ := getS2 X0 hx hZ hown (host := "") (Or.inl (hw _ (List.mem_of_getElem? (i := 72) rfl))) Via.refl e0 (S_END_TAG.ext O0.2) (g := (mkF m 16 #[.val (.int p0), .unset] [])) rfl (hb hby d1_16)
      have k6 : ∀ t, Steps p.tables e below (T5.setTop (mkF m 40 #[.val (.int p0), .val (.ref w_END_TAG)] [(.ref w_END_TAG)])) t → Steps p.tables e below (s₁.setTop (entryFrame m #[(.int p0)] 2)) t := by
        intro t k
        refine k4 _ ?_
        show Steps p.tables e below (s₁.setTop (mkF m 13 #[.val (.int p0), .unset] [(.int (1 : Int32)), (.int p0)])) _
        refine XS.icmpNo X0.here hx rfl (hb hby d1_13) rfl (teq hc13_2).2 ?_
        show Steps p.tables e below (s₁.setTop (mkF m 16 #[.val (.int p0), .unset] [])) _
        refine st5 _ ?_
        show Steps p.tables e below (T5.setTop (mkF m 19 #[.val (.int p0), .unset] [(.ref w_END_TAG)])) _
        refine XS.astoreN X5.here hx rfl (hb hby d1_19) rfl rfl (l' := #[.val (.int p0), .val (.ref w_END_TAG)]) rfl ?_
        show Steps p.tables e below (T5.setTop (mkF m 20 #[.val (.int p0), .val (.ref w_END_TAG)] [])) _
        refine XS.goto X5.here hx rfl (pc0 := 20) (pc' := 39) rfl (hb hby d1_20) (by decide) (by decide) ?_
        show Steps p.tables e below (T5.setTop (mkF m 39 #[.val (.int p0), .val (.ref w_END_TAG)] [])) _
        refine XS.aloadN X5.here hx rfl (hb hby d1_39) rfl rfl ?_
        exact k
      obtain ⟨fs, hr, hrun, hended, hW, hsame⟩ := X5.leave (v := some (.ref w_END_TAG)) (fun h => by rw [Bd.returns] at h; cases h)
      refine ⟨_, _, k6 _ ?_, hrun, hended, _, _, rfl, ?_, ⟨_, rfl⟩, hW, hsame.mono (by decide) (by decide)⟩
      · exact retOut X5 hx Bd.returns rfl (Or.inr (Or.inr (Or.inr (Or.inr ⟨rfl, rfl, rfl⟩)))) (hb hby d1_40) hr
      · show own_Q (some (.ref (own_f1 p0 w_START_TAG w_PUNCTUATION w_END_TAG w_WORD))) h0 n0 _ T5.heap _
        rw [e5]
        exact ⟨by simp only [own_f1, if_neg hc1_1, if_pos hc13_2], N0, rfl⟩
    · have k7 : ∀ t, Steps p.tables e below (s₁.setTop (mkF m 25 #[.val (.int p0), .unset] [(.int (2 : Int32)), (.int p0)])) t → Steps p.tables e below (s₁.setTop (entryFrame m #[(.int p0)] 2)) t := by
        intro t k
        refine k4 _ ?_
        show Steps p.tables e below (s₁.setTop (mkF m 13 #[.val (.int p0), .unset] [(.int (1 : Int32)), (.int p0)])) _
        refine XS.icmpYes X0.here hx rfl (pc0 := 13) (pc' := 23) rfl (hb hby d1_13) rfl (feq hc13_2).2 (by decide) (by decide) ?_
        show Steps p.tables e below (s₁.setTop (mkF m 23 #[.val (.int p0), .unset] [])) _
        refine XS.iloadN X0.here hx rfl (hb hby d1_23) rfl ?_
        show Steps p.tables e below (s₁.setTop (mkF m 24 #[.val (.int p0), .unset] [(.int p0)])) _
        refine XS.iconst X0.here hx rfl (hb hby d1_24) ?_
        exact k
      by_cases hc25_3 : p0 = (2 : Int32)
      · obtain ⟨T8, X8, e8, st8⟩ := getS2 X0 hx hZ hown (host := "") (Or.inl (hw _ (List.mem_of_getElem? (i := 70) rfl))) Via.refl e0 (S_WORD.ext O0.2) (g := (mkF m 28 #[.val (.int p0), .unset] [])) rfl (hb hby d1_28)
        have k9 : ∀ t, Steps p.tables e below (T8.setTop (mkF m 40 #[.val (.int p0), .val (.ref w_WORD)] [(.ref w_WORD)])) t → Steps p.tables e below (s₁.setTop (entryFrame m #[(.int p0)] 2)) t := by
          intro t k
          refine k7 _ ?_
          show Steps p.tables e below (s₁.setTop (mkF m 25 #[.val (.int p0), .unset] [(.int (2 : Int32)), (.int p0)])) _
          refine XS.icmpNo X0.here hx rfl (hb hby d1_25) rfl (teq hc25_3).2 ?_
          show Steps p.tables e below (s₁.setTop (mkF m 28 #[.val (.int p0), .unset] [])) _
          refine st8 _ ?_
          show Steps p.tables e below (T8.setTop (mkF m 31 #[.val (.int p0), .unset] [(.ref w_WORD)])) _
          refine XS.astoreN X8.here hx rfl (hb hby d1_31) rfl rfl (l' := #[.val (.int p0), .val (.ref w_WORD)]) rfl ?_
          show Steps p.tables e below (T8.setTop (mkF m 32 #[.val (.int p0), .val (.ref w_WORD)] [])) _
          refine XS.goto X8.here hx rfl (pc0 := 32) (pc' := 39) rfl (hb hby d1_32) (by decide) (by decide) ?_
          show Steps p.tables e below (T8.setTop (mkF m 39 #[.val (.int p0), .val (.ref w_WORD)] [])) _
          refine XS.aloadN X8.here hx rfl (hb hby d1_39) rfl rfl ?_
          exact k
        obtain ⟨fs, hr, hrun, hended, hW, hsame⟩ := X8.leave (v := some (.ref w_WORD)) (fun h => by rw [Bd.returns] at h; cases h)
        refine ⟨_, _, k9 _ ?_, hrun, hended, _, _, rfl, ?_, ⟨_, rfl⟩, hW, hsame.mono (by decide) (by decide)⟩
        · exact retOut X8 hx Bd.returns rfl (Or.inr (Or.inr (Or.inr (Or.inr ⟨rfl, rfl, rfl⟩)))) (hb hby d1_40) hr
        · show own_Q (some (.ref (own_f1 p0 w_START_TAG w_PUNCTUATION w_END_TAG w_WORD))) h0 n0 _ T8.heap _
          rw [e8]
          exact ⟨by simp only [own_f1, if_neg hc1_1, if_neg hc13_2, if_pos hc25_3], N0, rfl⟩
      · obtain ⟨T10, X10, e10, st10⟩ := getS2 X0 hx hZ hown (host := "") (Or.inl (hw _ (List.mem_of_getElem? (i := 55) rfl))) Via.refl e0 (S_PUNCTUATION.ext O0.2) (g := (mkF m 35 #[.val (.int p0), .unset] [])) rfl (hb hby d1_35)
        have k11 : ∀ t, Steps p.tables e below (T10.setTop (mkF m 40 #[.val (.int p0), .val (.ref w_PUNCTUATION)] [(.ref w_PUNCTUATION)])) t → Steps p.tables e below (s₁.setTop (entryFrame m #[(.int p0)] 2)) t := by
          intro t k
          refine k7 _ ?_
          show Steps p.tables e below (s₁.setTop (mkF m 25 #[.val (.int p0), .unset] [(.int (2 : Int32)), (.int p0)])) _
          refine XS.icmpYes X0.here hx rfl (pc0 := 25) (pc' := 35) rfl (hb hby d1_25) rfl (feq hc25_3).2 (by decide) (by decide) ?_
          show Steps p.tables e below (s₁.setTop (mkF m 35 #[.val (.int p0), .unset] [])) _
          refine st10 _ ?_
          show Steps p.tables e below (T10.setTop (mkF m 38 #[.val (.int p0), .unset] [(.ref w_PUNCTUATION)])) _
          refine XS.astoreN X10.here hx rfl (hb hby d1_38) rfl rfl (l' := #[.val (.int p0), .val (.ref w_PUNCTUATION)]) rfl ?_
          show Steps p.tables e below (T10.setTop (mkF m 39 #[.val (.int p0), .val (.ref w_PUNCTUATION)] [])) _
          refine XS.aloadN X10.here hx rfl (hb hby d1_39) rfl rfl ?_
          exact k
        obtain ⟨fs, hr, hrun, hended, hW, hsame⟩ := X10.leave (v := some (.ref w_PUNCTUATION)) (fun h => by rw [Bd.returns] at h; cases h)
        refine ⟨_, _, k11 _ ?_, hrun, hended, _, _, rfl, ?_, ⟨_, rfl⟩, hW, hsame.mono (by decide) (by decide)⟩
        · exact retOut X10 hx Bd.returns rfl (Or.inr (Or.inr (Or.inr (Or.inr ⟨rfl, rfl, rfl⟩)))) (hb hby d1_40) hr
        · show own_Q (some (.ref (own_f1 p0 w_START_TAG w_PUNCTUATION w_END_TAG w_WORD))) h0 n0 _ T10.heap _
          rw [e10]
          exact ⟨by simp only [own_f1, if_neg hc1_1, if_neg hc13_2, if_neg hc25_3], N0, rfl⟩
theorem ef_rm8 (m : MethodId) (x0 : Addr) : entryFrame m #[(.ref x0)] 1 = mkF m 0 #[.val (.ref x0)] [] := by first | (simp [entryFrame, mkF, argsToLocals, Value.category]; done) | rfl
theorem d8_0 : decode prog_16_method_3_code 0 = .ok (.aload_n 0, 1) := by decide +kernel
theorem d8_1 : decode prog_16_method_3_code 1 = .ok (.getfield 7, 3) := by decide +kernel
theorem d8_4 : decode prog_16_method_3_code 4 = .ok (.getstatic 43, 3) := by decide +kernel
theorem d8_7 : decode prog_16_method_3_code 7 = .ok (.if_acmp .eq 13, 3) := by decide +kernel
theorem d8_20 : decode prog_16_method_3_code 20 = .ok (.iconst 1, 1) := by decide +kernel
theorem d8_21 : decode prog_16_method_3_code 21 = .ok (.goto 4, 3) := by decide +kernel
theorem d8_25 : decode prog_16_method_3_code 25 = .ok (.ireturn, 1) := by decide +kernel
theorem d8_10 : decode prog_16_method_3_code 10 = .ok (.aload_n 0, 1) := by decide +kernel
theorem d8_11 : decode prog_16_method_3_code 11 = .ok (.getfield 7, 3) := by decide +kernel
theorem d8_14 : decode prog_16_method_3_code 14 = .ok (.getstatic 23, 3) := by decide +kernel
theorem d8_17 : decode prog_16_method_3_code 17 = .ok (.if_acmp .ne 7, 3) := by decide +kernel
theorem d8_24 : decode prog_16_method_3_code 24 = .ok (.iconst 0, 1) := by decide +kernel
def own_f8 (r1 : Addr) (w_START_TAG w_PUNCTUATION w_END_TAG w_WORD : Addr) : Int32 := (if r1 = w_START_TAG then (1 : Int32) else (if r1 = w_END_TAG then (1 : Int32) else (0 : Int32)))
set_option maxRecDepth 65536 in
set_option maxHeartbeats 40000000 in
theorem rm8 (l : Launch) (Z : State) (a0 : Array Value) (hw : ∀ d ∈ tables_1, d.before a0 Z = true) (ws : List Jvm.Cond) (r0 : Addr) (r1 : Addr) (w_START_TAG w_PUNCTUATION w_END_TAG w_WORD : Addr) (h0 : Heap) (n0 : Nat) (Fk : Fld Z h0 r0 "com/example/wee_wrapper/weewrapper/model/Token" "kind" "Lcom/example/wee_wrapper/weewrapper/model/Token$Kind;" (.ref r1)) (hG : own_G Z w_START_TAG w_PUNCTUATION w_END_TAG w_WORD) (O0 : Old Z n0 h0) :
    MetFree l (⟨"com/example/wee_wrapper/weewrapper/model/Token", "isTag", "()Z"⟩ : MethodName) (head1 (Jvm.Cond.code (⟨"com/example/wee_wrapper/weewrapper/model/Token", "isTag", "()Z"⟩ : MethodName) prog_16_method_3_code 1 (some .boolean) :: ws) ({ frames := 0, cells := 0, slots := 0, locals := 0 } : Room)) (fun a U => a = #[(.ref r0)] ∧ Z.Warmed39 U.vm ∧ U.heap = h0) (fun _ _ _ _ _ => True) (fun _ U o U' => ∃ v L, o = .returned v ∧ own_Q (some (.int (own_f8 r1 w_START_TAG w_PUNCTUATION w_END_TAG w_WORD))) h0 n0 v U'.heap L ∧ FrameEnd U o U' L ({ frames := 0, cells := 0, slots := 0, locals := 0 } : Room).cells ({ frames := 0, cells := 0, slots := 0, locals := 0 } : Room).slots) := by
  refine MetFree.of_bodySF (plainFor_of_name pn_4) hisR ?_
  intro p e s m args below meth c s₁ Bd hml0 hP hK
  obtain ⟨rfl, hZ, hh⟩ := hP
  have hx := Bd.exec
  have hby := Bd.bytes
  have hml : c.maxLocals = 1 := hml0
  have hown : s.vm.findClass "com/example/wee_wrapper/weewrapper/model/Token" = some m.cls := findClass_of_methodNamed Bd.named
  have hnm := (name_of_methodNamed Bd.named Bd.method).1
  have X0 : Stand p l e ({ frames := 0, cells := 0, slots := 0, locals := 0 } : Room) s m #[(.ref r0)] below meth c s₁ [] 0 0 := Stand.of_body Bd
  have e0 : s₁.heap = h0 := by rw [← hh, Bd.state]; rfl
  have N0 := Fr.nil n0
  have pre0 : ∀ t, Steps p.tables e below (s₁.setTop (mkF m 0 #[.val (.ref r0)] [])) t → Steps p.tables e below (s₁.setTop (entryFrame m #[(.ref r0)] 1)) t := fun t k => castTop (ef_rm8 m r0) k
  obtain ⟨S_START_TAG, E_START_TAG, S_PUNCTUATION, E_PUNCTUATION, S_END_TAG, E_END_TAG, S_WORD, E_WORD, F_PUNCTUATION_ordinal, F_START_TAG_ordinal, F_END_TAG_ordinal, F_WORD_ordinal⟩ := hG
  obtain ⟨T1, X1, e1, st1⟩ := getF X0 hx hZ hown (host := "") (Or.inl (hw _ (List.mem_of_getElem? (i := 45) rfl))) Via.refl e0 Fk (g := (mkF m 1 #[.val (.ref r0)] [(.ref r0)])) rfl rfl (hb hby d8_1)
  obtain ⟨T2, X2, e2, st2⟩ := getS2 X1 hx hZ hown (host := "") (Or.inl (hw _ (List.mem_of_getElem? (i := 54) rfl))) Via.refl e1 (S_START_TAG.ext O0.2) (g := (mkF m 4 #[.val (.ref r0)] [(.ref r1)])) rfl (hb hby d8_4)
  have k3 : ∀ t, Steps p.tables e below (T2.setTop (mkF m 7 #[.val (.ref r0)] [(.ref w_START_TAG), (.ref r1)])) t → Steps p.tables e below (s₁.setTop (entryFrame m #[(.ref r0)] 1)) t := by
    intro t k
    refine pre0 _ ?_
    show Steps p.tables e below (s₁.setTop (mkF m 0 #[.val (.ref r0)] [])) _
    refine XS.aloadN X0.here hx rfl (hb hby d8_0) rfl rfl ?_
    show Steps p.tables e below (s₁.setTop (mkF m 1 #[.val (.ref r0)] [(.ref r0)])) _
    refine st1 _ ?_
    show Steps p.tables e below (T1.setTop (mkF m 4 #[.val (.ref r0)] [(.ref r1)])) _
    refine st2 _ ?_
    exact k
  by_cases hc7_1 : r1 = w_START_TAG
  · have k4 : ∀ t, Steps p.tables e below (T2.setTop (mkF m 25 #[.val (.ref r0)] [(.int (1 : Int32))])) t → Steps p.tables e below (s₁.setTop (entryFrame m #[(.ref r0)] 1)) t := by
      intro t k
      refine k3 _ ?_
      show Steps p.tables e below (T2.setTop (mkF m 7 #[.val (.ref r0)] [(.ref w_START_TAG), (.ref r1)])) _
      refine Jvm.RoadKit.acmp (g := (mkF m 7 #[.val (.ref r0)] [(.ref w_START_TAG), (.ref r1)])) X2 hx rfl rfl rfl (pc0 := 7) (pc' := 20) (same := true) rfl (hb hby d8_7) rfl (decide_eq_true (congrArg Value.ref hc7_1)) (by decide) (by decide) ?_
      show Steps p.tables e below (T2.setTop (mkF m 20 #[.val (.ref r0)] [])) _
      refine XS.iconst X2.here hx rfl (hb hby d8_20) ?_
      show Steps p.tables e below (T2.setTop (mkF m 21 #[.val (.ref r0)] [(.int (1 : Int32))])) _
      refine XS.goto X2.here hx rfl (pc0 := 21) (pc' := 25) rfl (hb hby d8_21) (by decide) (by decide) ?_
      exact k
    obtain ⟨fs, hr, hrun, hended, hW, hsame⟩ := X2.leave (v := some (.int (1 : Int32))) (fun h => by rw [Bd.returns] at h; cases h)
    refine ⟨_, _, k4 _ ?_, hrun, hended, _, _, rfl, ?_, ⟨_, rfl⟩, hW, hsame.mono (by decide) (by decide)⟩
    · exact retN X2 hx (t := .boolean) Bd.returns (by simp) (hb hby d8_25) hr
    · show own_Q (some (.int (own_f8 r1 w_START_TAG w_PUNCTUATION w_END_TAG w_WORD))) h0 n0 _ T2.heap _
      rw [e2]
      exact ⟨by simp only [own_f8, if_pos hc7_1], N0, rfl⟩
  · obtain ⟨T5, X5, e5, st5⟩ := getF X2 hx hZ hown (host := "") (Or.inl (hw _ (List.mem_of_getElem? (i := 45) rfl))) Via.refl e2 Fk (g := (mkF m 11 #[.val (.ref r0)] [(.ref r0)])) rfl rfl (hb hby d8_11)
    obtain ⟨T6, X6, e6, st6⟩ := getS2 X5 hx hZ hown (host := "") (Or.inl (hw _ (List.mem_of_getElem? (i := 68) rfl))) Via.refl e5 (S_END_TAG.ext O0.2) (g := (mkF m 14 #[.val (.ref r0)] [(.ref r1)])) rfl (hb hby d8_14)
    have k7 : ∀ t, Steps p.tables e below (T6.setTop (mkF m 17 #[.val (.ref r0)] [(.ref w_END_TAG), (.ref r1)])) t → Steps p.tables e below (s₁.setTop (entryFrame m #[(.ref r0)] 1)) t := by
      intro t k
      refine k3 _ ?_
      show Steps p.tables e below (T2.setTop (mkF m 7 #[.val (.ref r0)] [(.ref w_START_TAG), (.ref r1)])) _
      refine Jvm.RoadKit.acmp (g := (mkF m 7 #[.val (.ref r0)] [(.ref w_START_TAG), (.ref r1)])) X2 hx rfl rfl rfl (pc0 := 7) (pc' := 10) (same := false) rfl (hb hby d8_7) rfl (decide_eq_false fun q => hc7_1 (Value.ref.inj q)) (by decide) (by decide) ?_
      show Steps p.tables e below (T2.setTop (mkF m 10 #[.val (.ref r0)] [])) _
      refine XS.aloadN X2.here hx rfl (hb hby d8_10) rfl rfl ?_
      show Steps p.tables e below (T2.setTop (mkF m 11 #[.val (.ref r0)] [(.ref r0)])) _
      refine st5 _ ?_
      show Steps p.tables e below (T5.setTop (mkF m 14 #[.val (.ref r0)] [(.ref r1)])) _
      refine st6 _ ?_
      exact k
    by_cases hc17_2 : r1 = w_END_TAG
    · have k8 : ∀ t, Steps p.tables e below (T6.setTop (mkF m 25 #[.val (.ref r0)] [(.int (1 : Int32))])) t → Steps p.tables e below (s₁.setTop (entryFrame m #[(.ref r0)] 1)) t := by
        intro t k
        refine k7 _ ?_
        show Steps p.tables e below (T6.setTop (mkF m 17 #[.val (.ref r0)] [(.ref w_END_TAG), (.ref r1)])) _
        refine Jvm.RoadKit.acmp (g := (mkF m 17 #[.val (.ref r0)] [(.ref w_END_TAG), (.ref r1)])) X6 hx rfl rfl rfl (pc0 := 17) (pc' := 20) (same := true) rfl (hb hby d8_17) rfl (decide_eq_true (congrArg Value.ref hc17_2)) (by decide) (by decide) ?_
        show Steps p.tables e below (T6.setTop (mkF m 20 #[.val (.ref r0)] [])) _
        refine XS.iconst X6.here hx rfl (hb hby d8_20) ?_
        show Steps p.tables e below (T6.setTop (mkF m 21 #[.val (.ref r0)] [(.int (1 : Int32))])) _
        refine XS.goto X6.here hx rfl (pc0 := 21) (pc' := 25) rfl (hb hby d8_21) (by decide) (by decide) ?_
        exact k
      obtain ⟨fs, hr, hrun, hended, hW, hsame⟩ := X6.leave (v := some (.int (1 : Int32))) (fun h => by rw [Bd.returns] at h; cases h)
      refine ⟨_, _, k8 _ ?_, hrun, hended, _, _, rfl, ?_, ⟨_, rfl⟩, hW, hsame.mono (by decide) (by decide)⟩
      · exact retN X6 hx (t := .boolean) Bd.returns (by simp) (hb hby d8_25) hr
      · show own_Q (some (.int (own_f8 r1 w_START_TAG w_PUNCTUATION w_END_TAG w_WORD))) h0 n0 _ T6.heap _
        rw [e6]
        exact ⟨by simp only [own_f8, if_neg hc7_1, if_pos hc17_2], N0, rfl⟩
    · have k9 : ∀ t, Steps p.tables e below (T6.setTop (mkF m 25 #[.val (.ref r0)] [(.int (0 : Int32))])) t → Steps p.tables e below (s₁.setTop (entryFrame m #[(.ref r0)] 1)) t := by
        intro t k
        refine k7 _ ?_
        show Steps p.tables e below (T6.setTop (mkF m 17 #[.val (.ref r0)] [(.ref w_END_TAG), (.ref r1)])) _
        refine Jvm.RoadKit.acmp (g := (mkF m 17 #[.val (.ref r0)] [(.ref w_END_TAG), (.ref r1)])) X6 hx rfl rfl rfl (pc0 := 17) (pc' := 24) (same := false) rfl (hb hby d8_17) rfl (decide_eq_false fun q => hc17_2 (Value.ref.inj q)) (by decide) (by decide) ?_
        show Steps p.tables e below (T6.setTop (mkF m 24 #[.val (.ref r0)] [])) _
        refine XS.iconst X6.here hx rfl (hb hby d8_24) ?_
        exact k
      obtain ⟨fs, hr, hrun, hended, hW, hsame⟩ := X6.leave (v := some (.int (0 : Int32))) (fun h => by rw [Bd.returns] at h; cases h)
      refine ⟨_, _, k9 _ ?_, hrun, hended, _, _, rfl, ?_, ⟨_, rfl⟩, hW, hsame.mono (by decide) (by decide)⟩
      · exact retN X6 hx (t := .boolean) Bd.returns (by simp) (hb hby d8_25) hr
      · show own_Q (some (.int (own_f8 r1 w_START_TAG w_PUNCTUATION w_END_TAG w_WORD))) h0 n0 _ T6.heap _
        rw [e6]
        exact ⟨by simp only [own_f8, if_neg hc7_1, if_neg hc17_2], N0, rfl⟩
theorem ef_rm0 (m : MethodId) (x0 : Int32) (x1 : Int32) (x2 : Int32) (x3 : Int32) : entryFrame m #[(.int x0), (.int x1), (.int x2), (.int x3)] maxLocals = mkF m 0 #[.val (.int x0), .val (.int x1), .val (.int x2), .val (.int x3), .unset, .unset, .unset, .unset, .unset] [] := by first | (simp [entryFrame, mkF, argsToLocals, Value.category, maxLocals]; done) | rfl
theorem pd_6 : parseMethodDescriptor "(I)Lcom/example/wee_wrapper/weewrapper/model/Token$Kind;" = some ⟨[.int], some (.object "com/example/wee_wrapper/weewrapper/model/Token$Kind")⟩ := by decide +kernel
theorem pd_7 : parseMethodDescriptor "(III)Ljava/lang/String;" = some ⟨[.int, .int, .int], some (.object "java/lang/String")⟩ := by decide +kernel
theorem pd_8 : parseMethodDescriptor "(Lcom/example/wee_wrapper/weewrapper/model/Token$Kind;Ljava/lang/String;)V" = some ⟨[(.object "com/example/wee_wrapper/weewrapper/model/Token$Kind"), (.object "java/lang/String")], none⟩ := by decide +kernel
theorem pd_9 : parseMethodDescriptor "()Z" = some ⟨[], some .boolean⟩ := by decide +kernel
theorem own_plain {Z : State} (p0 : Int32) (w_START_TAG w_PUNCTUATION w_END_TAG w_WORD : Addr) (hG : own_G Z w_START_TAG w_PUNCTUATION w_END_TAG w_WORD) : (own_f8 (own_f1 (p0 &&& (3 : Int32)) w_START_TAG w_PUNCTUATION w_END_TAG w_WORD) w_START_TAG w_PUNCTUATION w_END_TAG w_WORD) = (if (p0 &&& (3 : Int32)) = (0 : Int32) then (1 : Int32) else (if (p0 &&& (3 : Int32)) = (1 : Int32) then (1 : Int32) else (0 : Int32))) := by
  obtain ⟨S_START_TAG, E_START_TAG, S_PUNCTUATION, E_PUNCTUATION, S_END_TAG, E_END_TAG, S_WORD, E_WORD, F_PUNCTUATION_ordinal, F_START_TAG_ordinal, F_END_TAG_ordinal, F_WORD_ordinal⟩ := hG
  have n1 : w_WORD ≠ w_START_TAG := (own_nefld F_WORD_ordinal F_START_TAG_ordinal (by decide))
  have n2 : w_WORD ≠ w_END_TAG := (own_nefld F_WORD_ordinal F_END_TAG_ordinal (by decide))
  have n3 : w_PUNCTUATION ≠ w_START_TAG := (own_nefld F_PUNCTUATION_ordinal F_START_TAG_ordinal (by decide))
  have n4 : w_PUNCTUATION ≠ w_END_TAG := (own_nefld F_PUNCTUATION_ordinal F_END_TAG_ordinal (by decide))
  generalize (p0 &&& (3 : Int32)) = i
  unfold own_f1 own_f8
  by_cases h0 : i = 0
  · subst h0; simp
  · by_cases h1 : i = 1
    · subst h1; simp
    · by_cases h2 : i = 2
      · subst h2; simp [n1, n2]
      · simp [h0, h1, h2, n3, n4]
set_option maxRecDepth 65536 in
set_option maxHeartbeats 40000000 in
theorem rm0 (l : Launch) (Z : State) (a0 : Array Value) (hw : ∀ d ∈ tables_1, d.before a0 Z = true) (ws : List Jvm.Cond) (p0 : Int32) (p1 : Int32) (p2 : Int32) (p3 : Int32) (w_START_TAG w_PUNCTUATION w_END_TAG w_WORD : Addr) (w_CS : Int32) (h0 : Heap) (n0 : Nat) (hG : own_G Z w_START_TAG w_PUNCTUATION w_END_TAG w_WORD) (O0 : Old Z n0 h0) (hGC : own_GC Z w_CS) :
    MetFree l x (head1 (Jvm.Cond.code x code maxLocals ret :: ws) room_1) (fun a U => a = #[(.int p0), (.int p1), (.int p2), (.int p3)] ∧ Z.Warmed39 U.vm ∧ U.heap = h0 ∧ CHv Z own_EL U.vm h0 ∧ ∀ x ∈ ([] : List Addr), Safe Z own_EL U.vm h0 x) (fun _ _ _ _ _ => True) (fun _ U o U' => ∃ v L, o = .returned v ∧ own_R (some (.int 1)) n0 v U'.heap L ∧ ReturnedEndW U o U' L room_1.cells room_1.slots) := by
  refine MetFree.of_bodySF (plainFor_of_name pn_2) hisR ?_
  intro p e s m args below meth c s₁ Bd hml0 hP hK
  obtain ⟨rfl, hZ, hh, hH, hSf⟩ := hP
  have hx := Bd.exec
  have hby := Bd.bytes
  have hml : c.maxLocals = 9 := hml0
  have hown : s.vm.findClass "com/example/wee_wrapper/weewrapper/model/TokenIsTagPinLaw" = some m.cls := findClass_of_methodNamed Bd.named
  have hnm := (name_of_methodNamed Bd.named Bd.method).1
  have X0 : Stand p l e room_1 (s.setVm s.vm) m #[(.int p0), (.int p1), (.int p2), (.int p3)] below meth c s₁ [] 0 0 := Stand.of_body Bd
  have e0 : s₁.heap = h0 := by rw [← hh, Bd.state]; rfl
  have N0 := Fr.nil n0
  have pre0 : ∀ t, Steps p.tables e below (s₁.setTop (mkF m 0 #[.val (.int p0), .val (.int p1), .val (.int p2), .val (.int p3), .unset, .unset, .unset, .unset, .unset] [])) t → Steps p.tables e below (s₁.setTop (entryFrame m #[(.int p0), (.int p1), (.int p2), (.int p3)] maxLocals)) t := fun t k => castTop (ef_rm0 m p0 p1 p2 p3) k
  have hS : s.Since s.vm 0 := (State.WarmedH.refl s).since 0
  have hk : 0 ≤ h0.size := Nat.zero_le _
  replace hZ : Z.Warmed39 (s.setVm s.vm).vm := hZ
  replace hown : (s.setVm s.vm).vm.findClass "com/example/wee_wrapper/weewrapper/model/TokenIsTagPinLaw" = some m.cls := hown
  have HC : CHr Z own_EL s.vm h0 s.vm h0 := CHr.refl hH
  have hG' := hG
  obtain ⟨S_START_TAG, E_START_TAG, S_PUNCTUATION, E_PUNCTUATION, S_END_TAG, E_END_TAG, S_WORD, E_WORD, F_PUNCTUATION_ordinal, F_START_TAG_ordinal, F_END_TAG_ordinal, F_WORD_ordinal⟩ := hG'
  obtain ⟨_, _, ⟨T1, L1, k1_, n1⟩, -, X1, ⟨Lc1, hQ1, l1, y1, z1⟩, st1⟩ := Jvm.LawKit.callS X0 hx (y := (⟨"com/example/wee_wrapper/weewrapper/model/TokenIsTagPinLaw", "kindOf", "(I)Lcom/example/wee_wrapper/weewrapper/model/Token$Kind;"⟩ : MethodName)) hown (mvT hZ (hw _ (List.mem_of_getElem? (i := 0) rfl))) (mvT hZ (hw _ (List.mem_of_getElem? (i := 1) rfl))) (mvT hZ (hw _ (List.mem_of_getElem? (i := 2) rfl))) (mvT hZ (hw _ (List.mem_of_getElem? (i := 3) rfl))) (by decide) (backOf (W := 0) (rm1 l Z a0 hw [] (p0 &&& (3 : Int32)) w_START_TAG w_PUNCTUATION w_END_TAG w_WORD h0 n0 hG O0) hZ (hw _ (List.mem_of_getElem? (i := 3) rfl)) (hw _ (List.mem_of_getElem? (i := 2) rfl)) (by decide) (by decide)) (g := (mkF m 7 #[.val (.int p0), .val (.int p1), .val (.int p2), .val (.int p3), .val (.int (p0 &&& (3 : Int32))), .unset, .unset, .unset, .unset] [(.int (p0 &&& (3 : Int32)))])) rfl (by rw [hml]; rfl) (argsL := [(.int (p0 &&& (3 : Int32)))]) (rest := []) (lenOf pd_6 rfl) rfl (by show 2 * 0 + _ ≤ _; exact Nat.le_of_eq rfl) (hb hby at_7) (fun _ _ => ⟨rfl, e0, (by decide : 0 + 0 ≤ _), (by decide : 0 + 0 ≤ _)⟩)
  dsimp only [Pt.U, Pt.locs, Pt.cells, Pt.slots] at X1 l1 y1 z1 st1 hQ1
  subst l1 y1 z1
  obtain ⟨rfl, Nq1, e1⟩ := hQ1
  have N1 := Fr.app N0 Nq1
  have k3 : ∀ t, Steps p.tables e below (T1.setTop (mkF m 15 #[.val (.int p0), .val (.int p1), .val (.int p2), .val (.int p3), .val (.int (p0 &&& (3 : Int32))), .val (.ref (own_f1 (p0 &&& (3 : Int32)) w_START_TAG w_PUNCTUATION w_END_TAG w_WORD)), .unset, .unset, .unset] [(.int p3), (.int p2), (.int p1)])) t → Steps p.tables e below (s₁.setTop (entryFrame m #[(.int p0), (.int p1), (.int p2), (.int p3)] maxLocals)) t := by
    intro t k
    refine pre0 _ ?_
    show Steps p.tables e below (s₁.setTop (mkF m 0 #[.val (.int p0), .val (.int p1), .val (.int p2), .val (.int p3), .unset, .unset, .unset, .unset, .unset] [])) _
    refine XS.iloadN X0.here hx rfl (hb hby at_0) rfl ?_
    show Steps p.tables e below (s₁.setTop (mkF m 1 #[.val (.int p0), .val (.int p1), .val (.int p2), .val (.int p3), .unset, .unset, .unset, .unset, .unset] [(.int p0)])) _
    refine XS.iconst X0.here hx rfl (hb hby at_1) ?_
    show Steps p.tables e below (s₁.setTop (mkF m 2 #[.val (.int p0), .val (.int p1), .val (.int p2), .val (.int p3), .unset, .unset, .unset, .unset, .unset] [(.int (3 : Int32)), (.int p0)])) _
    refine XS.iand X0.here hx rfl (hb hby at_2) rfl ?_
    show Steps p.tables e below (s₁.setTop (mkF m 3 #[.val (.int p0), .val (.int p1), .val (.int p2), .val (.int p3), .unset, .unset, .unset, .unset, .unset] [(.int (p0 &&& (3 : Int32)))])) _
    refine XS.istore X0.here hx rfl (hb hby at_3) rfl (l' := #[.val (.int p0), .val (.int p1), .val (.int p2), .val (.int p3), .val (.int (p0 &&& (3 : Int32))), .unset, .unset, .unset, .unset]) rfl ?_
    show Steps p.tables e below (s₁.setTop (mkF m 5 #[.val (.int p0), .val (.int p1), .val (.int p2), .val (.int p3), .val (.int (p0 &&& (3 : Int32))), .unset, .unset, .unset, .unset] [])) _
    refine XS.iload X0.here hx rfl (hb hby at_5) rfl ?_
    show Steps p.tables e below (s₁.setTop (mkF m 7 #[.val (.int p0), .val (.int p1), .val (.int p2), .val (.int p3), .val (.int (p0 &&& (3 : Int32))), .unset, .unset, .unset, .unset] [(.int (p0 &&& (3 : Int32)))])) _
    refine st1 _ ?_
    show Steps p.tables e below (T1.setTop (mkF m 10 #[.val (.int p0), .val (.int p1), .val (.int p2), .val (.int p3), .val (.int (p0 &&& (3 : Int32))), .unset, .unset, .unset, .unset] [(.ref (own_f1 (p0 &&& (3 : Int32)) w_START_TAG w_PUNCTUATION w_END_TAG w_WORD))])) _
    refine XS.astore X1.here hx rfl (hb hby at_10) rfl rfl (l' := #[.val (.int p0), .val (.int p1), .val (.int p2), .val (.int p3), .val (.int (p0 &&& (3 : Int32))), .val (.ref (own_f1 (p0 &&& (3 : Int32)) w_START_TAG w_PUNCTUATION w_END_TAG w_WORD)), .unset, .unset, .unset]) rfl ?_
    show Steps p.tables e below (T1.setTop (mkF m 12 #[.val (.int p0), .val (.int p1), .val (.int p2), .val (.int p3), .val (.int (p0 &&& (3 : Int32))), .val (.ref (own_f1 (p0 &&& (3 : Int32)) w_START_TAG w_PUNCTUATION w_END_TAG w_WORD)), .unset, .unset, .unset] [])) _
    refine XS.iloadN X1.here hx rfl (hb hby at_12) rfl ?_
    show Steps p.tables e below (T1.setTop (mkF m 13 #[.val (.int p0), .val (.int p1), .val (.int p2), .val (.int p3), .val (.int (p0 &&& (3 : Int32))), .val (.ref (own_f1 (p0 &&& (3 : Int32)) w_START_TAG w_PUNCTUATION w_END_TAG w_WORD)), .unset, .unset, .unset] [(.int p1)])) _
    refine XS.iloadN X1.here hx rfl (hb hby at_13) rfl ?_
    show Steps p.tables e below (T1.setTop (mkF m 14 #[.val (.int p0), .val (.int p1), .val (.int p2), .val (.int p3), .val (.int (p0 &&& (3 : Int32))), .val (.ref (own_f1 (p0 &&& (3 : Int32)) w_START_TAG w_PUNCTUATION w_END_TAG w_WORD)), .unset, .unset, .unset] [(.int p2), (.int p1)])) _
    refine XS.iloadN X1.here hx rfl (hb hby at_14) rfl ?_
    exact k
  obtain ⟨_, _, ⟨T2, L2, k2_, n2⟩, -, X2, hS2, hg2, ⟨Lc2, hQ2, l2, y2, z2, hC2⟩, st2⟩ := callSS X1 hx (y := (⟨"com/example/wee_wrapper/weewrapper/model/TokenIsTagPinLaw", "textOf", "(III)Ljava/lang/String;"⟩ : MethodName)) hown (mvT hZ (hw _ (List.mem_of_getElem? (i := 7) rfl))) (mvT hZ (hw _ (List.mem_of_getElem? (i := 8) rfl))) (mvT hZ (hw _ (List.mem_of_getElem? (i := 2) rfl))) (mvT hZ (hw _ (List.mem_of_getElem? (i := 9) rfl))) (by decide) (own_backH (W := 0) (rm2 l Z a0 hw [] p1 p2 p3 w_CS h0 n0 hGC O0) hZ (hw _ (List.mem_of_getElem? (i := 9) rfl)) (hw _ (List.mem_of_getElem? (i := 2) rfl)) (by decide) (by decide) (own_EW hw) HC.1 (fun x hx => nomatch hx)) (g := (mkF m 15 #[.val (.int p0), .val (.int p1), .val (.int p2), .val (.int p3), .val (.int (p0 &&& (3 : Int32))), .val (.ref (own_f1 (p0 &&& (3 : Int32)) w_START_TAG w_PUNCTUATION w_END_TAG w_WORD)), .unset, .unset, .unset] [(.int p3), (.int p2), (.int p1)])) rfl (by rw [hml]; rfl) (argsL := [(.int p1), (.int p2), (.int p3)]) (rest := []) (lenOf pd_7 rfl) rfl (by show 2 * 0 + _ ≤ _; exact Nat.le_of_eq rfl) (hb hby at_15) (fun _ _ => ⟨rfl, e1, (by decide : 0 + 8 ≤ _), (by decide : 0 + 60 ≤ _)⟩)
  dsimp only [Pt.U, Pt.locs, Pt.cells, Pt.slots] at X2 l2 y2 z2 st2 hQ2
  subst l2 y2 z2
  dsimp only [Pt.U, Pt.locs, Pt.cells, Pt.slots] at hC2
  dsimp only [Pt.U, Pt.locs, Pt.cells, Pt.slots] at hS2 hg2
  obtain ⟨X2, hS, hZ, hown⟩ := rebS hS (show _ ≤ T1.heap.size by rw [e1]; exact hk) X2 hS2 hg2 hZ hown
  replace hk := Nat.le_refl T2.heap.size
  replace HC := HC.trans hC2
  obtain ⟨b2, rfl, Nq2, Kq2, Et2⟩ := hQ2
  have N2 := Fr.app N1 Nq2
  replace O0 := O0.keep Kq2 (fun x hx => nomatch hx)
  have k4 : ∀ t, Steps p.tables e below (T2.setTop (mkF m 36 #[.val (.int p0), .val (.int p1), .val (.int p2), .val (.int p3), .val (.int (p0 &&& (3 : Int32))), .val (.ref (own_f1 (p0 &&& (3 : Int32)) w_START_TAG w_PUNCTUATION w_END_TAG w_WORD)), .val (.ref b2), .unset, .unset] [(.int (if (p0 &&& (3 : Int32)) = (0 : Int32) then (1 : Int32) else (if (p0 &&& (3 : Int32)) = (1 : Int32) then (1 : Int32) else (0 : Int32))))])) t → Steps p.tables e below (s₁.setTop (entryFrame m #[(.int p0), (.int p1), (.int p2), (.int p3)] maxLocals)) t := by
    intro t k
    refine k3 _ ?_
    show Steps p.tables e below (T1.setTop (mkF m 15 #[.val (.int p0), .val (.int p1), .val (.int p2), .val (.int p3), .val (.int (p0 &&& (3 : Int32))), .val (.ref (own_f1 (p0 &&& (3 : Int32)) w_START_TAG w_PUNCTUATION w_END_TAG w_WORD)), .unset, .unset, .unset] [(.int p3), (.int p2), (.int p1)])) _
    refine st2.trans ?_
    show Steps p.tables e below (T2.setTop (mkF m 18 #[.val (.int p0), .val (.int p1), .val (.int p2), .val (.int p3), .val (.int (p0 &&& (3 : Int32))), .val (.ref (own_f1 (p0 &&& (3 : Int32)) w_START_TAG w_PUNCTUATION w_END_TAG w_WORD)), .unset, .unset, .unset] [(.ref b2)])) _
    refine XS.astore X2.here hx rfl (hb hby at_18) rfl rfl (l' := #[.val (.int p0), .val (.int p1), .val (.int p2), .val (.int p3), .val (.int (p0 &&& (3 : Int32))), .val (.ref (own_f1 (p0 &&& (3 : Int32)) w_START_TAG w_PUNCTUATION w_END_TAG w_WORD)), .val (.ref b2), .unset, .unset]) rfl ?_
    show Steps p.tables e below (T2.setTop (mkF m 20 #[.val (.int p0), .val (.int p1), .val (.int p2), .val (.int p3), .val (.int (p0 &&& (3 : Int32))), .val (.ref (own_f1 (p0 &&& (3 : Int32)) w_START_TAG w_PUNCTUATION w_END_TAG w_WORD)), .val (.ref b2), .unset, .unset] [])) _
    refine XS.iload X2.here hx rfl (hb hby at_20) rfl ?_
    show Steps p.tables e below (T2.setTop (mkF m 22 #[.val (.int p0), .val (.int p1), .val (.int p2), .val (.int p3), .val (.int (p0 &&& (3 : Int32))), .val (.ref (own_f1 (p0 &&& (3 : Int32)) w_START_TAG w_PUNCTUATION w_END_TAG w_WORD)), .val (.ref b2), .unset, .unset] [(.int (p0 &&& (3 : Int32)))])) _
    by_cases hc22_1 : (p0 &&& (3 : Int32)) = (0 : Int32)
    · refine XS.ifYes X2.here hx rfl (pc0 := 22) (pc' := 31) rfl (hb hby at_22) rfl ((if0 _ _).trans (teq hc22_1).1) (by decide) (by decide) ?_
      show Steps p.tables e below (T2.setTop (mkF m 31 #[.val (.int p0), .val (.int p1), .val (.int p2), .val (.int p3), .val (.int (p0 &&& (3 : Int32))), .val (.ref (own_f1 (p0 &&& (3 : Int32)) w_START_TAG w_PUNCTUATION w_END_TAG w_WORD)), .val (.ref b2), .unset, .unset] [])) _
      refine XS.iconst X2.here hx rfl (hb hby at_31) ?_
      show Steps p.tables e below (T2.setTop (mkF m 32 #[.val (.int p0), .val (.int p1), .val (.int p2), .val (.int p3), .val (.int (p0 &&& (3 : Int32))), .val (.ref (own_f1 (p0 &&& (3 : Int32)) w_START_TAG w_PUNCTUATION w_END_TAG w_WORD)), .val (.ref b2), .unset, .unset] [(.int (1 : Int32))])) _
      refine XS.goto X2.here hx rfl (pc0 := 32) (pc' := 36) rfl (hb hby at_32) (by decide) (by decide) ?_
      try simp only [if_pos hc22_1] at k
      exact k
    · refine XS.ifNo X2.here hx rfl (hb hby at_22) rfl ((if0 _ _).trans (feq hc22_1).1) ?_
      show Steps p.tables e below (T2.setTop (mkF m 25 #[.val (.int p0), .val (.int p1), .val (.int p2), .val (.int p3), .val (.int (p0 &&& (3 : Int32))), .val (.ref (own_f1 (p0 &&& (3 : Int32)) w_START_TAG w_PUNCTUATION w_END_TAG w_WORD)), .val (.ref b2), .unset, .unset] [])) _
      refine XS.iload X2.here hx rfl (hb hby at_25) rfl ?_
      show Steps p.tables e below (T2.setTop (mkF m 27 #[.val (.int p0), .val (.int p1), .val (.int p2), .val (.int p3), .val (.int (p0 &&& (3 : Int32))), .val (.ref (own_f1 (p0 &&& (3 : Int32)) w_START_TAG w_PUNCTUATION w_END_TAG w_WORD)), .val (.ref b2), .unset, .unset] [(.int (p0 &&& (3 : Int32)))])) _
      refine XS.iconst X2.here hx rfl (hb hby at_27) ?_
      show Steps p.tables e below (T2.setTop (mkF m 28 #[.val (.int p0), .val (.int p1), .val (.int p2), .val (.int p3), .val (.int (p0 &&& (3 : Int32))), .val (.ref (own_f1 (p0 &&& (3 : Int32)) w_START_TAG w_PUNCTUATION w_END_TAG w_WORD)), .val (.ref b2), .unset, .unset] [(.int (1 : Int32)), (.int (p0 &&& (3 : Int32)))])) _
      by_cases hc28_2 : (p0 &&& (3 : Int32)) = (1 : Int32)
      · refine XS.icmpNo X2.here hx rfl (hb hby at_28) rfl (teq hc28_2).2 ?_
        show Steps p.tables e below (T2.setTop (mkF m 31 #[.val (.int p0), .val (.int p1), .val (.int p2), .val (.int p3), .val (.int (p0 &&& (3 : Int32))), .val (.ref (own_f1 (p0 &&& (3 : Int32)) w_START_TAG w_PUNCTUATION w_END_TAG w_WORD)), .val (.ref b2), .unset, .unset] [])) _
        refine XS.iconst X2.here hx rfl (hb hby at_31) ?_
        show Steps p.tables e below (T2.setTop (mkF m 32 #[.val (.int p0), .val (.int p1), .val (.int p2), .val (.int p3), .val (.int (p0 &&& (3 : Int32))), .val (.ref (own_f1 (p0 &&& (3 : Int32)) w_START_TAG w_PUNCTUATION w_END_TAG w_WORD)), .val (.ref b2), .unset, .unset] [(.int (1 : Int32))])) _
        refine XS.goto X2.here hx rfl (pc0 := 32) (pc' := 36) rfl (hb hby at_32) (by decide) (by decide) ?_
        try simp only [if_neg hc22_1, if_pos hc28_2] at k
        exact k
      · refine XS.icmpYes X2.here hx rfl (pc0 := 28) (pc' := 35) rfl (hb hby at_28) rfl (feq hc28_2).2 (by decide) (by decide) ?_
        show Steps p.tables e below (T2.setTop (mkF m 35 #[.val (.int p0), .val (.int p1), .val (.int p2), .val (.int p3), .val (.int (p0 &&& (3 : Int32))), .val (.ref (own_f1 (p0 &&& (3 : Int32)) w_START_TAG w_PUNCTUATION w_END_TAG w_WORD)), .val (.ref b2), .unset, .unset] [])) _
        refine XS.iconst X2.here hx rfl (hb hby at_35) ?_
        try simp only [if_neg hc22_1, if_neg hc28_2] at k
        exact k
  obtain ⟨T5, h5, X5, e5, E5, A5, D5, -, st5⟩ := newO X2 hx hZ hown (hw _ (List.mem_of_getElem? (i := 33) rfl)) (hw _ (List.mem_of_getElem? (i := 34) rfl)) (hw _ (List.mem_of_getElem? (i := 35) rfl)) rfl (g := (mkF m 38 #[.val (.int p0), .val (.int p1), .val (.int p2), .val (.int p3), .val (.int (p0 &&& (3 : Int32))), .val (.ref (own_f1 (p0 &&& (3 : Int32)) w_START_TAG w_PUNCTUATION w_END_TAG w_WORD)), .val (.ref b2), .val (.int (if (p0 &&& (3 : Int32)) = (0 : Int32) then (1 : Int32) else (if (p0 &&& (3 : Int32)) = (1 : Int32) then (1 : Int32) else (0 : Int32)))), .unset] [])) rfl (hb hby at_38) (by decide) (by decide)
  obtain ⟨b5, g5⟩ : ∃ z, z = T2.heap.size := ⟨_, rfl⟩
  rw [← g5] at A5 D5 st5
  have ne_b2_b5 : b2 ≠ b5 := Nat.ne_of_lt (Nat.lt_of_lt_of_le Et2.lt (Nat.le_of_eq g5.symm))
  have gn_b5 : n0 ≤ b5 := Nat.le_trans (O0.1 ▸ O0.2.1) (Nat.le_of_eq g5.symm)
  replace Et2 := Et2.ext E5
  replace O0 := O0.ext E5
  replace hk := Nat.le_trans hk E5.1
  replace HC := HC.trans (CHr.ext E5 HC.1)
  have E_b5 := A5
  have F_kind_b5 : Fld Z h5 b5 "com/example/wee_wrapper/weewrapper/model/Token" "kind" "Lcom/example/wee_wrapper/weewrapper/model/Token$Kind;" .null := D5 (Or.inr (hw _ (List.mem_of_getElem? (i := 46) rfl))) (ty := (.object "com/example/wee_wrapper/weewrapper/model/Token$Kind")) (by decide)
  have F_text_b5 : Fld Z h5 b5 "com/example/wee_wrapper/weewrapper/model/Token" "text" "Ljava/lang/String;" .null := D5 (Or.inr (hw _ (List.mem_of_getElem? (i := 48) rfl))) (ty := (.object "java/lang/String")) (by decide)
  obtain ⟨_, _, ⟨T6, L6, k6_, n6⟩, -, X6, ⟨Lc6, hQ6, l6, y6, z6⟩, st6⟩ := X5.specialBack hx (y := (⟨"com/example/wee_wrapper/weewrapper/model/Token", "<init>", "(Lcom/example/wee_wrapper/weewrapper/model/Token$Kind;Ljava/lang/String;)V"⟩ : MethodName)) rfl hown (mvT hZ (hw _ (List.mem_of_getElem? (i := 36) rfl))) (mvT hZ (hw _ (List.mem_of_getElem? (i := 37) rfl))) (mvT hZ (hw _ (List.mem_of_getElem? (i := 38) rfl))) (by decide) (backOf (W := 1) (rm6 l Z a0 hw [] b5 (own_f1 (p0 &&& (3 : Int32)) w_START_TAG w_PUNCTUATION w_END_TAG w_WORD) b2 h5 n0 (O0.1 ▸ O0.2.1) gn_b5 E_b5 F_kind_b5 F_text_b5) hZ (hw _ (List.mem_of_getElem? (i := 38) rfl)) (hw _ (List.mem_of_getElem? (i := 35) rfl)) (by decide) (by decide)) (g := (mkF m 46 #[.val (.int p0), .val (.int p1), .val (.int p2), .val (.int p3), .val (.int (p0 &&& (3 : Int32))), .val (.ref (own_f1 (p0 &&& (3 : Int32)) w_START_TAG w_PUNCTUATION w_END_TAG w_WORD)), .val (.ref b2), .val (.int (if (p0 &&& (3 : Int32)) = (0 : Int32) then (1 : Int32) else (if (p0 &&& (3 : Int32)) = (1 : Int32) then (1 : Int32) else (0 : Int32)))), .unset] [(.ref b2), (.ref (own_f1 (p0 &&& (3 : Int32)) w_START_TAG w_PUNCTUATION w_END_TAG w_WORD)), (.ref b5), (.ref b5)])) rfl (by rw [hml]; rfl) (Steps.refl _) (a := b5) (argsL := [(.ref (own_f1 (p0 &&& (3 : Int32)) w_START_TAG w_PUNCTUATION w_END_TAG w_WORD)), (.ref b2)]) (rest := [(.ref b5)]) (lenOf pd_8 rfl) rfl (by show 2 * 0 + _ ≤ _; exact Nat.le_of_eq rfl) (hb hby at_46) (fun _ _ => ⟨rfl, e5, (by decide : 9 + 0 ≤ _), (by decide : 62 + 0 ≤ _)⟩)
  dsimp only [Pt.U, Pt.locs, Pt.cells, Pt.slots] at X6 l6 y6 z6 st6 hQ6
  subst l6 y6 z6
  obtain ⟨rfl, Nq6, Kq6, Eq6, Fn_kind_6⟩ := hQ6
  have N6 := Fr.app N2 Nq6
  have So : Safe Z own_EL T2.vm h5 b5 := (Safe.exa hZ.alike E_b5 (by decide) (by decide))
  replace HC := HC.trans (CHr.keep Kq6 (fun x hx => by cases List.mem_singleton.mp hx; exact So) HC.1)
  replace Et2 := Et2.keep Kq6
  replace E_b5 := E_b5.keep Kq6
  replace O0 := O0.keep Kq6 (fun x hx => by cases List.mem_singleton.mp hx; exact gn_b5)
  replace hk := Nat.le_trans hk Kq6.1
  obtain ⟨cq7, kq7, q7a, q7b, q7c⟩ := isOf hZ rfl E_b5
  obtain ⟨_, _, ⟨T7, L7, k7_, n7⟩, -, X7, ⟨Lc7, hQ7, l7, y7, z7⟩, st7⟩ := X6.virtualBack hx (y := (⟨"com/example/wee_wrapper/weewrapper/model/Token", "isTag", "()Z"⟩ : MethodName)) (z := (⟨"com/example/wee_wrapper/weewrapper/model/Token", "isTag", "()Z"⟩ : MethodName)) hown (mvT hZ (hw _ (List.mem_of_getElem? (i := 49) rfl))) (mvT hZ (hw _ (List.mem_of_getElem? (i := 50) rfl))) (notFace_of_selects (args := #[]) (mvT hZ (hw _ (List.mem_of_getElem? (i := 52) rfl)))) (mvT hZ (hw _ (List.mem_of_getElem? (i := 52) rfl))) (mvT hZ (hw _ (List.mem_of_getElem? (i := 51) rfl))) (by decide) (backOf (W := 0) (rm8 l Z a0 hw [] b5 (own_f1 (p0 &&& (3 : Int32)) w_START_TAG w_PUNCTUATION w_END_TAG w_WORD) w_START_TAG w_PUNCTUATION w_END_TAG w_WORD T6.heap n0 Fn_kind_6 hG O0) hZ (hw _ (List.mem_of_getElem? (i := 53) rfl)) (hw _ (List.mem_of_getElem? (i := 35) rfl)) (by decide) (by decide)) q7a q7c (g := (mkF m 53 #[.val (.int p0), .val (.int p1), .val (.int p2), .val (.int p3), .val (.int (p0 &&& (3 : Int32))), .val (.ref (own_f1 (p0 &&& (3 : Int32)) w_START_TAG w_PUNCTUATION w_END_TAG w_WORD)), .val (.ref b2), .val (.int (if (p0 &&& (3 : Int32)) = (0 : Int32) then (1 : Int32) else (if (p0 &&& (3 : Int32)) = (1 : Int32) then (1 : Int32) else (0 : Int32)))), .val (.ref b5)] [(.ref b5)])) rfl (by rw [hml]; rfl) (Steps.refl _) (argsL := []) (rest := []) (lenOf pd_9 rfl) rfl (by show 2 * 0 + _ ≤ _; exact Nat.le_of_eq rfl) (hb hby at_53) (fun _ _ => ⟨rfl, rfl, (by decide : 9 + 0 ≤ _), (by decide : 62 + 0 ≤ _)⟩)
  dsimp only [Pt.U, Pt.locs, Pt.cells, Pt.slots] at X7 l7 y7 z7 st7 hQ7
  subst l7 y7 z7
  obtain ⟨rfl, Nq7, e7⟩ := hQ7
  have N7 := Fr.app N6 Nq7
  have k8 : ∀ t, Steps p.tables e below (T7.setTop (mkF m 66 #[.val (.int p0), .val (.int p1), .val (.int p2), .val (.int p3), .val (.int (p0 &&& (3 : Int32))), .val (.ref (own_f1 (p0 &&& (3 : Int32)) w_START_TAG w_PUNCTUATION w_END_TAG w_WORD)), .val (.ref b2), .val (.int (if (p0 &&& (3 : Int32)) = (0 : Int32) then (1 : Int32) else (if (p0 &&& (3 : Int32)) = (1 : Int32) then (1 : Int32) else (0 : Int32)))), .val (.ref b5)] [(.int (1 : Int32))])) t → Steps p.tables e below (s₁.setTop (entryFrame m #[(.int p0), (.int p1), (.int p2), (.int p3)] maxLocals)) t := by
    intro t k
    refine k4 _ ?_
    show Steps p.tables e below (T2.setTop (mkF m 36 #[.val (.int p0), .val (.int p1), .val (.int p2), .val (.int p3), .val (.int (p0 &&& (3 : Int32))), .val (.ref (own_f1 (p0 &&& (3 : Int32)) w_START_TAG w_PUNCTUATION w_END_TAG w_WORD)), .val (.ref b2), .unset, .unset] [(.int (if (p0 &&& (3 : Int32)) = (0 : Int32) then (1 : Int32) else (if (p0 &&& (3 : Int32)) = (1 : Int32) then (1 : Int32) else (0 : Int32))))])) _
    refine XS.istore X2.here hx rfl (hb hby at_36) rfl (l' := #[.val (.int p0), .val (.int p1), .val (.int p2), .val (.int p3), .val (.int (p0 &&& (3 : Int32))), .val (.ref (own_f1 (p0 &&& (3 : Int32)) w_START_TAG w_PUNCTUATION w_END_TAG w_WORD)), .val (.ref b2), .val (.int (if (p0 &&& (3 : Int32)) = (0 : Int32) then (1 : Int32) else (if (p0 &&& (3 : Int32)) = (1 : Int32) then (1 : Int32) else (0 : Int32)))), .unset]) rfl ?_
    show Steps p.tables e below (T2.setTop (mkF m 38 #[.val (.int p0), .val (.int p1), .val (.int p2), .val (.int p3), .val (.int (p0 &&& (3 : Int32))), .val (.ref (own_f1 (p0 &&& (3 : Int32)) w_START_TAG w_PUNCTUATION w_END_TAG w_WORD)), .val (.ref b2), .val (.int (if (p0 &&& (3 : Int32)) = (0 : Int32) then (1 : Int32) else (if (p0 &&& (3 : Int32)) = (1 : Int32) then (1 : Int32) else (0 : Int32)))), .unset] [])) _
    refine st5 _ ?_
    show Steps p.tables e below (T5.setTop (mkF m 41 #[.val (.int p0), .val (.int p1), .val (.int p2), .val (.int p3), .val (.int (p0 &&& (3 : Int32))), .val (.ref (own_f1 (p0 &&& (3 : Int32)) w_START_TAG w_PUNCTUATION w_END_TAG w_WORD)), .val (.ref b2), .val (.int (if (p0 &&& (3 : Int32)) = (0 : Int32) then (1 : Int32) else (if (p0 &&& (3 : Int32)) = (1 : Int32) then (1 : Int32) else (0 : Int32)))), .unset] [(.ref b5)])) _
    refine XS.dup X5.here hx rfl (hb hby at_41) rfl rfl ?_
    show Steps p.tables e below (T5.setTop (mkF m 42 #[.val (.int p0), .val (.int p1), .val (.int p2), .val (.int p3), .val (.int (p0 &&& (3 : Int32))), .val (.ref (own_f1 (p0 &&& (3 : Int32)) w_START_TAG w_PUNCTUATION w_END_TAG w_WORD)), .val (.ref b2), .val (.int (if (p0 &&& (3 : Int32)) = (0 : Int32) then (1 : Int32) else (if (p0 &&& (3 : Int32)) = (1 : Int32) then (1 : Int32) else (0 : Int32)))), .unset] [(.ref b5), (.ref b5)])) _
    refine XS.aload X5.here hx rfl (hb hby at_42) rfl rfl ?_
    show Steps p.tables e below (T5.setTop (mkF m 44 #[.val (.int p0), .val (.int p1), .val (.int p2), .val (.int p3), .val (.int (p0 &&& (3 : Int32))), .val (.ref (own_f1 (p0 &&& (3 : Int32)) w_START_TAG w_PUNCTUATION w_END_TAG w_WORD)), .val (.ref b2), .val (.int (if (p0 &&& (3 : Int32)) = (0 : Int32) then (1 : Int32) else (if (p0 &&& (3 : Int32)) = (1 : Int32) then (1 : Int32) else (0 : Int32)))), .unset] [(.ref (own_f1 (p0 &&& (3 : Int32)) w_START_TAG w_PUNCTUATION w_END_TAG w_WORD)), (.ref b5), (.ref b5)])) _
    refine XS.aload X5.here hx rfl (hb hby at_44) rfl rfl ?_
    show Steps p.tables e below (T5.setTop (mkF m 46 #[.val (.int p0), .val (.int p1), .val (.int p2), .val (.int p3), .val (.int (p0 &&& (3 : Int32))), .val (.ref (own_f1 (p0 &&& (3 : Int32)) w_START_TAG w_PUNCTUATION w_END_TAG w_WORD)), .val (.ref b2), .val (.int (if (p0 &&& (3 : Int32)) = (0 : Int32) then (1 : Int32) else (if (p0 &&& (3 : Int32)) = (1 : Int32) then (1 : Int32) else (0 : Int32)))), .unset] [(.ref b2), (.ref (own_f1 (p0 &&& (3 : Int32)) w_START_TAG w_PUNCTUATION w_END_TAG w_WORD)), (.ref b5), (.ref b5)])) _
    refine st6.trans ?_
    show Steps p.tables e below (T6.setTop (mkF m 49 #[.val (.int p0), .val (.int p1), .val (.int p2), .val (.int p3), .val (.int (p0 &&& (3 : Int32))), .val (.ref (own_f1 (p0 &&& (3 : Int32)) w_START_TAG w_PUNCTUATION w_END_TAG w_WORD)), .val (.ref b2), .val (.int (if (p0 &&& (3 : Int32)) = (0 : Int32) then (1 : Int32) else (if (p0 &&& (3 : Int32)) = (1 : Int32) then (1 : Int32) else (0 : Int32)))), .unset] [(.ref b5)])) _
    refine XS.astore X6.here hx rfl (hb hby at_49) rfl rfl (l' := #[.val (.int p0), .val (.int p1), .val (.int p2), .val (.int p3), .val (.int (p0 &&& (3 : Int32))), .val (.ref (own_f1 (p0 &&& (3 : Int32)) w_START_TAG w_PUNCTUATION w_END_TAG w_WORD)), .val (.ref b2), .val (.int (if (p0 &&& (3 : Int32)) = (0 : Int32) then (1 : Int32) else (if (p0 &&& (3 : Int32)) = (1 : Int32) then (1 : Int32) else (0 : Int32)))), .val (.ref b5)]) rfl ?_
    show Steps p.tables e below (T6.setTop (mkF m 51 #[.val (.int p0), .val (.int p1), .val (.int p2), .val (.int p3), .val (.int (p0 &&& (3 : Int32))), .val (.ref (own_f1 (p0 &&& (3 : Int32)) w_START_TAG w_PUNCTUATION w_END_TAG w_WORD)), .val (.ref b2), .val (.int (if (p0 &&& (3 : Int32)) = (0 : Int32) then (1 : Int32) else (if (p0 &&& (3 : Int32)) = (1 : Int32) then (1 : Int32) else (0 : Int32)))), .val (.ref b5)] [])) _
    refine XS.aload X6.here hx rfl (hb hby at_51) rfl rfl ?_
    show Steps p.tables e below (T6.setTop (mkF m 53 #[.val (.int p0), .val (.int p1), .val (.int p2), .val (.int p3), .val (.int (p0 &&& (3 : Int32))), .val (.ref (own_f1 (p0 &&& (3 : Int32)) w_START_TAG w_PUNCTUATION w_END_TAG w_WORD)), .val (.ref b2), .val (.int (if (p0 &&& (3 : Int32)) = (0 : Int32) then (1 : Int32) else (if (p0 &&& (3 : Int32)) = (1 : Int32) then (1 : Int32) else (0 : Int32)))), .val (.ref b5)] [(.ref b5)])) _
    refine st7.trans ?_
    show Steps p.tables e below (T7.setTop (mkF m 56 #[.val (.int p0), .val (.int p1), .val (.int p2), .val (.int p3), .val (.int (p0 &&& (3 : Int32))), .val (.ref (own_f1 (p0 &&& (3 : Int32)) w_START_TAG w_PUNCTUATION w_END_TAG w_WORD)), .val (.ref b2), .val (.int (if (p0 &&& (3 : Int32)) = (0 : Int32) then (1 : Int32) else (if (p0 &&& (3 : Int32)) = (1 : Int32) then (1 : Int32) else (0 : Int32)))), .val (.ref b5)] [(.int (own_f8 (own_f1 (p0 &&& (3 : Int32)) w_START_TAG w_PUNCTUATION w_END_TAG w_WORD) w_START_TAG w_PUNCTUATION w_END_TAG w_WORD))])) _
    refine XS.iload X7.here hx rfl (hb hby at_56) rfl ?_
    show Steps p.tables e below (T7.setTop (mkF m 58 #[.val (.int p0), .val (.int p1), .val (.int p2), .val (.int p3), .val (.int (p0 &&& (3 : Int32))), .val (.ref (own_f1 (p0 &&& (3 : Int32)) w_START_TAG w_PUNCTUATION w_END_TAG w_WORD)), .val (.ref b2), .val (.int (if (p0 &&& (3 : Int32)) = (0 : Int32) then (1 : Int32) else (if (p0 &&& (3 : Int32)) = (1 : Int32) then (1 : Int32) else (0 : Int32)))), .val (.ref b5)] [(.int (if (p0 &&& (3 : Int32)) = (0 : Int32) then (1 : Int32) else (if (p0 &&& (3 : Int32)) = (1 : Int32) then (1 : Int32) else (0 : Int32)))), (.int (own_f8 (own_f1 (p0 &&& (3 : Int32)) w_START_TAG w_PUNCTUATION w_END_TAG w_WORD) w_START_TAG w_PUNCTUATION w_END_TAG w_WORD))])) _
    refine XS.icmpNo X7.here hx rfl (hb hby at_58) rfl (teq (own_plain p0 w_START_TAG w_PUNCTUATION w_END_TAG w_WORD hG)).2 ?_
    show Steps p.tables e below (T7.setTop (mkF m 61 #[.val (.int p0), .val (.int p1), .val (.int p2), .val (.int p3), .val (.int (p0 &&& (3 : Int32))), .val (.ref (own_f1 (p0 &&& (3 : Int32)) w_START_TAG w_PUNCTUATION w_END_TAG w_WORD)), .val (.ref b2), .val (.int (if (p0 &&& (3 : Int32)) = (0 : Int32) then (1 : Int32) else (if (p0 &&& (3 : Int32)) = (1 : Int32) then (1 : Int32) else (0 : Int32)))), .val (.ref b5)] [])) _
    refine XS.iconst X7.here hx rfl (hb hby at_61) ?_
    show Steps p.tables e below (T7.setTop (mkF m 62 #[.val (.int p0), .val (.int p1), .val (.int p2), .val (.int p3), .val (.int (p0 &&& (3 : Int32))), .val (.ref (own_f1 (p0 &&& (3 : Int32)) w_START_TAG w_PUNCTUATION w_END_TAG w_WORD)), .val (.ref b2), .val (.int (if (p0 &&& (3 : Int32)) = (0 : Int32) then (1 : Int32) else (if (p0 &&& (3 : Int32)) = (1 : Int32) then (1 : Int32) else (0 : Int32)))), .val (.ref b5)] [(.int (1 : Int32))])) _
    refine XS.goto X7.here hx rfl (pc0 := 62) (pc' := 66) rfl (hb hby at_62) (by decide) (by decide) ?_
    exact k
  obtain ⟨fs, hr, hrun, hended, hEW⟩ := X7.leaveW hS (by rw [e7]; exact hk) (v := some (.int (1 : Int32))) (fun h => by rw [Bd.returns] at h; cases h)
  refine ⟨_, _, k8 _ ?_, hrun, hended, _, _, rfl, ?_, hEW.1, hEW.2.1, hEW.2.2.1, hEW.2.2.2.mono (by decide) (by decide)⟩
  · exact retN X7 hx (t := .boolean) Bd.returns (by simp) (hb hby at_66) hr
  · show own_R (some (.int 1)) n0 _ T7.heap _
    rw [e7]
    exact ⟨rfl, N7⟩
set_option maxRecDepth 65536 in
set_option maxHeartbeats 40000000 in
theorem comes_1 {Post : Tables → Env → Array Value → State → Outcome → State → Prop} (hpost : ∀ tb e args s v u, (limb_1_1.after args s (.returned v) u = true ∧ limb_1_2.after args s (.returned v) u = true ∧ True) → ReturnedEndW s (.returned v) u (Jvm.fieldLocs frame_1_writes args s ++ Jvm.arrayLocs frame_1_arrays args s ++ Jvm.staticLocs frame_1_statics s) 24 1152 → Post tb e args s (.returned v) u) :
    ArmFor flags0 classFile x code maxLocals ret World_1 tables_1 room_1 Calls_1 rest_1 Pre_1 Post := by
  intro l hfl _ _ p e ha hc hk s m args below hf hA hF happ hP
  obtain ⟨hcalls, hrest, hpre⟩ := hP
  obtain ⟨-, -, -, hnamed, -, -, -, hat⟩ := (Spec.applies_iff hf).mp happ
  obtain ⟨hg, hn⟩ := and_e (Cond.before_iff.mp (show (Jvm.Cond.and given_1 narrow_1).before args s = true from hpre))
  obtain ⟨g0a, g0b⟩ := and_e hg
  obtain ⟨g1a, g1b⟩ := and_e g0b
  obtain ⟨g2a, g2b⟩ := and_e g1b
  obtain ⟨g3a, g3b⟩ := and_e g2b
  obtain ⟨w0, w1, w2, w3, rfl⟩ : ∃ w0 w1 w2 w3 : Value, args = #[w0, w1, w2, w3] := by
    have hs : args.size = 4 := by simpa [Cond.value, given_1] using g0a
    obtain ⟨L⟩ := args
    match L, hs with
    | [w0, w1, w2, w3], _ => exact ⟨w0, w1, w2, w3, rfl⟩
  have hw := fun d (hd : d ∈ tables_1) => atoms_spec (ws := Jvm.Cond.code x code maxLocals ret :: tables_1) hat d (List.mem_cons_of_mem _ hd)
  have hfit : Fit s := fun {y c} hc i hi => by
    obtain ⟨ha, rfl⟩ := Array.getElem?_eq_some_iff.mp hc
    have q := List.all_eq_true.mp ((Array.all_eq_true_iff_forall_mem.mp hF) _ (Array.getElem_mem ha)) i (List.mem_range.mpr hi)
    simpa [Array.getElem?_eq_getElem hi] using q
  obtain ⟨hsets, hown0⟩ := atoms_of _ (rest_1_c_eq ▸ (show rest_1_c.before _ s = true from hrest))
  obtain ⟨i0, ei0⟩ := is_v g1a
  obtain rfl : w0 = (.int i0) := Option.some.inj ei0
  obtain ⟨i1, ei1⟩ := is_v g2a
  obtain rfl : w1 = (.int i1) := Option.some.inj ei1
  obtain ⟨i2, ei2⟩ := is_v g3a
  obtain rfl : w2 = (.int i2) := Option.some.inj ei2
  obtain ⟨i3, ei3⟩ := is_v g3b
  obtain rfl : w3 = (.int i3) := Option.some.inj ei3
  obtain ⟨nv0, nr0⟩ := and_e hn
  obtain ⟨nv1, nr1⟩ := and_e nr0
  obtain ⟨nv2, nr2⟩ := and_e nr1
  obtain ⟨nv3, nr3⟩ := and_e nr2
  obtain ⟨nv4, nr4⟩ := and_e nr3
  obtain ⟨nv5, nr5⟩ := and_e nr4
  obtain ⟨nv6, nr6⟩ := and_e nr5
  have nv7 := nr6
  obtain ⟨w_START_TAG, ew_START_TAG⟩ := exa_v nv0
  have E_START_TAG := Exa.start ew_START_TAG nv0
  have S_START_TAG := Sta.start ew_START_TAG (Or.inr ⟨(hw _ (List.mem_of_getElem? (i := 5) rfl)), (hw _ (List.mem_of_getElem? (i := 6) rfl))⟩)
  obtain ⟨w_PUNCTUATION, ew_PUNCTUATION⟩ := exa_v nv1
  have E_PUNCTUATION := Exa.start ew_PUNCTUATION nv1
  have S_PUNCTUATION := Sta.start ew_PUNCTUATION (Or.inr ⟨(hw _ (List.mem_of_getElem? (i := 5) rfl)), (hw _ (List.mem_of_getElem? (i := 56) rfl))⟩)
  obtain ⟨w_END_TAG, ew_END_TAG⟩ := exa_v nv4
  have E_END_TAG := Exa.start ew_END_TAG nv4
  have S_END_TAG := Sta.start ew_END_TAG (Or.inr ⟨(hw _ (List.mem_of_getElem? (i := 5) rfl)), (hw _ (List.mem_of_getElem? (i := 69) rfl))⟩)
  obtain ⟨w_WORD, ew_WORD⟩ := exa_v nv6
  have E_WORD := Exa.start ew_WORD nv6
  have S_WORD := Sta.start ew_WORD (Or.inr ⟨(hw _ (List.mem_of_getElem? (i := 5) rfl)), (hw _ (List.mem_of_getElem? (i := 71) rfl))⟩)
  have F_PUNCTUATION_ordinal := own_fld ew_PUNCTUATION nv2
  have F_START_TAG_ordinal := own_fld ew_START_TAG nv3
  have F_END_TAG_ordinal := own_fld ew_END_TAG nv5
  have F_WORD_ordinal := own_fld ew_WORD nv7
  obtain ⟨w_CS, ecs⟩ := is_v (Cond.before_iff.mp (hsets _ (List.mem_of_getElem? (i := 1) rfl)))
  have S_CS := Sta.start ecs (Or.inl (hsets _ (List.mem_of_getElem? (i := 0) rfl)))
  have hCS := own_ncs ecs (Cond.before_iff.mp (hsets _ (List.mem_of_getElem? (i := 2) rfl)))
  obtain ⟨n, o, h1, h2, h3, _, L, rfl, ⟨rfl, N⟩, hq⟩ := rm0 l s _ hw tables_1 i0 i1 i2 i3 w_START_TAG w_PUNCTUATION w_END_TAG w_WORD w_CS s.heap s.heap.size (⟨S_START_TAG, E_START_TAG, S_PUNCTUATION, E_PUNCTUATION, S_END_TAG, E_END_TAG, S_WORD, E_WORD, F_PUNCTUATION_ordinal, F_START_TAG_ordinal, F_END_TAG_ordinal, F_WORD_ordinal⟩ : own_G s w_START_TAG w_PUNCTUATION w_END_TAG w_WORD) (Old.start s) ⟨S_CS, hCS⟩ p e ha hc hk s m _ below hf ((Spec.applies_iff_loose hf).mp happ).1 ⟨rfl, State.Warmed39.refl s, rfl, (CHv.start (a0 := #[.int i0, .int i1, .int i2, .int i3]) (own_EW hw) hcalls.1 (hsets _ (List.mem_of_getElem? (i := 2) rfl)) (hw _ (List.mem_of_getElem? (i := 26) rfl)) (hw _ (List.mem_of_getElem? (i := 12) rfl))), fun _ q => nomatch q⟩ trivial
  refine ⟨n, _, h1, h2, h3, hpost _ _ _ _ _ _ ⟨Cond.after_iff.mpr rfl, Cond.after_iff.mpr (eq_i res_at (Term.int_eval (1)) rfl), trivial⟩ ⟨hq.1, hq.2.1, hq.2.2.1, (hq.2.2.2.sift fun y hy => Or.inr (N y hy)).mono (by decide) (by decide)⟩⟩
theorem main_1_1 : Claimed_1_1 := comes_1 fun _ _ _ _ _ _ h hF => ⟨h.1, hF⟩
theorem main_1_2 : Claimed_1_2 := comes_1 fun _ _ _ _ _ _ h hF => ⟨h.2.1, hF⟩
end Jvm.Pilot.@@N@@
namespace Jvm.Pilot.@@N@@
open Jvm Jvm.ClassFile Sem Op Lib Jvm.Free Jvm.Stand Jvm.Pilot.@@N@@.Jvm.D
/-! MADE BY PROGRAM (witnessworld.py) out of the Statement's table words and the real class files: 23 classes; the members and pool entries that the words name. The judged class is class 1, her method 3. -/
namespace start1
open Jvm.ClassFile
def u (s : String) : CpInfo := .utf8 (stringToUtf16 s)
/-- a pool by its gaps: so many unusable entries, then the entry; so many at the end -/
def gap : Nat → List CpInfo → List CpInfo
  | 0, r => r
  | n + 1, r => .unusable :: gap n r
def poolList (es : List (Nat × CpInfo)) (last : Nat) : List CpInfo := es.foldr (fun e r => gap e.1 (e.2 :: r)) (gap last [])
def pool (es : List (Nat × CpInfo)) (last : Nat) : Array CpInfo := ⟨poolList es last⟩
def fileOf (pool : Array CpInfo) (this : Nat) (attrs : Array Attribute := #[]) (ms : Array MethodInfo := #[]) (fl : Nat := 33) (sup : Nat := 0) (ifs : Array Nat := #[]) (fds : Array FieldInfo := #[]) : ClassFile where
  minorVersion := 0
  majorVersion := 65
  constantPool := pool
  accessFlags := fl
  thisClass := this
  superClass := sup
  interfaces := ifs
  fields := fds
  methods := ms
  attributes := attrs
def plain (name : String) (sup : Option ClassId) : Class where
  name := name
  kind := .ordinary
  loader := none
  accessFlags := 33
  super := sup
  interfaces := #[]
  cf := none
  fields := #[]
  methods := #[]
  instanceTypes := #[]
  staticTypes := #[]
  resolved := #[]
  callSites := []
  init := .initialized
  statics := none
  mirror := none

def pool0 : Array CpInfo := pool [(5, u "<init>"), (0, u "()V"), (1, .class_ 10), (1, u "java/lang/Object")] 113

def k0c0 : Code := { maxStack := 0, maxLocals := 1, code := object_method_1_code, exceptionTable := #[], attributes := #[] }
def k0m0 : Method := { name := "<init>", desc := "()V", sig := { parameters := [], returnType := none }, accessFlags := 1, code := some k0c0 }
/-- java/lang/Object -/
def k0 : Class := { plain "java/lang/Object" none with
  accessFlags := 33
  interfaces := #[]
  cf := some (fileOf pool0 8 #[] #[{ accessFlags := 1, nameIndex := 5, descriptorIndex := 6, attributes := #[] }] 33 0 #[] #[])
  fields := #[]
  methods := #[k0m0]
  instanceTypes := #[]
  staticTypes := #[]
  resolved := Array.replicate 124 none
  statics := none }

def pool1 : Array CpInfo := pool [(2, .class_ 4), (1, u "java/lang/Object"), (0, u "<init>"), (0, u "()V"), (0, .fieldref 8 9), (0, .class_ 10), (0, .nameAndType 11 12), (0, u "com/example/wee_wrapper/weewrapper/model/Token$Kind"), (0, u "START_TAG"), (0, u "Lcom/example/wee_wrapper/weewrapper/model/Token$Kind;"), (0, .fieldref 8 14), (0, .nameAndType 15 12), (0, u "END_TAG"), (0, .fieldref 8 17), (0, .nameAndType 18 12), (0, u "WORD"), (0, .fieldref 8 20), (0, .nameAndType 21 12), (0, u "PUNCTUATION"), (0, .integer 2147483647), (0, .class_ 24), (0, u "java/lang/String"), (0, .methodref 23 26), (0, .nameAndType 5 27), (0, u "([C)V"), (0, .methodref 29 30), (0, .class_ 31), (0, .nameAndType 32 33), (0, u "com/example/wee_wrapper/weewrapper/model/TokenIsTagPinLaw"), (0, u "kindOf"), (0, u "(I)Lcom/example/wee_wrapper/weewrapper/model/Token$Kind;"), (0, .methodref 29 35), (0, .nameAndType 36 37), (0, u "textOf"), (0, u "(III)Ljava/lang/String;"), (0, .class_ 39), (0, u "com/example/wee_wrapper/weewrapper/model/Token"), (0, .methodref 38 41), (0, .nameAndType 5 42), (0, u "(Lcom/example/wee_wrapper/weewrapper/model/Token$Kind;Ljava/lang/String;)V"), (0, .methodref 38 44), (0, .nameAndType 45 46), (0, u "isTag"), (0, u "()Z"), (3, u "law"), (0, u "(IIII)Z")] 4

def k1m0 : Method := { name := "<init>", desc := "()V", sig := { parameters := [], returnType := none }, accessFlags := 2, code := none }
def k1c1 : Code := { maxStack := 2, maxLocals := 2, code := method_2_code, exceptionTable := #[], attributes := #[] }
def k1m1 : Method := { name := "kindOf", desc := "(I)Lcom/example/wee_wrapper/weewrapper/model/Token$Kind;", sig := { parameters := [.int], returnType := some (.object "com/example/wee_wrapper/weewrapper/model/Token$Kind") }, accessFlags := 10, code := some k1c1 }
def k1c2 : Code := { maxStack := 6, maxLocals := 7, code := method_3_code, exceptionTable := #[], attributes := #[] }
def k1m2 : Method := { name := "textOf", desc := "(III)Ljava/lang/String;", sig := { parameters := [.int, .int, .int], returnType := some (.object "java/lang/String") }, accessFlags := 10, code := some k1c2 }
def k1c3 : Code := { maxStack := 4, maxLocals := 9, code := code, exceptionTable := #[], attributes := #[] }
def k1m3 : Method := { name := "law", desc := "(IIII)Z", sig := { parameters := [.int, .int, .int, .int], returnType := some .boolean }, accessFlags := 9, code := some k1c3 }
/-- com/example/wee_wrapper/weewrapper/model/TokenIsTagPinLaw -/
def k1 : Class := { plain "com/example/wee_wrapper/weewrapper/model/TokenIsTagPinLaw" (some 0) with
  accessFlags := 49
  interfaces := #[]
  cf := some (fileOf pool1 29 #[] #[{ accessFlags := 2, nameIndex := 5, descriptorIndex := 6, attributes := #[] }, { accessFlags := 10, nameIndex := 32, descriptorIndex := 33, attributes := #[] }, { accessFlags := 10, nameIndex := 36, descriptorIndex := 37, attributes := #[] }, { accessFlags := 9, nameIndex := 50, descriptorIndex := 51, attributes := #[] }] 49 2 #[] #[])
  fields := #[]
  methods := #[k1m0, k1m1, k1m2, k1m3]
  instanceTypes := #[]
  staticTypes := #[]
  resolved := Array.replicate 56 none
  statics := none }

def pool2 : Array CpInfo := pool [(1, .class_ 2), (0, u "java/lang/constant/Constable"), (0, .class_ 4), (0, u "java/lang/Object")] 6

/-- java/lang/constant/Constable -/
def k2 : Class := { plain "java/lang/constant/Constable" (some 0) with
  accessFlags := 1537
  interfaces := #[]
  cf := some (fileOf pool2 1 #[] #[] 1537 3 #[] #[])
  fields := #[]
  methods := #[]
  instanceTypes := #[]
  staticTypes := #[]
  resolved := Array.replicate 11 none
  statics := none }

def pool3 : Array CpInfo := pool [(1, .class_ 2), (0, u "java/lang/Comparable"), (0, .class_ 4), (0, u "java/lang/Object")] 7

/-- java/lang/Comparable -/
def k3 : Class := { plain "java/lang/Comparable" (some 0) with
  accessFlags := 1537
  interfaces := #[]
  cf := some (fileOf pool3 1 #[] #[] 1537 3 #[] #[])
  fields := #[]
  methods := #[]
  instanceTypes := #[]
  staticTypes := #[]
  resolved := Array.replicate 12 none
  statics := none }

def pool4 : Array CpInfo := pool [(1, .class_ 2), (0, u "java/io/Serializable"), (0, .class_ 4), (0, u "java/lang/Object")] 2

/-- java/io/Serializable -/
def k4 : Class := { plain "java/io/Serializable" (some 0) with
  accessFlags := 1537
  interfaces := #[]
  cf := some (fileOf pool4 1 #[] #[] 1537 3 #[] #[])
  fields := #[]
  methods := #[]
  instanceTypes := #[]
  staticTypes := #[]
  resolved := Array.replicate 7 none
  statics := none }

def pool5 : Array CpInfo := pool [(2, .class_ 4), (1, u "java/lang/Enum"), (0, u "name"), (0, u "Ljava/lang/String;"), (2, u "ordinal"), (0, u "I"), (1, .class_ 14), (1, u "java/lang/Object"), (4, u "hash"), (86, .class_ 108), (1, u "java/lang/Enum$EnumDesc"), (2, .class_ 112), (0, u "java/lang/constant/Constable"), (0, .class_ 114), (0, u "java/lang/Comparable"), (0, .class_ 116), (0, u "java/io/Serializable")] 87

/-- java/lang/Enum -/
def k5 : Class := { plain "java/lang/Enum" (some 0) with
  accessFlags := 1057
  interfaces := #[2, 3, 4]
  cf := some (fileOf pool5 2 #[.nestMembers #[106]] #[] 1057 12 #[111, 113, 115] #[{ accessFlags := 18, nameIndex := 5, descriptorIndex := 6, attributes := #[] }, { accessFlags := 18, nameIndex := 9, descriptorIndex := 10, attributes := #[] }, { accessFlags := 2, nameIndex := 19, descriptorIndex := 10, attributes := #[] }])
  fields := #[{ name := "name", type := (.object "java/lang/String"), accessFlags := 18, slot := 0, constantValue := 0 }, { name := "ordinal", type := .int, accessFlags := 18, slot := 1, constantValue := 0 }, { name := "hash", type := .int, accessFlags := 2, slot := 2, constantValue := 0 }]
  methods := #[]
  instanceTypes := #[(.object "java/lang/String"), .int, .int]
  staticTypes := #[]
  resolved := Array.replicate 204 none
  statics := none }

def pool6 : Array CpInfo := pool [(1, .class_ 2), (0, u "com/example/wee_wrapper/weewrapper/model/Token$Kind"), (2, u "START_TAG"), (0, u "Lcom/example/wee_wrapper/weewrapper/model/Token$Kind;"), (2, u "END_TAG"), (2, u "WORD"), (2, u "PUNCTUATION"), (2, u "$VALUES"), (0, u "[Lcom/example/wee_wrapper/weewrapper/model/Token$Kind;"), (6, .class_ 28), (1, u "java/lang/Enum"), (27, .class_ 57), (0, u "com/example/wee_wrapper/weewrapper/model/Token")] 2

/-- com/example/wee_wrapper/weewrapper/model/Token$Kind -/
def k6 : Class := { plain "com/example/wee_wrapper/weewrapper/model/Token$Kind" (some 5) with
  accessFlags := 16433
  interfaces := #[]
  cf := some (fileOf pool6 1 #[.nestHost 56] #[] 16433 26 #[] #[{ accessFlags := 16409, nameIndex := 5, descriptorIndex := 6, attributes := #[] }, { accessFlags := 16409, nameIndex := 9, descriptorIndex := 6, attributes := #[] }, { accessFlags := 16409, nameIndex := 12, descriptorIndex := 6, attributes := #[] }, { accessFlags := 16409, nameIndex := 15, descriptorIndex := 6, attributes := #[] }, { accessFlags := 4122, nameIndex := 18, descriptorIndex := 19, attributes := #[] }])
  fields := #[{ name := "START_TAG", type := (.object "com/example/wee_wrapper/weewrapper/model/Token$Kind"), accessFlags := 16409, slot := 0, constantValue := 0 }, { name := "END_TAG", type := (.object "com/example/wee_wrapper/weewrapper/model/Token$Kind"), accessFlags := 16409, slot := 1, constantValue := 0 }, { name := "WORD", type := (.object "com/example/wee_wrapper/weewrapper/model/Token$Kind"), accessFlags := 16409, slot := 2, constantValue := 0 }, { name := "PUNCTUATION", type := (.object "com/example/wee_wrapper/weewrapper/model/Token$Kind"), accessFlags := 16409, slot := 3, constantValue := 0 }, { name := "$VALUES", type := (.array (.object "com/example/wee_wrapper/weewrapper/model/Token$Kind")), accessFlags := 4122, slot := 4, constantValue := 0 }]
  methods := #[]
  instanceTypes := #[(.object "java/lang/String"), .int, .int]
  staticTypes := #[(.object "com/example/wee_wrapper/weewrapper/model/Token$Kind"), (.object "com/example/wee_wrapper/weewrapper/model/Token$Kind"), (.object "com/example/wee_wrapper/weewrapper/model/Token$Kind"), (.object "com/example/wee_wrapper/weewrapper/model/Token$Kind"), (.array (.object "com/example/wee_wrapper/weewrapper/model/Token$Kind"))]
  resolved := Array.replicate 60 none
  statics := some 0 }

def pool7 : Array CpInfo := pool [(2, .class_ 4), (1, u "java/lang/CharSequence"), (42, .class_ 48), (0, u "java/lang/CharSequence$1CodePointIterator"), (10, .class_ 60), (0, u "java/lang/CharSequence$1CharIterator"), (5, .class_ 67), (0, u "java/lang/Object")] 63

/-- java/lang/CharSequence -/
def k7 : Class := { plain "java/lang/CharSequence" (some 0) with
  accessFlags := 1537
  interfaces := #[]
  cf := some (fileOf pool7 2 #[.nestMembers #[47, 59]] #[] 1537 66 #[] #[])
  fields := #[]
  methods := #[]
  instanceTypes := #[]
  staticTypes := #[]
  resolved := Array.replicate 131 none
  statics := none }

def pool8 : Array CpInfo := pool [(1, .class_ 2), (0, u "java/lang/constant/ConstantDesc"), (0, .class_ 4), (0, u "java/lang/Object")] 32

/-- java/lang/constant/ConstantDesc -/
def k8 : Class := { plain "java/lang/constant/ConstantDesc" (some 0) with
  accessFlags := 1537
  interfaces := #[]
  cf := some (fileOf pool8 1 #[] #[] 1537 3 #[] #[])
  fields := #[]
  methods := #[]
  instanceTypes := #[]
  staticTypes := #[]
  resolved := Array.replicate 37 none
  statics := none }

def pool9 : Array CpInfo := pool [(1, .methodref 2 3), (0, .class_ 4), (0, .nameAndType 5 6), (0, u "java/lang/Object"), (0, u "<init>"), (0, u "()V"), (0, .string 8), (0, u ""), (0, .fieldref 10 11), (0, .class_ 12), (0, .nameAndType 13 14), (0, u "java/lang/String"), (0, u "value"), (0, u "[B"), (0, .fieldref 10 16), (0, .nameAndType 17 18), (0, u "coder"), (0, u "B"), (2, u "hash"), (0, u "I"), (2, u "hashIsZero"), (0, u "Z"), (0, .methodref 10 28), (0, .nameAndType 5 29), (0, u "([CIILjava/lang/Void;)V"), (8, .fieldref 10 39), (0, .nameAndType 40 26), (0, u "COMPACT_STRINGS"), (1, .class_ 44), (1, u "java/lang/StringUTF16"), (0, u "compress"), (1, .methodref 42 48), (0, .nameAndType 49 50), (0, u "coderFromArrayLen"), (0, u "([BI)B"), (126, .methodref 42 178), (0, .nameAndType 45 179), (0, u "([CII)[B"), (395, .class_ 576), (0, u "java/lang/CharSequence"), (22, u "CASE_INSENSITIVE_ORDER"), (0, u "Ljava/util/Comparator;"), (409, u "([C)V"), (90, u "serialPersistentFields"), (0, u "[Ljava/io/ObjectStreamField;"), (0, .class_ 1104), (0, u "java/lang/String$CaseInsensitiveComparator"), (1, .class_ 1107), (0, u "java/io/Serializable"), (0, .class_ 1109), (0, u "java/lang/Comparable"), (0, .class_ 1111), (0, u "java/lang/constant/Constable"), (0, .class_ 1113), (0, u "java/lang/constant/ConstantDesc"), (2, u "serialVersionUID"), (0, u "J"), (3, u "REPL"), (0, u "C"), (2, u "LATIN1"), (1, u "UTF16")] 323

def k9m0 : Method := { name := "<init>", desc := "()V", sig := { parameters := [], returnType := none }, accessFlags := 1, code := none }
def k9c1 : Code := { maxStack := 5, maxLocals := 2, code := jdk_42_method_3_code, exceptionTable := #[], attributes := #[] }
def k9m1 : Method := { name := "<init>", desc := "([C)V", sig := { parameters := [(.array .char)], returnType := none }, accessFlags := 1, code := some k9c1 }
def k9c2 : Code := { maxStack := 4, maxLocals := 6, code := jdk_42_method_149_code, exceptionTable := #[], attributes := #[] }
def k9m2 : Method := { name := "<init>", desc := "([CIILjava/lang/Void;)V", sig := { parameters := [(.array .char), .int, .int, (.object "java/lang/Void")], returnType := none }, accessFlags := 2, code := some k9c2 }
/-- java/lang/String -/
def k9 : Class := { plain "java/lang/String" (some 0) with
  accessFlags := 49
  interfaces := #[4, 3, 7, 2, 8]
  cf := some (fileOf pool9 10 #[.nestMembers #[1103]] #[{ accessFlags := 1, nameIndex := 5, descriptorIndex := 6, attributes := #[] }, { accessFlags := 1, nameIndex := 5, descriptorIndex := 1010, attributes := #[] }, { accessFlags := 2, nameIndex := 5, descriptorIndex := 29, attributes := #[] }] 49 2 #[1106, 1108, 575, 1110, 1112] #[{ accessFlags := 18, nameIndex := 13, descriptorIndex := 14, attributes := #[] }, { accessFlags := 18, nameIndex := 17, descriptorIndex := 18, attributes := #[] }, { accessFlags := 2, nameIndex := 21, descriptorIndex := 22, attributes := #[] }, { accessFlags := 2, nameIndex := 25, descriptorIndex := 26, attributes := #[] }, { accessFlags := 26, nameIndex := 1116, descriptorIndex := 1117, attributes := #[] }, { accessFlags := 24, nameIndex := 40, descriptorIndex := 26, attributes := #[] }, { accessFlags := 26, nameIndex := 1101, descriptorIndex := 1102, attributes := #[] }, { accessFlags := 26, nameIndex := 1121, descriptorIndex := 1122, attributes := #[] }, { accessFlags := 25, nameIndex := 599, descriptorIndex := 600, attributes := #[] }, { accessFlags := 24, nameIndex := 1125, descriptorIndex := 18, attributes := #[] }, { accessFlags := 24, nameIndex := 1127, descriptorIndex := 18, attributes := #[] }])
  fields := #[{ name := "value", type := (.array .byte), accessFlags := 18, slot := 0, constantValue := 0 }, { name := "coder", type := .byte, accessFlags := 18, slot := 1, constantValue := 0 }, { name := "hash", type := .int, accessFlags := 2, slot := 2, constantValue := 0 }, { name := "hashIsZero", type := .boolean, accessFlags := 2, slot := 3, constantValue := 0 }, { name := "serialVersionUID", type := .long, accessFlags := 26, slot := 0, constantValue := 0 }, { name := "COMPACT_STRINGS", type := .boolean, accessFlags := 24, slot := 1, constantValue := 0 }, { name := "serialPersistentFields", type := (.array (.object "java/io/ObjectStreamField")), accessFlags := 26, slot := 2, constantValue := 0 }, { name := "REPL", type := .char, accessFlags := 26, slot := 3, constantValue := 0 }, { name := "CASE_INSENSITIVE_ORDER", type := (.object "java/util/Comparator"), accessFlags := 25, slot := 4, constantValue := 0 }, { name := "LATIN1", type := .byte, accessFlags := 24, slot := 5, constantValue := 0 }, { name := "UTF16", type := .byte, accessFlags := 24, slot := 6, constantValue := 0 }]
  methods := #[k9m0, k9m1, k9m2]
  instanceTypes := #[(.array .byte), .byte, .int, .boolean]
  staticTypes := #[.long, .boolean, (.array (.object "java/io/ObjectStreamField")), .char, (.object "java/util/Comparator"), .byte, .byte]
  resolved := Array.replicate 1451 none
  statics := some 1 }

def pool10 : Array CpInfo := pool [(1, .methodref 2 3), (0, .class_ 4), (0, .nameAndType 5 6), (0, u "java/lang/Object"), (0, u "<init>"), (0, u "()V"), (0, .class_ 8), (0, u "java/lang/Record")] 13

def k10c0 : Code := { maxStack := 1, maxLocals := 1, code := jdk_30_method_1_code, exceptionTable := #[], attributes := #[] }
def k10m0 : Method := { name := "<init>", desc := "()V", sig := { parameters := [], returnType := none }, accessFlags := 4, code := some k10c0 }
/-- java/lang/Record -/
def k10 : Class := { plain "java/lang/Record" (some 0) with
  accessFlags := 1057
  interfaces := #[]
  cf := some (fileOf pool10 7 #[] #[{ accessFlags := 4, nameIndex := 5, descriptorIndex := 6, attributes := #[] }] 1057 2 #[] #[])
  fields := #[]
  methods := #[k10m0]
  instanceTypes := #[]
  staticTypes := #[]
  resolved := Array.replicate 22 none
  statics := none }

def pool11 : Array CpInfo := pool [(1, .methodref 2 3), (0, .class_ 4), (0, .nameAndType 5 6), (0, u "java/lang/Record"), (0, u "<init>"), (0, u "()V"), (0, .fieldref 8 9), (0, .class_ 10), (0, .nameAndType 11 12), (0, u "com/example/wee_wrapper/weewrapper/model/Token"), (0, u "kind"), (0, u "Lcom/example/wee_wrapper/weewrapper/model/Token$Kind;"), (0, .fieldref 8 14), (0, .nameAndType 15 16), (0, u "text"), (0, u "Ljava/lang/String;"), (4, u "isTag"), (1, .fieldref 24 25), (0, .class_ 26), (0, .nameAndType 27 12), (0, u "com/example/wee_wrapper/weewrapper/model/Token$Kind"), (0, u "END_TAG"), (12, u "(Lcom/example/wee_wrapper/weewrapper/model/Token$Kind;Ljava/lang/String;)V"), (2, .fieldref 24 44), (0, .nameAndType 45 12), (0, u "START_TAG"), (42, u "TAG_NAME"), (0, u "Ljava/util/regex/Pattern;"), (11, u "()Z")] 57

def k11c0 : Code := { maxStack := 2, maxLocals := 3, code := prog_16_method_1_code, exceptionTable := #[], attributes := #[] }
def k11m0 : Method := { name := "<init>", desc := "(Lcom/example/wee_wrapper/weewrapper/model/Token$Kind;Ljava/lang/String;)V", sig := { parameters := [(.object "com/example/wee_wrapper/weewrapper/model/Token$Kind"), (.object "java/lang/String")], returnType := none }, accessFlags := 1, code := some k11c0 }
def k11c1 : Code := { maxStack := 2, maxLocals := 1, code := prog_16_method_3_code, exceptionTable := #[], attributes := #[] }
def k11m1 : Method := { name := "isTag", desc := "()Z", sig := { parameters := [], returnType := some .boolean }, accessFlags := 1, code := some k11c1 }
/-- com/example/wee_wrapper/weewrapper/model/Token -/
def k11 : Class := { plain "com/example/wee_wrapper/weewrapper/model/Token" (some 10) with
  accessFlags := 49
  interfaces := #[]
  cf := some (fileOf pool11 8 #[.nestMembers #[24]] #[{ accessFlags := 1, nameIndex := 5, descriptorIndex := 40, attributes := #[] }, { accessFlags := 1, nameIndex := 21, descriptorIndex := 101, attributes := #[] }] 49 2 #[] #[{ accessFlags := 18, nameIndex := 11, descriptorIndex := 12, attributes := #[] }, { accessFlags := 18, nameIndex := 15, descriptorIndex := 16, attributes := #[] }, { accessFlags := 26, nameIndex := 88, descriptorIndex := 89, attributes := #[] }])
  fields := #[{ name := "kind", type := (.object "com/example/wee_wrapper/weewrapper/model/Token$Kind"), accessFlags := 18, slot := 0, constantValue := 0 }, { name := "text", type := (.object "java/lang/String"), accessFlags := 18, slot := 1, constantValue := 0 }, { name := "TAG_NAME", type := (.object "java/util/regex/Pattern"), accessFlags := 26, slot := 0, constantValue := 0 }]
  methods := #[k11m0, k11m1]
  instanceTypes := #[(.object "com/example/wee_wrapper/weewrapper/model/Token$Kind"), (.object "java/lang/String")]
  staticTypes := #[(.object "java/util/regex/Pattern")]
  resolved := Array.replicate 159 none
  statics := none }

def pool12 : Array CpInfo := pool [(6, .class_ 8), (1, u "java/lang/Object"), (0, u "<init>"), (0, u "()V"), (1, .class_ 14), (1, u "java/lang/StringUTF16"), (31, u "$assertionsDisabled"), (0, u "Z"), (13, u "HI_BYTE_SHIFT"), (0, u "I"), (2, u "LO_BYTE_SHIFT"), (49, .methodref 12 116), (0, .nameAndType 117 118), (0, u "compress"), (0, u "([CI[BII)I"), (3, u "([CII)[B"), (138, u "coderFromArrayLen"), (0, u "([BI)B"), (106, .class_ 371), (1, u "java/lang/StringUTF16$LinesSpliterator"), (58, u "MAX_LENGTH"), (196, .class_ 628), (0, u "java/lang/StringUTF16$CodePointsSpliterator"), (0, .class_ 630), (0, u "java/lang/StringUTF16$CharsSpliterator")] 4

def k12m0 : Method := { name := "<init>", desc := "()V", sig := { parameters := [], returnType := none }, accessFlags := 0, code := none }
def k12c1 : Code := { maxStack := 2, maxLocals := 2, code := jdk_52_method_15_code, exceptionTable := #[], attributes := #[] }
def k12m1 : Method := { name := "coderFromArrayLen", desc := "([BI)B", sig := { parameters := [(.array .byte), .int], returnType := some .byte }, accessFlags := 8, code := some k12c1 }
def k12c2 : Code := { maxStack := 5, maxLocals := 6, code := jdk_52_method_16_code, exceptionTable := #[], attributes := #[] }
def k12m2 : Method := { name := "compress", desc := "([CII)[B", sig := { parameters := [(.array .char), .int, .int], returnType := some (.array .byte) }, accessFlags := 9, code := some k12c2 }
def k12c3 : Code := { maxStack := 3, maxLocals := 7, code := jdk_52_method_21_code, exceptionTable := #[], attributes := #[] }
def k12m3 : Method := { name := "compress", desc := "([CI[BII)I", sig := { parameters := [(.array .char), .int, (.array .byte), .int, .int], returnType := some .int }, accessFlags := 9, code := some k12c3 }
/-- java/lang/StringUTF16 -/
def k12 : Class := { plain "java/lang/StringUTF16" (some 0) with
  accessFlags := 48
  interfaces := #[]
  cf := some (fileOf pool12 12 #[.nestMembers #[627, 629, 369]] #[{ accessFlags := 0, nameIndex := 9, descriptorIndex := 10, attributes := #[] }, { accessFlags := 8, nameIndex := 261, descriptorIndex := 262, attributes := #[] }, { accessFlags := 9, nameIndex := 117, descriptorIndex := 122, attributes := #[] }, { accessFlags := 9, nameIndex := 117, descriptorIndex := 118, attributes := #[] }] 48 6 #[] #[{ accessFlags := 26, nameIndex := 61, descriptorIndex := 62, attributes := #[] }, { accessFlags := 26, nameIndex := 65, descriptorIndex := 62, attributes := #[] }, { accessFlags := 24, nameIndex := 430, descriptorIndex := 62, attributes := #[] }, { accessFlags := 4120, nameIndex := 46, descriptorIndex := 47, attributes := #[] }])
  fields := #[{ name := "HI_BYTE_SHIFT", type := .int, accessFlags := 26, slot := 0, constantValue := 0 }, { name := "LO_BYTE_SHIFT", type := .int, accessFlags := 26, slot := 1, constantValue := 0 }, { name := "MAX_LENGTH", type := .int, accessFlags := 24, slot := 2, constantValue := 0 }, { name := "$assertionsDisabled", type := .boolean, accessFlags := 4120, slot := 3, constantValue := 0 }]
  methods := #[k12m0, k12m1, k12m2, k12m3]
  instanceTypes := #[]
  staticTypes := #[.int, .int, .int, .boolean]
  resolved := Array.replicate 635 none
  statics := none }

def pool13 : Array CpInfo := pool [(4, .class_ 6), (1, u "java/lang/Object"), (0, u "<init>"), (0, u "()V"), (5, .class_ 16), (1, u "java/lang/StringLatin1"), (104, u "$assertionsDisabled"), (0, u "Z"), (98, .class_ 223), (1, u "java/lang/StringLatin1$LinesSpliterator"), (166, .class_ 391), (0, u "java/lang/StringLatin1$CharsSpliterator")] 3

def k13m0 : Method := { name := "<init>", desc := "()V", sig := { parameters := [], returnType := none }, accessFlags := 0, code := none }
/-- java/lang/StringLatin1 -/
def k13 : Class := { plain "java/lang/StringLatin1" (some 0) with
  accessFlags := 48
  interfaces := #[]
  cf := some (fileOf pool13 14 #[.nestMembers #[390, 221]] #[{ accessFlags := 0, nameIndex := 7, descriptorIndex := 8, attributes := #[] }] 48 4 #[] #[{ accessFlags := 4120, nameIndex := 121, descriptorIndex := 122, attributes := #[] }])
  fields := #[{ name := "$assertionsDisabled", type := .boolean, accessFlags := 4120, slot := 0, constantValue := 0 }]
  methods := #[k13m0]
  instanceTypes := #[]
  staticTypes := #[.boolean]
  resolved := Array.replicate 395 none
  statics := none }

def pool14 : Array CpInfo := pool [(2, .class_ 4), (1, u "java/lang/Object"), (0, u "<init>"), (0, u "()V"), (17, .class_ 26), (1, u "jdk/internal/util/Preconditions"), (28, .class_ 56), (0, u "jdk/internal/util/Preconditions$4"), (57, .class_ 115), (0, u "jdk/internal/util/Preconditions$1"), (7, u "SIOOBE_FORMATTER"), (0, u "Ljava/util/function/BiFunction;"), (0, .class_ 126), (0, u "jdk/internal/util/Preconditions$2"), (3, u "AIOOBE_FORMATTER"), (0, .class_ 132), (0, u "jdk/internal/util/Preconditions$3"), (3, u "IOOBE_FORMATTER")] 57

def k14m0 : Method := { name := "<init>", desc := "()V", sig := { parameters := [], returnType := none }, accessFlags := 1, code := none }
/-- jdk/internal/util/Preconditions -/
def k14 : Class := { plain "jdk/internal/util/Preconditions" (some 0) with
  accessFlags := 33
  interfaces := #[]
  cf := some (fileOf pool14 24 #[.nestMembers #[55, 131, 125, 114]] #[{ accessFlags := 1, nameIndex := 5, descriptorIndex := 6, attributes := #[] }] 33 2 #[] #[{ accessFlags := 25, nameIndex := 123, descriptorIndex := 124, attributes := #[] }, { accessFlags := 25, nameIndex := 130, descriptorIndex := 124, attributes := #[] }, { accessFlags := 25, nameIndex := 136, descriptorIndex := 124, attributes := #[] }])
  fields := #[{ name := "SIOOBE_FORMATTER", type := (.object "java/util/function/BiFunction"), accessFlags := 25, slot := 0, constantValue := 0 }, { name := "AIOOBE_FORMATTER", type := (.object "java/util/function/BiFunction"), accessFlags := 25, slot := 1, constantValue := 0 }, { name := "IOOBE_FORMATTER", type := (.object "java/util/function/BiFunction"), accessFlags := 25, slot := 2, constantValue := 0 }]
  methods := #[k14m0]
  instanceTypes := #[]
  staticTypes := #[(.object "java/util/function/BiFunction"), (.object "java/util/function/BiFunction"), (.object "java/util/function/BiFunction")]
  resolved := Array.replicate 194 none
  statics := some 2 }

def pool15 : Array CpInfo := pool [(9, u "<init>"), (6, .class_ 18), (1, u "java/lang/Object"), (0, u "()V"), (1, .class_ 23), (1, u "jdk/internal/util/ArraysSupport"), (0, u "LOG2_ARRAY_LONG_INDEX_SCALE"), (0, u "I"), (2, u "U"), (0, u "Ljdk/internal/misc/Unsafe;"), (8, u "BIG_ENDIAN"), (0, u "Z"), (8, u "LOG2_BYTE_BIT_SIZE"), (4, u "LOG2_ARRAY_INT_INDEX_SCALE"), (54, u "JLA"), (0, u "Ljdk/internal/access/JavaLangAccess;"), (11, u "LOG2_ARRAY_BOOLEAN_INDEX_SCALE"), (9, u "LOG2_ARRAY_BYTE_INDEX_SCALE"), (5, u "LOG2_ARRAY_CHAR_INDEX_SCALE"), (5, u "LOG2_ARRAY_SHORT_INDEX_SCALE"), (18, u "LOG2_ARRAY_FLOAT_INDEX_SCALE"), (24, u "LOG2_ARRAY_DOUBLE_INDEX_SCALE"), (89, u "T_BOOLEAN"), (2, u "T_CHAR"), (1, u "T_FLOAT"), (1, u "T_DOUBLE"), (1, u "T_BYTE"), (1, u "T_SHORT"), (1, u "T_INT"), (1, u "T_LONG"), (1, u "SOFT_MAX_ARRAY_LENGTH")] 83

def k15m0 : Method := { name := "<init>", desc := "()V", sig := { parameters := [], returnType := none }, accessFlags := 2, code := none }
/-- jdk/internal/util/ArraysSupport -/
def k15 : Class := { plain "jdk/internal/util/ArraysSupport" (some 0) with
  accessFlags := 33
  interfaces := #[]
  cf := some (fileOf pool15 21 #[] #[{ accessFlags := 2, nameIndex := 9, descriptorIndex := 19, attributes := #[] }] 33 16 #[] #[{ accessFlags := 24, nameIndex := 28, descriptorIndex := 29, attributes := #[] }, { accessFlags := 26, nameIndex := 38, descriptorIndex := 39, attributes := #[] }, { accessFlags := 25, nameIndex := 121, descriptorIndex := 25, attributes := #[] }, { accessFlags := 25, nameIndex := 131, descriptorIndex := 25, attributes := #[] }, { accessFlags := 25, nameIndex := 137, descriptorIndex := 25, attributes := #[] }, { accessFlags := 25, nameIndex := 143, descriptorIndex := 25, attributes := #[] }, { accessFlags := 25, nameIndex := 53, descriptorIndex := 25, attributes := #[] }, { accessFlags := 25, nameIndex := 24, descriptorIndex := 25, attributes := #[] }, { accessFlags := 25, nameIndex := 162, descriptorIndex := 25, attributes := #[] }, { accessFlags := 25, nameIndex := 187, descriptorIndex := 25, attributes := #[] }, { accessFlags := 26, nameIndex := 48, descriptorIndex := 25, attributes := #[] }, { accessFlags := 25, nameIndex := 277, descriptorIndex := 25, attributes := #[] }, { accessFlags := 25, nameIndex := 280, descriptorIndex := 25, attributes := #[] }, { accessFlags := 25, nameIndex := 282, descriptorIndex := 25, attributes := #[] }, { accessFlags := 25, nameIndex := 284, descriptorIndex := 25, attributes := #[] }, { accessFlags := 25, nameIndex := 286, descriptorIndex := 25, attributes := #[] }, { accessFlags := 25, nameIndex := 288, descriptorIndex := 25, attributes := #[] }, { accessFlags := 25, nameIndex := 290, descriptorIndex := 25, attributes := #[] }, { accessFlags := 25, nameIndex := 292, descriptorIndex := 25, attributes := #[] }, { accessFlags := 26, nameIndex := 108, descriptorIndex := 109, attributes := #[] }, { accessFlags := 25, nameIndex := 294, descriptorIndex := 25, attributes := #[] }])
  fields := #[{ name := "U", type := (.object "jdk/internal/misc/Unsafe"), accessFlags := 24, slot := 0, constantValue := 0 }, { name := "BIG_ENDIAN", type := .boolean, accessFlags := 26, slot := 1, constantValue := 0 }, { name := "LOG2_ARRAY_BOOLEAN_INDEX_SCALE", type := .int, accessFlags := 25, slot := 2, constantValue := 0 }, { name := "LOG2_ARRAY_BYTE_INDEX_SCALE", type := .int, accessFlags := 25, slot := 3, constantValue := 0 }, { name := "LOG2_ARRAY_CHAR_INDEX_SCALE", type := .int, accessFlags := 25, slot := 4, constantValue := 0 }, { name := "LOG2_ARRAY_SHORT_INDEX_SCALE", type := .int, accessFlags := 25, slot := 5, constantValue := 0 }, { name := "LOG2_ARRAY_INT_INDEX_SCALE", type := .int, accessFlags := 25, slot := 6, constantValue := 0 }, { name := "LOG2_ARRAY_LONG_INDEX_SCALE", type := .int, accessFlags := 25, slot := 7, constantValue := 0 }, { name := "LOG2_ARRAY_FLOAT_INDEX_SCALE", type := .int, accessFlags := 25, slot := 8, constantValue := 0 }, { name := "LOG2_ARRAY_DOUBLE_INDEX_SCALE", type := .int, accessFlags := 25, slot := 9, constantValue := 0 }, { name := "LOG2_BYTE_BIT_SIZE", type := .int, accessFlags := 26, slot := 10, constantValue := 0 }, { name := "T_BOOLEAN", type := .int, accessFlags := 25, slot := 11, constantValue := 0 }, { name := "T_CHAR", type := .int, accessFlags := 25, slot := 12, constantValue := 0 }, { name := "T_FLOAT", type := .int, accessFlags := 25, slot := 13, constantValue := 0 }, { name := "T_DOUBLE", type := .int, accessFlags := 25, slot := 14, constantValue := 0 }, { name := "T_BYTE", type := .int, accessFlags := 25, slot := 15, constantValue := 0 }, { name := "T_SHORT", type := .int, accessFlags := 25, slot := 16, constantValue := 0 }, { name := "T_INT", type := .int, accessFlags := 25, slot := 17, constantValue := 0 }, { name := "T_LONG", type := .int, accessFlags := 25, slot := 18, constantValue := 0 }, { name := "JLA", type := (.object "jdk/internal/access/JavaLangAccess"), accessFlags := 26, slot := 19, constantValue := 0 }, { name := "SOFT_MAX_ARRAY_LENGTH", type := .int, accessFlags := 25, slot := 20, constantValue := 0 }]
  methods := #[k15m0]
  instanceTypes := #[]
  staticTypes := #[(.object "jdk/internal/misc/Unsafe"), .boolean, .int, .int, .int, .int, .int, .int, .int, .int, .int, .int, .int, .int, .int, .int, .int, .int, .int, (.object "jdk/internal/access/JavaLangAccess"), .int]
  resolved := Array.replicate 378 none
  statics := none }

def pool16 : Array CpInfo := pool [(1, u "java/lang/Cloneable"), (0, .class_ 1), (0, u "java/lang/Object"), (0, .class_ 3)] 3

/-- java/lang/Cloneable -/
def k16 : Class := { plain "java/lang/Cloneable" (some 0) with
  accessFlags := 1537
  interfaces := #[]
  cf := some (fileOf pool16 2 #[] #[] 1537 4 #[] #[])
  fields := #[]
  methods := #[]
  instanceTypes := #[]
  staticTypes := #[]
  resolved := Array.replicate 8 none
  statics := none }

/-- the primitive byte -/
def k17 : Class := { plain "byte" none with kind := .primitive 'B', accessFlags := 0x411 }
/-- [B -/
def k18 : Class := { plain "[B" (some 0) with kind := .array 17 .byte, interfaces := #[16, 4], accessFlags := 1041 }

/-- the primitive char -/
def k19 : Class := { plain "char" none with kind := .primitive 'C', accessFlags := 0x411 }
/-- [C -/
def k20 : Class := { plain "[C" (some 0) with kind := .array 19 .char, interfaces := #[16, 4], accessFlags := 1041 }

/-- the primitive int -/
def k21 : Class := { plain "int" none with kind := .primitive 'I', accessFlags := 0x411 }
/-- [I -/
def k22 : Class := { plain "[I" (some 0) with kind := .array 21 .int, interfaces := #[16, 4], accessFlags := 1041 }

def heap : Heap := #[{ cls := 6, slots := #[.ref 3, .ref 5, .ref 6, .ref 4, .null], vm := .statics 6 },
  { cls := 9, slots := #[.long 0, .int 1, .null, .int 0, .null, .int 0, .int 0], vm := .statics 9 },
  { cls := 14, slots := #[.null, .null, .null], vm := .statics 14 },
  { cls := 6, slots := #[.null, .int 0, .int 0], vm := .none },
  { cls := 6, slots := #[.null, .int 3, .int 0], vm := .none },
  { cls := 6, slots := #[.null, .int 1, .int 0], vm := .none },
  { cls := 6, slots := #[.null, .int 2, .int 0], vm := .none }]
def classes : Array Class := #[k0, k1, k2, k3, k4, k5, k6, k7, k8, k9, k10, k11, k12, k13, k14, k15, k16, k17, k18, k19, k20, k21, k22]
def interned : List (Array UInt16 × Addr) := []
def slotsUsed : Nat := 27
def theMethod : MethodId := ⟨1, 3⟩
def args0 : Array Value := #[.int 5, .int 5, .int 5, .int 5]
def aboutOver (below : List Frame) : State where
  vm := { classes := classes, interned := interned.toArray }
  heap := heap
  slotsUsed := slotsUsed
  threads := #[{ frames := .invoking theMethod args0 :: below }]
def below0 : List Frame := [.native { method := ⟨0, 0⟩, args := #[] }]
def about1 : State := aboutOver below0
def p0 : Program := .bare "" "" ""
def e0 : Env := launch0.env 0 0 0
theorem w_frames : about1.frames = Frame.invoking theMethod args0 :: below0 := rfl
set_option maxRecDepth 65536 in
theorem w_args : argsFit about1.vm theMethod args0 = true := by decide +kernel
set_option maxRecDepth 65536 in
theorem w_heap : heapFits about1 = true := by decide +kernel
set_option maxRecDepth 65536 in
theorem w_runnable : about1.curStatus? = some .runnable := by decide +kernel
set_option maxRecDepth 65536 in
theorem w_alone : about1.alone = true := by decide +kernel
set_option maxRecDepth 65536 in
theorem w_named : about1.methodNamed? x = some theMethod := by decide +kernel
set_option maxRecDepth 65536 in
theorem w_hears : about1.hears theMethod below0 = true := by decide +kernel
set_option maxRecDepth 65536 in
theorem w_ripe : about1.ripe theMethod args0 below0 = true := by decide +kernel
theorem w_running : about1.status = .running := rfl
set_option maxRecDepth 65536 in
theorem w_room : about1.hasRoom e0.platform room_1 = true :=
  launch0.hasRoom_least _ room_1 (by decide +kernel) (by decide +kernel) (by decide +kernel) (by decide +kernel) (by decide +kernel) (by decide +kernel)
theorem allAtoms_all (ts : List Jvm.Cond) (a : Array Jvm.Value) (st : Jvm.State) : (allAtoms ts).before a st = ts.all (fun c => c.before a st) := by
  induction ts with
  | nil => rfl
  | cons c t ih =>
    show (Jvm.Cond.and c (allAtoms t)).before a st = _
    rw [Jvm.Cond.before_and, ih, List.all_cons]
def words1 : List Jvm.Cond := Jvm.Cond.code x code maxLocals ret :: tables_1
/-- a 'code' word, met by the world's own term for the bytes: nothing is compared byte by byte -/
theorem code_word {y : MethodName} {bytes : ByteArray} {mx : Nat} {rt : Option FieldType} {a : Array Value} {s : State} {m : MethodId} {meth : Method} {c : Code} (h1 : s.methodNamed? y = some m) (h2 : s.vm.method? m = some meth) (h3 : meth.code = some c) (h4 : c.code = bytes)
    (h5 : (c.maxLocals == mx && c.exceptionTable.isEmpty && decide (c.maxStack ≤ mostOperands) && decide (meth.sig.returnType = rt) && !meth.locks && decide (parseMethodDescriptor y.desc = some meth.sig)) = true) : (Jvm.Cond.code y bytes mx rt).before a s = true := by
  simp only [Bool.and_eq_true, beq_iff_eq, Bool.not_eq_true', decide_eq_true_eq] at h5
  obtain ⟨⟨⟨⟨⟨g1, g2⟩, g3⟩, g4⟩, g5⟩, g6⟩ := h5
  simp [Cond.before, Cond.holds, Cond.value, h1, h2, h3, h4, g1, g2, g3, g4, g5, g6]
def isCode : Jvm.Cond → Bool
  | .code _ _ _ _ => true
  | _ => false
theorem all_split {L : List Jvm.Cond} {P : Jvm.Cond → Bool} (h1 : L.all (fun c => isCode c || P c) = true) (h2 : ∀ c ∈ L.filter isCode, P c = true) : L.all P = true := by
  refine List.all_eq_true.mpr fun c hc => ?_
  have h := List.all_eq_true.mp h1 c hc
  rcases Bool.eq_false_or_eq_true (isCode c) with hi | hi
  · exact h2 c (List.mem_filter.mpr ⟨hc, hi⟩)
  · simpa [hi] using h
set_option maxRecDepth 65536 in
theorem w_c0 : (Jvm.Cond.code x code maxLocals ret).before args0 about1 = true := code_word (m := ⟨1, 3⟩) (meth := k1m3) (c := k1c3) (by decide +kernel) rfl rfl rfl (by decide +kernel)
set_option maxRecDepth 65536 in
theorem w_c1 : (Jvm.Cond.code ({ cls := "com/example/wee_wrapper/weewrapper/model/TokenIsTagPinLaw", name := "kindOf", desc := "(I)Lcom/example/wee_wrapper/weewrapper/model/Token$Kind;" } : Jvm.MethodName) method_2_code (2 : Nat) (Option.some (Jvm.ClassFile.FieldType.object "com/example/wee_wrapper/weewrapper/model/Token$Kind"))).before args0 about1 = true := code_word (m := ⟨1, 1⟩) (meth := k1m1) (c := k1c1) (by decide +kernel) rfl rfl rfl (by decide +kernel)
set_option maxRecDepth 65536 in
theorem w_c2 : (Jvm.Cond.code ({ cls := "com/example/wee_wrapper/weewrapper/model/TokenIsTagPinLaw", name := "textOf", desc := "(III)Ljava/lang/String;" } : Jvm.MethodName) method_3_code (7 : Nat) (Option.some (Jvm.ClassFile.FieldType.object "java/lang/String"))).before args0 about1 = true := code_word (m := ⟨1, 2⟩) (meth := k1m2) (c := k1c2) (by decide +kernel) rfl rfl rfl (by decide +kernel)
set_option maxRecDepth 65536 in
theorem w_c3 : (Jvm.Cond.code ({ cls := "java/lang/String", name := "<init>", desc := "([C)V" } : Jvm.MethodName) jdk_42_method_3_code (2 : Nat) (Option.none : Option Jvm.ClassFile.FieldType)).before args0 about1 = true := code_word (m := ⟨9, 1⟩) (meth := k9m1) (c := k9c1) (by decide +kernel) rfl rfl rfl (by decide +kernel)
set_option maxRecDepth 65536 in
theorem w_c4 : (Jvm.Cond.code ({ cls := "java/lang/String", name := "<init>", desc := "([CIILjava/lang/Void;)V" } : Jvm.MethodName) jdk_42_method_149_code (6 : Nat) (Option.none : Option Jvm.ClassFile.FieldType)).before args0 about1 = true := code_word (m := ⟨9, 2⟩) (meth := k9m2) (c := k9c2) (by decide +kernel) rfl rfl rfl (by decide +kernel)
set_option maxRecDepth 65536 in
theorem w_c5 : (Jvm.Cond.code ({ cls := "java/lang/Object", name := "<init>", desc := "()V" } : Jvm.MethodName) object_method_1_code (1 : Nat) (Option.none : Option Jvm.ClassFile.FieldType)).before args0 about1 = true := code_word (m := ⟨0, 0⟩) (meth := k0m0) (c := k0c0) (by decide +kernel) rfl rfl rfl (by decide +kernel)
set_option maxRecDepth 65536 in
theorem w_c6 : (Jvm.Cond.code ({ cls := "com/example/wee_wrapper/weewrapper/model/Token", name := "<init>", desc := "(Lcom/example/wee_wrapper/weewrapper/model/Token$Kind;Ljava/lang/String;)V" } : Jvm.MethodName) prog_16_method_1_code (3 : Nat) (Option.none : Option Jvm.ClassFile.FieldType)).before args0 about1 = true := code_word (m := ⟨11, 0⟩) (meth := k11m0) (c := k11c0) (by decide +kernel) rfl rfl rfl (by decide +kernel)
set_option maxRecDepth 65536 in
theorem w_c7 : (Jvm.Cond.code ({ cls := "java/lang/Record", name := "<init>", desc := "()V" } : Jvm.MethodName) jdk_30_method_1_code (1 : Nat) (Option.none : Option Jvm.ClassFile.FieldType)).before args0 about1 = true := code_word (m := ⟨10, 0⟩) (meth := k10m0) (c := k10c0) (by decide +kernel) rfl rfl rfl (by decide +kernel)
set_option maxRecDepth 65536 in
theorem w_c8 : (Jvm.Cond.code ({ cls := "com/example/wee_wrapper/weewrapper/model/Token", name := "isTag", desc := "()Z" } : Jvm.MethodName) prog_16_method_3_code (1 : Nat) (Option.some Jvm.ClassFile.FieldType.boolean)).before args0 about1 = true := code_word (m := ⟨11, 1⟩) (meth := k11m1) (c := k11c1) (by decide +kernel) rfl rfl rfl (by decide +kernel)
set_option maxRecDepth 65536 in
theorem w_c9 : (Jvm.Cond.code ({ cls := "java/lang/StringUTF16", name := "compress", desc := "([CII)[B" } : Jvm.MethodName) jdk_52_method_16_code (6 : Nat) (Option.some (Jvm.ClassFile.FieldType.array Jvm.ClassFile.FieldType.byte))).before args0 about1 = true := code_word (m := ⟨12, 2⟩) (meth := k12m2) (c := k12c2) (by decide +kernel) rfl rfl rfl (by decide +kernel)
set_option maxRecDepth 65536 in
theorem w_c10 : (Jvm.Cond.code ({ cls := "java/lang/StringUTF16", name := "compress", desc := "([CI[BII)I" } : Jvm.MethodName) jdk_52_method_21_code (7 : Nat) (Option.some Jvm.ClassFile.FieldType.int)).before args0 about1 = true := code_word (m := ⟨12, 3⟩) (meth := k12m3) (c := k12c3) (by decide +kernel) rfl rfl rfl (by decide +kernel)
set_option maxRecDepth 65536 in
theorem w_c11 : (Jvm.Cond.code ({ cls := "java/lang/StringUTF16", name := "coderFromArrayLen", desc := "([BI)B" } : Jvm.MethodName) jdk_52_method_15_code (2 : Nat) (Option.some Jvm.ClassFile.FieldType.byte)).before args0 about1 = true := code_word (m := ⟨12, 1⟩) (meth := k12m1) (c := k12c1) (by decide +kernel) rfl rfl rfl (by decide +kernel)
def codes1 : List Jvm.Cond := [Jvm.Cond.code x code maxLocals ret, Jvm.Cond.code ({ cls := "com/example/wee_wrapper/weewrapper/model/TokenIsTagPinLaw", name := "kindOf", desc := "(I)Lcom/example/wee_wrapper/weewrapper/model/Token$Kind;" } : Jvm.MethodName) method_2_code (2 : Nat) (Option.some (Jvm.ClassFile.FieldType.object "com/example/wee_wrapper/weewrapper/model/Token$Kind")), Jvm.Cond.code ({ cls := "com/example/wee_wrapper/weewrapper/model/TokenIsTagPinLaw", name := "textOf", desc := "(III)Ljava/lang/String;" } : Jvm.MethodName) method_3_code (7 : Nat) (Option.some (Jvm.ClassFile.FieldType.object "java/lang/String")), Jvm.Cond.code ({ cls := "java/lang/String", name := "<init>", desc := "([C)V" } : Jvm.MethodName) jdk_42_method_3_code (2 : Nat) (Option.none : Option Jvm.ClassFile.FieldType), Jvm.Cond.code ({ cls := "java/lang/String", name := "<init>", desc := "([CIILjava/lang/Void;)V" } : Jvm.MethodName) jdk_42_method_149_code (6 : Nat) (Option.none : Option Jvm.ClassFile.FieldType), Jvm.Cond.code ({ cls := "java/lang/Object", name := "<init>", desc := "()V" } : Jvm.MethodName) object_method_1_code (1 : Nat) (Option.none : Option Jvm.ClassFile.FieldType), Jvm.Cond.code ({ cls := "com/example/wee_wrapper/weewrapper/model/Token", name := "<init>", desc := "(Lcom/example/wee_wrapper/weewrapper/model/Token$Kind;Ljava/lang/String;)V" } : Jvm.MethodName) prog_16_method_1_code (3 : Nat) (Option.none : Option Jvm.ClassFile.FieldType), Jvm.Cond.code ({ cls := "java/lang/Record", name := "<init>", desc := "()V" } : Jvm.MethodName) jdk_30_method_1_code (1 : Nat) (Option.none : Option Jvm.ClassFile.FieldType), Jvm.Cond.code ({ cls := "com/example/wee_wrapper/weewrapper/model/Token", name := "isTag", desc := "()Z" } : Jvm.MethodName) prog_16_method_3_code (1 : Nat) (Option.some Jvm.ClassFile.FieldType.boolean), Jvm.Cond.code ({ cls := "java/lang/StringUTF16", name := "compress", desc := "([CII)[B" } : Jvm.MethodName) jdk_52_method_16_code (6 : Nat) (Option.some (Jvm.ClassFile.FieldType.array Jvm.ClassFile.FieldType.byte)), Jvm.Cond.code ({ cls := "java/lang/StringUTF16", name := "compress", desc := "([CI[BII)I" } : Jvm.MethodName) jdk_52_method_21_code (7 : Nat) (Option.some Jvm.ClassFile.FieldType.int), Jvm.Cond.code ({ cls := "java/lang/StringUTF16", name := "coderFromArrayLen", desc := "([BI)B" } : Jvm.MethodName) jdk_52_method_15_code (2 : Nat) (Option.some Jvm.ClassFile.FieldType.byte)]
set_option maxRecDepth 65536 in
theorem codes_eq : words1.filter isCode = codes1 := rfl
theorem w_codes : ∀ c ∈ words1.filter isCode, c.before args0 about1 = true := by
  rw [codes_eq]
  intro c hc
  simp only [codes1, List.mem_cons, List.not_mem_nil, or_false] at hc
  rcases hc with rfl | rfl | rfl | rfl | rfl | rfl | rfl | rfl | rfl | rfl | rfl | rfl
  · exact w_c0
  · exact w_c1
  · exact w_c2
  · exact w_c3
  · exact w_c4
  · exact w_c5
  · exact w_c6
  · exact w_c7
  · exact w_c8
  · exact w_c9
  · exact w_c10
  · exact w_c11
set_option maxRecDepth 65536 in
theorem w_t1 : (words1.take 24).all (fun c => isCode c || c.before args0 about1) = true := by decide +kernel
set_option maxRecDepth 65536 in
theorem w_t2 : ((words1.drop 24).take 24).all (fun c => isCode c || c.before args0 about1) = true := by decide +kernel
set_option maxRecDepth 65536 in
theorem w_t3 : (((words1.drop 24).drop 24).take 24).all (fun c => isCode c || c.before args0 about1) = true := by decide +kernel
set_option maxRecDepth 65536 in
theorem w_t4 : (((words1.drop 24).drop 24).drop 24).all (fun c => isCode c || c.before args0 about1) = true := by decide +kernel
theorem w_tables : (allAtoms (Jvm.Cond.code x code maxLocals ret :: tables_1)).before args0 about1 = true := by
  rw [allAtoms_all]
  show words1.all (fun c => c.before args0 about1) = true
  refine all_split ?_ w_codes
  rw [← List.take_append_drop 24 words1, List.all_append, w_t1, ← List.take_append_drop 24 (words1.drop 24), List.all_append, w_t2, ← List.take_append_drop 24 ((words1.drop 24).drop 24), List.all_append, w_t3, w_t4]
  rfl
set_option maxRecDepth 65536 in
theorem w_rest : rest_1_c.before args0 about1 = true := by decide +kernel
set_option maxRecDepth 65536 in
theorem w_case : (Jvm.Cond.and given_1 narrow_1).before args0 about1 = true := by decide +kernel
set_option maxRecDepth 65536 in
theorem w_consts : constsHeld consts_1 about1 := Jvm.Lit.constsHeldB_iff.mp (by decide +kernel)
theorem w_applies : (headSpec (Jvm.Cond.code x code maxLocals ret :: tables_1) room_1).applies x e0.platform about1 = true :=
  (Spec.applies_iff w_frames).mpr ⟨w_running, w_runnable, w_alone, w_named, w_hears, w_ripe, w_room, w_tables⟩
theorem atStart : AtStart classFile x code maxLocals ret World_1 tables_1 room_1 Calls_1 rest_1 Pre_1 launch0 p0 e0 about1 theMethod args0 below0 :=
  ⟨lists_1, trivial, launch0.admits_env _ _ _, launch0.least_env, fairChoices_fair.cas, fairChoices_fair.clock, w_frames, w_args, w_heap, w_applies, ⟨w_consts, trivial⟩, w_rest, w_case⟩
end start1
theorem witness_1 : WitnessClaimed_1 := ⟨start1.p0, start1.e0, start1.about1, start1.theMethod, start1.args0, start1.below0, start1.atStart⟩
end Jvm.Pilot.@@N@@
