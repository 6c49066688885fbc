import JvmDerived
import JvmDerived.Pilot.@@N@@Statement
import JvmDerived.Pilot.@@N@@Code
set_option linter.unusedVariables false
set_option linter.unusedSimpArgs false
@@BLOCK:LamKit.lean.txt@@
namespace Jvm.Pilot.@@N@@
open Jvm Jvm.ClassFile Sem Op Lib Jvm.Free Jvm.Stand Jvm.LawKit Jvm.RoadKit Bundle Jvm.Pilot.@@N@@.Jvm.D
def own_Q (r : Option Value) (h0 : Heap) (n0 : Nat) (v : Option Value) (h : Heap) (L : List Loc) : Prop := v = r ∧ Fr n0 L ∧ h = h0
def own_R (r : Option Value) (n0 : Nat) (v : Option Value) (h : Heap) (L : List Loc) : Prop := v = r ∧ Fr n0 L
def own_GC (Z : State) (w_CS : Int32) (w_E : Addr) (w_F : Value) : Prop := Sta Z Z.heap "java/lang/String" "COMPACT_STRINGS" "Z" (.int w_CS) ∧ (¬ w_CS = (0 : Int32)) ∧ Sta Z Z.heap "java/util/Optional" "EMPTY" "Ljava/util/Optional;" (.ref w_E) ∧ Exa Z Z.heap w_E "java/util/Optional" ∧ Fld Z Z.heap w_E "java/util/Optional" "value" "Ljava/lang/Object;" .null ∧ Sta Z Z.heap "jdk/internal/util/Preconditions" "SIOOBE_FORMATTER" "Ljava/util/function/BiFunction;" w_F ∧ w_F.isRef = true
theorem own_ncs {s : State} {args : Array Value} {t : Term} {x : Int32} (ev : t.eval args s none [] s = some (.int x)) (h : (Jvm.Cond.not (Jvm.Cond.eq t (Jvm.Term.int (0 : Int32)))).value args s none s [] = some true) : ¬ x = (0 : Int32) := by
  have q := not_v h
  simpa [Cond.value, ev, Term.eval] using q
theorem own_fldn {s : State} {args : Array Value} {t : Term} {a : Addr} {C n d : String} (ev : t.eval args s none [] s = some (.ref a)) (h : (Jvm.Cond.eq (Jvm.Term.field t C n d) Jvm.Term.null).value args s none s [] = some true) : Fld s s.heap a C n d .null := by
  have hx := null_v h
  exact Fld.start (by rw [← fld_at ev]; exact hx)
def own_c8 (v : Int32) : Prop := 0 ≤ v.toInt ∧ v.toInt ≤ 255
theorem own_c8m (x : Int32) : own_c8 ((x &&& (255 : Int32)).toUInt32.toUInt16.toUInt32.toInt32) := by
  have a := c_mask x 255 8 (by decide) (by decide)
  have b := c_i2c (x &&& 255)
  unfold own_c8
  omega
theorem own_c8n {v : Int32} (h : own_c8 v) : ¬ (255 : Int32) < v := by
  obtain ⟨h0, h1⟩ := h
  have z : (255 : Int32).toInt = 255 := by decide
  rw [Int32.lt_iff_toInt_lt]
  omega
theorem own_nc {v : Int32} (h : own_c8 v) : nar .char v = v := by
  obtain ⟨h0, h1⟩ := h
  have q := c_i2c v
  rw [← Int32.toInt_inj]
  show (v.toUInt32.toUInt16.toUInt32.toInt32).toInt = v.toInt
  omega
theorem own_lcv {v : Int32} (h : own_c8 v) : (nar .char ((((v.toInt8.toInt32).toInt8.toInt32) &&& (255 : Int32)).toUInt32.toUInt16.toUInt32.toInt32)) = v := by
  obtain ⟨h0, h1⟩ := h
  have a1 := c_i2b v
  have a2 := c_i2b v.toInt8.toInt32
  have a3 := c_mask v.toInt8.toInt32.toInt8.toInt32 255 8 (by decide) (by decide)
  generalize v.toInt8.toInt32.toInt8.toInt32 &&& (255 : Int32) = y at *
  have y1 := c_i2c y
  have y2 := c_i2c y.toUInt32.toUInt16.toUInt32.toInt32
  show y.toUInt32.toUInt16.toUInt32.toInt32.toUInt32.toUInt16.toUInt32.toInt32 = v
  rw [← Int32.toInt_inj]
  omega
def own_dl (n c0 c1 ln : Int32) (vs : List Value) : Prop := (n = (0 : Int32) ∧ ln = (0 : Int32) ∧ vs = []) ∨ (n = (1 : Int32) ∧ ln = (1 : Int32) ∧ vs = [(.int ((c0.toInt8.toInt32).toInt8.toInt32))]) ∨ (n = (2 : Int32) ∧ ln = (2 : Int32) ∧ vs = [(.int ((c0.toInt8.toInt32).toInt8.toInt32)), (.int ((c1.toInt8.toInt32).toInt8.toInt32))])
abbrev own_sg : Lambda.Shape := Lambda.Shape.mk "java/util/function/Predicate" "test" ⟨[.object "java/lang/Object"], some .boolean⟩ [] 6 "com/example/indelible_crawl/indeliblecrawl/fetch/Validators" "canBeSent" ⟨[.object "java/lang/String"], some .boolean⟩ false ⟨[.object "java/lang/String"], some .boolean⟩
def own_fc : ByteArray := ⟨#[0x2b, 0xc0, 0x00, 0x0e, 0xb8, 0x00, 0x14, 0xac]⟩
theorem own_fwd : LamKit.fwdOK own_sg "com/example/indelible_crawl/indeliblecrawl/fetch/Validators" own_fc 2 (some .boolean) 20 16 = true := by decide +kernel
theorem own_fd0 : decode own_fc 0 = .ok (.aload_n 1, 1) := by decide +kernel
theorem own_fd1 : decode own_fc 1 = .ok (.checkcast 14, 3) := by decide +kernel
theorem own_fd4 : decode own_fc 4 = .ok (.invokestatic 20, 3) := by decide +kernel
theorem own_fd7 : decode own_fc 7 = .ok (.ireturn, 1) := by decide +kernel
def own_ck (D : Jvm.ClassFile.ClassFile) : Bool :=
  match D.constantPool[14]? with
  | some (Jvm.ClassFile.CpInfo.class_ n) => decide (D.constantPool.string? n = some "java/lang/String") && decide (14 ≠ D.thisClass)
  | _ => false
theorem own_cko : ((own_sg.file "com/example/indelible_crawl/indeliblecrawl/fetch/Validators").map own_ck).getD false = true := by decide +kernel
/-- what the rule has made stays so under the wide word: no entry that was resolved turns (the library has this for the narrow word) -/
theorem own_isMade {Z : State} {vm' : Vm} (hW : Z.Warmed39 vm') {d k0 : ClassId} {sh : Lambda.Shape} (h : Lambda.isMade { classPath := fun _ => none } Z.vm d sh k0 = true) : Lambda.isMade { classPath := fun _ => none } vm' d sh k0 = true := by
  have hA := hW.alike
  simp only [Lambda.isMade, Option.bind_eq_bind, Option.pure_def, Option.getD_eq_iff, Option.bind_eq_some_iff, Bool.false_eq_true, and_false, or_false] at h ⊢
  obtain ⟨dk, h2, k, h3, file, h4, cf, h5, object, ho, iface, hi, ok, h6, lay, h7, methods, h8, t, ht, tk, htk, h⟩ := h
  obtain ⟨dk', h2', e2⟩ := hA.2.2 _ _ h2
  obtain ⟨k', h3', e3, -, hres, -⟩ := hW.2.2.2 _ _ h3
  obtain ⟨ok', h6', e6⟩ := hA.2.2 _ _ h6
  obtain ⟨tk', htk', e7⟩ := hA.2.2 _ _ htk
  have n7 : tk'.isInterface = tk.isInterface := by rw [e7]; rfl
  have n2 : dk'.name = dk.name := by rw [e2]
  have n6 : ok'.instanceTypes = ok.instanceTypes := by rw [e6]
  refine ⟨dk', h2', k', h3', file, by rw [e3]; exact h4, cf, by rw [n2]; exact h5, object, by rw [hA.findClass]; exact ho, iface, by rw [hA.findClass]; exact hi, ok', h6', lay, by rw [n6]; exact h7, methods, h8, t, by rw [hA.findClass]; exact ht, tk', htk', ?_⟩
  rw [n7, Lambda.methodIn_ask_alike hA, Lambda.methodIn_ask_alike hA]
  have hk : ∀ (i : Nat) (r : Resolved), k.resolved[i]? = some (some r) → k'.resolved[i]? = some (some r) := fun i r q => by
    rcases hres i with h1 | ⟨h1, -⟩
    · rw [h1]; exact q
    · rw [q] at h1; cases h1
  revert h
  cases ((methodIn t sh.implName sh.implDesc.toString tk.isInterface none).ask { classPath := fun _ => none } Z.vm).1 with
  | error x => intro h; simp at h
  | ok target =>
    cases ((methodIn iface sh.name sh.sam.toString true none).ask { classPath := fun _ => none } Z.vm).1 with
    | error x => intro h; simp at h
    | ok found =>
      intro h
      simp only [Option.some.injEq, Bool.and_eq_true] at h ⊢
      rw [Lambda.resolvedOf_alike hA, hA.selectMethod, n2, n6]
      obtain ⟨⟨hf, b13⟩, b14⟩ := h
      refine ⟨⟨by rw [e3]; exact hf, ?_⟩, b14⟩
      rw [List.all_eq_true] at b13 ⊢
      intro y hy
      have q := b13 y hy
      obtain ⟨x, i⟩ := y
      cases x with
      | none => rfl
      | some r =>
        simp only [Option.isNone_some, Bool.false_or, decide_eq_true_eq] at q ⊢
        exact hk i r q
theorem own_made {Z s : State} {host : String} {sh : Lambda.Shape} {cK : ClassId} (hZ : Z.Warmed39 s.vm) (h : LamKit.Made Z host sh cK) : LamKit.Made s host sh cK := by
  obtain ⟨d, dk, h1, h2, h3, h4⟩ := h
  obtain ⟨dk', h1', e⟩ := hZ.alike.2.2 _ _ h1
  refine ⟨d, dk', h1', by rw [e]; exact h2, own_isMade hZ h3, ?_⟩
  have hA := hZ.alike
  simp only [State.lambdaCallable, hA.findClass, hA.assignable, hA.superclasses, hA.declaredIn] at h4 ⊢
  exact h4
theorem own_dyn {p : Program} {l : Launch} {e : Env} {R : Room} {s : State} {m : MethodId} {args : Array Value} {below : List Frame} {meth : Method} {c : Code} {T : State} {locs : List Loc} {cells slots : Nat} (X : Stand p l e R s m args below meth c T locs cells slots) (hexec : p.tables.exec = Jvm.exec)
    {Z : State} {a0 : Array Value} (hZ : Z.Warmed39 s.vm) {x : MethodName} {pc index : Nat} {sh : Lambda.Shape} (hnamed : s.methodNamed? x = some m) (hsite : (Cond.lambdaSite x pc index sh).before a0 Z = true) (hcap : sh.captured = []) {g : JFrame} (hg : g.method = m) (hpc : g.pc = pc) (hsize : g.locals.size = c.maxLocals)
    (hdg : decode c.code g.pc = .ok (.invokedynamic index, 5)) (hwords : 2 * g.monitorRoom + (g.stack.map fun v => v.category).sum + 3072 ≤ R.locals) :
    ∃ (a : Addr) (cK : ClassId), LamKit.Made Z x.cls sh cK ∧ LamKit.FnAt Z.heap a cK ∧ ∀ target, Steps p.tables e below (T.setTop { g with pc := g.pc + 5, stack := .ref a :: g.stack }) target → Steps p.tables e below (T.setTop g) target := by
  obtain ⟨cK, one, hat⟩ := Cond.lambdaSite_spec hsite
  obtain ⟨mD, kD, cfD, i0, p0, lk, hmD, hkD, -, -, -, hfind, hmade, hcan, hl⟩ := State.lambdaAt?_spec hat
  have hm' : s.methodNamed? x = some mD := by
    have q := State.methodNamed?_setVm (s := Z) hZ.alike x
    rw [hmD] at q
    exact q
  cases hnamed.symm.trans hm'
  obtain ⟨kD', hkD', hnameD⟩ := className_of_methodNamed hmD
  cases hkD.symm.trans hkD'
  obtain ⟨kS, hkS, heS⟩ := hZ.alike.2.2 _ _ hkD
  rcases hl with ⟨a, cell, rfl, -, -, hcell, hcls, hvm, -⟩ | ⟨-, -, hne⟩
  · have hw : e.platform.lambdaLinkWords = 3072 := by rw [X.admits.platform]
    refine ⟨a, cK, ⟨_, kD, hkD, hnameD, hmade, hcan⟩, ⟨cell, hcell, hcls, hvm⟩, fun target h => ?_⟩
    exact X.lambdaConstant hexec hg hsize hdg hkS (by rw [heS, hpc]; exact hfind) (by rw [hw]; exact hwords) h
  · exact absurd hcap hne
theorem own_fnat {Z : State} {n0 : Nat} {h : Heap} {a : Addr} {cK : ClassId} (O : Old Z n0 h) (F : LamKit.FnAt Z.heap a cK) : LamKit.FnAt h a cK := by
  obtain ⟨cell, h1, h2, h3⟩ := F
  exact ⟨cell, O.2.2 _ _ h1, h2, h3⟩
/-- the forwarder's checkcast: a String is one -/
theorem own_cast {p : Program} {e : Env} {Z s U target : State} {cK : ClassId} {ck : Code} {bl : List Frame} (hexec : p.tables.exec = Jvm.exec) (hU : At U ⟨cK, 1⟩ ck bl) (hZ : Z.Warmed39 s.vm) (hW : s.WarmedH U.vm) (hmd : LamKit.Made s "com/example/indelible_crawl/indeliblecrawl/fetch/Validators" own_sg cK)
    {q : Addr} {h : Heap} (E : Exa Z h q "java/lang/String") (eh : U.heap = h) {g : JFrame} (hg : g.method = ⟨cK, 1⟩) {rest : List Value} (hstack : g.stack = .ref q :: rest)
    (hdg : decode ck.code g.pc = .ok (.checkcast 14, 3)) (k : Steps p.tables e bl (U.setTop { g with pc := g.pc + 3 }) target) : Steps p.tables e bl (U.setTop g) target := by
  obtain ⟨d, dk, hd, hdn, hmade, -⟩ := hmd
  obtain ⟨dk1, kk, ok, tk, file, cf, object, iface, toy, lay, methods, tg, found, hd1, hkk, hfile, hcf, -, -, -, -, -, -, -, -, -, -, -, -, -, -, -, -, -, -, hres, -⟩ := Lambda.isMade_spec (Lambda.isMade_warmer hW hmade)
  obtain ⟨dk', hd', he⟩ := hW.alike.2.2 _ _ hd
  obtain rfl : dk' = dk1 := Option.some.inj (hd'.symm.trans hd1)
  have hn : dk'.name = "com/example/indelible_crawl/indeliblecrawl/fetch/Validators" := by rw [he]; exact hdn
  rw [hn] at hcf
  have ho := own_cko
  rw [hcf] at ho
  replace ho : own_ck cf = true := ho
  unfold own_ck at ho
  obtain ⟨cell, k1, g1, g2, g3, g4, -⟩ := E
  have hZU : Z.Warmed39 U.vm := wtrans hZ hW
  have f2 : U.vm.findClass "java/lang/String" = some cell.cls := by rw [hZU.alike.findClass]; exact g2
  obtain ⟨k2, f3, -⟩ := hZU.alike.2.2 _ _ g3
  have hready : U.vm.classReady cK 14 cell.cls := by
    split at ho
    · rename_i n hci
      rw [Bool.and_eq_true, decide_eq_true_eq, decide_eq_true_eq] at ho
      exact ⟨kk, hkk, hres 14 _ (Lambda.resolvedOf_class hci ho.2 ho.1 f2)⟩
    · cases ho
  have hcell : U.heap[q]? = some cell := by rw [eh]; exact g1
  have hst : ∀ z, cell.vm ≠ .statics z := fun z q => by rw [q] at g4; cases g4
  have hcc : ∀ {Q : Unit → Pre} {E : CtlPost} {dd : Bool} {acts : List Action}, wp (checkcast.sem 14) Q E e dd acts (U.setTop g) ↔ Q () dd acts (U.setTop g) := by
    intro Q E dd acts
    rw [checkcast.wp_ready (c := cell.cls) (x := .ref q) (rest := rest) hU.top (by rw [hg]; exact hready) hstack]
    simp [hcell, hst, f3, Vm.assignable_self]
  have hU' : At U g.method ck bl := by rw [hg]; exact hU
  jvm_step hU' [hexec, hdg, hcc]
  exact k
theorem own_wS {Z : State} {a0 : Array Value} (hw : ∀ d ∈ tables_1, d.before a0 Z = true) : ∀ a ∈ Bundle.stringAtoms, a.before a0 Z = true := by
  intro a ha
  simp only [Bundle.stringAtoms, List.mem_cons, List.not_mem_nil, or_false] at ha
  rcases ha with rfl | rfl | rfl | rfl | rfl | rfl | rfl
  · exact hw _ (List.mem_of_getElem? (i := 6) rfl)
  · exact hw _ (List.mem_of_getElem? (i := 5) rfl)
  · exact hw _ (List.mem_of_getElem? (i := 19) rfl)
  · exact hw _ (List.mem_of_getElem? (i := 20) rfl)
  · exact hw _ (List.mem_of_getElem? (i := 21) rfl)
  · exact hw _ (List.mem_of_getElem? (i := 22) rfl)
  · exact hw _ (List.mem_of_getElem? (i := 23) rfl)
def own_EL : List (String × Nat) := [("java/lang/String", 7)]
theorem own_EW {Z : State} {a0 : Array Value} (hw : ∀ d ∈ tables_1, d.before a0 Z = true) : EW Z a0 own_EL := EW.cons ((hw _ (List.mem_of_getElem? (i := 18) rfl))) (by decide) (EW.nil)
theorem own_mem_7 : ("java/lang/String", 7) ∈ own_EL := List.mem_of_getElem? (i := 0) rfl
theorem own_backH {p : Program} {l : Launch} {e : Env} {R : Room} {s : State} {args : Array Value} {below : List Frame} {Z : State} {a0 : Array Value} {EL : List (String × Nat)} {h : Heap} {vm0 : Vm} {y : MethodName} {bytes : ByteArray} {maxL : Nat} {ret : Option FieldType} {rm : Room} {len W : Nat} {as' : Array Value} {Q : Option Value → Heap → List Loc → Prop} {sf : List Addr}
    (hM : MetFree l y (head1 [Cond.code y bytes maxL ret] rm) (fun a U => a = as' ∧ Z.Warmed39 U.vm ∧ U.heap = h ∧ CHv Z EL U.vm h ∧ ∀ x ∈ sf, Safe Z EL U.vm h x) (fun _ _ _ _ _ => True) (fun _ U o U' => ∃ v L, o = .returned v ∧ Q v U'.heap L ∧ CHr Z EL U.vm U.heap U'.vm U'.heap ∧ ReturnedEndW U o U' L rm.cells rm.slots))
    (hZ : Z.Warmed39 vm0) (wc : (Cond.code y bytes maxL ret).before a0 Z = true) (wz : (Cond.initialized y.cls).before a0 Z = true) (hf : rm.frames + 1 ≤ R.frames) (hl : W + (maxL + 11) + rm.locals ≤ R.locals) (hEL : EW Z a0 EL) (H : CHv Z EL vm0 h) (hs : ∀ x ∈ sf, x < h.size ∧ Safe Z EL vm0 h x) :
    BackS l R p e below (s.setVm vm0) args y len W (fun A a => a = as' ∧ A.U.heap = h ∧ A.cells + rm.cells ≤ R.cells ∧ A.slots + rm.slots ≤ R.slots) (fun A _ v B => ∃ L, Q v B.U.heap L ∧ B.locs = A.locs ++ L ∧ B.cells = A.cells + rm.cells ∧ B.slots = A.slots + rm.slots ∧ CHr Z EL vm0 h B.U.vm B.U.heap) :=
  BackS.of_freeW (bytes := bytes) (maxL := maxL) (ret := ret) (E := fun _ first o t L k n => k = rm.cells ∧ n = rm.slots ∧ (∃ v, o = .returned v ∧ Q v t.heap L) ∧ CHr Z EL first.vm first.heap t.vm t.heap) hM hf hl
    (fun m meth c A a Y hp => have hU : Z.Warmed39 A.U.vm := wtrans (s := s.setVm vm0) hZ Y.warmed
      ⟨by show (Cond.and _ .tt).before a A.U = true; rw [Cond.before_and, mv hU wc]; rfl, mv hU wc, mv hU wz, hp.2.2.1, hp.2.2.2⟩)
    (fun m meth c A a g mk Y hp => ⟨hp.1, wtrans (s := s.setVm vm0) hZ Y.warmed, hp.2.1, (CHv.at Y hZ hEL H).1, fun x hx => (CHv.at Y hZ hEL H).safe (hs x hx).1 (hs x hx).2⟩) (fun _ _ _ _ _ _ _ _ _ => trivial)
    (fun _ _ _ _ ⟨v, L, h1, h2, h3, h4⟩ => ⟨L, _, _, h4, rfl, rfl, ⟨v, h1, h2⟩, h3⟩)
    (fun m meth c A a g mk v t L k n Y hp _ _ ⟨e1, e2, ⟨v', e3, e4⟩, e5⟩ => by
      cases e3; subst e1 e2
      refine ⟨L, e4, rfl, rfl, rfl, (CHv.at Y hZ hEL H).trans ?_⟩
      rw [← hp.2.1]; exact e5)
def own_CP (Z : State) (r2 : Addr) (cb : ClassId) (n : Int32) (vs : List Value) (h0 : Heap) (n0 : Nat) (v : Option Value) (h : Heap) (L : List Loc) : Prop := v = some (.int n) ∧ Fr n0 L ∧ Keep h0 h [r2] ∧ Arv Z h r2 cb .byte n vs (.int (0 : Int32))
def own_CQ (Z : State) (n : Int32) (vs : List Value) (h0 : Heap) (n0 : Nat) (v : Option Value) (h : Heap) (L : List Loc) : Prop := ∃ b : Addr, v = some (.ref b) ∧ Fr n0 L ∧ Keep h0 h [] ∧ h0.size ≤ b ∧ n0 ≤ b ∧ ∃ k, Arv Z h b k .byte n vs (.int (0 : Int32))
def own_SI (Z : State) (r0 : Addr) (n : Int32) (vs : List Value) (h0 : Heap) (n0 : Nat) (v : Option Value) (h : Heap) (L : List Loc) : Prop := v = none ∧ Fr n0 L ∧ Keep h0 h [r0] ∧ Exa Z h r0 "java/lang/String" ∧ ∃ b k cd, Fld Z h r0 "java/lang/String" "value" "[B" (.ref b) ∧ Fld Z h r0 "java/lang/String" "coder" "B" (.int cd) ∧ cd = (0 : Int32) ∧ Arv Z h b k .byte n vs (.int (0 : Int32))
theorem pn_0 : plainName "java/lang/String" = true := by first | (simp [plainName, overriddenIn]; done) | decide +kernel
theorem ef_rmS2_0 (m : MethodId) (x0 : Addr) (x1 : Addr) (x2 : Int32) (x3 : Int32) : entryFrame m #[(.ref x0), (.ref x1), (.int x2), (.int x3), .null] 6 = mkF m 0 #[.val (.ref x0), .val (.ref x1), .val (.int x2), .val (.int x3), .val .null, .unset] [] := by first | (simp [entryFrame, mkF, argsToLocals, Value.category]; done) | rfl
theorem d3_0 : decode jdk_42_method_149_code 0 = .ok (.aload_n 0, 1) := by decide +kernel
theorem d3_1 : decode jdk_42_method_149_code 1 = .ok (.invokespecial 1, 3) := by decide +kernel
theorem d3_4 : decode jdk_42_method_149_code 4 = .ok (.iload_n 3, 1) := by decide +kernel
theorem d3_5 : decode jdk_42_method_149_code 5 = .ok (.ifCond .ne 22, 3) := by decide +kernel
theorem d3_8 : decode jdk_42_method_149_code 8 = .ok (.aload_n 0, 1) := by decide +kernel
theorem d3_9 : decode jdk_42_method_149_code 9 = .ok (.ldc 7, 2) := by decide +kernel
theorem d3_11 : decode jdk_42_method_149_code 11 = .ok (.getfield 9, 3) := by decide +kernel
theorem d3_14 : decode jdk_42_method_149_code 14 = .ok (.putfield 9, 3) := by decide +kernel
theorem d3_17 : decode jdk_42_method_149_code 17 = .ok (.aload_n 0, 1) := by decide +kernel
theorem d3_18 : decode jdk_42_method_149_code 18 = .ok (.ldc 7, 2) := by decide +kernel
theorem d3_20 : decode jdk_42_method_149_code 20 = .ok (.getfield 15, 3) := by decide +kernel
theorem d3_23 : decode jdk_42_method_149_code 23 = .ok (.putfield 15, 3) := by decide +kernel
theorem d3_26 : decode jdk_42_method_149_code 26 = .ok (.return_, 1) := by decide +kernel
set_option maxRecDepth 65536 in
set_option maxHeartbeats 40000000 in
theorem rmS2_0 (l : Launch) (Z : State) (a0 : Array Value) (hw : ∀ d ∈ tables_1, d.before a0 Z = true) (ws : List Jvm.Cond) (r0 : Addr) (r1 : Addr) (ck : ClassId)  (w_CS : Int32) (w_E : Addr) (w_F : Value) (h0 : Heap) (n0 : Nat) (hG : own_GC Z w_CS w_E w_F) (O0 : Old Z n0 h0) (Z0 : n0 ≤ h0.size) (g_r0 : n0 ≤ r0) (E_r0 : Exa Z h0 r0 "java/lang/String") (F_value_r0 : Fld Z h0 r0 "java/lang/String" "value" "[B" .null) (F_coder_r0 : Fld Z h0 r0 "java/lang/String" "coder" "B" (.int (0 : Int32))) (hne : r1 ≠ r0) (Vs : Arv Z h0 r1 ck .char (0 : Int32) [] (.int (0 : Int32))) :
    MetFree l (⟨"java/lang/String", "<init>", "([CIILjava/lang/Void;)V"⟩ : MethodName) (head1 (Jvm.Cond.code (⟨"java/lang/String", "<init>", "([CIILjava/lang/Void;)V"⟩ : MethodName) jdk_42_method_149_code 6 none :: ws) ({ frames := 2, cells := 4, slots := 8, locals := 35 } : Room)) (fun a U => a = #[(.ref r0), (.ref r1), (.int (0 : Int32)), (.int (0 : Int32)), .null] ∧ Z.Warmed39 U.vm ∧ U.heap = h0 ∧ CHv Z own_EL U.vm h0 ∧ ∀ x ∈ ([r0] : List Addr), Safe Z own_EL U.vm h0 x) (fun _ _ _ _ _ => True) (fun _ U o U' => ∃ v L, o = .returned v ∧ own_SI Z r0 (0 : Int32) [] h0 n0 v U'.heap L ∧ CHr Z own_EL U.vm U.heap U'.vm U'.heap ∧ ReturnedEndW U o U' L ({ frames := 2, cells := 4, slots := 8, locals := 35 } : Room).cells ({ frames := 2, cells := 4, slots := 8, locals := 35 } : Room).slots) := by
  refine MetFree.of_bodySF (plainFor_of_name pn_0) hisR ?_
  intro p e s m args below meth c s₁ Bd hml0 hP hK
  obtain ⟨rfl, hZ, hh, hH, hSf⟩ := hP
  have hx := Bd.exec
  have hby := Bd.bytes
  have hml : c.maxLocals = 6 := hml0
  have hown : s.vm.findClass "java/lang/String" = some m.cls := findClass_of_methodNamed Bd.named
  have hnm := (name_of_methodNamed Bd.named Bd.method).1
  have X0 : Stand p l e ({ frames := 2, cells := 4, slots := 8, locals := 35 } : Room) (s.setVm s.vm) m #[(.ref r0), (.ref r1), (.int (0 : Int32)), (.int (0 : Int32)), .null] below meth c s₁ [] 0 0 := Stand.of_body Bd
  have e0 : s₁.heap = h0 := by rw [← hh, Bd.state]; rfl
  have N0 := Fr.nil n0
  have pre0 : ∀ t, Steps p.tables e below (s₁.setTop (mkF m 0 #[.val (.ref r0), .val (.ref r1), .val (.int (0 : Int32)), .val (.int (0 : Int32)), .val .null, .unset] [])) t → Steps p.tables e below (s₁.setTop (entryFrame m #[(.ref r0), (.ref r1), (.int (0 : Int32)), (.int (0 : Int32)), .null] 6)) t := fun t k => castTop (ef_rmS2_0 m r0 r1 (0 : Int32) (0 : Int32)) k
  have hS : s.Since s.vm 0 := (State.WarmedH.refl s).since 0
  have hk : 0 ≤ h0.size := Nat.zero_le _
  replace hZ : Z.Warmed39 (s.setVm s.vm).vm := hZ
  replace hown : (s.setVm s.vm).vm.findClass "java/lang/String" = some m.cls := hown
  have HC : CHr Z own_EL s.vm h0 s.vm h0 := CHr.refl hH
  have Sf_r0 : Safe Z own_EL s.vm h0 r0 := hSf _ (List.mem_of_getElem? (i := 0) rfl)
  have hG' := hG
  obtain ⟨S_CS, hCS, S_E, E_E, F_E, S_F, hF⟩ := hG'
  have K0 : Keep h0 h0 [r0] := Keep.refl _ _
  obtain ⟨T1, X1, e1, st1⟩ := initO X0 hx hZ hown (hw _ (List.mem_of_getElem? (i := 15) rfl)) (hw _ (List.mem_of_getElem? (i := 16) rfl)) (hw _ (List.mem_of_getElem? (i := 17) rfl)) e0 (g := (mkF m 1 #[.val (.ref r0), .val (.ref r1), .val (.int (0 : Int32)), .val (.int (0 : Int32)), .val .null, .unset] [(.ref r0)])) rfl (by rw [hml]; rfl) rfl (hb hby d3_1) (by decide) (W := 0) (by show 2 * 0 + _ ≤ _; exact Nat.le_of_eq rfl) (by decide)
  have k2 : ∀ t, Steps p.tables e below (T1.setTop (mkF m 9 #[.val (.ref r0), .val (.ref r1), .val (.int (0 : Int32)), .val (.int (0 : Int32)), .val .null, .unset] [(.ref r0)])) t → Steps p.tables e below (s₁.setTop (entryFrame m #[(.ref r0), (.ref r1), (.int (0 : Int32)), (.int (0 : Int32)), .null] 6)) t := by
    intro t k
    refine pre0 _ ?_
    show Steps p.tables e below (s₁.setTop (mkF m 0 #[.val (.ref r0), .val (.ref r1), .val (.int (0 : Int32)), .val (.int (0 : Int32)), .val .null, .unset] [])) _
    refine XS.aloadN X0.here hx rfl (hb hby d3_0) rfl rfl ?_
    show Steps p.tables e below (s₁.setTop (mkF m 1 #[.val (.ref r0), .val (.ref r1), .val (.int (0 : Int32)), .val (.int (0 : Int32)), .val .null, .unset] [(.ref r0)])) _
    refine st1 _ ?_
    show Steps p.tables e below (T1.setTop (mkF m 4 #[.val (.ref r0), .val (.ref r1), .val (.int (0 : Int32)), .val (.int (0 : Int32)), .val .null, .unset] [])) _
    refine XS.iloadN X1.here hx rfl (hb hby d3_4) rfl ?_
    show Steps p.tables e below (T1.setTop (mkF m 5 #[.val (.ref r0), .val (.ref r1), .val (.int (0 : Int32)), .val (.int (0 : Int32)), .val .null, .unset] [(.int (0 : Int32))])) _
    refine XS.ifNo X1.here hx rfl (hb hby d3_5) rfl ((if0 _ _).trans (teq (by decide)).2) ?_
    show Steps p.tables e below (T1.setTop (mkF m 8 #[.val (.ref r0), .val (.ref r1), .val (.int (0 : Int32)), .val (.int (0 : Int32)), .val .null, .unset] [])) _
    refine XS.aloadN X1.here hx rfl (hb hby d3_8) rfl rfl ?_
    exact k
  obtain ⟨a3, T3, h3, kk3, d3, kc3, X3, e3, E3, hS, hk', hZ', hown, Ea3, Fc3, Fv3, Vd3, -, -, hC3, -, hs3, st3⟩ := ldcCH X1 hx hZ hown (hw _ (List.mem_of_getElem? (i := 18) rfl)) (own_wS hw) e1 hS hk (own_EW hw) (own_mem_7 : ("java/lang/String", 7) ∈ own_EL) HC.1 (vs := []) (z := (0 : Int32)) (by decide) (by decide) (by decide) (g := (mkF m 9 #[.val (.ref r0), .val (.ref r1), .val (.int (0 : Int32)), .val (.int (0 : Int32)), .val .null, .unset] [(.ref r0)])) rfl (hb hby d3_9) (n := 0) (by decide) (by decide) (by decide) (by decide)
  replace Sf_r0 := hC3.safe E_r0.lt Sf_r0
  replace HC := HC.trans hC3
  replace hZ := hZ'
  replace Vs := Vs.ext E3
  replace E_r0 := E_r0.ext E3
  replace F_value_r0 := F_value_r0.ext E3
  replace F_coder_r0 := F_coder_r0.ext E3
  replace O0 := O0.ext E3
  replace K0 := K0.ext E3
  replace hk := hk'
  have ne_a3_r0 := (hs3 _ Sf_r0).1
  have ne_d3_r0 := (hs3 _ Sf_r0).2
  obtain ⟨T4, X4, e4, st4⟩ := getF X3 hx hZ hown (host := "") (Or.inl (hw _ (List.mem_of_getElem? (i := 24) rfl))) Via.refl e3 Fv3 (g := (mkF m 11 #[.val (.ref r0), .val (.ref r1), .val (.int (0 : Int32)), .val (.int (0 : Int32)), .val .null, .unset] [(.ref a3), (.ref r0)])) rfl rfl (hb hby d3_11)
  obtain ⟨T5, h5, X5, e5, W5, st5⟩ := putF X4 hx hZ hown (host := "") (Or.inl (hw _ (List.mem_of_getElem? (i := 24) rfl))) Via.refl e4 F_value_r0 E_r0 (Or.inr ⟨(hw _ (List.mem_of_getElem? (i := 20) rfl)), rfl, hnm⟩) (hw _ (List.mem_of_getElem? (i := 5) rfl)) (ty := (.array .byte)) (by decide) rfl rfl (g := (mkF m 14 #[.val (.ref r0), .val (.ref r1), .val (.int (0 : Int32)), .val (.int (0 : Int32)), .val .null, .unset] [(.ref d3), (.ref r0)])) rfl rfl (hb hby d3_14)
  have So : Safe Z own_EL T3.vm h3 r0 := Sf_r0
  replace Vs := Vs.other W5 hne
  replace E_r0 := E_r0.wr W5
  replace F_coder_r0 := F_coder_r0.other W5 (Or.inr (slot_ne (Or.inr (hw _ (List.mem_of_getElem? (i := 21) rfl))) (Or.inr (hw _ (List.mem_of_getElem? (i := 20) rfl))) (by decide) (t := .byte) (t' := (.array .byte)) (by decide) (by decide)))
  replace Ea3 := Ea3.wr W5
  replace Fc3 := Fc3.other W5 (Or.inl (Ne.symm ne_a3_r0))
  replace Fv3 := Fv3.other W5 (Or.inl (Ne.symm ne_a3_r0))
  replace Vd3 := Vd3.other W5 (Ne.symm ne_d3_r0)
  replace Sf_r0 := Safe.wr W5 So HC.1 Sf_r0
  replace HC := HC.trans (CHr.wr W5 So HC.1)
  replace O0 := O0.wr W5 g_r0
  replace K0 := K0.wr W5 (Or.inl (List.mem_of_getElem? (i := 0) rfl))
  replace hk := Nat.le_trans hk (Nat.le_of_eq W5.size.symm)
  replace F_value_r0 := F_value_r0.same W5
  have N5 := Fr.snoc X5 N0 g_r0
  have k6 : ∀ t, Steps p.tables e below (T5.setTop (mkF m 18 #[.val (.ref r0), .val (.ref r1), .val (.int (0 : Int32)), .val (.int (0 : Int32)), .val .null, .unset] [(.ref r0)])) t → Steps p.tables e below (s₁.setTop (entryFrame m #[(.ref r0), (.ref r1), (.int (0 : Int32)), (.int (0 : Int32)), .null] 6)) t := by
    intro t k
    refine k2 _ ?_
    show Steps p.tables e below (T1.setTop (mkF m 9 #[.val (.ref r0), .val (.ref r1), .val (.int (0 : Int32)), .val (.int (0 : Int32)), .val .null, .unset] [(.ref r0)])) _
    refine st3 _ ?_
    show Steps p.tables e below (T3.setTop (mkF m 11 #[.val (.ref r0), .val (.ref r1), .val (.int (0 : Int32)), .val (.int (0 : Int32)), .val .null, .unset] [(.ref a3), (.ref r0)])) _
    refine st4 _ ?_
    show Steps p.tables e below (T4.setTop (mkF m 14 #[.val (.ref r0), .val (.ref r1), .val (.int (0 : Int32)), .val (.int (0 : Int32)), .val .null, .unset] [(.ref d3), (.ref r0)])) _
    refine st5 _ ?_
    show Steps p.tables e below (T5.setTop (mkF m 17 #[.val (.ref r0), .val (.ref r1), .val (.int (0 : Int32)), .val (.int (0 : Int32)), .val .null, .unset] [])) _
    refine XS.aloadN X5.here hx rfl (hb hby d3_17) rfl rfl ?_
    exact k
  obtain ⟨a7, T7, h7, kk7, d7, kc7, X7, e7, E7, hS, hk', hZ', hown, Ea7, Fc7, Fv7, Vd7, -, -, hC7, -, hs7, st7⟩ := ldcCH X5 hx hZ hown (hw _ (List.mem_of_getElem? (i := 18) rfl)) (own_wS hw) e5 hS hk (own_EW hw) (own_mem_7 : ("java/lang/String", 7) ∈ own_EL) HC.1 (vs := []) (z := (0 : Int32)) (by decide) (by decide) (by decide) (g := (mkF m 18 #[.val (.ref r0), .val (.ref r1), .val (.int (0 : Int32)), .val (.int (0 : Int32)), .val .null, .unset] [(.ref r0)])) rfl (hb hby d3_18) (n := 0) (by decide) (by decide) (by decide) (by decide)
  replace Sf_r0 := hC7.safe E_r0.lt Sf_r0
  replace HC := HC.trans hC7
  replace hZ := hZ'
  replace Vs := Vs.ext E7
  replace E_r0 := E_r0.ext E7
  replace F_value_r0 := F_value_r0.ext E7
  replace F_coder_r0 := F_coder_r0.ext E7
  replace Ea3 := Ea3.ext E7
  replace Fc3 := Fc3.ext E7
  replace Fv3 := Fv3.ext E7
  replace Vd3 := Vd3.ext E7
  replace O0 := O0.ext E7
  replace K0 := K0.ext E7
  replace hk := hk'
  have ne_a7_r0 := (hs7 _ Sf_r0).1
  have ne_d7_r0 := (hs7 _ Sf_r0).2
  obtain ⟨T8, X8, e8, st8⟩ := getF X7 hx hZ hown (host := "") (Or.inl (hw _ (List.mem_of_getElem? (i := 25) rfl))) Via.refl e7 Fc7 (g := (mkF m 20 #[.val (.ref r0), .val (.ref r1), .val (.int (0 : Int32)), .val (.int (0 : Int32)), .val .null, .unset] [(.ref a7), (.ref r0)])) rfl rfl (hb hby d3_20)
  obtain ⟨T9, h9, X9, e9, W9, st9⟩ := putFN X8 hx hZ hown (hw _ (List.mem_of_getElem? (i := 25) rfl)) Via.refl e8 F_coder_r0 E_r0 (Or.inr ⟨(hw _ (List.mem_of_getElem? (i := 21) rfl)), rfl, hnm⟩) (hw _ (List.mem_of_getElem? (i := 5) rfl)) (ty := .byte) (v' := (.int ((0 : Int32).toInt8.toInt32))) (by decide) rfl (fits_nar_byte _) (g := (mkF m 23 #[.val (.ref r0), .val (.ref r1), .val (.int (0 : Int32)), .val (.int (0 : Int32)), .val .null, .unset] [(.int (0 : Int32)), (.ref r0)])) rfl rfl (hb hby d3_23)
  have So : Safe Z own_EL T7.vm h7 r0 := Sf_r0
  replace Vs := Vs.other W9 hne
  replace E_r0 := E_r0.wr W9
  replace F_value_r0 := F_value_r0.other W9 (Or.inr (slot_ne (Or.inr (hw _ (List.mem_of_getElem? (i := 20) rfl))) (Or.inr (hw _ (List.mem_of_getElem? (i := 21) rfl))) (by decide) (t := (.array .byte)) (t' := .byte) (by decide) (by decide)))
  replace Ea3 := Ea3.wr W9
  replace Fc3 := Fc3.other W9 (Or.inl (Ne.symm ne_a3_r0))
  replace Fv3 := Fv3.other W9 (Or.inl (Ne.symm ne_a3_r0))
  replace Vd3 := Vd3.other W9 (Ne.symm ne_d3_r0)
  replace Ea7 := Ea7.wr W9
  replace Fc7 := Fc7.other W9 (Or.inl (Ne.symm ne_a7_r0))
  replace Fv7 := Fv7.other W9 (Or.inl (Ne.symm ne_a7_r0))
  replace Vd7 := Vd7.other W9 (Ne.symm ne_d7_r0)
  replace Sf_r0 := Safe.wr W9 So HC.1 Sf_r0
  replace HC := HC.trans (CHr.wr W9 So HC.1)
  replace O0 := O0.wr W9 g_r0
  replace K0 := K0.wr W9 (Or.inl (List.mem_of_getElem? (i := 0) rfl))
  replace hk := Nat.le_trans hk (Nat.le_of_eq W9.size.symm)
  replace F_coder_r0 := F_coder_r0.same W9
  have N9 := Fr.snoc X9 N5 g_r0
  have k10 : ∀ t, Steps p.tables e below (T9.setTop (mkF m 26 #[.val (.ref r0), .val (.ref r1), .val (.int (0 : Int32)), .val (.int (0 : Int32)), .val .null, .unset] [])) t → Steps p.tables e below (s₁.setTop (entryFrame m #[(.ref r0), (.ref r1), (.int (0 : Int32)), (.int (0 : Int32)), .null] 6)) t := by
    intro t k
    refine k6 _ ?_
    show Steps p.tables e below (T5.setTop (mkF m 18 #[.val (.ref r0), .val (.ref r1), .val (.int (0 : Int32)), .val (.int (0 : Int32)), .val .null, .unset] [(.ref r0)])) _
    refine st7 _ ?_
    show Steps p.tables e below (T7.setTop (mkF m 20 #[.val (.ref r0), .val (.ref r1), .val (.int (0 : Int32)), .val (.int (0 : Int32)), .val .null, .unset] [(.ref a7), (.ref r0)])) _
    refine st8 _ ?_
    show Steps p.tables e below (T8.setTop (mkF m 23 #[.val (.ref r0), .val (.ref r1), .val (.int (0 : Int32)), .val (.int (0 : Int32)), .val .null, .unset] [(.int (0 : Int32)), (.ref r0)])) _
    refine st9 _ ?_
    exact k
  obtain ⟨fs, hr, hrun, hended, hEW⟩ := X9.leaveW hS (by rw [e9]; exact hk) (v := none) (fun _ => rfl)
  have HCf : CHr Z own_EL s.vm s.heap T9.vm T9.heap := by
    rw [hh, e9]
    exact HC.trans (CHv.at X9 hZ (own_EW hw) HC.1)
  refine ⟨_, _, k10 _ ?_, hrun, hended, _, _, rfl, ?_, HCf, hEW.1, hEW.2.1, hEW.2.2.1, hEW.2.2.2.mono (by decide) (by decide)⟩
  · exact X9.returnOut hx Bd.returns (hb hby d3_26) hr
  · show own_SI Z r0 (0 : Int32) [] h0 n0 _ T9.heap _
    rw [e9]
    exact ⟨rfl, N9, K0, E_r0, _, _, _, F_value_r0, F_coder_r0, (by decide), Vd3⟩
theorem ef_rmS1_0 (m : MethodId) (x0 : Addr) (x1 : Addr) : entryFrame m #[(.ref x0), (.ref x1)] 2 = mkF m 0 #[.val (.ref x0), .val (.ref x1)] [] := by first | (simp [entryFrame, mkF, argsToLocals, Value.category]; done) | rfl
theorem d2_0 : decode jdk_42_method_3_code 0 = .ok (.aload_n 0, 1) := by decide +kernel
theorem d2_1 : decode jdk_42_method_3_code 1 = .ok (.aload_n 1, 1) := by decide +kernel
theorem d2_2 : decode jdk_42_method_3_code 2 = .ok (.iconst 0, 1) := by decide +kernel
theorem d2_3 : decode jdk_42_method_3_code 3 = .ok (.aload_n 1, 1) := by decide +kernel
theorem d2_4 : decode jdk_42_method_3_code 4 = .ok (.arraylength, 1) := by decide +kernel
theorem d2_5 : decode jdk_42_method_3_code 5 = .ok (.aconst_null, 1) := by decide +kernel
theorem pd_0 : parseMethodDescriptor "([CIILjava/lang/Void;)V" = some ⟨[(.array .char), .int, .int, (.object "java/lang/Void")], none⟩ := by decide +kernel
theorem d2_6 : decode jdk_42_method_3_code 6 = .ok (.invokespecial 27, 3) := by decide +kernel
theorem d2_9 : decode jdk_42_method_3_code 9 = .ok (.return_, 1) := by decide +kernel
set_option maxRecDepth 65536 in
set_option maxHeartbeats 40000000 in
theorem rmS1_0 (l : Launch) (Z : State) (a0 : Array Value) (hw : ∀ d ∈ tables_1, d.before a0 Z = true) (ws : List Jvm.Cond) (r0 : Addr) (r1 : Addr) (ck : ClassId)  (w_CS : Int32) (w_E : Addr) (w_F : Value) (h0 : Heap) (n0 : Nat) (hG : own_GC Z w_CS w_E w_F) (O0 : Old Z n0 h0) (Z0 : n0 ≤ h0.size) (g_r0 : n0 ≤ r0) (E_r0 : Exa Z h0 r0 "java/lang/String") (F_value_r0 : Fld Z h0 r0 "java/lang/String" "value" "[B" .null) (F_coder_r0 : Fld Z h0 r0 "java/lang/String" "coder" "B" (.int (0 : Int32))) (hne : r1 ≠ r0) (Vs : Arv Z h0 r1 ck .char (0 : Int32) [] (.int (0 : Int32))) :
    MetFree l (⟨"java/lang/String", "<init>", "([C)V"⟩ : MethodName) (head1 (Jvm.Cond.code (⟨"java/lang/String", "<init>", "([C)V"⟩ : MethodName) jdk_42_method_3_code 2 none :: ws) ({ frames := 3, cells := 4, slots := 8, locals := 52 } : Room)) (fun a U => a = #[(.ref r0), (.ref r1)] ∧ Z.Warmed39 U.vm ∧ U.heap = h0 ∧ CHv Z own_EL U.vm h0 ∧ ∀ x ∈ ([r0] : List Addr), Safe Z own_EL U.vm h0 x) (fun _ _ _ _ _ => True) (fun _ U o U' => ∃ v L, o = .returned v ∧ own_SI Z r0 (0 : Int32) [] h0 n0 v U'.heap L ∧ CHr Z own_EL U.vm U.heap U'.vm U'.heap ∧ ReturnedEndW U o U' L ({ frames := 3, cells := 4, slots := 8, locals := 52 } : Room).cells ({ frames := 3, cells := 4, slots := 8, locals := 52 } : Room).slots) := by
  refine MetFree.of_bodySF (plainFor_of_name pn_0) hisR ?_
  intro p e s m args below meth c s₁ Bd hml0 hP hK
  obtain ⟨rfl, hZ, hh, hH, hSf⟩ := hP
  have hx := Bd.exec
  have hby := Bd.bytes
  have hml : c.maxLocals = 2 := hml0
  have hown : s.vm.findClass "java/lang/String" = some m.cls := findClass_of_methodNamed Bd.named
  have hnm := (name_of_methodNamed Bd.named Bd.method).1
  have X0 : Stand p l e ({ frames := 3, cells := 4, slots := 8, locals := 52 } : Room) (s.setVm s.vm) m #[(.ref r0), (.ref r1)] below meth c s₁ [] 0 0 := Stand.of_body Bd
  have e0 : s₁.heap = h0 := by rw [← hh, Bd.state]; rfl
  have N0 := Fr.nil n0
  have pre0 : ∀ t, Steps p.tables e below (s₁.setTop (mkF m 0 #[.val (.ref r0), .val (.ref r1)] [])) t → Steps p.tables e below (s₁.setTop (entryFrame m #[(.ref r0), (.ref r1)] 2)) t := fun t k => castTop (ef_rmS1_0 m r0 r1) k
  have hS : s.Since s.vm 0 := (State.WarmedH.refl s).since 0
  have hk : 0 ≤ h0.size := Nat.zero_le _
  replace hZ : Z.Warmed39 (s.setVm s.vm).vm := hZ
  replace hown : (s.setVm s.vm).vm.findClass "java/lang/String" = some m.cls := hown
  have HC : CHr Z own_EL s.vm h0 s.vm h0 := CHr.refl hH
  have Sf_r0 : Safe Z own_EL s.vm h0 r0 := hSf _ (List.mem_of_getElem? (i := 0) rfl)
  have hG' := hG
  obtain ⟨S_CS, hCS, S_E, E_E, F_E, S_F, hF⟩ := hG'
  have K0 : Keep h0 h0 [r0] := Keep.refl _ _
  have k2 : ∀ t, Steps p.tables e below (s₁.setTop (mkF m 6 #[.val (.ref r0), .val (.ref r1)] [.null, (.int (0 : Int32)), (.int (0 : Int32)), (.ref r1), (.ref r0)])) t → Steps p.tables e below (s₁.setTop (entryFrame m #[(.ref r0), (.ref r1)] 2)) t := by
    intro t k
    refine pre0 _ ?_
    show Steps p.tables e below (s₁.setTop (mkF m 0 #[.val (.ref r0), .val (.ref r1)] [])) _
    refine XS.aloadN X0.here hx rfl (hb hby d2_0) rfl rfl ?_
    show Steps p.tables e below (s₁.setTop (mkF m 1 #[.val (.ref r0), .val (.ref r1)] [(.ref r0)])) _
    refine XS.aloadN X0.here hx rfl (hb hby d2_1) rfl rfl ?_
    show Steps p.tables e below (s₁.setTop (mkF m 2 #[.val (.ref r0), .val (.ref r1)] [(.ref r1), (.ref r0)])) _
    refine XS.iconst X0.here hx rfl (hb hby d2_2) ?_
    show Steps p.tables e below (s₁.setTop (mkF m 3 #[.val (.ref r0), .val (.ref r1)] [(.int (0 : Int32)), (.ref r1), (.ref r0)])) _
    refine XS.aloadN X0.here hx rfl (hb hby d2_3) rfl rfl ?_
    show Steps p.tables e below (s₁.setTop (mkF m 4 #[.val (.ref r0), .val (.ref r1)] [(.ref r1), (.int (0 : Int32)), (.ref r1), (.ref r0)])) _
    obtain ⟨cl_1, Ar_1, -, S_1, N_1, -, -⟩ := id Vs
    refine X0.arraylength hx (by rw [e0]; exact Ar_1.1) (State.isArrayOf_alike hZ.alike Ar_1.2.1) (g := (mkF m 4 #[.val (.ref r0), .val (.ref r1)] [(.ref r1), (.int (0 : Int32)), (.ref r1), (.ref r0)])) rfl rfl (hb hby d2_4) _ ?_
    rw [len_of S_1 N_1]
    show Steps p.tables e below (s₁.setTop (mkF m 5 #[.val (.ref r0), .val (.ref r1)] [(.int (0 : Int32)), (.int (0 : Int32)), (.ref r1), (.ref r0)])) _
    refine XS.aconstNull X0.here hx rfl (hb hby d2_5) ?_
    exact k
  obtain ⟨_, _, ⟨T3, L3, k3_, n3⟩, -, X3, hS3, hg3, ⟨Lc3, hQ3, l3, y3, z3, hC3⟩, st3⟩ := X0.specialBackS hx (y := (⟨"java/lang/String", "<init>", "([CIILjava/lang/Void;)V"⟩ : MethodName)) rfl hown (mvT hZ (hw _ (List.mem_of_getElem? (i := 11) rfl))) (mvT hZ (hw _ (List.mem_of_getElem? (i := 12) rfl))) (mvT hZ (hw _ (List.mem_of_getElem? (i := 14) rfl))) (by decide) (own_backH (W := 0) (rmS2_0 l Z a0 hw [] r0 r1 ck  w_CS w_E w_F h0 n0 hG O0 (O0.1 ▸ O0.2.1) g_r0 E_r0 F_value_r0 F_coder_r0 hne Vs ) hZ (hw _ (List.mem_of_getElem? (i := 14) rfl)) (hw _ (List.mem_of_getElem? (i := 6) rfl)) (by decide) (by decide) (own_EW hw) HC.1 (fun x hx => by cases List.mem_singleton.mp hx; exact ⟨E_r0.lt, Sf_r0⟩)) (g := (mkF m 6 #[.val (.ref r0), .val (.ref r1)] [.null, (.int (0 : Int32)), (.int (0 : Int32)), (.ref r1), (.ref r0)])) rfl (by rw [hml]; rfl) (Steps.refl _) (a := r0) (argsL := [(.ref r1), (.int (0 : Int32)), (.int (0 : Int32)), .null]) (rest := []) (lenOf pd_0 rfl) rfl (by show 2 * 0 + _ ≤ _; exact Nat.le_of_eq rfl) (hb hby d2_6) (fun _ _ => ⟨rfl, e0, (by decide : 0 + 4 ≤ _), (by decide : 0 + 8 ≤ _)⟩)
  dsimp only [Pt.U, Pt.locs, Pt.cells, Pt.slots] at X3 l3 y3 z3 st3 hQ3
  subst l3 y3 z3
  dsimp only [Pt.U, Pt.locs, Pt.cells, Pt.slots] at hC3
  dsimp only [Pt.U, Pt.locs, Pt.cells, Pt.slots] at hS3 hg3
  obtain ⟨X3, hS, hZ, hown⟩ := rebS hS (show _ ≤ s₁.heap.size by rw [e0]; exact hk) X3 hS3 hg3 hZ hown
  replace hk := Nat.le_refl T3.heap.size
  replace Sf_r0 := hC3.safe E_r0.lt Sf_r0
  replace HC := HC.trans hC3
  obtain ⟨rfl, Nq3, Kq3, Eq3, bv3, kq3, cd3, Fq3, Gq3, hcd3, Vq3⟩ := hQ3
  subst hcd3
  have N3 := Fr.app N0 Nq3
  replace Vs := Vs.keep Kq3 (fun q => hne (List.mem_singleton.mp q))
  replace E_r0 := E_r0.keep Kq3
  replace O0 := O0.keep Kq3 (fun x hx => by cases List.mem_singleton.mp hx; exact g_r0)
  replace K0 := K0.trans Kq3 (fun x hx => by cases List.mem_singleton.mp hx; exact (Or.inl (List.mem_of_getElem? (i := 0) rfl)))
  have k4 : ∀ t, Steps p.tables e below (T3.setTop (mkF m 9 #[.val (.ref r0), .val (.ref r1)] [])) t → Steps p.tables e below (s₁.setTop (entryFrame m #[(.ref r0), (.ref r1)] 2)) t := by
    intro t k
    refine k2 _ ?_
    show Steps p.tables e below (s₁.setTop (mkF m 6 #[.val (.ref r0), .val (.ref r1)] [.null, (.int (0 : Int32)), (.int (0 : Int32)), (.ref r1), (.ref r0)])) _
    refine st3.trans ?_
    exact k
  obtain ⟨fs, hr, hrun, hended, hEW⟩ := X3.leaveW hS hk (v := none) (fun _ => rfl)
  have HCf : CHr Z own_EL s.vm s.heap T3.vm T3.heap := by
    rw [hh]
    exact HC.trans (CHv.at X3 hZ (own_EW hw) HC.1)
  refine ⟨_, _, k4 _ ?_, hrun, hended, _, _, rfl, ?_, HCf, hEW.1, hEW.2.1, hEW.2.2.1, hEW.2.2.2.mono (by decide) (by decide)⟩
  · exact X3.returnOut hx Bd.returns (hb hby d2_9) hr
  · show own_SI Z r0 (0 : Int32) [] h0 n0 _ T3.heap _
    exact ⟨rfl, N3, K0, E_r0, _, _, _, Fq3, Gq3, rfl, Vq3⟩
theorem pn_1 : plainName "java/lang/StringUTF16" = true := by first | (simp [plainName, overriddenIn]; done) | decide +kernel
theorem ef_rmC1_2 (m : MethodId) (x0 : Addr) (x1 : Int32) (x2 : Addr) (x3 : Int32) (x4 : Int32) : entryFrame m #[(.ref x0), (.int x1), (.ref x2), (.int x3), (.int x4)] 7 = mkF m 0 #[.val (.ref x0), .val (.int x1), .val (.ref x2), .val (.int x3), .val (.int x4), .unset, .unset] [] := by first | (simp [entryFrame, mkF, argsToLocals, Value.category]; done) | rfl
theorem d29_0 : decode jdk_52_method_21_code 0 = .ok (.iconst 0, 1) := by decide +kernel
theorem d29_1 : decode jdk_52_method_21_code 1 = .ok (.istore 5, 2) := by decide +kernel
theorem d29_3 : decode jdk_52_method_21_code 3 = .ok (.iload 5, 2) := by decide +kernel
theorem d29_5 : decode jdk_52_method_21_code 5 = .ok (.iload 4, 2) := by decide +kernel
theorem d29_7 : decode jdk_52_method_21_code 7 = .ok (.if_icmp .ge 37, 3) := by decide +kernel
theorem d29_10 : decode jdk_52_method_21_code 10 = .ok (.aload_n 0, 1) := by decide +kernel
theorem d29_11 : decode jdk_52_method_21_code 11 = .ok (.iload_n 1, 1) := by decide +kernel
theorem d29_12 : decode jdk_52_method_21_code 12 = .ok (.caload, 1) := by decide +kernel
theorem d29_13 : decode jdk_52_method_21_code 13 = .ok (.istore 6, 2) := by decide +kernel
theorem d29_15 : decode jdk_52_method_21_code 15 = .ok (.iload 6, 2) := by decide +kernel
theorem d29_17 : decode jdk_52_method_21_code 17 = .ok (.sipush 255, 3) := by decide +kernel
theorem d29_20 : decode jdk_52_method_21_code 20 = .ok (.if_icmp .le 6, 3) := by decide +kernel
theorem d29_26 : decode jdk_52_method_21_code 26 = .ok (.aload_n 2, 1) := by decide +kernel
theorem d29_27 : decode jdk_52_method_21_code 27 = .ok (.iload_n 3, 1) := by decide +kernel
theorem d29_28 : decode jdk_52_method_21_code 28 = .ok (.iload 6, 2) := by decide +kernel
theorem d29_30 : decode jdk_52_method_21_code 30 = .ok (.i2b, 1) := by decide +kernel
theorem d29_31 : decode jdk_52_method_21_code 31 = .ok (.bastore, 1) := by decide +kernel
theorem d29_32 : decode jdk_52_method_21_code 32 = .ok (.iinc 1 1, 3) := by decide +kernel
theorem d29_35 : decode jdk_52_method_21_code 35 = .ok (.iinc 3 1, 3) := by decide +kernel
theorem d29_38 : decode jdk_52_method_21_code 38 = .ok (.iinc 5 1, 3) := by decide +kernel
theorem d29_41 : decode jdk_52_method_21_code 41 = .ok (.goto (-38), 3) := by decide +kernel
theorem d29_44 : decode jdk_52_method_21_code 44 = .ok (.iload 4, 2) := by decide +kernel
theorem d29_46 : decode jdk_52_method_21_code 46 = .ok (.ireturn, 1) := by decide +kernel
set_option maxRecDepth 65536 in
set_option maxHeartbeats 40000000 in
theorem rmC1_2 (l : Launch) (Z : State) (a0 : Array Value) (hw : ∀ d ∈ tables_1, d.before a0 Z = true) (ws : List Jvm.Cond) (r0 : Addr) (r2 : Addr) (ck cb : ClassId) (v0 v1 : Int32) (h0 : Heap) (n0 : Nat) (Z0 : n0 ≤ h0.size) (g_r2 : n0 ≤ r2) (hne : r0 ≠ r2) (Vs : Arv Z h0 r0 ck .char (2 : Int32) [(.int v0), (.int v1)] (.int (0 : Int32))) (Vd : Arv Z h0 r2 cb .byte (2 : Int32) [(.int (0 : Int32)), (.int (0 : Int32))] (.int (0 : Int32))) (hv0 : ¬ (255 : Int32) < v0) (hv1 : ¬ (255 : Int32) < v1) :
    MetFree l (⟨"java/lang/StringUTF16", "compress", "([CI[BII)I"⟩ : MethodName) (head1 (Jvm.Cond.code (⟨"java/lang/StringUTF16", "compress", "([CI[BII)I"⟩ : MethodName) jdk_52_method_21_code 7 (some .int) :: ws) ({ frames := 0, cells := 0, slots := 0, locals := 0 } : Room)) (fun a U => a = #[(.ref r0), (.int (0 : Int32)), (.ref r2), (.int (0 : Int32)), (.int (2 : Int32))] ∧ Z.Warmed39 U.vm ∧ U.heap = h0) (fun _ _ _ _ _ => True) (fun _ U o U' => ∃ v L, o = .returned v ∧ own_CP Z r2 cb (2 : Int32) [(.int ((v0.toInt8.toInt32).toInt8.toInt32)), (.int ((v1.toInt8.toInt32).toInt8.toInt32))] h0 n0 v U'.heap L ∧ FrameEnd U o U' L ({ frames := 0, cells := 0, slots := 0, locals := 0 } : Room).cells ({ frames := 0, cells := 0, slots := 0, locals := 0 } : Room).slots) := by
  refine MetFree.of_bodySF (plainFor_of_name pn_1) hisR ?_
  intro p e s m args below meth c s₁ Bd hml0 hP hK
  obtain ⟨rfl, hZ, hh⟩ := hP
  have hx := Bd.exec
  have hby := Bd.bytes
  have hml : c.maxLocals = 7 := hml0
  have hown : s.vm.findClass "java/lang/StringUTF16" = some m.cls := findClass_of_methodNamed Bd.named
  have hnm := (name_of_methodNamed Bd.named Bd.method).1
  have X0 : Stand p l e ({ frames := 0, cells := 0, slots := 0, locals := 0 } : Room) s m #[(.ref r0), (.int (0 : Int32)), (.ref r2), (.int (0 : Int32)), (.int (2 : Int32))] below meth c s₁ [] 0 0 := Stand.of_body Bd
  have e0 : s₁.heap = h0 := by rw [← hh, Bd.state]; rfl
  have N0 := Fr.nil n0
  have pre0 : ∀ t, Steps p.tables e below (s₁.setTop (mkF m 0 #[.val (.ref r0), .val (.int (0 : Int32)), .val (.ref r2), .val (.int (0 : Int32)), .val (.int (2 : Int32)), .unset, .unset] [])) t → Steps p.tables e below (s₁.setTop (entryFrame m #[(.ref r0), (.int (0 : Int32)), (.ref r2), (.int (0 : Int32)), (.int (2 : Int32))] 7)) t := fun t k => castTop (ef_rmC1_2 m r0 (0 : Int32) r2 (0 : Int32) (2 : Int32)) k
  have K0 : Keep h0 h0 [r2] := Keep.refl _ _
  have k2 : ∀ t, Steps p.tables e below (s₁.setTop (mkF m 31 #[.val (.ref r0), .val (.int (0 : Int32)), .val (.ref r2), .val (.int (0 : Int32)), .val (.int (2 : Int32)), .val (.int (0 : Int32)), .val (.int v0)] [(.int (v0.toInt8.toInt32)), (.int (0 : Int32)), (.ref r2)])) t → Steps p.tables e below (s₁.setTop (entryFrame m #[(.ref r0), (.int (0 : Int32)), (.ref r2), (.int (0 : Int32)), (.int (2 : Int32))] 7)) t := by
    intro t k
    refine pre0 _ ?_
    show Steps p.tables e below (s₁.setTop (mkF m 0 #[.val (.ref r0), .val (.int (0 : Int32)), .val (.ref r2), .val (.int (0 : Int32)), .val (.int (2 : Int32)), .unset, .unset] [])) _
    refine XS.iconst X0.here hx rfl (hb hby d29_0) ?_
    show Steps p.tables e below (s₁.setTop (mkF m 1 #[.val (.ref r0), .val (.int (0 : Int32)), .val (.ref r2), .val (.int (0 : Int32)), .val (.int (2 : Int32)), .unset, .unset] [(.int (0 : Int32))])) _
    refine XS.istore X0.here hx rfl (hb hby d29_1) rfl (l' := #[.val (.ref r0), .val (.int (0 : Int32)), .val (.ref r2), .val (.int (0 : Int32)), .val (.int (2 : Int32)), .val (.int (0 : Int32)), .unset]) rfl ?_
    show Steps p.tables e below (s₁.setTop (mkF m 3 #[.val (.ref r0), .val (.int (0 : Int32)), .val (.ref r2), .val (.int (0 : Int32)), .val (.int (2 : Int32)), .val (.int (0 : Int32)), .unset] [])) _
    refine XS.iload X0.here hx rfl (hb hby d29_3) rfl ?_
    show Steps p.tables e below (s₁.setTop (mkF m 5 #[.val (.ref r0), .val (.int (0 : Int32)), .val (.ref r2), .val (.int (0 : Int32)), .val (.int (2 : Int32)), .val (.int (0 : Int32)), .unset] [(.int (0 : Int32))])) _
    refine XS.iload X0.here hx rfl (hb hby d29_5) rfl ?_
    show Steps p.tables e below (s₁.setTop (mkF m 7 #[.val (.ref r0), .val (.int (0 : Int32)), .val (.ref r2), .val (.int (0 : Int32)), .val (.int (2 : Int32)), .val (.int (0 : Int32)), .unset] [(.int (2 : Int32)), (.int (0 : Int32))])) _
    refine XS.icmpNo X0.here hx rfl (hb hby d29_7) rfl (tlt (by decide)).2.1 ?_
    show Steps p.tables e below (s₁.setTop (mkF m 10 #[.val (.ref r0), .val (.int (0 : Int32)), .val (.ref r2), .val (.int (0 : Int32)), .val (.int (2 : Int32)), .val (.int (0 : Int32)), .unset] [])) _
    refine XS.aloadN X0.here hx rfl (hb hby d29_10) rfl rfl ?_
    show Steps p.tables e below (s₁.setTop (mkF m 11 #[.val (.ref r0), .val (.int (0 : Int32)), .val (.ref r2), .val (.int (0 : Int32)), .val (.int (2 : Int32)), .val (.int (0 : Int32)), .unset] [(.ref r0)])) _
    refine XS.iloadN X0.here hx rfl (hb hby d29_11) rfl ?_
    show Steps p.tables e below (s₁.setTop (mkF m 12 #[.val (.ref r0), .val (.int (0 : Int32)), .val (.ref r2), .val (.int (0 : Int32)), .val (.int (2 : Int32)), .val (.int (0 : Int32)), .unset] [(.int (0 : Int32)), (.ref r0)])) _
    obtain ⟨cl_1, Ar_1, q_1, S_1, N_1, H_1, G_1⟩ := id Vs
    have hin_1 : ¬ ((0 : Int32) < 0 ∨ cl_1.slots.size ≤ ((0 : Int32)).toNatClampNeg) := inb_of S_1 ⟨by decide, by decide⟩
    refine X0.caload hx (j := (0 : Int32)) (v := (.int v0)) (by rw [e0]; exact Ar_1.1) (State.isArrayOf_alike hZ.alike Ar_1.2.1) Ar_1.2.2 hin_1 (Has.at H_1 hin_1 rfl) (g := (mkF m 12 #[.val (.ref r0), .val (.int (0 : Int32)), .val (.ref r2), .val (.int (0 : Int32)), .val (.int (2 : Int32)), .val (.int (0 : Int32)), .unset] [(.int (0 : Int32)), (.ref r0)])) rfl rfl (hb hby d29_12) _ ?_
    show Steps p.tables e below (s₁.setTop (mkF m 13 #[.val (.ref r0), .val (.int (0 : Int32)), .val (.ref r2), .val (.int (0 : Int32)), .val (.int (2 : Int32)), .val (.int (0 : Int32)), .unset] [(.int v0)])) _
    refine XS.istore X0.here hx rfl (hb hby d29_13) rfl (l' := #[.val (.ref r0), .val (.int (0 : Int32)), .val (.ref r2), .val (.int (0 : Int32)), .val (.int (2 : Int32)), .val (.int (0 : Int32)), .val (.int v0)]) rfl ?_
    show Steps p.tables e below (s₁.setTop (mkF m 15 #[.val (.ref r0), .val (.int (0 : Int32)), .val (.ref r2), .val (.int (0 : Int32)), .val (.int (2 : Int32)), .val (.int (0 : Int32)), .val (.int v0)] [])) _
    refine XS.iload X0.here hx rfl (hb hby d29_15) rfl ?_
    show Steps p.tables e below (s₁.setTop (mkF m 17 #[.val (.ref r0), .val (.int (0 : Int32)), .val (.ref r2), .val (.int (0 : Int32)), .val (.int (2 : Int32)), .val (.int (0 : Int32)), .val (.int v0)] [(.int v0)])) _
    refine XS.sipush X0.here hx rfl (hb hby d29_17) ?_
    show Steps p.tables e below (s₁.setTop (mkF m 20 #[.val (.ref r0), .val (.int (0 : Int32)), .val (.ref r2), .val (.int (0 : Int32)), .val (.int (2 : Int32)), .val (.int (0 : Int32)), .val (.int v0)] [(.int (255 : Int32)), (.int v0)])) _
    refine XS.icmpYes X0.here hx rfl (pc0 := 20) (pc' := 26) rfl (hb hby d29_20) rfl (flt hv0).2.2.2 (by decide) (by decide) ?_
    show Steps p.tables e below (s₁.setTop (mkF m 26 #[.val (.ref r0), .val (.int (0 : Int32)), .val (.ref r2), .val (.int (0 : Int32)), .val (.int (2 : Int32)), .val (.int (0 : Int32)), .val (.int v0)] [])) _
    refine XS.aloadN X0.here hx rfl (hb hby d29_26) rfl rfl ?_
    show Steps p.tables e below (s₁.setTop (mkF m 27 #[.val (.ref r0), .val (.int (0 : Int32)), .val (.ref r2), .val (.int (0 : Int32)), .val (.int (2 : Int32)), .val (.int (0 : Int32)), .val (.int v0)] [(.ref r2)])) _
    refine XS.iloadN X0.here hx rfl (hb hby d29_27) rfl ?_
    show Steps p.tables e below (s₁.setTop (mkF m 28 #[.val (.ref r0), .val (.int (0 : Int32)), .val (.ref r2), .val (.int (0 : Int32)), .val (.int (2 : Int32)), .val (.int (0 : Int32)), .val (.int v0)] [(.int (0 : Int32)), (.ref r2)])) _
    refine XS.iload X0.here hx rfl (hb hby d29_28) rfl ?_
    show Steps p.tables e below (s₁.setTop (mkF m 30 #[.val (.ref r0), .val (.int (0 : Int32)), .val (.ref r2), .val (.int (0 : Int32)), .val (.int (2 : Int32)), .val (.int (0 : Int32)), .val (.int v0)] [(.int v0), (.int (0 : Int32)), (.ref r2)])) _
    refine XS.i2b X0.here hx rfl (hb hby d29_30) rfl ?_
    exact k
  obtain ⟨cl_3, Ar_3, q_3, S_3, N_3, H_3, G_3⟩ := id Vd
  have hin_3 : ¬ ((0 : Int32) < 0 ∨ cl_3.slots.size ≤ ((0 : Int32)).toNatClampNeg) := inb_of S_3 ⟨by decide, by decide⟩
  obtain ⟨T3, h3, X3, e3, W3, st3⟩ := stB X0 hx hZ e0 Ar_3 (j := (0 : Int32)) hin_3 (g := (mkF m 31 #[.val (.ref r0), .val (.int (0 : Int32)), .val (.ref r2), .val (.int (0 : Int32)), .val (.int (2 : Int32)), .val (.int (0 : Int32)), .val (.int v0)] [(.int (v0.toInt8.toInt32)), (.int (0 : Int32)), (.ref r2)])) rfl rfl (hb hby d29_31)
  have Vn3 : Arv Z h3 r2 cb .byte (2 : Int32) [(.int ((v0.toInt8.toInt32).toInt8.toInt32)), (.int (0 : Int32))] (.int (0 : Int32)) := Arv.set Ar_3 q_3 S_3 N_3 H_3 G_3 (fits_nar_byte _) W3 0 rfl (Nat.le_of_ble_eq_true rfl)
  replace Vs := Vs.other W3 hne
  replace K0 := K0.wr W3 (Or.inl (List.mem_of_getElem? (i := 0) rfl))
  replace Vd := Vn3
  have N3 := Fr.snoc X3 N0 g_r2
  have Zs3 : n0 ≤ h3.size := by rw [W3.size]; exact Z0
  have k5 : ∀ t, Steps p.tables e below (T3.setTop (mkF m 31 #[.val (.ref r0), .val (.int (1 : Int32)), .val (.ref r2), .val (.int (1 : Int32)), .val (.int (2 : Int32)), .val (.int (1 : Int32)), .val (.int v1)] [(.int (v1.toInt8.toInt32)), (.int (1 : Int32)), (.ref r2)])) t → Steps p.tables e below (s₁.setTop (entryFrame m #[(.ref r0), (.int (0 : Int32)), (.ref r2), (.int (0 : Int32)), (.int (2 : Int32))] 7)) t := by
    intro t k
    refine k2 _ ?_
    show Steps p.tables e below (s₁.setTop (mkF m 31 #[.val (.ref r0), .val (.int (0 : Int32)), .val (.ref r2), .val (.int (0 : Int32)), .val (.int (2 : Int32)), .val (.int (0 : Int32)), .val (.int v0)] [(.int (v0.toInt8.toInt32)), (.int (0 : Int32)), (.ref r2)])) _
    refine st3 _ ?_
    show Steps p.tables e below (T3.setTop (mkF m 32 #[.val (.ref r0), .val (.int (0 : Int32)), .val (.ref r2), .val (.int (0 : Int32)), .val (.int (2 : Int32)), .val (.int (0 : Int32)), .val (.int v0)] [])) _
    refine XS.iinc X3.here hx rfl (hb hby d29_32) rfl (l' := #[.val (.ref r0), .val (.int (1 : Int32)), .val (.ref r2), .val (.int (0 : Int32)), .val (.int (2 : Int32)), .val (.int (0 : Int32)), .val (.int v0)]) rfl ?_
    show Steps p.tables e below (T3.setTop (mkF m 35 #[.val (.ref r0), .val (.int (1 : Int32)), .val (.ref r2), .val (.int (0 : Int32)), .val (.int (2 : Int32)), .val (.int (0 : Int32)), .val (.int v0)] [])) _
    refine XS.iinc X3.here hx rfl (hb hby d29_35) rfl (l' := #[.val (.ref r0), .val (.int (1 : Int32)), .val (.ref r2), .val (.int (1 : Int32)), .val (.int (2 : Int32)), .val (.int (0 : Int32)), .val (.int v0)]) rfl ?_
    show Steps p.tables e below (T3.setTop (mkF m 38 #[.val (.ref r0), .val (.int (1 : Int32)), .val (.ref r2), .val (.int (1 : Int32)), .val (.int (2 : Int32)), .val (.int (0 : Int32)), .val (.int v0)] [])) _
    refine XS.iinc X3.here hx rfl (hb hby d29_38) rfl (l' := #[.val (.ref r0), .val (.int (1 : Int32)), .val (.ref r2), .val (.int (1 : Int32)), .val (.int (2 : Int32)), .val (.int (1 : Int32)), .val (.int v0)]) rfl ?_
    show Steps p.tables e below (T3.setTop (mkF m 41 #[.val (.ref r0), .val (.int (1 : Int32)), .val (.ref r2), .val (.int (1 : Int32)), .val (.int (2 : Int32)), .val (.int (1 : Int32)), .val (.int v0)] [])) _
    refine XS.goto X3.here hx rfl (pc0 := 41) (pc' := 3) rfl (hb hby d29_41) (by decide) (by decide) ?_
    show Steps p.tables e below (T3.setTop (mkF m 3 #[.val (.ref r0), .val (.int (1 : Int32)), .val (.ref r2), .val (.int (1 : Int32)), .val (.int (2 : Int32)), .val (.int (1 : Int32)), .val (.int v0)] [])) _
    refine XS.iload X3.here hx rfl (hb hby d29_3) rfl ?_
    show Steps p.tables e below (T3.setTop (mkF m 5 #[.val (.ref r0), .val (.int (1 : Int32)), .val (.ref r2), .val (.int (1 : Int32)), .val (.int (2 : Int32)), .val (.int (1 : Int32)), .val (.int v0)] [(.int (1 : Int32))])) _
    refine XS.iload X3.here hx rfl (hb hby d29_5) rfl ?_
    show Steps p.tables e below (T3.setTop (mkF m 7 #[.val (.ref r0), .val (.int (1 : Int32)), .val (.ref r2), .val (.int (1 : Int32)), .val (.int (2 : Int32)), .val (.int (1 : Int32)), .val (.int v0)] [(.int (2 : Int32)), (.int (1 : Int32))])) _
    refine XS.icmpNo X3.here hx rfl (hb hby d29_7) rfl (tlt (by decide)).2.1 ?_
    show Steps p.tables e below (T3.setTop (mkF m 10 #[.val (.ref r0), .val (.int (1 : Int32)), .val (.ref r2), .val (.int (1 : Int32)), .val (.int (2 : Int32)), .val (.int (1 : Int32)), .val (.int v0)] [])) _
    refine XS.aloadN X3.here hx rfl (hb hby d29_10) rfl rfl ?_
    show Steps p.tables e below (T3.setTop (mkF m 11 #[.val (.ref r0), .val (.int (1 : Int32)), .val (.ref r2), .val (.int (1 : Int32)), .val (.int (2 : Int32)), .val (.int (1 : Int32)), .val (.int v0)] [(.ref r0)])) _
    refine XS.iloadN X3.here hx rfl (hb hby d29_11) rfl ?_
    show Steps p.tables e below (T3.setTop (mkF m 12 #[.val (.ref r0), .val (.int (1 : Int32)), .val (.ref r2), .val (.int (1 : Int32)), .val (.int (2 : Int32)), .val (.int (1 : Int32)), .val (.int v0)] [(.int (1 : Int32)), (.ref r0)])) _
    obtain ⟨cl_4, Ar_4, q_4, S_4, N_4, H_4, G_4⟩ := id Vs
    have hin_4 : ¬ ((1 : Int32) < 0 ∨ cl_4.slots.size ≤ ((1 : Int32)).toNatClampNeg) := inb_of S_4 ⟨by decide, by decide⟩
    refine X3.caload hx (j := (1 : Int32)) (v := (.int v1)) (by rw [e3]; exact Ar_4.1) (State.isArrayOf_alike hZ.alike Ar_4.2.1) Ar_4.2.2 hin_4 (Has.at H_4 hin_4 rfl) (g := (mkF m 12 #[.val (.ref r0), .val (.int (1 : Int32)), .val (.ref r2), .val (.int (1 : Int32)), .val (.int (2 : Int32)), .val (.int (1 : Int32)), .val (.int v0)] [(.int (1 : Int32)), (.ref r0)])) rfl rfl (hb hby d29_12) _ ?_
    show Steps p.tables e below (T3.setTop (mkF m 13 #[.val (.ref r0), .val (.int (1 : Int32)), .val (.ref r2), .val (.int (1 : Int32)), .val (.int (2 : Int32)), .val (.int (1 : Int32)), .val (.int v0)] [(.int v1)])) _
    refine XS.istore X3.here hx rfl (hb hby d29_13) rfl (l' := #[.val (.ref r0), .val (.int (1 : Int32)), .val (.ref r2), .val (.int (1 : Int32)), .val (.int (2 : Int32)), .val (.int (1 : Int32)), .val (.int v1)]) rfl ?_
    show Steps p.tables e below (T3.setTop (mkF m 15 #[.val (.ref r0), .val (.int (1 : Int32)), .val (.ref r2), .val (.int (1 : Int32)), .val (.int (2 : Int32)), .val (.int (1 : Int32)), .val (.int v1)] [])) _
    refine XS.iload X3.here hx rfl (hb hby d29_15) rfl ?_
    show Steps p.tables e below (T3.setTop (mkF m 17 #[.val (.ref r0), .val (.int (1 : Int32)), .val (.ref r2), .val (.int (1 : Int32)), .val (.int (2 : Int32)), .val (.int (1 : Int32)), .val (.int v1)] [(.int v1)])) _
    refine XS.sipush X3.here hx rfl (hb hby d29_17) ?_
    show Steps p.tables e below (T3.setTop (mkF m 20 #[.val (.ref r0), .val (.int (1 : Int32)), .val (.ref r2), .val (.int (1 : Int32)), .val (.int (2 : Int32)), .val (.int (1 : Int32)), .val (.int v1)] [(.int (255 : Int32)), (.int v1)])) _
    refine XS.icmpYes X3.here hx rfl (pc0 := 20) (pc' := 26) rfl (hb hby d29_20) rfl (flt hv1).2.2.2 (by decide) (by decide) ?_
    show Steps p.tables e below (T3.setTop (mkF m 26 #[.val (.ref r0), .val (.int (1 : Int32)), .val (.ref r2), .val (.int (1 : Int32)), .val (.int (2 : Int32)), .val (.int (1 : Int32)), .val (.int v1)] [])) _
    refine XS.aloadN X3.here hx rfl (hb hby d29_26) rfl rfl ?_
    show Steps p.tables e below (T3.setTop (mkF m 27 #[.val (.ref r0), .val (.int (1 : Int32)), .val (.ref r2), .val (.int (1 : Int32)), .val (.int (2 : Int32)), .val (.int (1 : Int32)), .val (.int v1)] [(.ref r2)])) _
    refine XS.iloadN X3.here hx rfl (hb hby d29_27) rfl ?_
    show Steps p.tables e below (T3.setTop (mkF m 28 #[.val (.ref r0), .val (.int (1 : Int32)), .val (.ref r2), .val (.int (1 : Int32)), .val (.int (2 : Int32)), .val (.int (1 : Int32)), .val (.int v1)] [(.int (1 : Int32)), (.ref r2)])) _
    refine XS.iload X3.here hx rfl (hb hby d29_28) rfl ?_
    show Steps p.tables e below (T3.setTop (mkF m 30 #[.val (.ref r0), .val (.int (1 : Int32)), .val (.ref r2), .val (.int (1 : Int32)), .val (.int (2 : Int32)), .val (.int (1 : Int32)), .val (.int v1)] [(.int v1), (.int (1 : Int32)), (.ref r2)])) _
    refine XS.i2b X3.here hx rfl (hb hby d29_30) rfl ?_
    exact k
  obtain ⟨cl_6, Ar_6, q_6, S_6, N_6, H_6, G_6⟩ := id Vd
  have hin_6 : ¬ ((1 : Int32) < 0 ∨ cl_6.slots.size ≤ ((1 : Int32)).toNatClampNeg) := inb_of S_6 ⟨by decide, by decide⟩
  obtain ⟨T6, h6, X6, e6, W6, st6⟩ := stB X3 hx hZ e3 Ar_6 (j := (1 : Int32)) hin_6 (g := (mkF m 31 #[.val (.ref r0), .val (.int (1 : Int32)), .val (.ref r2), .val (.int (1 : Int32)), .val (.int (2 : Int32)), .val (.int (1 : Int32)), .val (.int v1)] [(.int (v1.toInt8.toInt32)), (.int (1 : Int32)), (.ref r2)])) rfl rfl (hb hby d29_31)
  have Vn6 : Arv Z h6 r2 cb .byte (2 : Int32) [(.int ((v0.toInt8.toInt32).toInt8.toInt32)), (.int ((v1.toInt8.toInt32).toInt8.toInt32))] (.int (0 : Int32)) := Arv.set Ar_6 q_6 S_6 N_6 H_6 G_6 (fits_nar_byte _) W6 1 rfl (Nat.le_of_ble_eq_true rfl)
  replace Vs := Vs.other W6 hne
  replace K0 := K0.wr W6 (Or.inl (List.mem_of_getElem? (i := 0) rfl))
  replace Vd := Vn6
  have N6 := Fr.snoc X6 N3 g_r2
  have Zs6 : n0 ≤ h6.size := by rw [W6.size]; exact Zs3
  have k7 : ∀ t, Steps p.tables e below (T6.setTop (mkF m 46 #[.val (.ref r0), .val (.int (2 : Int32)), .val (.ref r2), .val (.int (2 : Int32)), .val (.int (2 : Int32)), .val (.int (2 : Int32)), .val (.int v1)] [(.int (2 : Int32))])) t → Steps p.tables e below (s₁.setTop (entryFrame m #[(.ref r0), (.int (0 : Int32)), (.ref r2), (.int (0 : Int32)), (.int (2 : Int32))] 7)) t := by
    intro t k
    refine k5 _ ?_
    show Steps p.tables e below (T3.setTop (mkF m 31 #[.val (.ref r0), .val (.int (1 : Int32)), .val (.ref r2), .val (.int (1 : Int32)), .val (.int (2 : Int32)), .val (.int (1 : Int32)), .val (.int v1)] [(.int (v1.toInt8.toInt32)), (.int (1 : Int32)), (.ref r2)])) _
    refine st6 _ ?_
    show Steps p.tables e below (T6.setTop (mkF m 32 #[.val (.ref r0), .val (.int (1 : Int32)), .val (.ref r2), .val (.int (1 : Int32)), .val (.int (2 : Int32)), .val (.int (1 : Int32)), .val (.int v1)] [])) _
    refine XS.iinc X6.here hx rfl (hb hby d29_32) rfl (l' := #[.val (.ref r0), .val (.int (2 : Int32)), .val (.ref r2), .val (.int (1 : Int32)), .val (.int (2 : Int32)), .val (.int (1 : Int32)), .val (.int v1)]) rfl ?_
    show Steps p.tables e below (T6.setTop (mkF m 35 #[.val (.ref r0), .val (.int (2 : Int32)), .val (.ref r2), .val (.int (1 : Int32)), .val (.int (2 : Int32)), .val (.int (1 : Int32)), .val (.int v1)] [])) _
    refine XS.iinc X6.here hx rfl (hb hby d29_35) rfl (l' := #[.val (.ref r0), .val (.int (2 : Int32)), .val (.ref r2), .val (.int (2 : Int32)), .val (.int (2 : Int32)), .val (.int (1 : Int32)), .val (.int v1)]) rfl ?_
    show Steps p.tables e below (T6.setTop (mkF m 38 #[.val (.ref r0), .val (.int (2 : Int32)), .val (.ref r2), .val (.int (2 : Int32)), .val (.int (2 : Int32)), .val (.int (1 : Int32)), .val (.int v1)] [])) _
    refine XS.iinc X6.here hx rfl (hb hby d29_38) rfl (l' := #[.val (.ref r0), .val (.int (2 : Int32)), .val (.ref r2), .val (.int (2 : Int32)), .val (.int (2 : Int32)), .val (.int (2 : Int32)), .val (.int v1)]) rfl ?_
    show Steps p.tables e below (T6.setTop (mkF m 41 #[.val (.ref r0), .val (.int (2 : Int32)), .val (.ref r2), .val (.int (2 : Int32)), .val (.int (2 : Int32)), .val (.int (2 : Int32)), .val (.int v1)] [])) _
    refine XS.goto X6.here hx rfl (pc0 := 41) (pc' := 3) rfl (hb hby d29_41) (by decide) (by decide) ?_
    show Steps p.tables e below (T6.setTop (mkF m 3 #[.val (.ref r0), .val (.int (2 : Int32)), .val (.ref r2), .val (.int (2 : Int32)), .val (.int (2 : Int32)), .val (.int (2 : Int32)), .val (.int v1)] [])) _
    refine XS.iload X6.here hx rfl (hb hby d29_3) rfl ?_
    show Steps p.tables e below (T6.setTop (mkF m 5 #[.val (.ref r0), .val (.int (2 : Int32)), .val (.ref r2), .val (.int (2 : Int32)), .val (.int (2 : Int32)), .val (.int (2 : Int32)), .val (.int v1)] [(.int (2 : Int32))])) _
    refine XS.iload X6.here hx rfl (hb hby d29_5) rfl ?_
    show Steps p.tables e below (T6.setTop (mkF m 7 #[.val (.ref r0), .val (.int (2 : Int32)), .val (.ref r2), .val (.int (2 : Int32)), .val (.int (2 : Int32)), .val (.int (2 : Int32)), .val (.int v1)] [(.int (2 : Int32)), (.int (2 : Int32))])) _
    refine XS.icmpYes X6.here hx rfl (pc0 := 7) (pc' := 44) rfl (hb hby d29_7) rfl (flt (by decide)).2.1 (by decide) (by decide) ?_
    show Steps p.tables e below (T6.setTop (mkF m 44 #[.val (.ref r0), .val (.int (2 : Int32)), .val (.ref r2), .val (.int (2 : Int32)), .val (.int (2 : Int32)), .val (.int (2 : Int32)), .val (.int v1)] [])) _
    refine XS.iload X6.here hx rfl (hb hby d29_44) rfl ?_
    exact k
  obtain ⟨fs, hr, hrun, hended, hW, hsame⟩ := X6.leave (v := some (.int (2 : Int32))) (fun h => by rw [Bd.returns] at h; cases h)
  refine ⟨_, _, k7 _ ?_, hrun, hended, _, _, rfl, ?_, ⟨_, rfl⟩, hW, hsame.mono (by decide) (by decide)⟩
  · exact retOut X6 hx Bd.returns rfl (Or.inl ⟨rfl, Or.inl rfl, _, rfl⟩) (hb hby d29_46) hr
  · show own_CP Z r2 cb (2 : Int32) [(.int ((v0.toInt8.toInt32).toInt8.toInt32)), (.int ((v1.toInt8.toInt32).toInt8.toInt32))] h0 n0 _ T6.heap _
    rw [e6]
    exact ⟨rfl, N6, K0, Vd⟩
theorem ef_rmC2_2 (m : MethodId) (x0 : Addr) (x1 : Int32) (x2 : Int32) : entryFrame m #[(.ref x0), (.int x1), (.int x2)] 6 = mkF m 0 #[.val (.ref x0), .val (.int x1), .val (.int x2), .unset, .unset, .unset] [] := by first | (simp [entryFrame, mkF, argsToLocals, Value.category]; done) | rfl
theorem d28_0 : decode jdk_52_method_16_code 0 = .ok (.iload_n 2, 1) := by decide +kernel
theorem d28_1 : decode jdk_52_method_16_code 1 = .ok (.newarray .byte, 2) := by decide +kernel
theorem d28_3 : decode jdk_52_method_16_code 3 = .ok (.astore_n 3, 1) := by decide +kernel
theorem d28_4 : decode jdk_52_method_16_code 4 = .ok (.aload_n 0, 1) := by decide +kernel
theorem d28_5 : decode jdk_52_method_16_code 5 = .ok (.iload_n 1, 1) := by decide +kernel
theorem d28_6 : decode jdk_52_method_16_code 6 = .ok (.aload_n 3, 1) := by decide +kernel
theorem d28_7 : decode jdk_52_method_16_code 7 = .ok (.iconst 0, 1) := by decide +kernel
theorem d28_8 : decode jdk_52_method_16_code 8 = .ok (.iload_n 2, 1) := by decide +kernel
theorem pd_1 : parseMethodDescriptor "([CI[BII)I" = some ⟨[(.array .char), .int, (.array .byte), .int, .int], some .int⟩ := by decide +kernel
theorem d28_9 : decode jdk_52_method_16_code 9 = .ok (.invokestatic 115, 3) := by decide +kernel
theorem d28_12 : decode jdk_52_method_16_code 12 = .ok (.istore 4, 2) := by decide +kernel
theorem d28_14 : decode jdk_52_method_16_code 14 = .ok (.iload 4, 2) := by decide +kernel
theorem d28_16 : decode jdk_52_method_16_code 16 = .ok (.iload_n 2, 1) := by decide +kernel
theorem d28_17 : decode jdk_52_method_16_code 17 = .ok (.if_icmp .eq 40, 3) := by decide +kernel
theorem d28_57 : decode jdk_52_method_16_code 57 = .ok (.aload_n 3, 1) := by decide +kernel
theorem d28_58 : decode jdk_52_method_16_code 58 = .ok (.areturn, 1) := by decide +kernel
set_option maxRecDepth 65536 in
set_option maxHeartbeats 40000000 in
theorem rmC2_2 (l : Launch) (Z : State) (a0 : Array Value) (hw : ∀ d ∈ tables_1, d.before a0 Z = true) (ws : List Jvm.Cond) (r0 : Addr) (ck : ClassId) (v0 v1 : Int32) (h0 : Heap) (n0 : Nat) (Z0 : n0 ≤ h0.size) (Vs : Arv Z h0 r0 ck .char (2 : Int32) [(.int v0), (.int v1)] (.int (0 : Int32))) (hv0 : ¬ (255 : Int32) < v0) (hv1 : ¬ (255 : Int32) < v1) :
    MetFree l (⟨"java/lang/StringUTF16", "compress", "([CII)[B"⟩ : MethodName) (head1 (Jvm.Cond.code (⟨"java/lang/StringUTF16", "compress", "([CII)[B"⟩ : MethodName) jdk_52_method_16_code 6 (some (.array .byte)) :: ws) ({ frames := 1, cells := 1, slots := 2, locals := 18 } : Room)) (fun a U => a = #[(.ref r0), (.int (0 : Int32)), (.int (2 : Int32))] ∧ Z.Warmed39 U.vm ∧ U.heap = h0) (fun _ _ _ _ _ => True) (fun _ U o U' => ∃ v L, o = .returned v ∧ own_CQ Z (2 : Int32) [(.int ((v0.toInt8.toInt32).toInt8.toInt32)), (.int ((v1.toInt8.toInt32).toInt8.toInt32))] h0 n0 v U'.heap L ∧ FrameEnd U o U' L ({ frames := 1, cells := 1, slots := 2, locals := 18 } : Room).cells ({ frames := 1, cells := 1, slots := 2, locals := 18 } : Room).slots) := by
  refine MetFree.of_bodySF (plainFor_of_name pn_1) hisR ?_
  intro p e s m args below meth c s₁ Bd hml0 hP hK
  obtain ⟨rfl, hZ, hh⟩ := hP
  have hx := Bd.exec
  have hby := Bd.bytes
  have hml : c.maxLocals = 6 := hml0
  have hown : s.vm.findClass "java/lang/StringUTF16" = some m.cls := findClass_of_methodNamed Bd.named
  have hnm := (name_of_methodNamed Bd.named Bd.method).1
  have X0 : Stand p l e ({ frames := 1, cells := 1, slots := 2, locals := 18 } : Room) s m #[(.ref r0), (.int (0 : Int32)), (.int (2 : Int32))] below meth c s₁ [] 0 0 := Stand.of_body Bd
  have e0 : s₁.heap = h0 := by rw [← hh, Bd.state]; rfl
  have N0 := Fr.nil n0
  have pre0 : ∀ t, Steps p.tables e below (s₁.setTop (mkF m 0 #[.val (.ref r0), .val (.int (0 : Int32)), .val (.int (2 : Int32)), .unset, .unset, .unset] [])) t → Steps p.tables e below (s₁.setTop (entryFrame m #[(.ref r0), (.int (0 : Int32)), (.int (2 : Int32))] 6)) t := fun t k => castTop (ef_rmC2_2 m r0 (0 : Int32) (2 : Int32)) k
  have K0 : Keep h0 h0 [] := Keep.refl _ _
  obtain ⟨T1, h1, c1, X1, e1, E1, A1, st1⟩ := newP X0 hx hZ (hw _ (List.mem_of_getElem? (i := 19) rfl)) e0 (g := (mkF m 1 #[.val (.ref r0), .val (.int (0 : Int32)), .val (.int (2 : Int32)), .unset, .unset, .unset] [(.int (2 : Int32))])) rfl (hb hby d28_1) rfl (by decide) (cap := 2) (by decide) (by decide) (by decide) (by decide)
  obtain ⟨b1, g1⟩ : ∃ z, z = h0.size := ⟨_, rfl⟩
  rw [← g1] at A1 st1
  have ne_r0_b1 : r0 ≠ b1 := Nat.ne_of_lt (Nat.lt_of_lt_of_le Vs.lt (Nat.le_of_eq g1.symm))
  have gn_b1 : n0 ≤ b1 := Nat.le_trans Z0 (Nat.le_of_eq g1.symm)
  have sz_b1_K0 : h0.size ≤ b1 := Nat.le_trans K0.1 (Nat.le_of_eq g1.symm)
  replace Vs := Vs.ext E1
  replace K0 := K0.ext E1
  have Zs1 : n0 ≤ h1.size := Nat.le_trans Z0 E1.1
  have V_b1 : Arv Z h1 b1 c1 .byte (2 : Int32) [(.int (0 : Int32)), (.int (0 : Int32))] (.int (0 : Int32)) := (Arv.new A1 (by decide)).pad (pad_rep [] (.int (0 : Int32)) 2)
  obtain ⟨_, _, ⟨T2, L2, k2_, n2⟩, -, X2, ⟨Lc2, hQ2, l2, y2, z2⟩, st2⟩ := Jvm.LawKit.callS X1 hx (y := (⟨"java/lang/StringUTF16", "compress", "([CI[BII)I"⟩ : MethodName)) hown (mvT hZ (hw _ (List.mem_of_getElem? (i := 145) rfl))) (mvT hZ (hw _ (List.mem_of_getElem? (i := 146) rfl))) (mvT hZ (hw _ (List.mem_of_getElem? (i := 143) rfl))) (mvT hZ (hw _ (List.mem_of_getElem? (i := 147) rfl))) (by decide) (backOf (W := 0) (rmC1_2 l Z a0 hw [] r0 b1 ck c1 v0 v1 h1 n0 Zs1 gn_b1 ne_r0_b1 Vs V_b1 hv0 hv1) hZ (hw _ (List.mem_of_getElem? (i := 147) rfl)) (hw _ (List.mem_of_getElem? (i := 143) rfl)) (by decide) (by decide)) (g := (mkF m 9 #[.val (.ref r0), .val (.int (0 : Int32)), .val (.int (2 : Int32)), .val (.ref b1), .unset, .unset] [(.int (2 : Int32)), (.int (0 : Int32)), (.ref b1), (.int (0 : Int32)), (.ref r0)])) rfl (by rw [hml]; rfl) (argsL := [(.ref r0), (.int (0 : Int32)), (.ref b1), (.int (0 : Int32)), (.int (2 : Int32))]) (rest := []) (lenOf pd_1 rfl) rfl (by show 2 * 0 + _ ≤ _; exact Nat.le_of_eq rfl) (hb hby d28_9) (fun _ _ => ⟨rfl, e1, (by decide : 1 + 0 ≤ _), (by decide : 2 + 0 ≤ _)⟩)
  dsimp only [Pt.U, Pt.locs, Pt.cells, Pt.slots] at X2 l2 y2 z2 st2 hQ2
  subst l2 y2 z2
  obtain ⟨rfl, Nq2, Kq2, Vq2⟩ := hQ2
  have N2 := Fr.app N0 Nq2
  have Zs2 : n0 ≤ T2.heap.size := Nat.le_trans Zs1 Kq2.1
  replace Vs := Vs.keep Kq2 (fun q => ne_r0_b1 (List.mem_singleton.mp q))
  replace K0 := K0.trans Kq2 (fun x hx => by cases List.mem_singleton.mp hx; exact (Or.inr sz_b1_K0))
  have k3 : ∀ t, Steps p.tables e below (T2.setTop (mkF m 58 #[.val (.ref r0), .val (.int (0 : Int32)), .val (.int (2 : Int32)), .val (.ref b1), .val (.int (2 : Int32)), .unset] [(.ref b1)])) t → Steps p.tables e below (s₁.setTop (entryFrame m #[(.ref r0), (.int (0 : Int32)), (.int (2 : Int32))] 6)) t := by
    intro t k
    refine pre0 _ ?_
    show Steps p.tables e below (s₁.setTop (mkF m 0 #[.val (.ref r0), .val (.int (0 : Int32)), .val (.int (2 : Int32)), .unset, .unset, .unset] [])) _
    refine XS.iloadN X0.here hx rfl (hb hby d28_0) rfl ?_
    show Steps p.tables e below (s₁.setTop (mkF m 1 #[.val (.ref r0), .val (.int (0 : Int32)), .val (.int (2 : Int32)), .unset, .unset, .unset] [(.int (2 : Int32))])) _
    refine st1 _ ?_
    show Steps p.tables e below (T1.setTop (mkF m 3 #[.val (.ref r0), .val (.int (0 : Int32)), .val (.int (2 : Int32)), .unset, .unset, .unset] [(.ref b1)])) _
    refine XS.astoreN X1.here hx rfl (hb hby d28_3) rfl rfl (l' := #[.val (.ref r0), .val (.int (0 : Int32)), .val (.int (2 : Int32)), .val (.ref b1), .unset, .unset]) rfl ?_
    show Steps p.tables e below (T1.setTop (mkF m 4 #[.val (.ref r0), .val (.int (0 : Int32)), .val (.int (2 : Int32)), .val (.ref b1), .unset, .unset] [])) _
    refine XS.aloadN X1.here hx rfl (hb hby d28_4) rfl rfl ?_
    show Steps p.tables e below (T1.setTop (mkF m 5 #[.val (.ref r0), .val (.int (0 : Int32)), .val (.int (2 : Int32)), .val (.ref b1), .unset, .unset] [(.ref r0)])) _
    refine XS.iloadN X1.here hx rfl (hb hby d28_5) rfl ?_
    show Steps p.tables e below (T1.setTop (mkF m 6 #[.val (.ref r0), .val (.int (0 : Int32)), .val (.int (2 : Int32)), .val (.ref b1), .unset, .unset] [(.int (0 : Int32)), (.ref r0)])) _
    refine XS.aloadN X1.here hx rfl (hb hby d28_6) rfl rfl ?_
    show Steps p.tables e below (T1.setTop (mkF m 7 #[.val (.ref r0), .val (.int (0 : Int32)), .val (.int (2 : Int32)), .val (.ref b1), .unset, .unset] [(.ref b1), (.int (0 : Int32)), (.ref r0)])) _
    refine XS.iconst X1.here hx rfl (hb hby d28_7) ?_
    show Steps p.tables e below (T1.setTop (mkF m 8 #[.val (.ref r0), .val (.int (0 : Int32)), .val (.int (2 : Int32)), .val (.ref b1), .unset, .unset] [(.int (0 : Int32)), (.ref b1), (.int (0 : Int32)), (.ref r0)])) _
    refine XS.iloadN X1.here hx rfl (hb hby d28_8) rfl ?_
    show Steps p.tables e below (T1.setTop (mkF m 9 #[.val (.ref r0), .val (.int (0 : Int32)), .val (.int (2 : Int32)), .val (.ref b1), .unset, .unset] [(.int (2 : Int32)), (.int (0 : Int32)), (.ref b1), (.int (0 : Int32)), (.ref r0)])) _
    refine st2 _ ?_
    show Steps p.tables e below (T2.setTop (mkF m 12 #[.val (.ref r0), .val (.int (0 : Int32)), .val (.int (2 : Int32)), .val (.ref b1), .unset, .unset] [(.int (2 : Int32))])) _
    refine XS.istore X2.here hx rfl (hb hby d28_12) rfl (l' := #[.val (.ref r0), .val (.int (0 : Int32)), .val (.int (2 : Int32)), .val (.ref b1), .val (.int (2 : Int32)), .unset]) rfl ?_
    show Steps p.tables e below (T2.setTop (mkF m 14 #[.val (.ref r0), .val (.int (0 : Int32)), .val (.int (2 : Int32)), .val (.ref b1), .val (.int (2 : Int32)), .unset] [])) _
    refine XS.iload X2.here hx rfl (hb hby d28_14) rfl ?_
    show Steps p.tables e below (T2.setTop (mkF m 16 #[.val (.ref r0), .val (.int (0 : Int32)), .val (.int (2 : Int32)), .val (.ref b1), .val (.int (2 : Int32)), .unset] [(.int (2 : Int32))])) _
    refine XS.iloadN X2.here hx rfl (hb hby d28_16) rfl ?_
    show Steps p.tables e below (T2.setTop (mkF m 17 #[.val (.ref r0), .val (.int (0 : Int32)), .val (.int (2 : Int32)), .val (.ref b1), .val (.int (2 : Int32)), .unset] [(.int (2 : Int32)), (.int (2 : Int32))])) _
    refine XS.icmpYes X2.here hx rfl (pc0 := 17) (pc' := 57) rfl (hb hby d28_17) rfl (teq (by decide)).1 (by decide) (by decide) ?_
    show Steps p.tables e below (T2.setTop (mkF m 57 #[.val (.ref r0), .val (.int (0 : Int32)), .val (.int (2 : Int32)), .val (.ref b1), .val (.int (2 : Int32)), .unset] [])) _
    refine XS.aloadN X2.here hx rfl (hb hby d28_57) rfl rfl ?_
    exact k
  obtain ⟨fs, hr, hrun, hended, hW, hsame⟩ := X2.leave (v := some (.ref b1)) (fun h => by rw [Bd.returns] at h; cases h)
  refine ⟨_, _, k3 _ ?_, hrun, hended, _, _, rfl, ?_, ⟨_, rfl⟩, hW, hsame.mono (by decide) (by decide)⟩
  · exact retOut X2 hx Bd.returns rfl (Or.inr (Or.inr (Or.inr (Or.inr ⟨rfl, rfl, rfl⟩)))) (hb hby d28_58) hr
  · show own_CQ Z (2 : Int32) [(.int ((v0.toInt8.toInt32).toInt8.toInt32)), (.int ((v1.toInt8.toInt32).toInt8.toInt32))] h0 n0 _ T2.heap _
    exact ⟨_, rfl, N2, K0, sz_b1_K0, gn_b1, _, Vq2⟩
theorem ef_rmCF_2 (m : MethodId) (x0 : Addr) (x1 : Int32) : entryFrame m #[(.ref x0), (.int x1)] 2 = mkF m 0 #[.val (.ref x0), .val (.int x1)] [] := by first | (simp [entryFrame, mkF, argsToLocals, Value.category]; done) | rfl
theorem d30_0 : decode jdk_52_method_15_code 0 = .ok (.iload_n 1, 1) := by decide +kernel
theorem d30_1 : decode jdk_52_method_15_code 1 = .ok (.aload_n 0, 1) := by decide +kernel
theorem d30_2 : decode jdk_52_method_15_code 2 = .ok (.arraylength, 1) := by decide +kernel
theorem d30_3 : decode jdk_52_method_15_code 3 = .ok (.isub, 1) := by decide +kernel
theorem d30_4 : decode jdk_52_method_15_code 4 = .ok (.bipush 31, 2) := by decide +kernel
theorem d30_6 : decode jdk_52_method_15_code 6 = .ok (.iushr, 1) := by decide +kernel
theorem d30_7 : decode jdk_52_method_15_code 7 = .ok (.i2b, 1) := by decide +kernel
theorem d30_8 : decode jdk_52_method_15_code 8 = .ok (.ireturn, 1) := by decide +kernel
def own_cf2  : Int32 := (0 : Int32)
set_option maxRecDepth 65536 in
set_option maxHeartbeats 40000000 in
theorem rmCF_2 (l : Launch) (Z : State) (a0 : Array Value) (hw : ∀ d ∈ tables_1, d.before a0 Z = true) (ws : List Jvm.Cond) (r0 : Addr) (cb : ClassId) (vs0 : List Value) (h0 : Heap) (n0 : Nat) (Va : Arv Z h0 r0 cb .byte (2 : Int32) vs0 (.int (0 : Int32))) :
    MetFree l (⟨"java/lang/StringUTF16", "coderFromArrayLen", "([BI)B"⟩ : MethodName) (head1 (Jvm.Cond.code (⟨"java/lang/StringUTF16", "coderFromArrayLen", "([BI)B"⟩ : MethodName) jdk_52_method_15_code 2 (some .byte) :: ws) ({ frames := 0, cells := 0, slots := 0, locals := 0 } : Room)) (fun a U => a = #[(.ref r0), (.int (2 : Int32))] ∧ Z.Warmed39 U.vm ∧ U.heap = h0) (fun _ _ _ _ _ => True) (fun _ U o U' => ∃ v L, o = .returned v ∧ own_Q (some (.int (own_cf2 ))) h0 n0 v U'.heap L ∧ FrameEnd U o U' L ({ frames := 0, cells := 0, slots := 0, locals := 0 } : Room).cells ({ frames := 0, cells := 0, slots := 0, locals := 0 } : Room).slots) := by
  refine MetFree.of_bodySF (plainFor_of_name pn_1) hisR ?_
  intro p e s m args below meth c s₁ Bd hml0 hP hK
  obtain ⟨rfl, hZ, hh⟩ := hP
  have hx := Bd.exec
  have hby := Bd.bytes
  have hml : c.maxLocals = 2 := hml0
  have hown : s.vm.findClass "java/lang/StringUTF16" = some m.cls := findClass_of_methodNamed Bd.named
  have hnm := (name_of_methodNamed Bd.named Bd.method).1
  have X0 : Stand p l e ({ frames := 0, cells := 0, slots := 0, locals := 0 } : Room) s m #[(.ref r0), (.int (2 : Int32))] below meth c s₁ [] 0 0 := Stand.of_body Bd
  have e0 : s₁.heap = h0 := by rw [← hh, Bd.state]; rfl
  have N0 := Fr.nil n0
  have pre0 : ∀ t, Steps p.tables e below (s₁.setTop (mkF m 0 #[.val (.ref r0), .val (.int (2 : Int32))] [])) t → Steps p.tables e below (s₁.setTop (entryFrame m #[(.ref r0), (.int (2 : Int32))] 2)) t := fun t k => castTop (ef_rmCF_2 m r0 (2 : Int32)) k
  have k2 : ∀ t, Steps p.tables e below (s₁.setTop (mkF m 8 #[.val (.ref r0), .val (.int (2 : Int32))] [(.int (0 : Int32))])) t → Steps p.tables e below (s₁.setTop (entryFrame m #[(.ref r0), (.int (2 : Int32))] 2)) t := by
    intro t k
    refine pre0 _ ?_
    show Steps p.tables e below (s₁.setTop (mkF m 0 #[.val (.ref r0), .val (.int (2 : Int32))] [])) _
    refine XS.iloadN X0.here hx rfl (hb hby d30_0) rfl ?_
    show Steps p.tables e below (s₁.setTop (mkF m 1 #[.val (.ref r0), .val (.int (2 : Int32))] [(.int (2 : Int32))])) _
    refine XS.aloadN X0.here hx rfl (hb hby d30_1) rfl rfl ?_
    show Steps p.tables e below (s₁.setTop (mkF m 2 #[.val (.ref r0), .val (.int (2 : Int32))] [(.ref r0), (.int (2 : Int32))])) _
    obtain ⟨cl_1, Ar_1, -, S_1, N_1, -, -⟩ := id Va
    refine X0.arraylength hx (by rw [e0]; exact Ar_1.1) (State.isArrayOf_alike hZ.alike Ar_1.2.1) (g := (mkF m 2 #[.val (.ref r0), .val (.int (2 : Int32))] [(.ref r0), (.int (2 : Int32))])) rfl rfl (hb hby d30_2) _ ?_
    rw [len_of S_1 N_1]
    show Steps p.tables e below (s₁.setTop (mkF m 3 #[.val (.ref r0), .val (.int (2 : Int32))] [(.int (2 : Int32)), (.int (2 : Int32))])) _
    refine XS.isub X0.here hx rfl (hb hby d30_3) rfl ?_
    show Steps p.tables e below (s₁.setTop (mkF m 4 #[.val (.ref r0), .val (.int (2 : Int32))] [(.int (0 : Int32))])) _
    refine XS.bipush X0.here hx rfl (hb hby d30_4) ?_
    show Steps p.tables e below (s₁.setTop (mkF m 6 #[.val (.ref r0), .val (.int (2 : Int32))] [(.int (31 : Int32)), (.int (0 : Int32))])) _
    refine XS.iushr X0.here hx rfl (hb hby d30_6) rfl ?_
    show Steps p.tables e below (s₁.setTop (mkF m 7 #[.val (.ref r0), .val (.int (2 : Int32))] [(.int (0 : Int32))])) _
    refine XS.i2b X0.here hx rfl (hb hby d30_7) rfl ?_
    exact k
  obtain ⟨fs, hr, hrun, hended, hW, hsame⟩ := X0.leave (v := some (.int (0 : Int32))) (fun h => by rw [Bd.returns] at h; cases h)
  refine ⟨_, _, k2 _ ?_, hrun, hended, _, _, rfl, ?_, ⟨_, rfl⟩, hW, hsame.mono (by decide) (by decide)⟩
  · exact retN X0 hx (t := .byte) Bd.returns (by simp) (hb hby d30_8) hr
  · show own_Q (some (.int (own_cf2 ))) h0 n0 _ s₁.heap _
    rw [e0]
    exact ⟨rfl, N0, rfl⟩
theorem ef_rmS2_2 (m : MethodId) (x0 : Addr) (x1 : Addr) (x2 : Int32) (x3 : Int32) : entryFrame m #[(.ref x0), (.ref x1), (.int x2), (.int x3), .null] 6 = mkF m 0 #[.val (.ref x0), .val (.ref x1), .val (.int x2), .val (.int x3), .val .null, .unset] [] := by first | (simp [entryFrame, mkF, argsToLocals, Value.category]; done) | rfl
theorem d3_27 : decode jdk_42_method_149_code 27 = .ok (.getstatic 38, 3) := by decide +kernel
theorem d3_30 : decode jdk_42_method_149_code 30 = .ok (.ifCond .eq 28, 3) := by decide +kernel
theorem d3_33 : decode jdk_42_method_149_code 33 = .ok (.aload_n 1, 1) := by decide +kernel
theorem d3_34 : decode jdk_42_method_149_code 34 = .ok (.iload_n 2, 1) := by decide +kernel
theorem d3_35 : decode jdk_42_method_149_code 35 = .ok (.iload_n 3, 1) := by decide +kernel
theorem pd_2 : parseMethodDescriptor "([CII)[B" = some ⟨[(.array .char), .int, .int], some (.array .byte)⟩ := by decide +kernel
theorem d3_36 : decode jdk_42_method_149_code 36 = .ok (.invokestatic 177, 3) := by decide +kernel
theorem d3_39 : decode jdk_42_method_149_code 39 = .ok (.astore 5, 2) := by decide +kernel
theorem d3_41 : decode jdk_42_method_149_code 41 = .ok (.aload_n 0, 1) := by decide +kernel
theorem d3_42 : decode jdk_42_method_149_code 42 = .ok (.aload 5, 2) := by decide +kernel
theorem d3_44 : decode jdk_42_method_149_code 44 = .ok (.iload_n 3, 1) := by decide +kernel
theorem pd_3 : parseMethodDescriptor "([BI)B" = some ⟨[(.array .byte), .int], some .byte⟩ := by decide +kernel
theorem d3_45 : decode jdk_42_method_149_code 45 = .ok (.invokestatic 47, 3) := by decide +kernel
theorem d3_48 : decode jdk_42_method_149_code 48 = .ok (.putfield 15, 3) := by decide +kernel
theorem d3_51 : decode jdk_42_method_149_code 51 = .ok (.aload_n 0, 1) := by decide +kernel
theorem d3_52 : decode jdk_42_method_149_code 52 = .ok (.aload 5, 2) := by decide +kernel
theorem d3_54 : decode jdk_42_method_149_code 54 = .ok (.putfield 9, 3) := by decide +kernel
theorem d3_57 : decode jdk_42_method_149_code 57 = .ok (.return_, 1) := by decide +kernel
set_option maxRecDepth 65536 in
set_option maxHeartbeats 40000000 in
theorem rmS2_2 (l : Launch) (Z : State) (a0 : Array Value) (hw : ∀ d ∈ tables_1, d.before a0 Z = true) (ws : List Jvm.Cond) (r0 : Addr) (r1 : Addr) (ck : ClassId) (v0 v1 : Int32) (w_CS : Int32) (w_E : Addr) (w_F : Value) (h0 : Heap) (n0 : Nat) (hG : own_GC Z w_CS w_E w_F) (O0 : Old Z n0 h0) (Z0 : n0 ≤ h0.size) (g_r0 : n0 ≤ r0) (E_r0 : Exa Z h0 r0 "java/lang/String") (F_value_r0 : Fld Z h0 r0 "java/lang/String" "value" "[B" .null) (F_coder_r0 : Fld Z h0 r0 "java/lang/String" "coder" "B" (.int (0 : Int32))) (hne : r1 ≠ r0) (Vs : Arv Z h0 r1 ck .char (2 : Int32) [(.int v0), (.int v1)] (.int (0 : Int32))) (hv0 : ¬ (255 : Int32) < v0) (hv1 : ¬ (255 : Int32) < v1) :
    MetFree l (⟨"java/lang/String", "<init>", "([CIILjava/lang/Void;)V"⟩ : MethodName) (head1 (Jvm.Cond.code (⟨"java/lang/String", "<init>", "([CIILjava/lang/Void;)V"⟩ : MethodName) jdk_42_method_149_code 6 none :: ws) ({ frames := 2, cells := 1, slots := 2, locals := 35 } : Room)) (fun a U => a = #[(.ref r0), (.ref r1), (.int (0 : Int32)), (.int (2 : Int32)), .null] ∧ Z.Warmed39 U.vm ∧ U.heap = h0) (fun _ _ _ _ _ => True) (fun _ U o U' => ∃ v L, o = .returned v ∧ own_SI Z r0 (2 : Int32) [(.int ((v0.toInt8.toInt32).toInt8.toInt32)), (.int ((v1.toInt8.toInt32).toInt8.toInt32))] h0 n0 v U'.heap L ∧ FrameEnd U o U' L ({ frames := 2, cells := 1, slots := 2, locals := 35 } : Room).cells ({ frames := 2, cells := 1, slots := 2, locals := 35 } : Room).slots) := by
  refine MetFree.of_bodySF (plainFor_of_name pn_0) hisR ?_
  intro p e s m args below meth c s₁ Bd hml0 hP hK
  obtain ⟨rfl, hZ, hh⟩ := hP
  have hx := Bd.exec
  have hby := Bd.bytes
  have hml : c.maxLocals = 6 := hml0
  have hown : s.vm.findClass "java/lang/String" = some m.cls := findClass_of_methodNamed Bd.named
  have hnm := (name_of_methodNamed Bd.named Bd.method).1
  have X0 : Stand p l e ({ frames := 2, cells := 1, slots := 2, locals := 35 } : Room) s m #[(.ref r0), (.ref r1), (.int (0 : Int32)), (.int (2 : Int32)), .null] below meth c s₁ [] 0 0 := Stand.of_body Bd
  have e0 : s₁.heap = h0 := by rw [← hh, Bd.state]; rfl
  have N0 := Fr.nil n0
  have pre0 : ∀ t, Steps p.tables e below (s₁.setTop (mkF m 0 #[.val (.ref r0), .val (.ref r1), .val (.int (0 : Int32)), .val (.int (2 : Int32)), .val .null, .unset] [])) t → Steps p.tables e below (s₁.setTop (entryFrame m #[(.ref r0), (.ref r1), (.int (0 : Int32)), (.int (2 : Int32)), .null] 6)) t := fun t k => castTop (ef_rmS2_2 m r0 r1 (0 : Int32) (2 : Int32)) k
  have hG' := hG
  obtain ⟨S_CS, hCS, S_E, E_E, F_E, S_F, hF⟩ := hG'
  have K0 : Keep h0 h0 [r0] := Keep.refl _ _
  obtain ⟨T1, X1, e1, st1⟩ := initO X0 hx hZ hown (hw _ (List.mem_of_getElem? (i := 15) rfl)) (hw _ (List.mem_of_getElem? (i := 16) rfl)) (hw _ (List.mem_of_getElem? (i := 17) rfl)) e0 (g := (mkF m 1 #[.val (.ref r0), .val (.ref r1), .val (.int (0 : Int32)), .val (.int (2 : Int32)), .val .null, .unset] [(.ref r0)])) rfl (by rw [hml]; rfl) rfl (hb hby d3_1) (by decide) (W := 0) (by show 2 * 0 + _ ≤ _; exact Nat.le_of_eq rfl) (by decide)
  obtain ⟨T2, X2, e2, st2⟩ := getS2 X1 hx hZ hown (host := "") (Or.inl (hw _ (List.mem_of_getElem? (i := 76) rfl))) Via.refl e1 (S_CS.ext O0.2) (g := (mkF m 27 #[.val (.ref r0), .val (.ref r1), .val (.int (0 : Int32)), .val (.int (2 : Int32)), .val .null, .unset] [])) rfl (hb hby d3_27)
  obtain ⟨_, _, ⟨T3, L3, k3_, n3⟩, -, X3, ⟨Lc3, hQ3, l3, y3, z3⟩, st3⟩ := Jvm.LawKit.callS X2 hx (y := (⟨"java/lang/StringUTF16", "compress", "([CII)[B"⟩ : MethodName)) hown (mvT hZ (hw _ (List.mem_of_getElem? (i := 141) rfl))) (mvT hZ (hw _ (List.mem_of_getElem? (i := 142) rfl))) (mvT hZ (hw _ (List.mem_of_getElem? (i := 143) rfl))) (mvT hZ (hw _ (List.mem_of_getElem? (i := 144) rfl))) (by decide) (backOf (W := 0) (rmC2_2 l Z a0 hw [] r1 ck v0 v1 h0 n0 (O0.1 ▸ O0.2.1) Vs hv0 hv1) hZ (hw _ (List.mem_of_getElem? (i := 144) rfl)) (hw _ (List.mem_of_getElem? (i := 143) rfl)) (by decide) (by decide)) (g := (mkF m 36 #[.val (.ref r0), .val (.ref r1), .val (.int (0 : Int32)), .val (.int (2 : Int32)), .val .null, .unset] [(.int (2 : Int32)), (.int (0 : Int32)), (.ref r1)])) rfl (by rw [hml]; rfl) (argsL := [(.ref r1), (.int (0 : Int32)), (.int (2 : Int32))]) (rest := []) (lenOf pd_2 rfl) rfl (by show 2 * 0 + _ ≤ _; exact Nat.le_of_eq rfl) (hb hby d3_36) (fun _ _ => ⟨rfl, e2, (by decide : 0 + 1 ≤ _), (by decide : 0 + 2 ≤ _)⟩)
  dsimp only [Pt.U, Pt.locs, Pt.cells, Pt.slots] at X3 l3 y3 z3 st3 hQ3
  subst l3 y3 z3
  obtain ⟨b3, rfl, Nq3, Kq3, szq3, gn_b3, kq3, Vq3⟩ := hQ3
  have N3 := Fr.app N0 Nq3
  have ne_r1_b3 : r1 ≠ b3 := Nat.ne_of_lt (Nat.lt_of_lt_of_le Vs.lt szq3)
  have ne_r0_b3 : r0 ≠ b3 := Nat.ne_of_lt (Nat.lt_of_lt_of_le E_r0.lt szq3)
  have sz_b3_K0 : h0.size ≤ b3 := Nat.le_trans K0.1 szq3
  replace Vs := Vs.keep Kq3 List.not_mem_nil
  replace E_r0 := E_r0.keep Kq3
  replace F_value_r0 := F_value_r0.keep Kq3 List.not_mem_nil
  replace F_coder_r0 := F_coder_r0.keep Kq3 List.not_mem_nil
  replace O0 := O0.keep Kq3 (fun x hx => nomatch hx)
  replace K0 := K0.trans Kq3 (fun x hx => nomatch hx)
  obtain ⟨_, _, ⟨T4, L4, k4_, n4⟩, -, X4, ⟨Lc4, hQ4, l4, y4, z4⟩, st4⟩ := Jvm.LawKit.callS X3 hx (y := (⟨"java/lang/StringUTF16", "coderFromArrayLen", "([BI)B"⟩ : MethodName)) hown (mvT hZ (hw _ (List.mem_of_getElem? (i := 148) rfl))) (mvT hZ (hw _ (List.mem_of_getElem? (i := 149) rfl))) (mvT hZ (hw _ (List.mem_of_getElem? (i := 143) rfl))) (mvT hZ (hw _ (List.mem_of_getElem? (i := 150) rfl))) (by decide) (backOf (W := 1) (rmCF_2 l Z a0 hw [] b3 kq3 [(.int ((v0.toInt8.toInt32).toInt8.toInt32)), (.int ((v1.toInt8.toInt32).toInt8.toInt32))] T3.heap n0 Vq3) hZ (hw _ (List.mem_of_getElem? (i := 150) rfl)) (hw _ (List.mem_of_getElem? (i := 143) rfl)) (by decide) (by decide)) (g := (mkF m 45 #[.val (.ref r0), .val (.ref r1), .val (.int (0 : Int32)), .val (.int (2 : Int32)), .val .null, .val (.ref b3)] [(.int (2 : Int32)), (.ref b3), (.ref r0)])) rfl (by rw [hml]; rfl) (argsL := [(.ref b3), (.int (2 : Int32))]) (rest := [(.ref r0)]) (lenOf pd_3 rfl) rfl (by show 2 * 0 + _ ≤ _; exact Nat.le_of_eq rfl) (hb hby d3_45) (fun _ _ => ⟨rfl, rfl, (by decide : 1 + 0 ≤ _), (by decide : 2 + 0 ≤ _)⟩)
  dsimp only [Pt.U, Pt.locs, Pt.cells, Pt.slots] at X4 l4 y4 z4 st4 hQ4
  subst l4 y4 z4
  obtain ⟨rfl, Nq4, e4⟩ := hQ4
  have N4 := Fr.app N3 Nq4
  obtain ⟨T5, h5, X5, e5, W5, st5⟩ := putFN X4 hx hZ hown (hw _ (List.mem_of_getElem? (i := 25) rfl)) Via.refl e4 F_coder_r0 E_r0 (Or.inr ⟨(hw _ (List.mem_of_getElem? (i := 21) rfl)), rfl, hnm⟩) (hw _ (List.mem_of_getElem? (i := 5) rfl)) (ty := .byte) (v' := (.int ((0 : Int32).toInt8.toInt32))) (by decide) rfl (fits_nar_byte _) (g := (mkF m 48 #[.val (.ref r0), .val (.ref r1), .val (.int (0 : Int32)), .val (.int (2 : Int32)), .val .null, .val (.ref b3)] [(.int (0 : Int32)), (.ref r0)])) rfl rfl (hb hby d3_48)
  replace Vs := Vs.other W5 hne
  replace E_r0 := E_r0.wr W5
  replace F_value_r0 := F_value_r0.other W5 (Or.inr (slot_ne (Or.inr (hw _ (List.mem_of_getElem? (i := 20) rfl))) (Or.inr (hw _ (List.mem_of_getElem? (i := 21) rfl))) (by decide) (t := (.array .byte)) (t' := .byte) (by decide) (by decide)))
  replace Vq3 := Vq3.other W5 (Ne.symm ne_r0_b3)
  replace O0 := O0.wr W5 g_r0
  replace K0 := K0.wr W5 (Or.inl (List.mem_of_getElem? (i := 0) rfl))
  replace F_coder_r0 := F_coder_r0.same W5
  have N5 := Fr.snoc X5 N4 g_r0
  obtain ⟨T6, h6, X6, e6, W6, st6⟩ := putF X5 hx hZ hown (host := "") (Or.inl (hw _ (List.mem_of_getElem? (i := 24) rfl))) Via.refl e5 F_value_r0 E_r0 (Or.inr ⟨(hw _ (List.mem_of_getElem? (i := 20) rfl)), rfl, hnm⟩) (hw _ (List.mem_of_getElem? (i := 5) rfl)) (ty := (.array .byte)) (by decide) rfl rfl (g := (mkF m 54 #[.val (.ref r0), .val (.ref r1), .val (.int (0 : Int32)), .val (.int (2 : Int32)), .val .null, .val (.ref b3)] [(.ref b3), (.ref r0)])) rfl rfl (hb hby d3_54)
  replace Vs := Vs.other W6 hne
  replace E_r0 := E_r0.wr W6
  replace F_coder_r0 := F_coder_r0.other W6 (Or.inr (slot_ne (Or.inr (hw _ (List.mem_of_getElem? (i := 21) rfl))) (Or.inr (hw _ (List.mem_of_getElem? (i := 20) rfl))) (by decide) (t := .byte) (t' := (.array .byte)) (by decide) (by decide)))
  replace Vq3 := Vq3.other W6 (Ne.symm ne_r0_b3)
  replace O0 := O0.wr W6 g_r0
  replace K0 := K0.wr W6 (Or.inl (List.mem_of_getElem? (i := 0) rfl))
  replace F_value_r0 := F_value_r0.same W6
  have N6 := Fr.snoc X6 N5 g_r0
  have k7 : ∀ t, Steps p.tables e below (T6.setTop (mkF m 57 #[.val (.ref r0), .val (.ref r1), .val (.int (0 : Int32)), .val (.int (2 : Int32)), .val .null, .val (.ref b3)] [])) t → Steps p.tables e below (s₁.setTop (entryFrame m #[(.ref r0), (.ref r1), (.int (0 : Int32)), (.int (2 : Int32)), .null] 6)) t := by
    intro t k
    refine pre0 _ ?_
    show Steps p.tables e below (s₁.setTop (mkF m 0 #[.val (.ref r0), .val (.ref r1), .val (.int (0 : Int32)), .val (.int (2 : Int32)), .val .null, .unset] [])) _
    refine XS.aloadN X0.here hx rfl (hb hby d3_0) rfl rfl ?_
    show Steps p.tables e below (s₁.setTop (mkF m 1 #[.val (.ref r0), .val (.ref r1), .val (.int (0 : Int32)), .val (.int (2 : Int32)), .val .null, .unset] [(.ref r0)])) _
    refine st1 _ ?_
    show Steps p.tables e below (T1.setTop (mkF m 4 #[.val (.ref r0), .val (.ref r1), .val (.int (0 : Int32)), .val (.int (2 : Int32)), .val .null, .unset] [])) _
    refine XS.iloadN X1.here hx rfl (hb hby d3_4) rfl ?_
    show Steps p.tables e below (T1.setTop (mkF m 5 #[.val (.ref r0), .val (.ref r1), .val (.int (0 : Int32)), .val (.int (2 : Int32)), .val .null, .unset] [(.int (2 : Int32))])) _
    refine XS.ifYes X1.here hx rfl (pc0 := 5) (pc' := 27) rfl (hb hby d3_5) rfl ((if0 _ _).trans (feq (by decide)).2) (by decide) (by decide) ?_
    show Steps p.tables e below (T1.setTop (mkF m 27 #[.val (.ref r0), .val (.ref r1), .val (.int (0 : Int32)), .val (.int (2 : Int32)), .val .null, .unset] [])) _
    refine st2 _ ?_
    show Steps p.tables e below (T2.setTop (mkF m 30 #[.val (.ref r0), .val (.ref r1), .val (.int (0 : Int32)), .val (.int (2 : Int32)), .val .null, .unset] [(.int w_CS)])) _
    refine XS.ifNo X2.here hx rfl (hb hby d3_30) rfl ((if0 _ _).trans (feq hCS).1) ?_
    show Steps p.tables e below (T2.setTop (mkF m 33 #[.val (.ref r0), .val (.ref r1), .val (.int (0 : Int32)), .val (.int (2 : Int32)), .val .null, .unset] [])) _
    refine XS.aloadN X2.here hx rfl (hb hby d3_33) rfl rfl ?_
    show Steps p.tables e below (T2.setTop (mkF m 34 #[.val (.ref r0), .val (.ref r1), .val (.int (0 : Int32)), .val (.int (2 : Int32)), .val .null, .unset] [(.ref r1)])) _
    refine XS.iloadN X2.here hx rfl (hb hby d3_34) rfl ?_
    show Steps p.tables e below (T2.setTop (mkF m 35 #[.val (.ref r0), .val (.ref r1), .val (.int (0 : Int32)), .val (.int (2 : Int32)), .val .null, .unset] [(.int (0 : Int32)), (.ref r1)])) _
    refine XS.iloadN X2.here hx rfl (hb hby d3_35) rfl ?_
    show Steps p.tables e below (T2.setTop (mkF m 36 #[.val (.ref r0), .val (.ref r1), .val (.int (0 : Int32)), .val (.int (2 : Int32)), .val .null, .unset] [(.int (2 : Int32)), (.int (0 : Int32)), (.ref r1)])) _
    refine st3 _ ?_
    show Steps p.tables e below (T3.setTop (mkF m 39 #[.val (.ref r0), .val (.ref r1), .val (.int (0 : Int32)), .val (.int (2 : Int32)), .val .null, .unset] [(.ref b3)])) _
    refine XS.astore X3.here hx rfl (hb hby d3_39) rfl rfl (l' := #[.val (.ref r0), .val (.ref r1), .val (.int (0 : Int32)), .val (.int (2 : Int32)), .val .null, .val (.ref b3)]) rfl ?_
    show Steps p.tables e below (T3.setTop (mkF m 41 #[.val (.ref r0), .val (.ref r1), .val (.int (0 : Int32)), .val (.int (2 : Int32)), .val .null, .val (.ref b3)] [])) _
    refine XS.aloadN X3.here hx rfl (hb hby d3_41) rfl rfl ?_
    show Steps p.tables e below (T3.setTop (mkF m 42 #[.val (.ref r0), .val (.ref r1), .val (.int (0 : Int32)), .val (.int (2 : Int32)), .val .null, .val (.ref b3)] [(.ref r0)])) _
    refine XS.aload X3.here hx rfl (hb hby d3_42) rfl rfl ?_
    show Steps p.tables e below (T3.setTop (mkF m 44 #[.val (.ref r0), .val (.ref r1), .val (.int (0 : Int32)), .val (.int (2 : Int32)), .val .null, .val (.ref b3)] [(.ref b3), (.ref r0)])) _
    refine XS.iloadN X3.here hx rfl (hb hby d3_44) rfl ?_
    show Steps p.tables e below (T3.setTop (mkF m 45 #[.val (.ref r0), .val (.ref r1), .val (.int (0 : Int32)), .val (.int (2 : Int32)), .val .null, .val (.ref b3)] [(.int (2 : Int32)), (.ref b3), (.ref r0)])) _
    refine st4 _ ?_
    show Steps p.tables e below (T4.setTop (mkF m 48 #[.val (.ref r0), .val (.ref r1), .val (.int (0 : Int32)), .val (.int (2 : Int32)), .val .null, .val (.ref b3)] [(.int (0 : Int32)), (.ref r0)])) _
    refine st5 _ ?_
    show Steps p.tables e below (T5.setTop (mkF m 51 #[.val (.ref r0), .val (.ref r1), .val (.int (0 : Int32)), .val (.int (2 : Int32)), .val .null, .val (.ref b3)] [])) _
    refine XS.aloadN X5.here hx rfl (hb hby d3_51) rfl rfl ?_
    show Steps p.tables e below (T5.setTop (mkF m 52 #[.val (.ref r0), .val (.ref r1), .val (.int (0 : Int32)), .val (.int (2 : Int32)), .val .null, .val (.ref b3)] [(.ref r0)])) _
    refine XS.aload X5.here hx rfl (hb hby d3_52) rfl rfl ?_
    show Steps p.tables e below (T5.setTop (mkF m 54 #[.val (.ref r0), .val (.ref r1), .val (.int (0 : Int32)), .val (.int (2 : Int32)), .val .null, .val (.ref b3)] [(.ref b3), (.ref r0)])) _
    refine st6 _ ?_
    exact k
  obtain ⟨fs, hr, hrun, hended, hW, hsame⟩ := X6.leave (v := none) (fun _ => rfl)
  refine ⟨_, _, k7 _ ?_, hrun, hended, _, _, rfl, ?_, ⟨_, rfl⟩, hW, hsame.mono (by decide) (by decide)⟩
  · exact X6.returnOut hx Bd.returns (hb hby d3_57) hr
  · show own_SI Z r0 (2 : Int32) [(.int ((v0.toInt8.toInt32).toInt8.toInt32)), (.int ((v1.toInt8.toInt32).toInt8.toInt32))] h0 n0 _ T6.heap _
    rw [e6]
    exact ⟨rfl, N6, K0, E_r0, _, _, _, F_value_r0, F_coder_r0, (by decide), Vq3⟩
theorem ef_rmS1_2 (m : MethodId) (x0 : Addr) (x1 : Addr) : entryFrame m #[(.ref x0), (.ref x1)] 2 = mkF m 0 #[.val (.ref x0), .val (.ref x1)] [] := by first | (simp [entryFrame, mkF, argsToLocals, Value.category]; done) | rfl
set_option maxRecDepth 65536 in
set_option maxHeartbeats 40000000 in
theorem rmS1_2 (l : Launch) (Z : State) (a0 : Array Value) (hw : ∀ d ∈ tables_1, d.before a0 Z = true) (ws : List Jvm.Cond) (r0 : Addr) (r1 : Addr) (ck : ClassId) (v0 v1 : Int32) (w_CS : Int32) (w_E : Addr) (w_F : Value) (h0 : Heap) (n0 : Nat) (hG : own_GC Z w_CS w_E w_F) (O0 : Old Z n0 h0) (Z0 : n0 ≤ h0.size) (g_r0 : n0 ≤ r0) (E_r0 : Exa Z h0 r0 "java/lang/String") (F_value_r0 : Fld Z h0 r0 "java/lang/String" "value" "[B" .null) (F_coder_r0 : Fld Z h0 r0 "java/lang/String" "coder" "B" (.int (0 : Int32))) (hne : r1 ≠ r0) (Vs : Arv Z h0 r1 ck .char (2 : Int32) [(.int v0), (.int v1)] (.int (0 : Int32))) (hv0 : ¬ (255 : Int32) < v0) (hv1 : ¬ (255 : Int32) < v1) :
    MetFree l (⟨"java/lang/String", "<init>", "([C)V"⟩ : MethodName) (head1 (Jvm.Cond.code (⟨"java/lang/String", "<init>", "([C)V"⟩ : MethodName) jdk_42_method_3_code 2 none :: ws) ({ frames := 3, cells := 1, slots := 2, locals := 52 } : Room)) (fun a U => a = #[(.ref r0), (.ref r1)] ∧ Z.Warmed39 U.vm ∧ U.heap = h0) (fun _ _ _ _ _ => True) (fun _ U o U' => ∃ v L, o = .returned v ∧ own_SI Z r0 (2 : Int32) [(.int ((v0.toInt8.toInt32).toInt8.toInt32)), (.int ((v1.toInt8.toInt32).toInt8.toInt32))] h0 n0 v U'.heap L ∧ FrameEnd U o U' L ({ frames := 3, cells := 1, slots := 2, locals := 52 } : Room).cells ({ frames := 3, cells := 1, slots := 2, locals := 52 } : Room).slots) := by
  refine MetFree.of_bodySF (plainFor_of_name pn_0) hisR ?_
  intro p e s m args below meth c s₁ Bd hml0 hP hK
  obtain ⟨rfl, hZ, hh⟩ := hP
  have hx := Bd.exec
  have hby := Bd.bytes
  have hml : c.maxLocals = 2 := hml0
  have hown : s.vm.findClass "java/lang/String" = some m.cls := findClass_of_methodNamed Bd.named
  have hnm := (name_of_methodNamed Bd.named Bd.method).1
  have X0 : Stand p l e ({ frames := 3, cells := 1, slots := 2, locals := 52 } : Room) s m #[(.ref r0), (.ref r1)] below meth c s₁ [] 0 0 := Stand.of_body Bd
  have e0 : s₁.heap = h0 := by rw [← hh, Bd.state]; rfl
  have N0 := Fr.nil n0
  have pre0 : ∀ t, Steps p.tables e below (s₁.setTop (mkF m 0 #[.val (.ref r0), .val (.ref r1)] [])) t → Steps p.tables e below (s₁.setTop (entryFrame m #[(.ref r0), (.ref r1)] 2)) t := fun t k => castTop (ef_rmS1_2 m r0 r1) k
  have hG' := hG
  obtain ⟨S_CS, hCS, S_E, E_E, F_E, S_F, hF⟩ := hG'
  have K0 : Keep h0 h0 [r0] := Keep.refl _ _
  have k2 : ∀ t, Steps p.tables e below (s₁.setTop (mkF m 6 #[.val (.ref r0), .val (.ref r1)] [.null, (.int (2 : Int32)), (.int (0 : Int32)), (.ref r1), (.ref r0)])) t → Steps p.tables e below (s₁.setTop (entryFrame m #[(.ref r0), (.ref r1)] 2)) t := by
    intro t k
    refine pre0 _ ?_
    show Steps p.tables e below (s₁.setTop (mkF m 0 #[.val (.ref r0), .val (.ref r1)] [])) _
    refine XS.aloadN X0.here hx rfl (hb hby d2_0) rfl rfl ?_
    show Steps p.tables e below (s₁.setTop (mkF m 1 #[.val (.ref r0), .val (.ref r1)] [(.ref r0)])) _
    refine XS.aloadN X0.here hx rfl (hb hby d2_1) rfl rfl ?_
    show Steps p.tables e below (s₁.setTop (mkF m 2 #[.val (.ref r0), .val (.ref r1)] [(.ref r1), (.ref r0)])) _
    refine XS.iconst X0.here hx rfl (hb hby d2_2) ?_
    show Steps p.tables e below (s₁.setTop (mkF m 3 #[.val (.ref r0), .val (.ref r1)] [(.int (0 : Int32)), (.ref r1), (.ref r0)])) _
    refine XS.aloadN X0.here hx rfl (hb hby d2_3) rfl rfl ?_
    show Steps p.tables e below (s₁.setTop (mkF m 4 #[.val (.ref r0), .val (.ref r1)] [(.ref r1), (.int (0 : Int32)), (.ref r1), (.ref r0)])) _
    obtain ⟨cl_1, Ar_1, -, S_1, N_1, -, -⟩ := id Vs
    refine X0.arraylength hx (by rw [e0]; exact Ar_1.1) (State.isArrayOf_alike hZ.alike Ar_1.2.1) (g := (mkF m 4 #[.val (.ref r0), .val (.ref r1)] [(.ref r1), (.int (0 : Int32)), (.ref r1), (.ref r0)])) rfl rfl (hb hby d2_4) _ ?_
    rw [len_of S_1 N_1]
    show Steps p.tables e below (s₁.setTop (mkF m 5 #[.val (.ref r0), .val (.ref r1)] [(.int (2 : Int32)), (.int (0 : Int32)), (.ref r1), (.ref r0)])) _
    refine XS.aconstNull X0.here hx rfl (hb hby d2_5) ?_
    exact k
  obtain ⟨_, _, ⟨T3, L3, k3_, n3⟩, -, X3, ⟨Lc3, hQ3, l3, y3, z3⟩, st3⟩ := X0.specialBack hx (y := (⟨"java/lang/String", "<init>", "([CIILjava/lang/Void;)V"⟩ : MethodName)) rfl hown (mvT hZ (hw _ (List.mem_of_getElem? (i := 11) rfl))) (mvT hZ (hw _ (List.mem_of_getElem? (i := 12) rfl))) (mvT hZ (hw _ (List.mem_of_getElem? (i := 14) rfl))) (by decide) (backOf (W := 0) (rmS2_2 l Z a0 hw [] r0 r1 ck v0 v1 w_CS w_E w_F h0 n0 hG O0 (O0.1 ▸ O0.2.1) g_r0 E_r0 F_value_r0 F_coder_r0 hne Vs hv0 hv1) hZ (hw _ (List.mem_of_getElem? (i := 14) rfl)) (hw _ (List.mem_of_getElem? (i := 6) rfl)) (by decide) (by decide)) (g := (mkF m 6 #[.val (.ref r0), .val (.ref r1)] [.null, (.int (2 : Int32)), (.int (0 : Int32)), (.ref r1), (.ref r0)])) rfl (by rw [hml]; rfl) (Steps.refl _) (a := r0) (argsL := [(.ref r1), (.int (0 : Int32)), (.int (2 : Int32)), .null]) (rest := []) (lenOf pd_0 rfl) rfl (by show 2 * 0 + _ ≤ _; exact Nat.le_of_eq rfl) (hb hby d2_6) (fun _ _ => ⟨rfl, e0, (by decide : 0 + 1 ≤ _), (by decide : 0 + 2 ≤ _)⟩)
  dsimp only [Pt.U, Pt.locs, Pt.cells, Pt.slots] at X3 l3 y3 z3 st3 hQ3
  subst l3 y3 z3
  obtain ⟨rfl, Nq3, Kq3, Eq3, bv3, kq3, cd3, Fq3, Gq3, hcd3, Vq3⟩ := hQ3
  subst hcd3
  have N3 := Fr.app N0 Nq3
  replace Vs := Vs.keep Kq3 (fun q => hne (List.mem_singleton.mp q))
  replace E_r0 := E_r0.keep Kq3
  replace O0 := O0.keep Kq3 (fun x hx => by cases List.mem_singleton.mp hx; exact g_r0)
  replace K0 := K0.trans Kq3 (fun x hx => by cases List.mem_singleton.mp hx; exact (Or.inl (List.mem_of_getElem? (i := 0) rfl)))
  have k4 : ∀ t, Steps p.tables e below (T3.setTop (mkF m 9 #[.val (.ref r0), .val (.ref r1)] [])) t → Steps p.tables e below (s₁.setTop (entryFrame m #[(.ref r0), (.ref r1)] 2)) t := by
    intro t k
    refine k2 _ ?_
    show Steps p.tables e below (s₁.setTop (mkF m 6 #[.val (.ref r0), .val (.ref r1)] [.null, (.int (2 : Int32)), (.int (0 : Int32)), (.ref r1), (.ref r0)])) _
    refine st3.trans ?_
    exact k
  obtain ⟨fs, hr, hrun, hended, hW, hsame⟩ := X3.leave (v := none) (fun _ => rfl)
  refine ⟨_, _, k4 _ ?_, hrun, hended, _, _, rfl, ?_, ⟨_, rfl⟩, hW, hsame.mono (by decide) (by decide)⟩
  · exact X3.returnOut hx Bd.returns (hb hby d2_9) hr
  · show own_SI Z r0 (2 : Int32) [(.int ((v0.toInt8.toInt32).toInt8.toInt32)), (.int ((v1.toInt8.toInt32).toInt8.toInt32))] h0 n0 _ T3.heap _
    exact ⟨rfl, N3, K0, E_r0, _, _, _, Fq3, Gq3, rfl, Vq3⟩
theorem pn_2 : plainName "java/lang/StringLatin1" = true := by first | (simp [plainName, overriddenIn]; done) | decide +kernel
theorem ef_rm13 (m : MethodId) (x0 : Int32) : entryFrame m #[(.int x0)] 1 = mkF m 0 #[.val (.int x0)] [] := by first | (simp [entryFrame, mkF, argsToLocals, Value.category]; done) | rfl
theorem d13_0 : decode jdk_43_method_3_code 0 = .ok (.iload_n 0, 1) := by decide +kernel
theorem d13_1 : decode jdk_43_method_3_code 1 = .ok (.sipush 255, 3) := by decide +kernel
theorem d13_4 : decode jdk_43_method_3_code 4 = .ok (.if_icmp .gt 7, 3) := by decide +kernel
theorem d13_11 : decode jdk_43_method_3_code 11 = .ok (.iconst 0, 1) := by decide +kernel
theorem d13_12 : decode jdk_43_method_3_code 12 = .ok (.ireturn, 1) := by decide +kernel
theorem d13_7 : decode jdk_43_method_3_code 7 = .ok (.iconst 1, 1) := by decide +kernel
theorem d13_8 : decode jdk_43_method_3_code 8 = .ok (.goto 4, 3) := by decide +kernel
def own_f13 (p0 : Int32) : Int32 := (if (255 : Int32) < p0 then (0 : Int32) else (1 : Int32))
set_option maxRecDepth 65536 in
set_option maxHeartbeats 40000000 in
theorem rm13 (l : Launch) (Z : State) (a0 : Array Value) (hw : ∀ d ∈ tables_1, d.before a0 Z = true) (ws : List Jvm.Cond) (p0 : Int32) (h0 : Heap) (n0 : Nat) :
    MetFree l (⟨"java/lang/StringLatin1", "canEncode", "(C)Z"⟩ : MethodName) (head1 (Jvm.Cond.code (⟨"java/lang/StringLatin1", "canEncode", "(C)Z"⟩ : MethodName) jdk_43_method_3_code 1 (some .boolean) :: ws) ({ frames := 0, cells := 0, slots := 0, locals := 0 } : Room)) (fun a U => a = #[(.int p0)] ∧ Z.Warmed39 U.vm ∧ U.heap = h0) (fun _ _ _ _ _ => True) (fun _ U o U' => ∃ v L, o = .returned v ∧ own_Q (some (.int (own_f13 p0))) h0 n0 v U'.heap L ∧ FrameEnd U o U' L ({ frames := 0, cells := 0, slots := 0, locals := 0 } : Room).cells ({ frames := 0, cells := 0, slots := 0, locals := 0 } : Room).slots) := by
  refine MetFree.of_bodySF (plainFor_of_name pn_2) hisR ?_
  intro p e s m args below meth c s₁ Bd hml0 hP hK
  obtain ⟨rfl, hZ, hh⟩ := hP
  have hx := Bd.exec
  have hby := Bd.bytes
  have hml : c.maxLocals = 1 := hml0
  have hown : s.vm.findClass "java/lang/StringLatin1" = some m.cls := findClass_of_methodNamed Bd.named
  have hnm := (name_of_methodNamed Bd.named Bd.method).1
  have X0 : Stand p l e ({ frames := 0, cells := 0, slots := 0, locals := 0 } : Room) s m #[(.int p0)] below meth c s₁ [] 0 0 := Stand.of_body Bd
  have e0 : s₁.heap = h0 := by rw [← hh, Bd.state]; rfl
  have N0 := Fr.nil n0
  have pre0 : ∀ t, Steps p.tables e below (s₁.setTop (mkF m 0 #[.val (.int p0)] [])) t → Steps p.tables e below (s₁.setTop (entryFrame m #[(.int p0)] 1)) t := fun t k => castTop (ef_rm13 m p0) k
  have k1 : ∀ t, Steps p.tables e below (s₁.setTop (mkF m 4 #[.val (.int p0)] [(.int (255 : Int32)), (.int p0)])) t → Steps p.tables e below (s₁.setTop (entryFrame m #[(.int p0)] 1)) t := by
    intro t k
    refine pre0 _ ?_
    show Steps p.tables e below (s₁.setTop (mkF m 0 #[.val (.int p0)] [])) _
    refine XS.iloadN X0.here hx rfl (hb hby d13_0) rfl ?_
    show Steps p.tables e below (s₁.setTop (mkF m 1 #[.val (.int p0)] [(.int p0)])) _
    refine XS.sipush X0.here hx rfl (hb hby d13_1) ?_
    exact k
  by_cases hc4_1 : (255 : Int32) < p0
  · have k2 : ∀ t, Steps p.tables e below (s₁.setTop (mkF m 12 #[.val (.int p0)] [(.int (0 : Int32))])) t → Steps p.tables e below (s₁.setTop (entryFrame m #[(.int p0)] 1)) t := by
      intro t k
      refine k1 _ ?_
      show Steps p.tables e below (s₁.setTop (mkF m 4 #[.val (.int p0)] [(.int (255 : Int32)), (.int p0)])) _
      refine XS.icmpYes X0.here hx rfl (pc0 := 4) (pc' := 11) rfl (hb hby d13_4) rfl (tlt hc4_1).2.2.1 (by decide) (by decide) ?_
      show Steps p.tables e below (s₁.setTop (mkF m 11 #[.val (.int p0)] [])) _
      refine XS.iconst X0.here hx rfl (hb hby d13_11) ?_
      exact k
    obtain ⟨fs, hr, hrun, hended, hW, hsame⟩ := X0.leave (v := some (.int (0 : Int32))) (fun h => by rw [Bd.returns] at h; cases h)
    refine ⟨_, _, k2 _ ?_, hrun, hended, _, _, rfl, ?_, ⟨_, rfl⟩, hW, hsame.mono (by decide) (by decide)⟩
    · exact retN X0 hx (t := .boolean) Bd.returns (by simp) (hb hby d13_12) hr
    · show own_Q (some (.int (own_f13 p0))) h0 n0 _ s₁.heap _
      rw [e0]
      exact ⟨by simp only [own_f13, if_pos hc4_1], N0, rfl⟩
  · have k3 : ∀ t, Steps p.tables e below (s₁.setTop (mkF m 12 #[.val (.int p0)] [(.int (1 : Int32))])) t → Steps p.tables e below (s₁.setTop (entryFrame m #[(.int p0)] 1)) t := by
      intro t k
      refine k1 _ ?_
      show Steps p.tables e below (s₁.setTop (mkF m 4 #[.val (.int p0)] [(.int (255 : Int32)), (.int p0)])) _
      refine XS.icmpNo X0.here hx rfl (hb hby d13_4) rfl (flt hc4_1).2.2.1 ?_
      show Steps p.tables e below (s₁.setTop (mkF m 7 #[.val (.int p0)] [])) _
      refine XS.iconst X0.here hx rfl (hb hby d13_7) ?_
      show Steps p.tables e below (s₁.setTop (mkF m 8 #[.val (.int p0)] [(.int (1 : Int32))])) _
      refine XS.goto X0.here hx rfl (pc0 := 8) (pc' := 12) rfl (hb hby d13_8) (by decide) (by decide) ?_
      exact k
    obtain ⟨fs, hr, hrun, hended, hW, hsame⟩ := X0.leave (v := some (.int (1 : Int32))) (fun h => by rw [Bd.returns] at h; cases h)
    refine ⟨_, _, k3 _ ?_, hrun, hended, _, _, rfl, ?_, ⟨_, rfl⟩, hW, hsame.mono (by decide) (by decide)⟩
    · exact retN X0 hx (t := .boolean) Bd.returns (by simp) (hb hby d13_12) hr
    · show own_Q (some (.int (own_f13 p0))) h0 n0 _ s₁.heap _
      rw [e0]
      exact ⟨by simp only [own_f13, if_neg hc4_1], N0, rfl⟩
theorem own_ce {p : Int32} (h : ¬ (255 : Int32) < p) : ¬ own_f13 p = (0 : Int32) := by
  simp [own_f13, h]
def own_VO (Z : State) (p0 : Int32) (h0 : Heap) (n0 : Nat) (v : Option Value) (h : Heap) (L : List Loc) : Prop := ∃ b : Addr, v = some (.ref b) ∧ Fr n0 L ∧ Keep h0 h [] ∧ Exa Z h b "java/lang/String" ∧ ∃ rv k cd, Fld Z h b "java/lang/String" "value" "[B" (.ref rv) ∧ Fld Z h b "java/lang/String" "coder" "B" (.int cd) ∧ cd = (0 : Int32) ∧ Arv Z h rv k .byte (1 : Int32) [(.int ((p0.toInt8.toInt32).toInt8.toInt32))] (.int (0 : Int32))
theorem ef_rm14 (m : MethodId) (x0 : Int32) : entryFrame m #[(.int x0)] 1 = mkF m 0 #[.val (.int x0)] [] := by first | (simp [entryFrame, mkF, argsToLocals, Value.category]; done) | rfl
theorem d14_0 : decode jdk_43_method_46_code 0 = .ok (.iconst 1, 1) := by decide +kernel
theorem d14_1 : decode jdk_43_method_46_code 1 = .ok (.newarray .byte, 2) := by decide +kernel
theorem d14_3 : decode jdk_43_method_46_code 3 = .ok (.dup, 1) := by decide +kernel
theorem d14_4 : decode jdk_43_method_46_code 4 = .ok (.iconst 0, 1) := by decide +kernel
theorem d14_5 : decode jdk_43_method_46_code 5 = .ok (.iload_n 0, 1) := by decide +kernel
theorem d14_6 : decode jdk_43_method_46_code 6 = .ok (.i2b, 1) := by decide +kernel
theorem d14_7 : decode jdk_43_method_46_code 7 = .ok (.bastore, 1) := by decide +kernel
theorem d14_8 : decode jdk_43_method_46_code 8 = .ok (.areturn, 1) := by decide +kernel
set_option maxRecDepth 65536 in
set_option maxHeartbeats 40000000 in
theorem rm14 (l : Launch) (Z : State) (a0 : Array Value) (hw : ∀ d ∈ tables_1, d.before a0 Z = true) (ws : List Jvm.Cond) (p0 : Int32) (h0 : Heap) (n0 : Nat) (Z0 : n0 ≤ h0.size) :
    MetFree l (⟨"java/lang/StringLatin1", "toBytes", "(C)[B"⟩ : MethodName) (head1 (Jvm.Cond.code (⟨"java/lang/StringLatin1", "toBytes", "(C)[B"⟩ : MethodName) jdk_43_method_46_code 1 (some (.array .byte)) :: ws) ({ frames := 0, cells := 1, slots := 1, locals := 0 } : Room)) (fun a U => a = #[(.int p0)] ∧ Z.Warmed39 U.vm ∧ U.heap = h0) (fun _ _ _ _ _ => True) (fun _ U o U' => ∃ v L, o = .returned v ∧ own_CQ Z (1 : Int32) [(.int ((p0.toInt8.toInt32).toInt8.toInt32))] h0 n0 v U'.heap L ∧ FrameEnd U o U' L ({ frames := 0, cells := 1, slots := 1, locals := 0 } : Room).cells ({ frames := 0, cells := 1, slots := 1, locals := 0 } : Room).slots) := by
  refine MetFree.of_bodySF (plainFor_of_name pn_2) hisR ?_
  intro p e s m args below meth c s₁ Bd hml0 hP hK
  obtain ⟨rfl, hZ, hh⟩ := hP
  have hx := Bd.exec
  have hby := Bd.bytes
  have hml : c.maxLocals = 1 := hml0
  have hown : s.vm.findClass "java/lang/StringLatin1" = some m.cls := findClass_of_methodNamed Bd.named
  have hnm := (name_of_methodNamed Bd.named Bd.method).1
  have X0 : Stand p l e ({ frames := 0, cells := 1, slots := 1, locals := 0 } : Room) s m #[(.int p0)] below meth c s₁ [] 0 0 := Stand.of_body Bd
  have e0 : s₁.heap = h0 := by rw [← hh, Bd.state]; rfl
  have N0 := Fr.nil n0
  have pre0 : ∀ t, Steps p.tables e below (s₁.setTop (mkF m 0 #[.val (.int p0)] [])) t → Steps p.tables e below (s₁.setTop (entryFrame m #[(.int p0)] 1)) t := fun t k => castTop (ef_rm14 m p0) k
  have K0 : Keep h0 h0 [] := Keep.refl _ _
  obtain ⟨T1, h1, c1, X1, e1, E1, A1, st1⟩ := newP X0 hx hZ (hw _ (List.mem_of_getElem? (i := 19) rfl)) e0 (g := (mkF m 1 #[.val (.int p0)] [(.int (1 : Int32))])) rfl (hb hby d14_1) rfl (by decide) (cap := 1) (by decide) (by decide) (by decide) (by decide)
  obtain ⟨b1, g1⟩ : ∃ z, z = h0.size := ⟨_, rfl⟩
  rw [← g1] at A1 st1
  have gn_b1 : n0 ≤ b1 := Nat.le_trans Z0 (Nat.le_of_eq g1.symm)
  have sz_b1_K0 : h0.size ≤ b1 := Nat.le_trans K0.1 (Nat.le_of_eq g1.symm)
  replace K0 := K0.ext E1
  have Zs1 : n0 ≤ h1.size := Nat.le_trans Z0 E1.1
  have V_b1 : Arv Z h1 b1 c1 .byte (1 : Int32) [(.int (0 : Int32))] (.int (0 : Int32)) := (Arv.new A1 (by decide)).pad (pad_rep [] (.int (0 : Int32)) 1)
  obtain ⟨cl_2, Ar_2, q_2, S_2, N_2, H_2, G_2⟩ := id V_b1
  have hin_2 : ¬ ((0 : Int32) < 0 ∨ cl_2.slots.size ≤ ((0 : Int32)).toNatClampNeg) := inb_of S_2 ⟨by decide, by decide⟩
  obtain ⟨T2, h2, X2, e2, W2, st2⟩ := stB X1 hx hZ e1 Ar_2 (j := (0 : Int32)) hin_2 (g := (mkF m 7 #[.val (.int p0)] [(.int (p0.toInt8.toInt32)), (.int (0 : Int32)), (.ref b1), (.ref b1)])) rfl rfl (hb hby d14_7)
  have Vn2 : Arv Z h2 b1 c1 .byte (1 : Int32) [(.int ((p0.toInt8.toInt32).toInt8.toInt32))] (.int (0 : Int32)) := Arv.set Ar_2 q_2 S_2 N_2 H_2 G_2 (fits_nar_byte _) W2 0 rfl (Nat.le_of_ble_eq_true rfl)
  replace K0 := K0.wr W2 (Or.inr sz_b1_K0)
  replace V_b1 := Vn2
  have N2 := Fr.snoc X2 N0 gn_b1
  have Zs2 : n0 ≤ h2.size := by rw [W2.size]; exact Zs1
  have k3 : ∀ t, Steps p.tables e below (T2.setTop (mkF m 8 #[.val (.int p0)] [(.ref b1)])) t → Steps p.tables e below (s₁.setTop (entryFrame m #[(.int p0)] 1)) t := by
    intro t k
    refine pre0 _ ?_
    show Steps p.tables e below (s₁.setTop (mkF m 0 #[.val (.int p0)] [])) _
    refine XS.iconst X0.here hx rfl (hb hby d14_0) ?_
    show Steps p.tables e below (s₁.setTop (mkF m 1 #[.val (.int p0)] [(.int (1 : Int32))])) _
    refine st1 _ ?_
    show Steps p.tables e below (T1.setTop (mkF m 3 #[.val (.int p0)] [(.ref b1)])) _
    refine XS.dup X1.here hx rfl (hb hby d14_3) rfl rfl ?_
    show Steps p.tables e below (T1.setTop (mkF m 4 #[.val (.int p0)] [(.ref b1), (.ref b1)])) _
    refine XS.iconst X1.here hx rfl (hb hby d14_4) ?_
    show Steps p.tables e below (T1.setTop (mkF m 5 #[.val (.int p0)] [(.int (0 : Int32)), (.ref b1), (.ref b1)])) _
    refine XS.iloadN X1.here hx rfl (hb hby d14_5) rfl ?_
    show Steps p.tables e below (T1.setTop (mkF m 6 #[.val (.int p0)] [(.int p0), (.int (0 : Int32)), (.ref b1), (.ref b1)])) _
    refine XS.i2b X1.here hx rfl (hb hby d14_6) rfl ?_
    show Steps p.tables e below (T1.setTop (mkF m 7 #[.val (.int p0)] [(.int (p0.toInt8.toInt32)), (.int (0 : Int32)), (.ref b1), (.ref b1)])) _
    refine st2 _ ?_
    exact k
  obtain ⟨fs, hr, hrun, hended, hW, hsame⟩ := X2.leave (v := some (.ref b1)) (fun h => by rw [Bd.returns] at h; cases h)
  refine ⟨_, _, k3 _ ?_, hrun, hended, _, _, rfl, ?_, ⟨_, rfl⟩, hW, hsame.mono (by decide) (by decide)⟩
  · exact retOut X2 hx Bd.returns rfl (Or.inr (Or.inr (Or.inr (Or.inr ⟨rfl, rfl, rfl⟩)))) (hb hby d14_8) hr
  · show own_CQ Z (1 : Int32) [(.int ((p0.toInt8.toInt32).toInt8.toInt32))] h0 n0 _ T2.heap _
    rw [e2]
    exact ⟨_, rfl, N2, K0, sz_b1_K0, gn_b1, _, V_b1⟩
theorem ef_rm15 (m : MethodId) (x0 : Addr) (x1 : Addr) (x2 : Int32) : entryFrame m #[(.ref x0), (.ref x1), (.int x2)] 3 = mkF m 0 #[.val (.ref x0), .val (.ref x1), .val (.int x2)] [] := by first | (simp [entryFrame, mkF, argsToLocals, Value.category]; done) | rfl
theorem d15_0 : decode jdk_42_method_151_code 0 = .ok (.aload_n 0, 1) := by decide +kernel
theorem d15_1 : decode jdk_42_method_151_code 1 = .ok (.invokespecial 1, 3) := by decide +kernel
theorem d15_4 : decode jdk_42_method_151_code 4 = .ok (.aload_n 0, 1) := by decide +kernel
theorem d15_5 : decode jdk_42_method_151_code 5 = .ok (.aload_n 1, 1) := by decide +kernel
theorem d15_6 : decode jdk_42_method_151_code 6 = .ok (.putfield 9, 3) := by decide +kernel
theorem d15_9 : decode jdk_42_method_151_code 9 = .ok (.aload_n 0, 1) := by decide +kernel
theorem d15_10 : decode jdk_42_method_151_code 10 = .ok (.iload_n 2, 1) := by decide +kernel
theorem d15_11 : decode jdk_42_method_151_code 11 = .ok (.putfield 15, 3) := by decide +kernel
theorem d15_14 : decode jdk_42_method_151_code 14 = .ok (.return_, 1) := by decide +kernel
def own_C15 (Z : State) (r0 : Addr) (r1 : Addr) (p2 : Int32) (h0 : Heap) (n0 : Nat) (v : Option Value) (h : Heap) (L : List Loc) : Prop := v = none ∧ Fr n0 L ∧ Keep h0 h [r0] ∧ Exa Z h r0 "java/lang/String" ∧ Fld Z h r0 "java/lang/String" "value" "[B" (.ref r1) ∧ Fld Z h r0 "java/lang/String" "coder" "B" (.int (p2.toInt8.toInt32))
set_option maxRecDepth 65536 in
set_option maxHeartbeats 40000000 in
theorem rm15 (l : Launch) (Z : State) (a0 : Array Value) (hw : ∀ d ∈ tables_1, d.before a0 Z = true) (ws : List Jvm.Cond) (r0 : Addr) (r1 : Addr) (p2 : Int32) (h0 : Heap) (n0 : Nat) (Z0 : n0 ≤ h0.size) (g_r0 : n0 ≤ r0) (E_r0 : Exa Z h0 r0 "java/lang/String") (F_value_r0 : Fld Z h0 r0 "java/lang/String" "value" "[B" .null) (F_coder_r0 : Fld Z h0 r0 "java/lang/String" "coder" "B" (.int (0 : Int32))) :
    MetFree l (⟨"java/lang/String", "<init>", "([BB)V"⟩ : MethodName) (head1 (Jvm.Cond.code (⟨"java/lang/String", "<init>", "([BB)V"⟩ : MethodName) jdk_42_method_151_code 3 none :: ws) ({ frames := 2, cells := 0, slots := 0, locals := 24 } : Room)) (fun a U => a = #[(.ref r0), (.ref r1), (.int p2)] ∧ Z.Warmed39 U.vm ∧ U.heap = h0) (fun _ _ _ _ _ => True) (fun _ U o U' => ∃ v L, o = .returned v ∧ own_C15 Z r0 r1 p2 h0 n0 v U'.heap L ∧ FrameEnd U o U' L ({ frames := 2, cells := 0, slots := 0, locals := 24 } : Room).cells ({ frames := 2, cells := 0, slots := 0, locals := 24 } : Room).slots) := by
  refine MetFree.of_bodySF (plainFor_of_name pn_0) hisR ?_
  intro p e s m args below meth c s₁ Bd hml0 hP hK
  obtain ⟨rfl, hZ, hh⟩ := hP
  have hx := Bd.exec
  have hby := Bd.bytes
  have hml : c.maxLocals = 3 := hml0
  have hown : s.vm.findClass "java/lang/String" = some m.cls := findClass_of_methodNamed Bd.named
  have hnm := (name_of_methodNamed Bd.named Bd.method).1
  have X0 : Stand p l e ({ frames := 2, cells := 0, slots := 0, locals := 24 } : Room) s m #[(.ref r0), (.ref r1), (.int p2)] below meth c s₁ [] 0 0 := Stand.of_body Bd
  have e0 : s₁.heap = h0 := by rw [← hh, Bd.state]; rfl
  have N0 := Fr.nil n0
  have pre0 : ∀ t, Steps p.tables e below (s₁.setTop (mkF m 0 #[.val (.ref r0), .val (.ref r1), .val (.int p2)] [])) t → Steps p.tables e below (s₁.setTop (entryFrame m #[(.ref r0), (.ref r1), (.int p2)] 3)) t := fun t k => castTop (ef_rm15 m r0 r1 p2) k
  have K0 : Keep h0 h0 [r0] := Keep.refl _ _
  obtain ⟨T1, X1, e1, st1⟩ := initO X0 hx hZ hown (hw _ (List.mem_of_getElem? (i := 15) rfl)) (hw _ (List.mem_of_getElem? (i := 16) rfl)) (hw _ (List.mem_of_getElem? (i := 17) rfl)) e0 (g := (mkF m 1 #[.val (.ref r0), .val (.ref r1), .val (.int p2)] [(.ref r0)])) rfl (by rw [hml]; rfl) rfl (hb hby d15_1) (by decide) (W := 0) (by show 2 * 0 + _ ≤ _; exact Nat.le_of_eq rfl) (by decide)
  obtain ⟨T2, h2, X2, e2, W2, st2⟩ := putF X1 hx hZ hown (host := "") (Or.inl (hw _ (List.mem_of_getElem? (i := 24) rfl))) Via.refl e1 F_value_r0 E_r0 (Or.inr ⟨(hw _ (List.mem_of_getElem? (i := 20) rfl)), rfl, hnm⟩) (hw _ (List.mem_of_getElem? (i := 5) rfl)) (ty := (.array .byte)) (by decide) rfl rfl (g := (mkF m 6 #[.val (.ref r0), .val (.ref r1), .val (.int p2)] [(.ref r1), (.ref r0)])) rfl rfl (hb hby d15_6)
  replace E_r0 := E_r0.wr W2
  replace F_coder_r0 := F_coder_r0.other W2 (Or.inr (slot_ne (Or.inr (hw _ (List.mem_of_getElem? (i := 21) rfl))) (Or.inr (hw _ (List.mem_of_getElem? (i := 20) rfl))) (by decide) (t := .byte) (t' := (.array .byte)) (by decide) (by decide)))
  replace K0 := K0.wr W2 (Or.inl (List.mem_of_getElem? (i := 0) rfl))
  replace F_value_r0 := F_value_r0.same W2
  have N2 := Fr.snoc X2 N0 g_r0
  have Zs2 : n0 ≤ h2.size := by rw [W2.size]; exact Z0
  obtain ⟨T3, h3, X3, e3, W3, st3⟩ := putFN X2 hx hZ hown (hw _ (List.mem_of_getElem? (i := 25) rfl)) Via.refl e2 F_coder_r0 E_r0 (Or.inr ⟨(hw _ (List.mem_of_getElem? (i := 21) rfl)), rfl, hnm⟩) (hw _ (List.mem_of_getElem? (i := 5) rfl)) (ty := .byte) (v' := (.int (p2.toInt8.toInt32))) (by decide) rfl (fits_nar_byte _) (g := (mkF m 11 #[.val (.ref r0), .val (.ref r1), .val (.int p2)] [(.int p2), (.ref r0)])) rfl rfl (hb hby d15_11)
  replace E_r0 := E_r0.wr W3
  replace F_value_r0 := F_value_r0.other W3 (Or.inr (slot_ne (Or.inr (hw _ (List.mem_of_getElem? (i := 20) rfl))) (Or.inr (hw _ (List.mem_of_getElem? (i := 21) rfl))) (by decide) (t := (.array .byte)) (t' := .byte) (by decide) (by decide)))
  replace K0 := K0.wr W3 (Or.inl (List.mem_of_getElem? (i := 0) rfl))
  replace F_coder_r0 := F_coder_r0.same W3
  have N3 := Fr.snoc X3 N2 g_r0
  have Zs3 : n0 ≤ h3.size := by rw [W3.size]; exact Zs2
  have k4 : ∀ t, Steps p.tables e below (T3.setTop (mkF m 14 #[.val (.ref r0), .val (.ref r1), .val (.int p2)] [])) t → Steps p.tables e below (s₁.setTop (entryFrame m #[(.ref r0), (.ref r1), (.int p2)] 3)) t := by
    intro t k
    refine pre0 _ ?_
    show Steps p.tables e below (s₁.setTop (mkF m 0 #[.val (.ref r0), .val (.ref r1), .val (.int p2)] [])) _
    refine XS.aloadN X0.here hx rfl (hb hby d15_0) rfl rfl ?_
    show Steps p.tables e below (s₁.setTop (mkF m 1 #[.val (.ref r0), .val (.ref r1), .val (.int p2)] [(.ref r0)])) _
    refine st1 _ ?_
    show Steps p.tables e below (T1.setTop (mkF m 4 #[.val (.ref r0), .val (.ref r1), .val (.int p2)] [])) _
    refine XS.aloadN X1.here hx rfl (hb hby d15_4) rfl rfl ?_
    show Steps p.tables e below (T1.setTop (mkF m 5 #[.val (.ref r0), .val (.ref r1), .val (.int p2)] [(.ref r0)])) _
    refine XS.aloadN X1.here hx rfl (hb hby d15_5) rfl rfl ?_
    show Steps p.tables e below (T1.setTop (mkF m 6 #[.val (.ref r0), .val (.ref r1), .val (.int p2)] [(.ref r1), (.ref r0)])) _
    refine st2 _ ?_
    show Steps p.tables e below (T2.setTop (mkF m 9 #[.val (.ref r0), .val (.ref r1), .val (.int p2)] [])) _
    refine XS.aloadN X2.here hx rfl (hb hby d15_9) rfl rfl ?_
    show Steps p.tables e below (T2.setTop (mkF m 10 #[.val (.ref r0), .val (.ref r1), .val (.int p2)] [(.ref r0)])) _
    refine XS.iloadN X2.here hx rfl (hb hby d15_10) rfl ?_
    show Steps p.tables e below (T2.setTop (mkF m 11 #[.val (.ref r0), .val (.ref r1), .val (.int p2)] [(.int p2), (.ref r0)])) _
    refine st3 _ ?_
    exact k
  obtain ⟨fs, hr, hrun, hended, hW, hsame⟩ := X3.leave (v := none) (fun _ => rfl)
  refine ⟨_, _, k4 _ ?_, hrun, hended, _, _, rfl, ?_, ⟨_, rfl⟩, hW, hsame.mono (by decide) (by decide)⟩
  · exact X3.returnOut hx Bd.returns (hb hby d15_14) hr
  · show own_C15 Z r0 r1 p2 h0 n0 _ T3.heap _
    rw [e3]
    exact ⟨rfl, N3, K0, E_r0, F_value_r0, F_coder_r0⟩
theorem ef_rm12 (m : MethodId) (x0 : Int32) : entryFrame m #[(.int x0)] 1 = mkF m 0 #[.val (.int x0)] [] := by first | (simp [entryFrame, mkF, argsToLocals, Value.category]; done) | rfl
theorem d12_0 : decode jdk_42_method_139_code 0 = .ok (.getstatic 38, 3) := by decide +kernel
theorem d12_3 : decode jdk_42_method_139_code 3 = .ok (.ifCond .eq 23, 3) := by decide +kernel
theorem d12_6 : decode jdk_42_method_139_code 6 = .ok (.iload_n 0, 1) := by decide +kernel
theorem pd_4 : parseMethodDescriptor "(C)Z" = some ⟨[.char], some .boolean⟩ := by decide +kernel
theorem d12_7 : decode jdk_42_method_139_code 7 = .ok (.invokestatic 1015, 3) := by decide +kernel
theorem d12_10 : decode jdk_42_method_139_code 10 = .ok (.ifCond .eq 16, 3) := by decide +kernel
theorem d12_13 : decode jdk_42_method_139_code 13 = .ok (.new 10, 3) := by decide +kernel
theorem d12_16 : decode jdk_42_method_139_code 16 = .ok (.dup, 1) := by decide +kernel
theorem d12_17 : decode jdk_42_method_139_code 17 = .ok (.iload_n 0, 1) := by decide +kernel
theorem pd_5 : parseMethodDescriptor "(C)[B" = some ⟨[.char], some (.array .byte)⟩ := by decide +kernel
theorem d12_18 : decode jdk_42_method_139_code 18 = .ok (.invokestatic 1018, 3) := by decide +kernel
theorem d12_21 : decode jdk_42_method_139_code 21 = .ok (.iconst 0, 1) := by decide +kernel
theorem pd_6 : parseMethodDescriptor "([BB)V" = some ⟨[(.array .byte), .byte], none⟩ := by decide +kernel
theorem d12_22 : decode jdk_42_method_139_code 22 = .ok (.invokespecial 209, 3) := by decide +kernel
theorem d12_25 : decode jdk_42_method_139_code 25 = .ok (.areturn, 1) := by decide +kernel
set_option maxRecDepth 65536 in
set_option maxHeartbeats 40000000 in
theorem rm12 (l : Launch) (Z : State) (a0 : Array Value) (hw : ∀ d ∈ tables_1, d.before a0 Z = true) (ws : List Jvm.Cond) (p0 : Int32) (w_CS : Int32) (w_E : Addr) (w_F : Value) (h0 : Heap) (n0 : Nat) (hG : own_GC Z w_CS w_E w_F) (O0 : Old Z n0 h0) (hq : ¬ (255 : Int32) < p0) :
    MetFree l (⟨"java/lang/String", "valueOf", "(C)Ljava/lang/String;"⟩ : MethodName) (head1 (Jvm.Cond.code (⟨"java/lang/String", "valueOf", "(C)Ljava/lang/String;"⟩ : MethodName) jdk_42_method_139_code 1 (some (.object "java/lang/String")) :: ws) ({ frames := 3, cells := 2, slots := 5, locals := 45 } : Room)) (fun a U => a = #[(.int p0)] ∧ Z.Warmed39 U.vm ∧ U.heap = h0) (fun _ _ _ _ _ => True) (fun _ U o U' => ∃ v L, o = .returned v ∧ own_VO Z p0 h0 n0 v U'.heap L ∧ FrameEnd U o U' L ({ frames := 3, cells := 2, slots := 5, locals := 45 } : Room).cells ({ frames := 3, cells := 2, slots := 5, locals := 45 } : Room).slots) := by
  refine MetFree.of_bodySF (plainFor_of_name pn_0) hisR ?_
  intro p e s m args below meth c s₁ Bd hml0 hP hK
  obtain ⟨rfl, hZ, hh⟩ := hP
  have hx := Bd.exec
  have hby := Bd.bytes
  have hml : c.maxLocals = 1 := hml0
  have hown : s.vm.findClass "java/lang/String" = some m.cls := findClass_of_methodNamed Bd.named
  have hnm := (name_of_methodNamed Bd.named Bd.method).1
  have X0 : Stand p l e ({ frames := 3, cells := 2, slots := 5, locals := 45 } : Room) s m #[(.int p0)] below meth c s₁ [] 0 0 := Stand.of_body Bd
  have e0 : s₁.heap = h0 := by rw [← hh, Bd.state]; rfl
  have N0 := Fr.nil n0
  have pre0 : ∀ t, Steps p.tables e below (s₁.setTop (mkF m 0 #[.val (.int p0)] [])) t → Steps p.tables e below (s₁.setTop (entryFrame m #[(.int p0)] 1)) t := fun t k => castTop (ef_rm12 m p0) k
  have hG' := hG
  obtain ⟨S_CS, hCS, S_E, E_E, F_E, S_F, hF⟩ := hG'
  have K0 : Keep h0 h0 [] := Keep.refl _ _
  obtain ⟨T1, X1, e1, st1⟩ := getS2 X0 hx hZ hown (host := "") (Or.inl (hw _ (List.mem_of_getElem? (i := 76) rfl))) Via.refl e0 (S_CS.ext O0.2) (g := (mkF m 0 #[.val (.int p0)] [])) rfl (hb hby d12_0)
  obtain ⟨_, _, ⟨T2, L2, k2_, n2⟩, -, X2, ⟨Lc2, hQ2, l2, y2, z2⟩, st2⟩ := Jvm.LawKit.callS X1 hx (y := (⟨"java/lang/StringLatin1", "canEncode", "(C)Z"⟩ : MethodName)) hown (mvT hZ (hw _ (List.mem_of_getElem? (i := 77) rfl))) (mvT hZ (hw _ (List.mem_of_getElem? (i := 78) rfl))) (mvT hZ (hw _ (List.mem_of_getElem? (i := 79) rfl))) (mvT hZ (hw _ (List.mem_of_getElem? (i := 80) rfl))) (by decide) (backOf (W := 0) (rm13 l Z a0 hw [] p0 h0 n0 ) hZ (hw _ (List.mem_of_getElem? (i := 80) rfl)) (hw _ (List.mem_of_getElem? (i := 79) rfl)) (by decide) (by decide)) (g := (mkF m 7 #[.val (.int p0)] [(.int p0)])) rfl (by rw [hml]; rfl) (argsL := [(.int p0)]) (rest := []) (lenOf pd_4 rfl) rfl (by show 2 * 0 + _ ≤ _; exact Nat.le_of_eq rfl) (hb hby d12_7) (fun _ _ => ⟨rfl, e1, (by decide : 0 + 0 ≤ _), (by decide : 0 + 0 ≤ _)⟩)
  dsimp only [Pt.U, Pt.locs, Pt.cells, Pt.slots] at X2 l2 y2 z2 st2 hQ2
  subst l2 y2 z2
  obtain ⟨rfl, Nq2, e2⟩ := hQ2
  have N2 := Fr.app N0 Nq2
  obtain ⟨T3, h3, X3, e3, E3, A3, D3, -, st3⟩ := newO X2 hx hZ hown (hw _ (List.mem_of_getElem? (i := 81) rfl)) (hw _ (List.mem_of_getElem? (i := 5) rfl)) (hw _ (List.mem_of_getElem? (i := 6) rfl)) e2 (g := (mkF m 13 #[.val (.int p0)] [])) rfl (hb hby d12_13) (by decide) (by decide)
  obtain ⟨b3, g3⟩ : ∃ z, z = h0.size := ⟨_, rfl⟩
  rw [← g3] at A3 D3 st3
  have gn_b3 : n0 ≤ b3 := Nat.le_trans (O0.1 ▸ O0.2.1) (Nat.le_of_eq g3.symm)
  have sz_b3_K0 : h0.size ≤ b3 := Nat.le_trans K0.1 (Nat.le_of_eq g3.symm)
  replace O0 := O0.ext E3
  replace K0 := K0.ext E3
  have E_b3 := A3
  have F_value_b3 : Fld Z h3 b3 "java/lang/String" "value" "[B" .null := D3 (Or.inr (hw _ (List.mem_of_getElem? (i := 20) rfl))) (ty := (.array .byte)) (by decide)
  have F_coder_b3 : Fld Z h3 b3 "java/lang/String" "coder" "B" (.int (0 : Int32)) := D3 (Or.inr (hw _ (List.mem_of_getElem? (i := 21) rfl))) (ty := .byte) (by decide)
  obtain ⟨_, _, ⟨T4, L4, k4_, n4⟩, -, X4, ⟨Lc4, hQ4, l4, y4, z4⟩, st4⟩ := Jvm.LawKit.callS X3 hx (y := (⟨"java/lang/StringLatin1", "toBytes", "(C)[B"⟩ : MethodName)) hown (mvT hZ (hw _ (List.mem_of_getElem? (i := 82) rfl))) (mvT hZ (hw _ (List.mem_of_getElem? (i := 83) rfl))) (mvT hZ (hw _ (List.mem_of_getElem? (i := 79) rfl))) (mvT hZ (hw _ (List.mem_of_getElem? (i := 84) rfl))) (by decide) (backOf (W := 2) (rm14 l Z a0 hw [] p0 h3 n0 (O0.1 ▸ O0.2.1)) hZ (hw _ (List.mem_of_getElem? (i := 84) rfl)) (hw _ (List.mem_of_getElem? (i := 79) rfl)) (by decide) (by decide)) (g := (mkF m 18 #[.val (.int p0)] [(.int p0), (.ref b3), (.ref b3)])) rfl (by rw [hml]; rfl) (argsL := [(.int p0)]) (rest := [(.ref b3), (.ref b3)]) (lenOf pd_5 rfl) rfl (by show 2 * 0 + _ ≤ _; exact Nat.le_of_eq rfl) (hb hby d12_18) (fun _ _ => ⟨rfl, e3, (by decide : 1 + 1 ≤ _), (by decide : 4 + 1 ≤ _)⟩)
  dsimp only [Pt.U, Pt.locs, Pt.cells, Pt.slots] at X4 l4 y4 z4 st4 hQ4
  subst l4 y4 z4
  obtain ⟨b4, rfl, Nq4, Kq4, szq4, gn_b4, kq4, Vq4⟩ := hQ4
  have N4 := Fr.app N2 Nq4
  have ne_b3_b4 : b3 ≠ b4 := Nat.ne_of_lt (Nat.lt_of_lt_of_le E_b3.lt szq4)
  have sz_b4_K0 : h0.size ≤ b4 := Nat.le_trans K0.1 szq4
  replace E_b3 := E_b3.keep Kq4
  replace F_value_b3 := F_value_b3.keep Kq4 List.not_mem_nil
  replace F_coder_b3 := F_coder_b3.keep Kq4 List.not_mem_nil
  replace O0 := O0.keep Kq4 (fun x hx => nomatch hx)
  replace K0 := K0.trans Kq4 (fun x hx => nomatch hx)
  obtain ⟨_, _, ⟨T5, L5, k5_, n5⟩, -, X5, ⟨Lc5, hQ5, l5, y5, z5⟩, st5⟩ := X4.specialBack hx (y := (⟨"java/lang/String", "<init>", "([BB)V"⟩ : MethodName)) rfl hown (mvT hZ (hw _ (List.mem_of_getElem? (i := 85) rfl))) (mvT hZ (hw _ (List.mem_of_getElem? (i := 86) rfl))) (mvT hZ (hw _ (List.mem_of_getElem? (i := 87) rfl))) (by decide) (backOf (W := 1) (rm15 l Z a0 hw [] b3 b4 (0 : Int32) T4.heap n0 (O0.1 ▸ O0.2.1) gn_b3 E_b3 F_value_b3 F_coder_b3) hZ (hw _ (List.mem_of_getElem? (i := 87) rfl)) (hw _ (List.mem_of_getElem? (i := 6) rfl)) (by decide) (by decide)) (g := (mkF m 22 #[.val (.int p0)] [(.int (0 : Int32)), (.ref b4), (.ref b3), (.ref b3)])) rfl (by rw [hml]; rfl) (Steps.refl _) (a := b3) (argsL := [(.ref b4), (.int (0 : Int32))]) (rest := [(.ref b3)]) (lenOf pd_6 rfl) rfl (by show 2 * 0 + _ ≤ _; exact Nat.le_of_eq rfl) (hb hby d12_22) (fun _ _ => ⟨rfl, rfl, (by decide : 2 + 0 ≤ _), (by decide : 5 + 0 ≤ _)⟩)
  dsimp only [Pt.U, Pt.locs, Pt.cells, Pt.slots] at X5 l5 y5 z5 st5 hQ5
  subst l5 y5 z5
  obtain ⟨rfl, Nq5, Kq5, Eq5, Fn_value_5, Fn_coder_5⟩ := hQ5
  have N5 := Fr.app N4 Nq5
  replace E_b3 := E_b3.keep Kq5
  replace Vq4 := Vq4.keep Kq5 (fun q => (Ne.symm ne_b3_b4) (List.mem_singleton.mp q))
  replace O0 := O0.keep Kq5 (fun x hx => by cases List.mem_singleton.mp hx; exact gn_b3)
  replace K0 := K0.trans Kq5 (fun x hx => by cases List.mem_singleton.mp hx; exact (Or.inr sz_b3_K0))
  have k6 : ∀ t, Steps p.tables e below (T5.setTop (mkF m 25 #[.val (.int p0)] [(.ref b3)])) t → Steps p.tables e below (s₁.setTop (entryFrame m #[(.int p0)] 1)) t := by
    intro t k
    refine pre0 _ ?_
    show Steps p.tables e below (s₁.setTop (mkF m 0 #[.val (.int p0)] [])) _
    refine st1 _ ?_
    show Steps p.tables e below (T1.setTop (mkF m 3 #[.val (.int p0)] [(.int w_CS)])) _
    refine XS.ifNo X1.here hx rfl (hb hby d12_3) rfl ((if0 _ _).trans (feq hCS).1) ?_
    show Steps p.tables e below (T1.setTop (mkF m 6 #[.val (.int p0)] [])) _
    refine XS.iloadN X1.here hx rfl (hb hby d12_6) rfl ?_
    show Steps p.tables e below (T1.setTop (mkF m 7 #[.val (.int p0)] [(.int p0)])) _
    refine st2 _ ?_
    show Steps p.tables e below (T2.setTop (mkF m 10 #[.val (.int p0)] [(.int (own_f13 p0 ))])) _
    refine XS.ifNo X2.here hx rfl (hb hby d12_10) rfl ((if0 _ _).trans (feq (own_ce hq)).1) ?_
    show Steps p.tables e below (T2.setTop (mkF m 13 #[.val (.int p0)] [])) _
    refine st3 _ ?_
    show Steps p.tables e below (T3.setTop (mkF m 16 #[.val (.int p0)] [(.ref b3)])) _
    refine XS.dup X3.here hx rfl (hb hby d12_16) rfl rfl ?_
    show Steps p.tables e below (T3.setTop (mkF m 17 #[.val (.int p0)] [(.ref b3), (.ref b3)])) _
    refine XS.iloadN X3.here hx rfl (hb hby d12_17) rfl ?_
    show Steps p.tables e below (T3.setTop (mkF m 18 #[.val (.int p0)] [(.int p0), (.ref b3), (.ref b3)])) _
    refine st4 _ ?_
    show Steps p.tables e below (T4.setTop (mkF m 21 #[.val (.int p0)] [(.ref b4), (.ref b3), (.ref b3)])) _
    refine XS.iconst X4.here hx rfl (hb hby d12_21) ?_
    show Steps p.tables e below (T4.setTop (mkF m 22 #[.val (.int p0)] [(.int (0 : Int32)), (.ref b4), (.ref b3), (.ref b3)])) _
    refine st5.trans ?_
    exact k
  obtain ⟨fs, hr, hrun, hended, hW, hsame⟩ := X5.leave (v := some (.ref b3)) (fun h => by rw [Bd.returns] at h; cases h)
  refine ⟨_, _, k6 _ ?_, hrun, hended, _, _, rfl, ?_, ⟨_, rfl⟩, hW, hsame.mono (by decide) (by decide)⟩
  · exact retOut X5 hx Bd.returns rfl (Or.inr (Or.inr (Or.inr (Or.inr ⟨rfl, rfl, rfl⟩)))) (hb hby d12_25) hr
  · show own_VO Z p0 h0 n0 _ T5.heap _
    exact ⟨_, rfl, N5, K0, E_b3, _, _, _, Fn_value_5, Fn_coder_5, (by decide), Vq4⟩
def own_MK (Z : State) (p0 p1 p2 : Int32) (h0 : Heap) (n0 : Nat) (v : Option Value) (h : Heap) (L : List Loc) : Prop := ∃ b : Addr, v = some (.ref b) ∧ Fr n0 L ∧ Keep h0 h [] ∧ ∃ rv k ln vs, (Exa Z h b "java/lang/String" ∧ Fld Z h b "java/lang/String" "value" "[B" (.ref rv) ∧ Fld Z h b "java/lang/String" "coder" "B" (.int (0 : Int32)) ∧ Arv Z h rv k .byte ln vs (.int (0 : Int32))) ∧ own_dl p0 p1 p2 ln vs
theorem pn_3 : plainName "com/example/indelible_crawl/indeliblecrawl/fetch/ValidatorsIsEmptyPinLaw" = true := by first | (simp [plainName, overriddenIn]; done) | decide +kernel
theorem ef_rm1 (m : MethodId) (x0 : Int32) (x1 : Int32) (x2 : Int32) : entryFrame m #[(.int x0), (.int x1), (.int x2)] 3 = mkF m 0 #[.val (.int x0), .val (.int x1), .val (.int x2)] [] := by first | (simp [entryFrame, mkF, argsToLocals, Value.category]; done) | rfl
theorem d1_0 : decode method_3_code 0 = .ok (.iload_n 0, 1) := by decide +kernel
theorem d1_1 : decode method_3_code 1 = .ok (.ifCond .ne 14, 3) := by decide +kernel
theorem d1_4 : decode method_3_code 4 = .ok (.new 36, 3) := by decide +kernel
theorem d1_7 : decode method_3_code 7 = .ok (.dup, 1) := by decide +kernel
theorem d1_8 : decode method_3_code 8 = .ok (.iconst 0, 1) := by decide +kernel
theorem d1_9 : decode method_3_code 9 = .ok (.newarray .char, 2) := by decide +kernel
theorem pd_7 : parseMethodDescriptor "([C)V" = some ⟨[(.array .char)], none⟩ := by decide +kernel
theorem d1_11 : decode method_3_code 11 = .ok (.invokespecial 38, 3) := by decide +kernel
theorem d1_14 : decode method_3_code 14 = .ok (.areturn, 1) := by decide +kernel
theorem d1_15 : decode method_3_code 15 = .ok (.iload_n 0, 1) := by decide +kernel
theorem d1_16 : decode method_3_code 16 = .ok (.iconst 1, 1) := by decide +kernel
theorem d1_17 : decode method_3_code 17 = .ok (.if_icmp .ne 8, 3) := by decide +kernel
theorem d1_20 : decode method_3_code 20 = .ok (.iload_n 1, 1) := by decide +kernel
theorem pd_8 : parseMethodDescriptor "(C)Ljava/lang/String;" = some ⟨[.char], some (.object "java/lang/String")⟩ := by decide +kernel
theorem d1_21 : decode method_3_code 21 = .ok (.invokestatic 41, 3) := by decide +kernel
theorem d1_24 : decode method_3_code 24 = .ok (.areturn, 1) := by decide +kernel
theorem d1_25 : decode method_3_code 25 = .ok (.new 36, 3) := by decide +kernel
theorem d1_28 : decode method_3_code 28 = .ok (.dup, 1) := by decide +kernel
theorem d1_29 : decode method_3_code 29 = .ok (.iconst 2, 1) := by decide +kernel
theorem d1_30 : decode method_3_code 30 = .ok (.newarray .char, 2) := by decide +kernel
theorem d1_32 : decode method_3_code 32 = .ok (.dup, 1) := by decide +kernel
theorem d1_33 : decode method_3_code 33 = .ok (.iconst 0, 1) := by decide +kernel
theorem d1_34 : decode method_3_code 34 = .ok (.iload_n 1, 1) := by decide +kernel
theorem d1_35 : decode method_3_code 35 = .ok (.castore, 1) := by decide +kernel
theorem d1_36 : decode method_3_code 36 = .ok (.dup, 1) := by decide +kernel
theorem d1_37 : decode method_3_code 37 = .ok (.iconst 1, 1) := by decide +kernel
theorem d1_38 : decode method_3_code 38 = .ok (.iload_n 2, 1) := by decide +kernel
theorem d1_39 : decode method_3_code 39 = .ok (.castore, 1) := by decide +kernel
theorem d1_40 : decode method_3_code 40 = .ok (.invokespecial 38, 3) := by decide +kernel
theorem d1_43 : decode method_3_code 43 = .ok (.areturn, 1) := by decide +kernel
set_option maxRecDepth 65536 in
set_option maxHeartbeats 40000000 in
theorem rm1 (l : Launch) (Z : State) (a0 : Array Value) (hw : ∀ d ∈ tables_1, d.before a0 Z = true) (ws : List Jvm.Cond) (p0 : Int32) (p1 : Int32) (p2 : Int32) (w_CS : Int32) (w_E : Addr) (w_F : Value) (h0 : Heap) (n0 : Nat) (hG : own_GC Z w_CS w_E w_F) (O0 : Old Z n0 h0) (hp : p0 = (0 : Int32) ∨ p0 = (1 : Int32) ∨ p0 = (2 : Int32)) (hc1 : own_c8 p1) (hc2 : own_c8 p2) :
    MetFree l (⟨"com/example/indelible_crawl/indeliblecrawl/fetch/ValidatorsIsEmptyPinLaw", "make", "(ICC)Ljava/lang/String;"⟩ : MethodName) (head1 (Jvm.Cond.code (⟨"com/example/indelible_crawl/indeliblecrawl/fetch/ValidatorsIsEmptyPinLaw", "make", "(ICC)Ljava/lang/String;"⟩ : MethodName) method_3_code 3 (some (.object "java/lang/String")) :: ws) ({ frames := 4, cells := 8, slots := 24, locals := 80 } : Room)) (fun a U => a = #[(.int p0), (.int p1), (.int p2)] ∧ Z.Warmed39 U.vm ∧ U.heap = h0 ∧ CHv Z own_EL U.vm h0 ∧ ∀ x ∈ ([] : List Addr), Safe Z own_EL U.vm h0 x) (fun _ _ _ _ _ => True) (fun _ U o U' => ∃ v L, o = .returned v ∧ own_MK Z p0 p1 p2 h0 n0 v U'.heap L ∧ CHr Z own_EL U.vm U.heap U'.vm U'.heap ∧ ReturnedEndW U o U' L ({ frames := 4, cells := 8, slots := 24, locals := 80 } : Room).cells ({ frames := 4, cells := 8, slots := 24, locals := 80 } : Room).slots) := by
  refine MetFree.of_bodySF (plainFor_of_name pn_3) hisR ?_
  intro p e s m args below meth c s₁ Bd hml0 hP hK
  obtain ⟨rfl, hZ, hh, hH, hSf⟩ := hP
  have hx := Bd.exec
  have hby := Bd.bytes
  have hml : c.maxLocals = 3 := hml0
  have hown : s.vm.findClass "com/example/indelible_crawl/indeliblecrawl/fetch/ValidatorsIsEmptyPinLaw" = some m.cls := findClass_of_methodNamed Bd.named
  have hnm := (name_of_methodNamed Bd.named Bd.method).1
  have X0 : Stand p l e ({ frames := 4, cells := 8, slots := 24, locals := 80 } : Room) (s.setVm s.vm) m #[(.int p0), (.int p1), (.int p2)] below meth c s₁ [] 0 0 := Stand.of_body Bd
  have e0 : s₁.heap = h0 := by rw [← hh, Bd.state]; rfl
  have N0 := Fr.nil n0
  have pre0 : ∀ t, Steps p.tables e below (s₁.setTop (mkF m 0 #[.val (.int p0), .val (.int p1), .val (.int p2)] [])) t → Steps p.tables e below (s₁.setTop (entryFrame m #[(.int p0), (.int p1), (.int p2)] 3)) t := fun t k => castTop (ef_rm1 m p0 p1 p2) k
  have hS : s.Since s.vm 0 := (State.WarmedH.refl s).since 0
  have hk : 0 ≤ h0.size := Nat.zero_le _
  replace hZ : Z.Warmed39 (s.setVm s.vm).vm := hZ
  replace hown : (s.setVm s.vm).vm.findClass "com/example/indelible_crawl/indeliblecrawl/fetch/ValidatorsIsEmptyPinLaw" = some m.cls := hown
  have HC : CHr Z own_EL s.vm h0 s.vm h0 := CHr.refl hH
  have hG' := hG
  obtain ⟨S_CS, hCS, S_E, E_E, F_E, S_F, hF⟩ := hG'
  have K0 : Keep h0 h0 [] := Keep.refl _ _
  have k1 : ∀ t, Steps p.tables e below (s₁.setTop (mkF m 1 #[.val (.int p0), .val (.int p1), .val (.int p2)] [(.int p0)])) t → Steps p.tables e below (s₁.setTop (entryFrame m #[(.int p0), (.int p1), (.int p2)] 3)) t := by
    intro t k
    refine pre0 _ ?_
    show Steps p.tables e below (s₁.setTop (mkF m 0 #[.val (.int p0), .val (.int p1), .val (.int p2)] [])) _
    refine XS.iloadN X0.here hx rfl (hb hby d1_0) rfl ?_
    exact k
  by_cases hc1_1 : p0 = (0 : Int32)
  · obtain ⟨T2, h2, X2, e2, E2, A2, D2, -, st2⟩ := newO X0 hx hZ hown (hw _ (List.mem_of_getElem? (i := 4) rfl)) (hw _ (List.mem_of_getElem? (i := 5) rfl)) (hw _ (List.mem_of_getElem? (i := 6) rfl)) e0 (g := (mkF m 4 #[.val (.int p0), .val (.int p1), .val (.int p2)] [])) rfl (hb hby d1_4) (by decide) (by decide)
    obtain ⟨b2, g2⟩ : ∃ z, z = h0.size := ⟨_, rfl⟩
    rw [← g2] at A2 D2 st2
    have gn_b2 : n0 ≤ b2 := Nat.le_trans (O0.1 ▸ O0.2.1) (Nat.le_of_eq g2.symm)
    have sz_b2_K0 : h0.size ≤ b2 := Nat.le_trans K0.1 (Nat.le_of_eq g2.symm)
    have Sf_b2 : Safe Z own_EL s.vm h0 b2 := Safe.new (Nat.le_of_eq g2.symm)
    replace O0 := O0.ext E2
    replace K0 := K0.ext E2
    replace hk := Nat.le_trans hk E2.1
    replace Sf_b2 := Safe.ext E2 HC.1 Sf_b2
    replace HC := HC.trans (CHr.ext E2 HC.1)
    have E_b2 := A2
    have F_value_b2 : Fld Z h2 b2 "java/lang/String" "value" "[B" .null := D2 (Or.inr (hw _ (List.mem_of_getElem? (i := 20) rfl))) (ty := (.array .byte)) (by decide)
    have F_coder_b2 : Fld Z h2 b2 "java/lang/String" "coder" "B" (.int (0 : Int32)) := D2 (Or.inr (hw _ (List.mem_of_getElem? (i := 21) rfl))) (ty := .byte) (by decide)
    obtain ⟨T3, h3, c3, X3, e3, E3, A3, st3⟩ := newP X2 hx hZ (hw _ (List.mem_of_getElem? (i := 7) rfl)) e2 (g := (mkF m 9 #[.val (.int p0), .val (.int p1), .val (.int p2)] [(.int (0 : Int32)), (.ref b2), (.ref b2)])) rfl (hb hby d1_9) rfl (by decide) (cap := 0) (by decide) (by decide) (by decide) (by decide)
    obtain ⟨b3, g3⟩ : ∃ z, z = h2.size := ⟨_, rfl⟩
    rw [← g3] at A3 st3
    have ne_b2_b3 : b2 ≠ b3 := Nat.ne_of_lt (Nat.lt_of_lt_of_le E_b2.lt (Nat.le_of_eq g3.symm))
    have gn_b3 : n0 ≤ b3 := Nat.le_trans (O0.1 ▸ O0.2.1) (Nat.le_of_eq g3.symm)
    have sz_b3_K0 : h0.size ≤ b3 := Nat.le_trans K0.1 (Nat.le_of_eq g3.symm)
    replace E_b2 := E_b2.ext E3
    replace F_value_b2 := F_value_b2.ext E3
    replace F_coder_b2 := F_coder_b2.ext E3
    replace O0 := O0.ext E3
    replace K0 := K0.ext E3
    replace hk := Nat.le_trans hk E3.1
    replace Sf_b2 := Safe.ext E3 HC.1 Sf_b2
    replace HC := HC.trans (CHr.ext E3 HC.1)
    have V_b3 : Arv Z h3 b3 c3 .char (0 : Int32) [] (.int (0 : Int32)) := Arv.new A3 (by decide)
    have k5 : ∀ t, Steps p.tables e below (T3.setTop (mkF m 11 #[.val (.int p0), .val (.int p1), .val (.int p2)] [(.ref b3), (.ref b2), (.ref b2)])) t → Steps p.tables e below (s₁.setTop (entryFrame m #[(.int p0), (.int p1), (.int p2)] 3)) t := by
      intro t k
      refine k1 _ ?_
      show Steps p.tables e below (s₁.setTop (mkF m 1 #[.val (.int p0), .val (.int p1), .val (.int p2)] [(.int p0)])) _
      refine XS.ifNo X0.here hx rfl (hb hby d1_1) rfl ((if0 _ _).trans (teq hc1_1).2) ?_
      show Steps p.tables e below (s₁.setTop (mkF m 4 #[.val (.int p0), .val (.int p1), .val (.int p2)] [])) _
      refine st2 _ ?_
      show Steps p.tables e below (T2.setTop (mkF m 7 #[.val (.int p0), .val (.int p1), .val (.int p2)] [(.ref b2)])) _
      refine XS.dup X2.here hx rfl (hb hby d1_7) rfl rfl ?_
      show Steps p.tables e below (T2.setTop (mkF m 8 #[.val (.int p0), .val (.int p1), .val (.int p2)] [(.ref b2), (.ref b2)])) _
      refine XS.iconst X2.here hx rfl (hb hby d1_8) ?_
      show Steps p.tables e below (T2.setTop (mkF m 9 #[.val (.int p0), .val (.int p1), .val (.int p2)] [(.int (0 : Int32)), (.ref b2), (.ref b2)])) _
      refine st3 _ ?_
      exact k
    obtain ⟨_, _, ⟨T4, L4, k4_, n4⟩, -, X4, hS4, hg4, ⟨Lc4, hQ4, l4, y4, z4, hC4⟩, st4⟩ := X3.specialBackS hx (y := (⟨"java/lang/String", "<init>", "([C)V"⟩ : MethodName)) rfl hown (mvT hZ (hw _ (List.mem_of_getElem? (i := 8) rfl))) (mvT hZ (hw _ (List.mem_of_getElem? (i := 9) rfl))) (mvT hZ (hw _ (List.mem_of_getElem? (i := 10) rfl))) (by decide) (own_backH (W := 1) (rmS1_0 l Z a0 hw [] b2 b3 c3  w_CS w_E w_F h3 n0 hG O0 (O0.1 ▸ O0.2.1) gn_b2 E_b2 F_value_b2 F_coder_b2 (Ne.symm ne_b2_b3) V_b3 ) hZ (hw _ (List.mem_of_getElem? (i := 10) rfl)) (hw _ (List.mem_of_getElem? (i := 6) rfl)) (by decide) (by decide) (own_EW hw) HC.1 (fun x hx => by cases List.mem_singleton.mp hx; exact ⟨E_b2.lt, Sf_b2⟩)) (g := (mkF m 11 #[.val (.int p0), .val (.int p1), .val (.int p2)] [(.ref b3), (.ref b2), (.ref b2)])) rfl (by rw [hml]; rfl) (Steps.refl _) (a := b2) (argsL := [(.ref b3)]) (rest := [(.ref b2)]) (lenOf pd_7 rfl) rfl (by show 2 * 0 + _ ≤ _; exact Nat.le_of_eq rfl) (hb hby d1_11) (fun _ _ => ⟨rfl, e3, (by decide : 2 + 4 ≤ _), (by decide : 4 + 8 ≤ _)⟩)
    dsimp only [Pt.U, Pt.locs, Pt.cells, Pt.slots] at X4 l4 y4 z4 st4 hQ4
    subst l4 y4 z4
    dsimp only [Pt.U, Pt.locs, Pt.cells, Pt.slots] at hC4
    dsimp only [Pt.U, Pt.locs, Pt.cells, Pt.slots] at hS4 hg4
    obtain ⟨X4, hS, hZ, hown⟩ := rebS hS (show _ ≤ T3.heap.size by rw [e3]; exact hk) X4 hS4 hg4 hZ hown
    replace hk := Nat.le_refl T4.heap.size
    replace Sf_b2 := hC4.safe E_b2.lt Sf_b2
    replace HC := HC.trans hC4
    obtain ⟨rfl, Nq4, Kq4, Eq4, bv4, kq4, cd4, Fq4, Gq4, hcd4, Vq4⟩ := hQ4
    subst hcd4
    have N4 := Fr.app N0 Nq4
    replace E_b2 := E_b2.keep Kq4
    replace V_b3 := V_b3.keep Kq4 (fun q => (Ne.symm ne_b2_b3) (List.mem_singleton.mp q))
    replace O0 := O0.keep Kq4 (fun x hx => by cases List.mem_singleton.mp hx; exact gn_b2)
    replace K0 := K0.trans Kq4 (fun x hx => by cases List.mem_singleton.mp hx; exact (Or.inr sz_b2_K0))
    have k6 : ∀ t, Steps p.tables e below (T4.setTop (mkF m 14 #[.val (.int p0), .val (.int p1), .val (.int p2)] [(.ref b2)])) t → Steps p.tables e below (s₁.setTop (entryFrame m #[(.int p0), (.int p1), (.int p2)] 3)) t := by
      intro t k
      refine k5 _ ?_
      show Steps p.tables e below (T3.setTop (mkF m 11 #[.val (.int p0), .val (.int p1), .val (.int p2)] [(.ref b3), (.ref b2), (.ref b2)])) _
      refine st4.trans ?_
      exact k
    obtain ⟨fs, hr, hrun, hended, hEW⟩ := X4.leaveW hS hk (v := some (.ref b2)) (fun h => by rw [Bd.returns] at h; cases h)
    have HCf : CHr Z own_EL s.vm s.heap T4.vm T4.heap := by
      rw [hh]
      exact HC.trans (CHv.at X4 hZ (own_EW hw) HC.1)
    refine ⟨_, _, k6 _ ?_, hrun, hended, _, _, rfl, ?_, HCf, hEW.1, hEW.2.1, hEW.2.2.1, hEW.2.2.2.mono (by decide) (by decide)⟩
    · exact retOut X4 hx Bd.returns rfl (Or.inr (Or.inr (Or.inr (Or.inr ⟨rfl, rfl, rfl⟩)))) (hb hby d1_14) hr
    · show own_MK Z p0 p1 p2 h0 n0 _ T4.heap _
      exact ⟨_, rfl, N4, K0, _, _, _, _, ⟨E_b2, Fq4, Gq4, Vq4⟩, Or.inl ⟨hc1_1, rfl, rfl⟩⟩
  · have k7 : ∀ t, Steps p.tables e below (s₁.setTop (mkF m 17 #[.val (.int p0), .val (.int p1), .val (.int p2)] [(.int (1 : Int32)), (.int p0)])) t → Steps p.tables e below (s₁.setTop (entryFrame m #[(.int p0), (.int p1), (.int p2)] 3)) t := by
      intro t k
      refine k1 _ ?_
      show Steps p.tables e below (s₁.setTop (mkF m 1 #[.val (.int p0), .val (.int p1), .val (.int p2)] [(.int p0)])) _
      refine XS.ifYes X0.here hx rfl (pc0 := 1) (pc' := 15) rfl (hb hby d1_1) rfl ((if0 _ _).trans (feq hc1_1).2) (by decide) (by decide) ?_
      show Steps p.tables e below (s₁.setTop (mkF m 15 #[.val (.int p0), .val (.int p1), .val (.int p2)] [])) _
      refine XS.iloadN X0.here hx rfl (hb hby d1_15) rfl ?_
      show Steps p.tables e below (s₁.setTop (mkF m 16 #[.val (.int p0), .val (.int p1), .val (.int p2)] [(.int p0)])) _
      refine XS.iconst X0.here hx rfl (hb hby d1_16) ?_
      exact k
    by_cases hc17_2 : p0 = (1 : Int32)
    · obtain ⟨_, _, ⟨T8, L8, k8_, n8⟩, -, X8, ⟨Lc8, hQ8, l8, y8, z8⟩, st8⟩ := Jvm.LawKit.callS X0 hx (y := (⟨"java/lang/String", "valueOf", "(C)Ljava/lang/String;"⟩ : MethodName)) hown (mvT hZ (hw _ (List.mem_of_getElem? (i := 73) rfl))) (mvT hZ (hw _ (List.mem_of_getElem? (i := 74) rfl))) (mvT hZ (hw _ (List.mem_of_getElem? (i := 6) rfl))) (mvT hZ (hw _ (List.mem_of_getElem? (i := 75) rfl))) (by decide) (backOf (W := 0) (rm12 l Z a0 hw [] p1 w_CS w_E w_F h0 n0 hG O0 (own_c8n hc1)) hZ (hw _ (List.mem_of_getElem? (i := 75) rfl)) (hw _ (List.mem_of_getElem? (i := 6) rfl)) (by decide) (by decide)) (g := (mkF m 21 #[.val (.int p0), .val (.int p1), .val (.int p2)] [(.int p1)])) rfl (by rw [hml]; rfl) (argsL := [(.int p1)]) (rest := []) (lenOf pd_8 rfl) rfl (by show 2 * 0 + _ ≤ _; exact Nat.le_of_eq rfl) (hb hby d1_21) (fun _ _ => ⟨rfl, e0, (by decide : 0 + 2 ≤ _), (by decide : 0 + 5 ≤ _)⟩)
      dsimp only [Pt.U, Pt.locs, Pt.cells, Pt.slots] at X8 l8 y8 z8 st8 hQ8
      subst l8 y8 z8
      obtain ⟨b8, rfl, Nq8, Kq8, Eq8, rv8, kq8, cd8, Fq8, Gq8, hcd8, Vq8⟩ := hQ8
      subst hcd8
      have N8 := Fr.app N0 Nq8
      replace HC := HC.trans (CHr.keep Kq8 (fun x hx => nomatch hx) HC.1)
      replace O0 := O0.keep Kq8 (fun x hx => nomatch hx)
      replace K0 := K0.trans Kq8 (fun x hx => nomatch hx)
      replace hk := Nat.le_trans hk Kq8.1
      have k9 : ∀ t, Steps p.tables e below (T8.setTop (mkF m 24 #[.val (.int p0), .val (.int p1), .val (.int p2)] [(.ref b8)])) t → Steps p.tables e below (s₁.setTop (entryFrame m #[(.int p0), (.int p1), (.int p2)] 3)) t := by
        intro t k
        refine k7 _ ?_
        show Steps p.tables e below (s₁.setTop (mkF m 17 #[.val (.int p0), .val (.int p1), .val (.int p2)] [(.int (1 : Int32)), (.int p0)])) _
        refine XS.icmpNo X0.here hx rfl (hb hby d1_17) rfl (teq hc17_2).2 ?_
        show Steps p.tables e below (s₁.setTop (mkF m 20 #[.val (.int p0), .val (.int p1), .val (.int p2)] [])) _
        refine XS.iloadN X0.here hx rfl (hb hby d1_20) rfl ?_
        show Steps p.tables e below (s₁.setTop (mkF m 21 #[.val (.int p0), .val (.int p1), .val (.int p2)] [(.int p1)])) _
        refine st8 _ ?_
        exact k
      obtain ⟨fs, hr, hrun, hended, hEW⟩ := X8.leaveW hS hk (v := some (.ref b8)) (fun h => by rw [Bd.returns] at h; cases h)
      have HCf : CHr Z own_EL s.vm s.heap T8.vm T8.heap := by
        rw [hh]
        exact HC.trans (CHv.at X8 hZ (own_EW hw) HC.1)
      refine ⟨_, _, k9 _ ?_, hrun, hended, _, _, rfl, ?_, HCf, hEW.1, hEW.2.1, hEW.2.2.1, hEW.2.2.2.mono (by decide) (by decide)⟩
      · exact retOut X8 hx Bd.returns rfl (Or.inr (Or.inr (Or.inr (Or.inr ⟨rfl, rfl, rfl⟩)))) (hb hby d1_24) hr
      · show own_MK Z p0 p1 p2 h0 n0 _ T8.heap _
        exact ⟨_, rfl, N8, K0, _, _, _, _, ⟨Eq8, Fq8, Gq8, Vq8⟩, Or.inr (Or.inl ⟨hc17_2, rfl, rfl⟩)⟩
    · obtain ⟨T10, h10, X10, e10, E10, A10, D10, -, st10⟩ := newO X0 hx hZ hown (hw _ (List.mem_of_getElem? (i := 4) rfl)) (hw _ (List.mem_of_getElem? (i := 5) rfl)) (hw _ (List.mem_of_getElem? (i := 6) rfl)) e0 (g := (mkF m 25 #[.val (.int p0), .val (.int p1), .val (.int p2)] [])) rfl (hb hby d1_25) (by decide) (by decide)
      obtain ⟨b10, g10⟩ : ∃ z, z = h0.size := ⟨_, rfl⟩
      rw [← g10] at A10 D10 st10
      have gn_b10 : n0 ≤ b10 := Nat.le_trans (O0.1 ▸ O0.2.1) (Nat.le_of_eq g10.symm)
      have sz_b10_K0 : h0.size ≤ b10 := Nat.le_trans K0.1 (Nat.le_of_eq g10.symm)
      have Sf_b10 : Safe Z own_EL s.vm h0 b10 := Safe.new (Nat.le_of_eq g10.symm)
      replace O0 := O0.ext E10
      replace K0 := K0.ext E10
      replace hk := Nat.le_trans hk E10.1
      replace Sf_b10 := Safe.ext E10 HC.1 Sf_b10
      replace HC := HC.trans (CHr.ext E10 HC.1)
      have E_b10 := A10
      have F_value_b10 : Fld Z h10 b10 "java/lang/String" "value" "[B" .null := D10 (Or.inr (hw _ (List.mem_of_getElem? (i := 20) rfl))) (ty := (.array .byte)) (by decide)
      have F_coder_b10 : Fld Z h10 b10 "java/lang/String" "coder" "B" (.int (0 : Int32)) := D10 (Or.inr (hw _ (List.mem_of_getElem? (i := 21) rfl))) (ty := .byte) (by decide)
      obtain ⟨T11, h11, c11, X11, e11, E11, A11, st11⟩ := newP X10 hx hZ (hw _ (List.mem_of_getElem? (i := 7) rfl)) e10 (g := (mkF m 30 #[.val (.int p0), .val (.int p1), .val (.int p2)] [(.int (2 : Int32)), (.ref b10), (.ref b10)])) rfl (hb hby d1_30) rfl (by decide) (cap := 2) (by decide) (by decide) (by decide) (by decide)
      obtain ⟨b11, g11⟩ : ∃ z, z = h10.size := ⟨_, rfl⟩
      rw [← g11] at A11 st11
      have ne_b10_b11 : b10 ≠ b11 := Nat.ne_of_lt (Nat.lt_of_lt_of_le E_b10.lt (Nat.le_of_eq g11.symm))
      have gn_b11 : n0 ≤ b11 := Nat.le_trans (O0.1 ▸ O0.2.1) (Nat.le_of_eq g11.symm)
      have sz_b11_K0 : h0.size ≤ b11 := Nat.le_trans K0.1 (Nat.le_of_eq g11.symm)
      replace E_b10 := E_b10.ext E11
      replace F_value_b10 := F_value_b10.ext E11
      replace F_coder_b10 := F_coder_b10.ext E11
      replace O0 := O0.ext E11
      replace K0 := K0.ext E11
      replace hk := Nat.le_trans hk E11.1
      replace Sf_b10 := Safe.ext E11 HC.1 Sf_b10
      replace HC := HC.trans (CHr.ext E11 HC.1)
      have V_b11 : Arv Z h11 b11 c11 .char (2 : Int32) [(.int (0 : Int32)), (.int (0 : Int32))] (.int (0 : Int32)) := (Arv.new A11 (by decide)).pad (pad_rep [] (.int (0 : Int32)) 2)
      obtain ⟨cl_12, Ar_12, q_12, S_12, N_12, H_12, G_12⟩ := id V_b11
      have hin_12 : ¬ ((0 : Int32) < 0 ∨ cl_12.slots.size ≤ ((0 : Int32)).toNatClampNeg) := inb_of S_12 ⟨by decide, by decide⟩
      obtain ⟨T12, h12, X12, e12, W12, st12⟩ := stC X11 hx hZ e11 Ar_12 (j := (0 : Int32)) hin_12 (g := (mkF m 35 #[.val (.int p0), .val (.int p1), .val (.int p2)] [(.int p1), (.int (0 : Int32)), (.ref b11), (.ref b11), (.ref b10), (.ref b10)])) rfl rfl (hb hby d1_35)
      have Vn12 : Arv Z h12 b11 c11 .char (2 : Int32) [(.int (nar .char p1)), (.int (0 : Int32))] (.int (0 : Int32)) := Arv.set Ar_12 q_12 S_12 N_12 H_12 G_12 (fits_nar_char _) W12 0 rfl (Nat.le_of_ble_eq_true rfl)
      have So : Safe Z own_EL s.vm h11 b11 := (by obtain ⟨_, A, _⟩ := V_b11; exact Safe.arr hZ.alike A (by decide))
      replace E_b10 := E_b10.wr W12
      replace F_value_b10 := F_value_b10.other W12 (Or.inl ne_b10_b11)
      replace F_coder_b10 := F_coder_b10.other W12 (Or.inl ne_b10_b11)
      replace Sf_b10 := Safe.wr W12 So HC.1 Sf_b10
      replace HC := HC.trans (CHr.wr W12 So HC.1)
      replace O0 := O0.wr W12 gn_b11
      replace K0 := K0.wr W12 (Or.inr sz_b11_K0)
      replace hk := Nat.le_trans hk (Nat.le_of_eq W12.size.symm)
      replace V_b11 := Vn12
      have N12 := Fr.snoc X12 N0 gn_b11
      obtain ⟨cl_13, Ar_13, q_13, S_13, N_13, H_13, G_13⟩ := id V_b11
      have hin_13 : ¬ ((1 : Int32) < 0 ∨ cl_13.slots.size ≤ ((1 : Int32)).toNatClampNeg) := inb_of S_13 ⟨by decide, by decide⟩
      obtain ⟨T13, h13, X13, e13, W13, st13⟩ := stC X12 hx hZ e12 Ar_13 (j := (1 : Int32)) hin_13 (g := (mkF m 39 #[.val (.int p0), .val (.int p1), .val (.int p2)] [(.int p2), (.int (1 : Int32)), (.ref b11), (.ref b11), (.ref b10), (.ref b10)])) rfl rfl (hb hby d1_39)
      have Vn13 : Arv Z h13 b11 c11 .char (2 : Int32) [(.int (nar .char p1)), (.int (nar .char p2))] (.int (0 : Int32)) := Arv.set Ar_13 q_13 S_13 N_13 H_13 G_13 (fits_nar_char _) W13 1 rfl (Nat.le_of_ble_eq_true rfl)
      have So : Safe Z own_EL s.vm h12 b11 := (by obtain ⟨_, A, _⟩ := V_b11; exact Safe.arr hZ.alike A (by decide))
      replace E_b10 := E_b10.wr W13
      replace F_value_b10 := F_value_b10.other W13 (Or.inl ne_b10_b11)
      replace F_coder_b10 := F_coder_b10.other W13 (Or.inl ne_b10_b11)
      replace Sf_b10 := Safe.wr W13 So HC.1 Sf_b10
      replace HC := HC.trans (CHr.wr W13 So HC.1)
      replace O0 := O0.wr W13 gn_b11
      replace K0 := K0.wr W13 (Or.inr sz_b11_K0)
      replace hk := Nat.le_trans hk (Nat.le_of_eq W13.size.symm)
      replace V_b11 := Vn13
      have N13 := Fr.snoc X13 N12 gn_b11
      rw [own_nc hc1, own_nc hc2] at V_b11
      obtain ⟨_, _, ⟨T14, L14, k14_, n14⟩, -, X14, ⟨Lc14, hQ14, l14, y14, z14⟩, st14⟩ := X13.specialBack hx (y := (⟨"java/lang/String", "<init>", "([C)V"⟩ : MethodName)) rfl hown (mvT hZ (hw _ (List.mem_of_getElem? (i := 8) rfl))) (mvT hZ (hw _ (List.mem_of_getElem? (i := 9) rfl))) (mvT hZ (hw _ (List.mem_of_getElem? (i := 10) rfl))) (by decide) (backOf (W := 1) (rmS1_2 l Z a0 hw [] b10 b11 c11 p1 p2 w_CS w_E w_F h13 n0 hG O0 (O0.1 ▸ O0.2.1) gn_b10 E_b10 F_value_b10 F_coder_b10 (Ne.symm ne_b10_b11) V_b11 (own_c8n hc1) (own_c8n hc2)) hZ (hw _ (List.mem_of_getElem? (i := 10) rfl)) (hw _ (List.mem_of_getElem? (i := 6) rfl)) (by decide) (by decide)) (g := (mkF m 40 #[.val (.int p0), .val (.int p1), .val (.int p2)] [(.ref b11), (.ref b10), (.ref b10)])) rfl (by rw [hml]; rfl) (Steps.refl _) (a := b10) (argsL := [(.ref b11)]) (rest := [(.ref b10)]) (lenOf pd_7 rfl) rfl (by show 2 * 0 + _ ≤ _; exact Nat.le_of_eq rfl) (hb hby d1_40) (fun _ _ => ⟨rfl, e13, (by decide : 2 + 1 ≤ _), (by decide : 6 + 2 ≤ _)⟩)
      dsimp only [Pt.U, Pt.locs, Pt.cells, Pt.slots] at X14 l14 y14 z14 st14 hQ14
      subst l14 y14 z14
      obtain ⟨rfl, Nq14, Kq14, Eq14, bv14, kq14, cd14, Fq14, Gq14, hcd14, Vq14⟩ := hQ14
      subst hcd14
      have N14 := Fr.app N13 Nq14
      have So : Safe Z own_EL s.vm h13 b10 := Sf_b10
      replace Sf_b10 := Safe.keep Kq14 (fun x hx => by cases List.mem_singleton.mp hx; exact So) HC.1 Sf_b10
      replace HC := HC.trans (CHr.keep Kq14 (fun x hx => by cases List.mem_singleton.mp hx; exact So) HC.1)
      replace E_b10 := E_b10.keep Kq14
      replace V_b11 := V_b11.keep Kq14 (fun q => (Ne.symm ne_b10_b11) (List.mem_singleton.mp q))
      replace O0 := O0.keep Kq14 (fun x hx => by cases List.mem_singleton.mp hx; exact gn_b10)
      replace K0 := K0.trans Kq14 (fun x hx => by cases List.mem_singleton.mp hx; exact (Or.inr sz_b10_K0))
      replace hk := Nat.le_trans hk Kq14.1
      have k15 : ∀ t, Steps p.tables e below (T14.setTop (mkF m 43 #[.val (.int p0), .val (.int p1), .val (.int p2)] [(.ref b10)])) t → Steps p.tables e below (s₁.setTop (entryFrame m #[(.int p0), (.int p1), (.int p2)] 3)) t := by
        intro t k
        refine k7 _ ?_
        show Steps p.tables e below (s₁.setTop (mkF m 17 #[.val (.int p0), .val (.int p1), .val (.int p2)] [(.int (1 : Int32)), (.int p0)])) _
        refine XS.icmpYes X0.here hx rfl (pc0 := 17) (pc' := 25) rfl (hb hby d1_17) rfl (feq hc17_2).2 (by decide) (by decide) ?_
        show Steps p.tables e below (s₁.setTop (mkF m 25 #[.val (.int p0), .val (.int p1), .val (.int p2)] [])) _
        refine st10 _ ?_
        show Steps p.tables e below (T10.setTop (mkF m 28 #[.val (.int p0), .val (.int p1), .val (.int p2)] [(.ref b10)])) _
        refine XS.dup X10.here hx rfl (hb hby d1_28) rfl rfl ?_
        show Steps p.tables e below (T10.setTop (mkF m 29 #[.val (.int p0), .val (.int p1), .val (.int p2)] [(.ref b10), (.ref b10)])) _
        refine XS.iconst X10.here hx rfl (hb hby d1_29) ?_
        show Steps p.tables e below (T10.setTop (mkF m 30 #[.val (.int p0), .val (.int p1), .val (.int p2)] [(.int (2 : Int32)), (.ref b10), (.ref b10)])) _
        refine st11 _ ?_
        show Steps p.tables e below (T11.setTop (mkF m 32 #[.val (.int p0), .val (.int p1), .val (.int p2)] [(.ref b11), (.ref b10), (.ref b10)])) _
        refine XS.dup X11.here hx rfl (hb hby d1_32) rfl rfl ?_
        show Steps p.tables e below (T11.setTop (mkF m 33 #[.val (.int p0), .val (.int p1), .val (.int p2)] [(.ref b11), (.ref b11), (.ref b10), (.ref b10)])) _
        refine XS.iconst X11.here hx rfl (hb hby d1_33) ?_
        show Steps p.tables e below (T11.setTop (mkF m 34 #[.val (.int p0), .val (.int p1), .val (.int p2)] [(.int (0 : Int32)), (.ref b11), (.ref b11), (.ref b10), (.ref b10)])) _
        refine XS.iloadN X11.here hx rfl (hb hby d1_34) rfl ?_
        show Steps p.tables e below (T11.setTop (mkF m 35 #[.val (.int p0), .val (.int p1), .val (.int p2)] [(.int p1), (.int (0 : Int32)), (.ref b11), (.ref b11), (.ref b10), (.ref b10)])) _
        refine st12 _ ?_
        show Steps p.tables e below (T12.setTop (mkF m 36 #[.val (.int p0), .val (.int p1), .val (.int p2)] [(.ref b11), (.ref b10), (.ref b10)])) _
        refine XS.dup X12.here hx rfl (hb hby d1_36) rfl rfl ?_
        show Steps p.tables e below (T12.setTop (mkF m 37 #[.val (.int p0), .val (.int p1), .val (.int p2)] [(.ref b11), (.ref b11), (.ref b10), (.ref b10)])) _
        refine XS.iconst X12.here hx rfl (hb hby d1_37) ?_
        show Steps p.tables e below (T12.setTop (mkF m 38 #[.val (.int p0), .val (.int p1), .val (.int p2)] [(.int (1 : Int32)), (.ref b11), (.ref b11), (.ref b10), (.ref b10)])) _
        refine XS.iloadN X12.here hx rfl (hb hby d1_38) rfl ?_
        show Steps p.tables e below (T12.setTop (mkF m 39 #[.val (.int p0), .val (.int p1), .val (.int p2)] [(.int p2), (.int (1 : Int32)), (.ref b11), (.ref b11), (.ref b10), (.ref b10)])) _
        refine st13 _ ?_
        show Steps p.tables e below (T13.setTop (mkF m 40 #[.val (.int p0), .val (.int p1), .val (.int p2)] [(.ref b11), (.ref b10), (.ref b10)])) _
        refine st14.trans ?_
        exact k
      obtain ⟨fs, hr, hrun, hended, hEW⟩ := X14.leaveW hS hk (v := some (.ref b10)) (fun h => by rw [Bd.returns] at h; cases h)
      have HCf : CHr Z own_EL s.vm s.heap T14.vm T14.heap := by
        rw [hh]
        exact HC.trans (CHv.at X14 hZ (own_EW hw) HC.1)
      refine ⟨_, _, k15 _ ?_, hrun, hended, _, _, rfl, ?_, HCf, hEW.1, hEW.2.1, hEW.2.2.1, hEW.2.2.2.mono (by decide) (by decide)⟩
      · exact retOut X14 hx Bd.returns rfl (Or.inr (Or.inr (Or.inr (Or.inr ⟨rfl, rfl, rfl⟩)))) (hb hby d1_43) hr
      · show own_MK Z p0 p1 p2 h0 n0 _ T14.heap _
        exact ⟨_, rfl, N14, K0, _, _, _, _, ⟨E_b10, Fq14, Gq14, Vq14⟩, Or.inr (Or.inr ⟨(hp.resolve_left hc1_1).resolve_left hc17_2, rfl, rfl⟩)⟩
theorem pn_4 : plainName "jdk/internal/util/Preconditions" = true := by first | (simp [plainName, overriddenIn]; done) | decide +kernel
theorem ef_rmPI_0 (m : MethodId) (x0 : Int32) (x1 : Int32) : entryFrame m #[(.int x0), (.int x1), .null] 3 = mkF m 0 #[.val (.int x0), .val (.int x1), .val .null] [] := by first | (simp [entryFrame, mkF, argsToLocals, Value.category]; done) | rfl
theorem d25_0 : decode jdk_41_method_11_code 0 = .ok (.iload_n 0, 1) := by decide +kernel
theorem d25_1 : decode jdk_41_method_11_code 1 = .ok (.ifCond .lt 8, 3) := by decide +kernel
theorem d25_4 : decode jdk_41_method_11_code 4 = .ok (.iload_n 0, 1) := by decide +kernel
theorem d25_5 : decode jdk_41_method_11_code 5 = .ok (.iload_n 1, 1) := by decide +kernel
theorem d25_6 : decode jdk_41_method_11_code 6 = .ok (.if_icmp .lt 10, 3) := by decide +kernel
theorem d25_16 : decode jdk_41_method_11_code 16 = .ok (.iload_n 0, 1) := by decide +kernel
theorem d25_17 : decode jdk_41_method_11_code 17 = .ok (.ireturn, 1) := by decide +kernel
def own_pi_0 (p0 : Int32) : Int32 := p0
set_option maxRecDepth 65536 in
set_option maxHeartbeats 40000000 in
theorem rmPI_0 (l : Launch) (Z : State) (a0 : Array Value) (hw : ∀ d ∈ tables_1, d.before a0 Z = true) (ws : List Jvm.Cond) (p0 : Int32) (p1 : Int32) (h0 : Heap) (n0 : Nat) (hlo : ¬ p0 < (0 : Int32)) (hhi : p0 < p1) :
    MetFree l (⟨"jdk/internal/util/Preconditions", "checkIndex", "(IILjava/util/function/BiFunction;)I"⟩ : MethodName) (head1 (Jvm.Cond.code (⟨"jdk/internal/util/Preconditions", "checkIndex", "(IILjava/util/function/BiFunction;)I"⟩ : MethodName) jdk_41_method_11_code 3 (some .int) :: ws) ({ frames := 0, cells := 0, slots := 0, locals := 0 } : Room)) (fun a U => a = #[(.int p0), (.int p1), .null] ∧ Z.Warmed39 U.vm ∧ U.heap = h0) (fun _ _ _ _ _ => True) (fun _ U o U' => ∃ v L, o = .returned v ∧ own_Q (some (.int (own_pi_0 p0))) h0 n0 v U'.heap L ∧ FrameEnd U o U' L ({ frames := 0, cells := 0, slots := 0, locals := 0 } : Room).cells ({ frames := 0, cells := 0, slots := 0, locals := 0 } : Room).slots) := by
  refine MetFree.of_bodySF (plainFor_of_name pn_4) hisR ?_
  intro p e s m args below meth c s₁ Bd hml0 hP hK
  obtain ⟨rfl, hZ, hh⟩ := hP
  have hx := Bd.exec
  have hby := Bd.bytes
  have hml : c.maxLocals = 3 := hml0
  have hown : s.vm.findClass "jdk/internal/util/Preconditions" = some m.cls := findClass_of_methodNamed Bd.named
  have hnm := (name_of_methodNamed Bd.named Bd.method).1
  have X0 : Stand p l e ({ frames := 0, cells := 0, slots := 0, locals := 0 } : Room) s m #[(.int p0), (.int p1), .null] below meth c s₁ [] 0 0 := Stand.of_body Bd
  have e0 : s₁.heap = h0 := by rw [← hh, Bd.state]; rfl
  have N0 := Fr.nil n0
  have pre0 : ∀ t, Steps p.tables e below (s₁.setTop (mkF m 0 #[.val (.int p0), .val (.int p1), .val .null] [])) t → Steps p.tables e below (s₁.setTop (entryFrame m #[(.int p0), (.int p1), .null] 3)) t := fun t k => castTop (ef_rmPI_0 m p0 p1) k
  have k1 : ∀ t, Steps p.tables e below (s₁.setTop (mkF m 17 #[.val (.int p0), .val (.int p1), .val .null] [(.int p0)])) t → Steps p.tables e below (s₁.setTop (entryFrame m #[(.int p0), (.int p1), .null] 3)) t := by
    intro t k
    refine pre0 _ ?_
    show Steps p.tables e below (s₁.setTop (mkF m 0 #[.val (.int p0), .val (.int p1), .val .null] [])) _
    refine XS.iloadN X0.here hx rfl (hb hby d25_0) rfl ?_
    show Steps p.tables e below (s₁.setTop (mkF m 1 #[.val (.int p0), .val (.int p1), .val .null] [(.int p0)])) _
    refine XS.ifNo X0.here hx rfl (hb hby d25_1) rfl ((if0 _ _).trans (flt hlo).1) ?_
    show Steps p.tables e below (s₁.setTop (mkF m 4 #[.val (.int p0), .val (.int p1), .val .null] [])) _
    refine XS.iloadN X0.here hx rfl (hb hby d25_4) rfl ?_
    show Steps p.tables e below (s₁.setTop (mkF m 5 #[.val (.int p0), .val (.int p1), .val .null] [(.int p0)])) _
    refine XS.iloadN X0.here hx rfl (hb hby d25_5) rfl ?_
    show Steps p.tables e below (s₁.setTop (mkF m 6 #[.val (.int p0), .val (.int p1), .val .null] [(.int p1), (.int p0)])) _
    refine XS.icmpYes X0.here hx rfl (pc0 := 6) (pc' := 16) rfl (hb hby d25_6) rfl (tlt hhi).1 (by decide) (by decide) ?_
    show Steps p.tables e below (s₁.setTop (mkF m 16 #[.val (.int p0), .val (.int p1), .val .null] [])) _
    refine XS.iloadN X0.here hx rfl (hb hby d25_16) rfl ?_
    exact k
  obtain ⟨fs, hr, hrun, hended, hW, hsame⟩ := X0.leave (v := some (.int p0)) (fun h => by rw [Bd.returns] at h; cases h)
  refine ⟨_, _, k1 _ ?_, hrun, hended, _, _, rfl, ?_, ⟨_, rfl⟩, hW, hsame.mono (by decide) (by decide)⟩
  · exact retOut X0 hx Bd.returns rfl (Or.inl ⟨rfl, Or.inl rfl, _, rfl⟩) (hb hby d25_17) hr
  · show own_Q (some (.int (own_pi_0 p0))) h0 n0 _ s₁.heap _
    rw [e0]
    exact ⟨rfl, N0, rfl⟩
theorem ef_rmCI_0 (m : MethodId) (x0 : Int32) (x1 : Int32) : entryFrame m #[(.int x0), (.int x1)] 2 = mkF m 0 #[.val (.int x0), .val (.int x1)] [] := by first | (simp [entryFrame, mkF, argsToLocals, Value.category]; done) | rfl
theorem d24_0 : decode jdk_42_method_155_code 0 = .ok (.iload_n 0, 1) := by decide +kernel
theorem d24_1 : decode jdk_42_method_155_code 1 = .ok (.iload_n 1, 1) := by decide +kernel
theorem d24_2 : decode jdk_42_method_155_code 2 = .ok (.getstatic 1053, 3) := by decide +kernel
theorem pd_9 : parseMethodDescriptor "(IILjava/util/function/BiFunction;)I" = some ⟨[.int, .int, (.object "java/util/function/BiFunction")], some .int⟩ := by decide +kernel
theorem d24_5 : decode jdk_42_method_155_code 5 = .ok (.invokestatic 1059, 3) := by decide +kernel
theorem d24_8 : decode jdk_42_method_155_code 8 = .ok (.pop, 1) := by decide +kernel
theorem d24_9 : decode jdk_42_method_155_code 9 = .ok (.return_, 1) := by decide +kernel
set_option maxRecDepth 65536 in
set_option maxHeartbeats 40000000 in
theorem rmCI_0 (l : Launch) (Z : State) (a0 : Array Value) (hw : ∀ d ∈ tables_1, d.before a0 Z = true) (ws : List Jvm.Cond) (p0 : Int32) (p1 : Int32) (h0 : Heap) (n0 : Nat) (O0 : Old Z n0 h0) (S_N : Sta Z Z.heap "jdk/internal/util/Preconditions" "SIOOBE_FORMATTER" "Ljava/util/function/BiFunction;" .null) (hlo : ¬ p0 < (0 : Int32)) (hhi : p0 < p1) :
    MetFree l (⟨"java/lang/String", "checkIndex", "(II)V"⟩ : MethodName) (head1 (Jvm.Cond.code (⟨"java/lang/String", "checkIndex", "(II)V"⟩ : MethodName) jdk_42_method_155_code 2 none :: ws) ({ frames := 1, cells := 0, slots := 0, locals := 16 } : Room)) (fun a U => a = #[(.int p0), (.int p1)] ∧ Z.Warmed39 U.vm ∧ U.heap = h0) (fun _ _ _ _ _ => True) (fun _ U o U' => ∃ v L, o = .returned v ∧ own_Q none h0 n0 v U'.heap L ∧ FrameEnd U o U' L ({ frames := 1, cells := 0, slots := 0, locals := 16 } : Room).cells ({ frames := 1, cells := 0, slots := 0, locals := 16 } : Room).slots) := by
  refine MetFree.of_bodySF (plainFor_of_name pn_0) hisR ?_
  intro p e s m args below meth c s₁ Bd hml0 hP hK
  obtain ⟨rfl, hZ, hh⟩ := hP
  have hx := Bd.exec
  have hby := Bd.bytes
  have hml : c.maxLocals = 2 := hml0
  have hown : s.vm.findClass "java/lang/String" = some m.cls := findClass_of_methodNamed Bd.named
  have hnm := (name_of_methodNamed Bd.named Bd.method).1
  have X0 : Stand p l e ({ frames := 1, cells := 0, slots := 0, locals := 16 } : Room) s m #[(.int p0), (.int p1)] below meth c s₁ [] 0 0 := Stand.of_body Bd
  have e0 : s₁.heap = h0 := by rw [← hh, Bd.state]; rfl
  have N0 := Fr.nil n0
  have pre0 : ∀ t, Steps p.tables e below (s₁.setTop (mkF m 0 #[.val (.int p0), .val (.int p1)] [])) t → Steps p.tables e below (s₁.setTop (entryFrame m #[(.int p0), (.int p1)] 2)) t := fun t k => castTop (ef_rmCI_0 m p0 p1) k
  obtain ⟨T1, X1, e1, st1⟩ := getS2 X0 hx hZ hown (host := "") (Or.inl (hw _ (List.mem_of_getElem? (i := 129) rfl))) Via.refl e0 (S_N.ext O0.2) (g := (mkF m 2 #[.val (.int p0), .val (.int p1)] [(.int p1), (.int p0)])) rfl (hb hby d24_2)
  obtain ⟨_, _, ⟨T2, L2, k2_, n2⟩, -, X2, ⟨Lc2, hQ2, l2, y2, z2⟩, st2⟩ := Jvm.LawKit.callS X1 hx (y := (⟨"jdk/internal/util/Preconditions", "checkIndex", "(IILjava/util/function/BiFunction;)I"⟩ : MethodName)) hown (mvT hZ (hw _ (List.mem_of_getElem? (i := 131) rfl))) (mvT hZ (hw _ (List.mem_of_getElem? (i := 132) rfl))) (mvT hZ (hw _ (List.mem_of_getElem? (i := 130) rfl))) (mvT hZ (hw _ (List.mem_of_getElem? (i := 133) rfl))) (by decide) (backOf (W := 0) (rmPI_0 l Z a0 hw [] p0 p1  h0 n0 hlo hhi) hZ (hw _ (List.mem_of_getElem? (i := 133) rfl)) (hw _ (List.mem_of_getElem? (i := 130) rfl)) (by decide) (by decide)) (g := (mkF m 5 #[.val (.int p0), .val (.int p1)] [.null, (.int p1), (.int p0)])) rfl (by rw [hml]; rfl) (argsL := [(.int p0), (.int p1), .null]) (rest := []) (lenOf pd_9 rfl) rfl (by show 2 * 0 + _ ≤ _; exact Nat.le_of_eq rfl) (hb hby d24_5) (fun _ _ => ⟨rfl, e1, (by decide : 0 + 0 ≤ _), (by decide : 0 + 0 ≤ _)⟩)
  dsimp only [Pt.U, Pt.locs, Pt.cells, Pt.slots] at X2 l2 y2 z2 st2 hQ2
  subst l2 y2 z2
  obtain ⟨rfl, Nq2, e2⟩ := hQ2
  have N2 := Fr.app N0 Nq2
  have k3 : ∀ t, Steps p.tables e below (T2.setTop (mkF m 9 #[.val (.int p0), .val (.int p1)] [])) t → Steps p.tables e below (s₁.setTop (entryFrame m #[(.int p0), (.int p1)] 2)) t := by
    intro t k
    refine pre0 _ ?_
    show Steps p.tables e below (s₁.setTop (mkF m 0 #[.val (.int p0), .val (.int p1)] [])) _
    refine XS.iloadN X0.here hx rfl (hb hby d24_0) rfl ?_
    show Steps p.tables e below (s₁.setTop (mkF m 1 #[.val (.int p0), .val (.int p1)] [(.int p0)])) _
    refine XS.iloadN X0.here hx rfl (hb hby d24_1) rfl ?_
    show Steps p.tables e below (s₁.setTop (mkF m 2 #[.val (.int p0), .val (.int p1)] [(.int p1), (.int p0)])) _
    refine st1 _ ?_
    show Steps p.tables e below (T1.setTop (mkF m 5 #[.val (.int p0), .val (.int p1)] [.null, (.int p1), (.int p0)])) _
    refine st2 _ ?_
    show Steps p.tables e below (T2.setTop (mkF m 8 #[.val (.int p0), .val (.int p1)] [(.int (own_pi_0 p0))])) _
    refine XS.pop X2.here hx rfl (hb hby d24_8) rfl rfl ?_
    exact k
  obtain ⟨fs, hr, hrun, hended, hW, hsame⟩ := X2.leave (v := none) (fun _ => rfl)
  refine ⟨_, _, k3 _ ?_, hrun, hended, _, _, rfl, ?_, ⟨_, rfl⟩, hW, hsame.mono (by decide) (by decide)⟩
  · exact X2.returnOut hx Bd.returns (hb hby d24_9) hr
  · show own_Q none h0 n0 _ T2.heap _
    rw [e2]
    exact ⟨rfl, N2, rfl⟩
theorem ef_rmPI_1 (m : MethodId) (x0 : Int32) (x1 : Int32) (x2 : Addr) : entryFrame m #[(.int x0), (.int x1), (.ref x2)] 3 = mkF m 0 #[.val (.int x0), .val (.int x1), .val (.ref x2)] [] := by first | (simp [entryFrame, mkF, argsToLocals, Value.category]; done) | rfl
def own_pi_1 (p0 : Int32) : Int32 := p0
set_option maxRecDepth 65536 in
set_option maxHeartbeats 40000000 in
theorem rmPI_1 (l : Launch) (Z : State) (a0 : Array Value) (hw : ∀ d ∈ tables_1, d.before a0 Z = true) (ws : List Jvm.Cond) (p0 : Int32) (p1 : Int32) (w_f : Addr) (h0 : Heap) (n0 : Nat) (hlo : ¬ p0 < (0 : Int32)) (hhi : p0 < p1) :
    MetFree l (⟨"jdk/internal/util/Preconditions", "checkIndex", "(IILjava/util/function/BiFunction;)I"⟩ : MethodName) (head1 (Jvm.Cond.code (⟨"jdk/internal/util/Preconditions", "checkIndex", "(IILjava/util/function/BiFunction;)I"⟩ : MethodName) jdk_41_method_11_code 3 (some .int) :: ws) ({ frames := 0, cells := 0, slots := 0, locals := 0 } : Room)) (fun a U => a = #[(.int p0), (.int p1), (.ref w_f)] ∧ Z.Warmed39 U.vm ∧ U.heap = h0) (fun _ _ _ _ _ => True) (fun _ U o U' => ∃ v L, o = .returned v ∧ own_Q (some (.int (own_pi_1 p0))) h0 n0 v U'.heap L ∧ FrameEnd U o U' L ({ frames := 0, cells := 0, slots := 0, locals := 0 } : Room).cells ({ frames := 0, cells := 0, slots := 0, locals := 0 } : Room).slots) := by
  refine MetFree.of_bodySF (plainFor_of_name pn_4) hisR ?_
  intro p e s m args below meth c s₁ Bd hml0 hP hK
  obtain ⟨rfl, hZ, hh⟩ := hP
  have hx := Bd.exec
  have hby := Bd.bytes
  have hml : c.maxLocals = 3 := hml0
  have hown : s.vm.findClass "jdk/internal/util/Preconditions" = some m.cls := findClass_of_methodNamed Bd.named
  have hnm := (name_of_methodNamed Bd.named Bd.method).1
  have X0 : Stand p l e ({ frames := 0, cells := 0, slots := 0, locals := 0 } : Room) s m #[(.int p0), (.int p1), (.ref w_f)] below meth c s₁ [] 0 0 := Stand.of_body Bd
  have e0 : s₁.heap = h0 := by rw [← hh, Bd.state]; rfl
  have N0 := Fr.nil n0
  have pre0 : ∀ t, Steps p.tables e below (s₁.setTop (mkF m 0 #[.val (.int p0), .val (.int p1), .val (.ref w_f)] [])) t → Steps p.tables e below (s₁.setTop (entryFrame m #[(.int p0), (.int p1), (.ref w_f)] 3)) t := fun t k => castTop (ef_rmPI_1 m p0 p1 w_f) k
  have k1 : ∀ t, Steps p.tables e below (s₁.setTop (mkF m 17 #[.val (.int p0), .val (.int p1), .val (.ref w_f)] [(.int p0)])) t → Steps p.tables e below (s₁.setTop (entryFrame m #[(.int p0), (.int p1), (.ref w_f)] 3)) t := by
    intro t k
    refine pre0 _ ?_
    show Steps p.tables e below (s₁.setTop (mkF m 0 #[.val (.int p0), .val (.int p1), .val (.ref w_f)] [])) _
    refine XS.iloadN X0.here hx rfl (hb hby d25_0) rfl ?_
    show Steps p.tables e below (s₁.setTop (mkF m 1 #[.val (.int p0), .val (.int p1), .val (.ref w_f)] [(.int p0)])) _
    refine XS.ifNo X0.here hx rfl (hb hby d25_1) rfl ((if0 _ _).trans (flt hlo).1) ?_
    show Steps p.tables e below (s₁.setTop (mkF m 4 #[.val (.int p0), .val (.int p1), .val (.ref w_f)] [])) _
    refine XS.iloadN X0.here hx rfl (hb hby d25_4) rfl ?_
    show Steps p.tables e below (s₁.setTop (mkF m 5 #[.val (.int p0), .val (.int p1), .val (.ref w_f)] [(.int p0)])) _
    refine XS.iloadN X0.here hx rfl (hb hby d25_5) rfl ?_
    show Steps p.tables e below (s₁.setTop (mkF m 6 #[.val (.int p0), .val (.int p1), .val (.ref w_f)] [(.int p1), (.int p0)])) _
    refine XS.icmpYes X0.here hx rfl (pc0 := 6) (pc' := 16) rfl (hb hby d25_6) rfl (tlt hhi).1 (by decide) (by decide) ?_
    show Steps p.tables e below (s₁.setTop (mkF m 16 #[.val (.int p0), .val (.int p1), .val (.ref w_f)] [])) _
    refine XS.iloadN X0.here hx rfl (hb hby d25_16) rfl ?_
    exact k
  obtain ⟨fs, hr, hrun, hended, hW, hsame⟩ := X0.leave (v := some (.int p0)) (fun h => by rw [Bd.returns] at h; cases h)
  refine ⟨_, _, k1 _ ?_, hrun, hended, _, _, rfl, ?_, ⟨_, rfl⟩, hW, hsame.mono (by decide) (by decide)⟩
  · exact retOut X0 hx Bd.returns rfl (Or.inl ⟨rfl, Or.inl rfl, _, rfl⟩) (hb hby d25_17) hr
  · show own_Q (some (.int (own_pi_1 p0))) h0 n0 _ s₁.heap _
    rw [e0]
    exact ⟨rfl, N0, rfl⟩
theorem ef_rmCI_1 (m : MethodId) (x0 : Int32) (x1 : Int32) : entryFrame m #[(.int x0), (.int x1)] 2 = mkF m 0 #[.val (.int x0), .val (.int x1)] [] := by first | (simp [entryFrame, mkF, argsToLocals, Value.category]; done) | rfl
set_option maxRecDepth 65536 in
set_option maxHeartbeats 40000000 in
theorem rmCI_1 (l : Launch) (Z : State) (a0 : Array Value) (hw : ∀ d ∈ tables_1, d.before a0 Z = true) (ws : List Jvm.Cond) (p0 : Int32) (p1 : Int32) (w_f : Addr) (h0 : Heap) (n0 : Nat) (O0 : Old Z n0 h0) (S_N : Sta Z Z.heap "jdk/internal/util/Preconditions" "SIOOBE_FORMATTER" "Ljava/util/function/BiFunction;" (.ref w_f)) (hlo : ¬ p0 < (0 : Int32)) (hhi : p0 < p1) :
    MetFree l (⟨"java/lang/String", "checkIndex", "(II)V"⟩ : MethodName) (head1 (Jvm.Cond.code (⟨"java/lang/String", "checkIndex", "(II)V"⟩ : MethodName) jdk_42_method_155_code 2 none :: ws) ({ frames := 1, cells := 0, slots := 0, locals := 16 } : Room)) (fun a U => a = #[(.int p0), (.int p1)] ∧ Z.Warmed39 U.vm ∧ U.heap = h0) (fun _ _ _ _ _ => True) (fun _ U o U' => ∃ v L, o = .returned v ∧ own_Q none h0 n0 v U'.heap L ∧ FrameEnd U o U' L ({ frames := 1, cells := 0, slots := 0, locals := 16 } : Room).cells ({ frames := 1, cells := 0, slots := 0, locals := 16 } : Room).slots) := by
  refine MetFree.of_bodySF (plainFor_of_name pn_0) hisR ?_
  intro p e s m args below meth c s₁ Bd hml0 hP hK
  obtain ⟨rfl, hZ, hh⟩ := hP
  have hx := Bd.exec
  have hby := Bd.bytes
  have hml : c.maxLocals = 2 := hml0
  have hown : s.vm.findClass "java/lang/String" = some m.cls := findClass_of_methodNamed Bd.named
  have hnm := (name_of_methodNamed Bd.named Bd.method).1
  have X0 : Stand p l e ({ frames := 1, cells := 0, slots := 0, locals := 16 } : Room) s m #[(.int p0), (.int p1)] below meth c s₁ [] 0 0 := Stand.of_body Bd
  have e0 : s₁.heap = h0 := by rw [← hh, Bd.state]; rfl
  have N0 := Fr.nil n0
  have pre0 : ∀ t, Steps p.tables e below (s₁.setTop (mkF m 0 #[.val (.int p0), .val (.int p1)] [])) t → Steps p.tables e below (s₁.setTop (entryFrame m #[(.int p0), (.int p1)] 2)) t := fun t k => castTop (ef_rmCI_1 m p0 p1) k
  obtain ⟨T1, X1, e1, st1⟩ := getS2 X0 hx hZ hown (host := "") (Or.inl (hw _ (List.mem_of_getElem? (i := 129) rfl))) Via.refl e0 (S_N.ext O0.2) (g := (mkF m 2 #[.val (.int p0), .val (.int p1)] [(.int p1), (.int p0)])) rfl (hb hby d24_2)
  obtain ⟨_, _, ⟨T2, L2, k2_, n2⟩, -, X2, ⟨Lc2, hQ2, l2, y2, z2⟩, st2⟩ := Jvm.LawKit.callS X1 hx (y := (⟨"jdk/internal/util/Preconditions", "checkIndex", "(IILjava/util/function/BiFunction;)I"⟩ : MethodName)) hown (mvT hZ (hw _ (List.mem_of_getElem? (i := 131) rfl))) (mvT hZ (hw _ (List.mem_of_getElem? (i := 132) rfl))) (mvT hZ (hw _ (List.mem_of_getElem? (i := 130) rfl))) (mvT hZ (hw _ (List.mem_of_getElem? (i := 133) rfl))) (by decide) (backOf (W := 0) (rmPI_1 l Z a0 hw [] p0 p1 w_f h0 n0 hlo hhi) hZ (hw _ (List.mem_of_getElem? (i := 133) rfl)) (hw _ (List.mem_of_getElem? (i := 130) rfl)) (by decide) (by decide)) (g := (mkF m 5 #[.val (.int p0), .val (.int p1)] [(.ref w_f), (.int p1), (.int p0)])) rfl (by rw [hml]; rfl) (argsL := [(.int p0), (.int p1), (.ref w_f)]) (rest := []) (lenOf pd_9 rfl) rfl (by show 2 * 0 + _ ≤ _; exact Nat.le_of_eq rfl) (hb hby d24_5) (fun _ _ => ⟨rfl, e1, (by decide : 0 + 0 ≤ _), (by decide : 0 + 0 ≤ _)⟩)
  dsimp only [Pt.U, Pt.locs, Pt.cells, Pt.slots] at X2 l2 y2 z2 st2 hQ2
  subst l2 y2 z2
  obtain ⟨rfl, Nq2, e2⟩ := hQ2
  have N2 := Fr.app N0 Nq2
  have k3 : ∀ t, Steps p.tables e below (T2.setTop (mkF m 9 #[.val (.int p0), .val (.int p1)] [])) t → Steps p.tables e below (s₁.setTop (entryFrame m #[(.int p0), (.int p1)] 2)) t := by
    intro t k
    refine pre0 _ ?_
    show Steps p.tables e below (s₁.setTop (mkF m 0 #[.val (.int p0), .val (.int p1)] [])) _
    refine XS.iloadN X0.here hx rfl (hb hby d24_0) rfl ?_
    show Steps p.tables e below (s₁.setTop (mkF m 1 #[.val (.int p0), .val (.int p1)] [(.int p0)])) _
    refine XS.iloadN X0.here hx rfl (hb hby d24_1) rfl ?_
    show Steps p.tables e below (s₁.setTop (mkF m 2 #[.val (.int p0), .val (.int p1)] [(.int p1), (.int p0)])) _
    refine st1 _ ?_
    show Steps p.tables e below (T1.setTop (mkF m 5 #[.val (.int p0), .val (.int p1)] [(.ref w_f), (.int p1), (.int p0)])) _
    refine st2 _ ?_
    show Steps p.tables e below (T2.setTop (mkF m 8 #[.val (.int p0), .val (.int p1)] [(.int (own_pi_1 p0))])) _
    refine XS.pop X2.here hx rfl (hb hby d24_8) rfl rfl ?_
    exact k
  obtain ⟨fs, hr, hrun, hended, hW, hsame⟩ := X2.leave (v := none) (fun _ => rfl)
  refine ⟨_, _, k3 _ ?_, hrun, hended, _, _, rfl, ?_, ⟨_, rfl⟩, hW, hsame.mono (by decide) (by decide)⟩
  · exact X2.returnOut hx Bd.returns (hb hby d24_9) hr
  · show own_Q none h0 n0 _ T2.heap _
    rw [e2]
    exact ⟨rfl, N2, rfl⟩
set_option maxRecDepth 65536 in
set_option maxHeartbeats 40000000 in
theorem rmCI (l : Launch) (Z : State) (a0 : Array Value) (hw : ∀ d ∈ tables_1, d.before a0 Z = true) (ws : List Jvm.Cond) (p0 : Int32) (p1 : Int32) (w_CS : Int32) (w_E : Addr) (w_F : Value) (h0 : Heap) (n0 : Nat) (hG : own_GC Z w_CS w_E w_F) (O0 : Old Z n0 h0) (hlo : ¬ p0 < (0 : Int32)) (hhi : p0 < p1) :
    MetFree l (⟨"java/lang/String", "checkIndex", "(II)V"⟩ : MethodName) (head1 (Jvm.Cond.code (⟨"java/lang/String", "checkIndex", "(II)V"⟩ : MethodName) jdk_42_method_155_code 2 none :: ws) ({ frames := 1, cells := 0, slots := 0, locals := 16 } : Room)) (fun a U => a = #[(.int p0), (.int p1)] ∧ Z.Warmed39 U.vm ∧ U.heap = h0) (fun _ _ _ _ _ => True) (fun _ U o U' => ∃ v L, o = .returned v ∧ own_Q none h0 n0 v U'.heap L ∧ FrameEnd U o U' L ({ frames := 1, cells := 0, slots := 0, locals := 16 } : Room).cells ({ frames := 1, cells := 0, slots := 0, locals := 16 } : Room).slots) := by
  obtain ⟨S_CS, hCS, S_E, E_E, F_E, S_F, hF⟩ := hG
  obtain rfl | ⟨a, rfl⟩ : w_F = .null ∨ ∃ a, w_F = .ref a := by cases w_F <;> simp_all [Value.isRef]
  · exact rmCI_0 l Z a0 hw ws p0 p1 h0 n0 O0 S_F hlo hhi
  · exact rmCI_1 l Z a0 hw ws p0 p1 a h0 n0 O0 S_F hlo hhi
theorem ef_rmCo (m : MethodId) (x0 : Addr) : entryFrame m #[(.ref x0)] 1 = mkF m 0 #[.val (.ref x0)] [] := by first | (simp [entryFrame, mkF, argsToLocals, Value.category]; done) | rfl
theorem d20_0 : decode jdk_42_method_152_code 0 = .ok (.getstatic 38, 3) := by decide +kernel
theorem d20_3 : decode jdk_42_method_152_code 3 = .ok (.ifCond .eq 10, 3) := by decide +kernel
theorem d20_6 : decode jdk_42_method_152_code 6 = .ok (.aload_n 0, 1) := by decide +kernel
theorem d20_7 : decode jdk_42_method_152_code 7 = .ok (.getfield 15, 3) := by decide +kernel
theorem d20_10 : decode jdk_42_method_152_code 10 = .ok (.goto 4, 3) := by decide +kernel
theorem d20_14 : decode jdk_42_method_152_code 14 = .ok (.ireturn, 1) := by decide +kernel
def own_co  : Int32 := (0 : Int32)
set_option maxRecDepth 65536 in
set_option maxHeartbeats 40000000 in
theorem rmCo (l : Launch) (Z : State) (a0 : Array Value) (hw : ∀ d ∈ tables_1, d.before a0 Z = true) (ws : List Jvm.Cond) (r0 : Addr) (w_CS : Int32) (w_E : Addr) (w_F : Value) (h0 : Heap) (n0 : Nat) (hG : own_GC Z w_CS w_E w_F) (O0 : Old Z n0 h0) (Fc : Fld Z h0 r0 "java/lang/String" "coder" "B" (.int (0 : Int32))) (E_r0 : Exa Z h0 r0 "java/lang/String") :
    MetFree l (⟨"java/lang/String", "coder", "()B"⟩ : MethodName) (head1 (Jvm.Cond.code (⟨"java/lang/String", "coder", "()B"⟩ : MethodName) jdk_42_method_152_code 1 (some .byte) :: ws) ({ frames := 0, cells := 0, slots := 0, locals := 0 } : Room)) (fun a U => a = #[(.ref r0)] ∧ Z.Warmed39 U.vm ∧ U.heap = h0) (fun _ _ _ _ _ => True) (fun _ U o U' => ∃ v L, o = .returned v ∧ own_Q (some (.int (own_co ))) h0 n0 v U'.heap L ∧ FrameEnd U o U' L ({ frames := 0, cells := 0, slots := 0, locals := 0 } : Room).cells ({ frames := 0, cells := 0, slots := 0, locals := 0 } : Room).slots) := by
  refine MetFree.of_bodySF (plainFor_of_name pn_0) hisR ?_
  intro p e s m args below meth c s₁ Bd hml0 hP hK
  obtain ⟨rfl, hZ, hh⟩ := hP
  have hx := Bd.exec
  have hby := Bd.bytes
  have hml : c.maxLocals = 1 := hml0
  have hown : s.vm.findClass "java/lang/String" = some m.cls := findClass_of_methodNamed Bd.named
  have hnm := (name_of_methodNamed Bd.named Bd.method).1
  have X0 : Stand p l e ({ frames := 0, cells := 0, slots := 0, locals := 0 } : Room) s m #[(.ref r0)] below meth c s₁ [] 0 0 := Stand.of_body Bd
  have e0 : s₁.heap = h0 := by rw [← hh, Bd.state]; rfl
  have N0 := Fr.nil n0
  have pre0 : ∀ t, Steps p.tables e below (s₁.setTop (mkF m 0 #[.val (.ref r0)] [])) t → Steps p.tables e below (s₁.setTop (entryFrame m #[(.ref r0)] 1)) t := fun t k => castTop (ef_rmCo m r0) k
  have hG' := hG
  obtain ⟨S_CS, hCS, S_E, E_E, F_E, S_F, hF⟩ := hG'
  obtain ⟨T1, X1, e1, st1⟩ := getS2 X0 hx hZ hown (host := "") (Or.inl (hw _ (List.mem_of_getElem? (i := 76) rfl))) Via.refl e0 (S_CS.ext O0.2) (g := (mkF m 0 #[.val (.ref r0)] [])) rfl (hb hby d20_0)
  obtain ⟨T2, X2, e2, st2⟩ := getF X1 hx hZ hown (host := "") (Or.inl (hw _ (List.mem_of_getElem? (i := 25) rfl))) Via.refl e1 Fc (g := (mkF m 7 #[.val (.ref r0)] [(.ref r0)])) rfl rfl (hb hby d20_7)
  have k3 : ∀ t, Steps p.tables e below (T2.setTop (mkF m 14 #[.val (.ref r0)] [(.int (0 : Int32))])) t → Steps p.tables e below (s₁.setTop (entryFrame m #[(.ref r0)] 1)) t := by
    intro t k
    refine pre0 _ ?_
    show Steps p.tables e below (s₁.setTop (mkF m 0 #[.val (.ref r0)] [])) _
    refine st1 _ ?_
    show Steps p.tables e below (T1.setTop (mkF m 3 #[.val (.ref r0)] [(.int w_CS)])) _
    refine XS.ifNo X1.here hx rfl (hb hby d20_3) rfl ((if0 _ _).trans (feq hCS).1) ?_
    show Steps p.tables e below (T1.setTop (mkF m 6 #[.val (.ref r0)] [])) _
    refine XS.aloadN X1.here hx rfl (hb hby d20_6) rfl rfl ?_
    show Steps p.tables e below (T1.setTop (mkF m 7 #[.val (.ref r0)] [(.ref r0)])) _
    refine st2 _ ?_
    show Steps p.tables e below (T2.setTop (mkF m 10 #[.val (.ref r0)] [(.int (0 : Int32))])) _
    refine XS.goto X2.here hx rfl (pc0 := 10) (pc' := 14) rfl (hb hby d20_10) (by decide) (by decide) ?_
    exact k
  obtain ⟨fs, hr, hrun, hended, hW, hsame⟩ := X2.leave (v := some (.int (0 : Int32))) (fun h => by rw [Bd.returns] at h; cases h)
  refine ⟨_, _, k3 _ ?_, hrun, hended, _, _, rfl, ?_, ⟨_, rfl⟩, hW, hsame.mono (by decide) (by decide)⟩
  · exact retN X2 hx (t := .byte) Bd.returns (by simp) (hb hby d20_14) hr
  · show own_Q (some (.int (own_co ))) h0 n0 _ T2.heap _
    rw [e2]
    exact ⟨rfl, N0, rfl⟩
theorem ef_rmIl (m : MethodId) (x0 : Addr) : entryFrame m #[(.ref x0)] 1 = mkF m 0 #[.val (.ref x0)] [] := by first | (simp [entryFrame, mkF, argsToLocals, Value.category]; done) | rfl
theorem d22_0 : decode jdk_42_method_154_code 0 = .ok (.getstatic 38, 3) := by decide +kernel
theorem d22_3 : decode jdk_42_method_154_code 3 = .ok (.ifCond .eq 14, 3) := by decide +kernel
theorem d22_6 : decode jdk_42_method_154_code 6 = .ok (.aload_n 0, 1) := by decide +kernel
theorem d22_7 : decode jdk_42_method_154_code 7 = .ok (.getfield 15, 3) := by decide +kernel
theorem d22_10 : decode jdk_42_method_154_code 10 = .ok (.ifCond .ne 7, 3) := by decide +kernel
theorem d22_13 : decode jdk_42_method_154_code 13 = .ok (.iconst 1, 1) := by decide +kernel
theorem d22_14 : decode jdk_42_method_154_code 14 = .ok (.goto 4, 3) := by decide +kernel
theorem d22_18 : decode jdk_42_method_154_code 18 = .ok (.ireturn, 1) := by decide +kernel
def own_il  : Int32 := (1 : Int32)
set_option maxRecDepth 65536 in
set_option maxHeartbeats 40000000 in
theorem rmIl (l : Launch) (Z : State) (a0 : Array Value) (hw : ∀ d ∈ tables_1, d.before a0 Z = true) (ws : List Jvm.Cond) (r0 : Addr) (w_CS : Int32) (w_E : Addr) (w_F : Value) (h0 : Heap) (n0 : Nat) (hG : own_GC Z w_CS w_E w_F) (O0 : Old Z n0 h0) (Fc : Fld Z h0 r0 "java/lang/String" "coder" "B" (.int (0 : Int32))) (E_r0 : Exa Z h0 r0 "java/lang/String") :
    MetFree l (⟨"java/lang/String", "isLatin1", "()Z"⟩ : MethodName) (head1 (Jvm.Cond.code (⟨"java/lang/String", "isLatin1", "()Z"⟩ : MethodName) jdk_42_method_154_code 1 (some .boolean) :: ws) ({ frames := 0, cells := 0, slots := 0, locals := 0 } : Room)) (fun a U => a = #[(.ref r0)] ∧ Z.Warmed39 U.vm ∧ U.heap = h0) (fun _ _ _ _ _ => True) (fun _ U o U' => ∃ v L, o = .returned v ∧ own_Q (some (.int (own_il ))) h0 n0 v U'.heap L ∧ FrameEnd U o U' L ({ frames := 0, cells := 0, slots := 0, locals := 0 } : Room).cells ({ frames := 0, cells := 0, slots := 0, locals := 0 } : Room).slots) := by
  refine MetFree.of_bodySF (plainFor_of_name pn_0) hisR ?_
  intro p e s m args below meth c s₁ Bd hml0 hP hK
  obtain ⟨rfl, hZ, hh⟩ := hP
  have hx := Bd.exec
  have hby := Bd.bytes
  have hml : c.maxLocals = 1 := hml0
  have hown : s.vm.findClass "java/lang/String" = some m.cls := findClass_of_methodNamed Bd.named
  have hnm := (name_of_methodNamed Bd.named Bd.method).1
  have X0 : Stand p l e ({ frames := 0, cells := 0, slots := 0, locals := 0 } : Room) s m #[(.ref r0)] below meth c s₁ [] 0 0 := Stand.of_body Bd
  have e0 : s₁.heap = h0 := by rw [← hh, Bd.state]; rfl
  have N0 := Fr.nil n0
  have pre0 : ∀ t, Steps p.tables e below (s₁.setTop (mkF m 0 #[.val (.ref r0)] [])) t → Steps p.tables e below (s₁.setTop (entryFrame m #[(.ref r0)] 1)) t := fun t k => castTop (ef_rmIl m r0) k
  have hG' := hG
  obtain ⟨S_CS, hCS, S_E, E_E, F_E, S_F, hF⟩ := hG'
  obtain ⟨T1, X1, e1, st1⟩ := getS2 X0 hx hZ hown (host := "") (Or.inl (hw _ (List.mem_of_getElem? (i := 76) rfl))) Via.refl e0 (S_CS.ext O0.2) (g := (mkF m 0 #[.val (.ref r0)] [])) rfl (hb hby d22_0)
  obtain ⟨T2, X2, e2, st2⟩ := getF X1 hx hZ hown (host := "") (Or.inl (hw _ (List.mem_of_getElem? (i := 25) rfl))) Via.refl e1 Fc (g := (mkF m 7 #[.val (.ref r0)] [(.ref r0)])) rfl rfl (hb hby d22_7)
  have k3 : ∀ t, Steps p.tables e below (T2.setTop (mkF m 18 #[.val (.ref r0)] [(.int (1 : Int32))])) t → Steps p.tables e below (s₁.setTop (entryFrame m #[(.ref r0)] 1)) t := by
    intro t k
    refine pre0 _ ?_
    show Steps p.tables e below (s₁.setTop (mkF m 0 #[.val (.ref r0)] [])) _
    refine st1 _ ?_
    show Steps p.tables e below (T1.setTop (mkF m 3 #[.val (.ref r0)] [(.int w_CS)])) _
    refine XS.ifNo X1.here hx rfl (hb hby d22_3) rfl ((if0 _ _).trans (feq hCS).1) ?_
    show Steps p.tables e below (T1.setTop (mkF m 6 #[.val (.ref r0)] [])) _
    refine XS.aloadN X1.here hx rfl (hb hby d22_6) rfl rfl ?_
    show Steps p.tables e below (T1.setTop (mkF m 7 #[.val (.ref r0)] [(.ref r0)])) _
    refine st2 _ ?_
    show Steps p.tables e below (T2.setTop (mkF m 10 #[.val (.ref r0)] [(.int (0 : Int32))])) _
    refine XS.ifNo X2.here hx rfl (hb hby d22_10) rfl ((if0 _ _).trans (teq (by decide)).2) ?_
    show Steps p.tables e below (T2.setTop (mkF m 13 #[.val (.ref r0)] [])) _
    refine XS.iconst X2.here hx rfl (hb hby d22_13) ?_
    show Steps p.tables e below (T2.setTop (mkF m 14 #[.val (.ref r0)] [(.int (1 : Int32))])) _
    refine XS.goto X2.here hx rfl (pc0 := 14) (pc' := 18) rfl (hb hby d22_14) (by decide) (by decide) ?_
    exact k
  obtain ⟨fs, hr, hrun, hended, hW, hsame⟩ := X2.leave (v := some (.int (1 : Int32))) (fun h => by rw [Bd.returns] at h; cases h)
  refine ⟨_, _, k3 _ ?_, hrun, hended, _, _, rfl, ?_, ⟨_, rfl⟩, hW, hsame.mono (by decide) (by decide)⟩
  · exact retN X2 hx (t := .boolean) Bd.returns (by simp) (hb hby d22_18) hr
  · show own_Q (some (.int (own_il ))) h0 n0 _ T2.heap _
    rw [e2]
    exact ⟨rfl, N0, rfl⟩
theorem ef_rmLn_0 (m : MethodId) (x0 : Addr) : entryFrame m #[(.ref x0)] 1 = mkF m 0 #[.val (.ref x0)] [] := by first | (simp [entryFrame, mkF, argsToLocals, Value.category]; done) | rfl
theorem d19_0 : decode jdk_42_method_54_code 0 = .ok (.aload_n 0, 1) := by decide +kernel
theorem d19_1 : decode jdk_42_method_54_code 1 = .ok (.getfield 9, 3) := by decide +kernel
theorem d19_4 : decode jdk_42_method_54_code 4 = .ok (.arraylength, 1) := by decide +kernel
theorem d19_5 : decode jdk_42_method_54_code 5 = .ok (.aload_n 0, 1) := by decide +kernel
theorem pd_10 : parseMethodDescriptor "()B" = some ⟨[], some .byte⟩ := by decide +kernel
theorem d19_6 : decode jdk_42_method_54_code 6 = .ok (.invokevirtual 335, 3) := by decide +kernel
theorem d19_9 : decode jdk_42_method_54_code 9 = .ok (.ishr, 1) := by decide +kernel
theorem d19_10 : decode jdk_42_method_54_code 10 = .ok (.ireturn, 1) := by decide +kernel
def own_ln_0  : Int32 := (0 : Int32)
set_option maxRecDepth 65536 in
set_option maxHeartbeats 40000000 in
theorem rmLn_0 (l : Launch) (Z : State) (a0 : Array Value) (hw : ∀ d ∈ tables_1, d.before a0 Z = true) (ws : List Jvm.Cond) (r0 : Addr) (rv : Addr) (cb : ClassId) (c0 c1 : Int32) (w_CS : Int32) (w_E : Addr) (w_F : Value) (h0 : Heap) (n0 : Nat) (hG : own_GC Z w_CS w_E w_F) (O0 : Old Z n0 h0) (hc0 : own_c8 c0) (hc1 : own_c8 c1) (E_r0 : Exa Z h0 r0 "java/lang/String") (Fv : Fld Z h0 r0 "java/lang/String" "value" "[B" (.ref rv)) (Fc : Fld Z h0 r0 "java/lang/String" "coder" "B" (.int (0 : Int32))) (Va : Arv Z h0 rv cb .byte (0 : Int32) [] (.int (0 : Int32))) :
    MetFree l (⟨"java/lang/String", "length", "()I"⟩ : MethodName) (head1 (Jvm.Cond.code (⟨"java/lang/String", "length", "()I"⟩ : MethodName) jdk_42_method_54_code 1 (some .int) :: ws) ({ frames := 1, cells := 0, slots := 0, locals := 14 } : Room)) (fun a U => a = #[(.ref r0)] ∧ Z.Warmed39 U.vm ∧ U.heap = h0) (fun _ _ _ _ _ => True) (fun _ U o U' => ∃ v L, o = .returned v ∧ own_Q (some (.int (own_ln_0 ))) h0 n0 v U'.heap L ∧ FrameEnd U o U' L ({ frames := 1, cells := 0, slots := 0, locals := 14 } : Room).cells ({ frames := 1, cells := 0, slots := 0, locals := 14 } : Room).slots) := by
  refine MetFree.of_bodySF (plainFor_of_name pn_0) hisR ?_
  intro p e s m args below meth c s₁ Bd hml0 hP hK
  obtain ⟨rfl, hZ, hh⟩ := hP
  have hx := Bd.exec
  have hby := Bd.bytes
  have hml : c.maxLocals = 1 := hml0
  have hown : s.vm.findClass "java/lang/String" = some m.cls := findClass_of_methodNamed Bd.named
  have hnm := (name_of_methodNamed Bd.named Bd.method).1
  have X0 : Stand p l e ({ frames := 1, cells := 0, slots := 0, locals := 14 } : Room) s m #[(.ref r0)] below meth c s₁ [] 0 0 := Stand.of_body Bd
  have e0 : s₁.heap = h0 := by rw [← hh, Bd.state]; rfl
  have N0 := Fr.nil n0
  have pre0 : ∀ t, Steps p.tables e below (s₁.setTop (mkF m 0 #[.val (.ref r0)] [])) t → Steps p.tables e below (s₁.setTop (entryFrame m #[(.ref r0)] 1)) t := fun t k => castTop (ef_rmLn_0 m r0) k
  have hG' := hG
  obtain ⟨S_CS, hCS, S_E, E_E, F_E, S_F, hF⟩ := hG'
  obtain ⟨T1, X1, e1, st1⟩ := getF X0 hx hZ hown (host := "") (Or.inl (hw _ (List.mem_of_getElem? (i := 24) rfl))) Via.refl e0 Fv (g := (mkF m 1 #[.val (.ref r0)] [(.ref r0)])) rfl rfl (hb hby d19_1)
  have k3 : ∀ t, Steps p.tables e below (T1.setTop (mkF m 6 #[.val (.ref r0)] [(.ref r0), (.int (0 : Int32))])) t → Steps p.tables e below (s₁.setTop (entryFrame m #[(.ref r0)] 1)) t := by
    intro t k
    refine pre0 _ ?_
    show Steps p.tables e below (s₁.setTop (mkF m 0 #[.val (.ref r0)] [])) _
    refine XS.aloadN X0.here hx rfl (hb hby d19_0) rfl rfl ?_
    show Steps p.tables e below (s₁.setTop (mkF m 1 #[.val (.ref r0)] [(.ref r0)])) _
    refine st1 _ ?_
    show Steps p.tables e below (T1.setTop (mkF m 4 #[.val (.ref r0)] [(.ref rv)])) _
    obtain ⟨cl_2, Ar_2, -, S_2, N_2, -, -⟩ := id Va
    refine X1.arraylength hx (by rw [e1]; exact Ar_2.1) (State.isArrayOf_alike hZ.alike Ar_2.2.1) (g := (mkF m 4 #[.val (.ref r0)] [(.ref rv)])) rfl rfl (hb hby d19_4) _ ?_
    rw [len_of S_2 N_2]
    show Steps p.tables e below (T1.setTop (mkF m 5 #[.val (.ref r0)] [(.int (0 : Int32))])) _
    refine XS.aloadN X1.here hx rfl (hb hby d19_5) rfl rfl ?_
    exact k
  obtain ⟨cq4, kq4, q4a, q4b, q4c⟩ := isOf hZ e1 E_r0
  obtain ⟨_, _, ⟨T4, L4, k4_, n4⟩, -, X4, ⟨Lc4, hQ4, l4, y4, z4⟩, st4⟩ := X1.virtualBack hx (y := (⟨"java/lang/String", "coder", "()B"⟩ : MethodName)) (z := (⟨"java/lang/String", "coder", "()B"⟩ : MethodName)) hown (mvT hZ (hw _ (List.mem_of_getElem? (i := 108) rfl))) (mvT hZ (hw _ (List.mem_of_getElem? (i := 109) rfl))) (notFace_of_selects (args := #[]) (mvT hZ (hw _ (List.mem_of_getElem? (i := 111) rfl)))) (mvT hZ (hw _ (List.mem_of_getElem? (i := 111) rfl))) (mvT hZ (hw _ (List.mem_of_getElem? (i := 110) rfl))) (by decide) (backOf (W := 1) (rmCo l Z a0 hw [] r0 w_CS w_E w_F h0 n0 hG O0 Fc E_r0) hZ (hw _ (List.mem_of_getElem? (i := 112) rfl)) (hw _ (List.mem_of_getElem? (i := 6) rfl)) (by decide) (by decide)) q4a q4c (g := (mkF m 6 #[.val (.ref r0)] [(.ref r0), (.int (0 : Int32))])) rfl (by rw [hml]; rfl) (Steps.refl _) (argsL := []) (rest := [(.int (0 : Int32))]) (lenOf pd_10 rfl) rfl (by show 2 * 0 + _ ≤ _; exact Nat.le_of_eq rfl) (hb hby d19_6) (fun _ _ => ⟨rfl, e1, (by decide : 0 + 0 ≤ _), (by decide : 0 + 0 ≤ _)⟩)
  dsimp only [Pt.U, Pt.locs, Pt.cells, Pt.slots] at X4 l4 y4 z4 st4 hQ4
  subst l4 y4 z4
  obtain ⟨rfl, Nq4, e4⟩ := hQ4
  have N4 := Fr.app N0 Nq4
  have k5 : ∀ t, Steps p.tables e below (T4.setTop (mkF m 10 #[.val (.ref r0)] [(.int (0 : Int32))])) t → Steps p.tables e below (s₁.setTop (entryFrame m #[(.ref r0)] 1)) t := by
    intro t k
    refine k3 _ ?_
    show Steps p.tables e below (T1.setTop (mkF m 6 #[.val (.ref r0)] [(.ref r0), (.int (0 : Int32))])) _
    refine st4.trans ?_
    show Steps p.tables e below (T4.setTop (mkF m 9 #[.val (.ref r0)] [(.int (0 : Int32)), (.int (0 : Int32))])) _
    refine XS.ishr X4.here hx rfl (hb hby d19_9) rfl ?_
    exact k
  obtain ⟨fs, hr, hrun, hended, hW, hsame⟩ := X4.leave (v := some (.int (0 : Int32))) (fun h => by rw [Bd.returns] at h; cases h)
  refine ⟨_, _, k5 _ ?_, hrun, hended, _, _, rfl, ?_, ⟨_, rfl⟩, hW, hsame.mono (by decide) (by decide)⟩
  · exact retOut X4 hx Bd.returns rfl (Or.inl ⟨rfl, Or.inl rfl, _, rfl⟩) (hb hby d19_10) hr
  · show own_Q (some (.int (own_ln_0 ))) h0 n0 _ T4.heap _
    rw [e4]
    exact ⟨rfl, N4, rfl⟩
theorem pn_5 : plainName "com/example/indelible_crawl/indeliblecrawl/fetch/Validators" = true := by first | (simp [plainName, overriddenIn]; done) | decide +kernel
theorem ef_rmCB_0 (m : MethodId) (x0 : Addr) : entryFrame m #[(.ref x0)] 3 = mkF m 0 #[.val (.ref x0), .unset, .unset] [] := by first | (simp [entryFrame, mkF, argsToLocals, Value.category]; done) | rfl
theorem d18_0 : decode prog_47_method_3_code 0 = .ok (.iconst 0, 1) := by decide +kernel
theorem d18_1 : decode prog_47_method_3_code 1 = .ok (.istore_n 1, 1) := by decide +kernel
theorem d18_2 : decode prog_47_method_3_code 2 = .ok (.iload_n 1, 1) := by decide +kernel
theorem d18_3 : decode prog_47_method_3_code 3 = .ok (.aload_n 0, 1) := by decide +kernel
theorem pd_11 : parseMethodDescriptor "()I" = some ⟨[], some .int⟩ := by decide +kernel
theorem d18_4 : decode prog_47_method_3_code 4 = .ok (.invokevirtual 30, 3) := by decide +kernel
theorem d18_7 : decode prog_47_method_3_code 7 = .ok (.if_icmp .ge 29, 3) := by decide +kernel
theorem d18_36 : decode prog_47_method_3_code 36 = .ok (.iconst 1, 1) := by decide +kernel
theorem d18_37 : decode prog_47_method_3_code 37 = .ok (.ireturn, 1) := by decide +kernel
def own_cb_0 (c0 c1 : Int32) : Int32 := (1 : Int32)
set_option maxRecDepth 65536 in
set_option maxHeartbeats 40000000 in
theorem rmCB_0 (l : Launch) (Z : State) (a0 : Array Value) (hw : ∀ d ∈ tables_1, d.before a0 Z = true) (ws : List Jvm.Cond) (r0 : Addr) (rv : Addr) (cb : ClassId) (c0 c1 : Int32) (w_CS : Int32) (w_E : Addr) (w_F : Value) (h0 : Heap) (n0 : Nat) (hG : own_GC Z w_CS w_E w_F) (O0 : Old Z n0 h0) (hc0 : own_c8 c0) (hc1 : own_c8 c1) (E_r0 : Exa Z h0 r0 "java/lang/String") (Fv : Fld Z h0 r0 "java/lang/String" "value" "[B" (.ref rv)) (Fc : Fld Z h0 r0 "java/lang/String" "coder" "B" (.int (0 : Int32))) (Va : Arv Z h0 rv cb .byte (0 : Int32) [] (.int (0 : Int32))) :
    MetFree l (⟨"com/example/indelible_crawl/indeliblecrawl/fetch/Validators", "canBeSent", "(Ljava/lang/String;)Z"⟩ : MethodName) (head1 (Jvm.Cond.code (⟨"com/example/indelible_crawl/indeliblecrawl/fetch/Validators", "canBeSent", "(Ljava/lang/String;)Z"⟩ : MethodName) prog_47_method_3_code 3 (some .boolean) :: ws) ({ frames := 4, cells := 0, slots := 0, locals := 70 } : Room)) (fun a U => a = #[(.ref r0)] ∧ Z.Warmed39 U.vm ∧ U.heap = h0) (fun _ _ _ _ _ => True) (fun _ U o U' => ∃ v L, o = .returned v ∧ own_Q (some (.int (own_cb_0 c0 c1))) h0 n0 v U'.heap L ∧ FrameEnd U o U' L ({ frames := 4, cells := 0, slots := 0, locals := 70 } : Room).cells ({ frames := 4, cells := 0, slots := 0, locals := 70 } : Room).slots) := by
  refine MetFree.of_bodySF (plainFor_of_name pn_5) hisR ?_
  intro p e s m args below meth c s₁ Bd hml0 hP hK
  obtain ⟨rfl, hZ, hh⟩ := hP
  have hx := Bd.exec
  have hby := Bd.bytes
  have hml : c.maxLocals = 3 := hml0
  have hown : s.vm.findClass "com/example/indelible_crawl/indeliblecrawl/fetch/Validators" = some m.cls := findClass_of_methodNamed Bd.named
  have hnm := (name_of_methodNamed Bd.named Bd.method).1
  have X0 : Stand p l e ({ frames := 4, cells := 0, slots := 0, locals := 70 } : Room) s m #[(.ref r0)] below meth c s₁ [] 0 0 := Stand.of_body Bd
  have e0 : s₁.heap = h0 := by rw [← hh, Bd.state]; rfl
  have N0 := Fr.nil n0
  have pre0 : ∀ t, Steps p.tables e below (s₁.setTop (mkF m 0 #[.val (.ref r0), .unset, .unset] [])) t → Steps p.tables e below (s₁.setTop (entryFrame m #[(.ref r0)] 3)) t := fun t k => castTop (ef_rmCB_0 m r0) k
  have hG' := hG
  obtain ⟨S_CS, hCS, S_E, E_E, F_E, S_F, hF⟩ := hG'
  obtain ⟨cq1, kq1, q1a, q1b, q1c⟩ := isOf hZ e0 E_r0
  obtain ⟨_, _, ⟨T1, L1, k1_, n1⟩, -, X1, ⟨Lc1, hQ1, l1, y1, z1⟩, st1⟩ := X0.virtualBack hx (y := (⟨"java/lang/String", "length", "()I"⟩ : MethodName)) (z := (⟨"java/lang/String", "length", "()I"⟩ : MethodName)) hown (mvT hZ (hw _ (List.mem_of_getElem? (i := 103) rfl))) (mvT hZ (hw _ (List.mem_of_getElem? (i := 104) rfl))) (notFace_of_selects (args := #[]) (mvT hZ (hw _ (List.mem_of_getElem? (i := 106) rfl)))) (mvT hZ (hw _ (List.mem_of_getElem? (i := 106) rfl))) (mvT hZ (hw _ (List.mem_of_getElem? (i := 105) rfl))) (by decide) (backOf (W := 1) (rmLn_0 l Z a0 hw [] r0 rv cb c0 c1 w_CS w_E w_F h0 n0 hG O0 hc0 hc1 E_r0 Fv Fc Va) hZ (hw _ (List.mem_of_getElem? (i := 107) rfl)) (hw _ (List.mem_of_getElem? (i := 6) rfl)) (by decide) (by decide)) q1a q1c (g := (mkF m 4 #[.val (.ref r0), .val (.int (0 : Int32)), .unset] [(.ref r0), (.int (0 : Int32))])) rfl (by rw [hml]; rfl) (Steps.refl _) (argsL := []) (rest := [(.int (0 : Int32))]) (lenOf pd_11 rfl) rfl (by show 2 * 0 + _ ≤ _; exact Nat.le_of_eq rfl) (hb hby d18_4) (fun _ _ => ⟨rfl, e0, (by decide : 0 + 0 ≤ _), (by decide : 0 + 0 ≤ _)⟩)
  dsimp only [Pt.U, Pt.locs, Pt.cells, Pt.slots] at X1 l1 y1 z1 st1 hQ1
  subst l1 y1 z1
  obtain ⟨rfl, Nq1, e1⟩ := hQ1
  have N1 := Fr.app N0 Nq1
  have k2 : ∀ t, Steps p.tables e below (T1.setTop (mkF m 37 #[.val (.ref r0), .val (.int (0 : Int32)), .unset] [(.int (1 : Int32))])) t → Steps p.tables e below (s₁.setTop (entryFrame m #[(.ref r0)] 3)) t := by
    intro t k
    refine pre0 _ ?_
    show Steps p.tables e below (s₁.setTop (mkF m 0 #[.val (.ref r0), .unset, .unset] [])) _
    refine XS.iconst X0.here hx rfl (hb hby d18_0) ?_
    show Steps p.tables e below (s₁.setTop (mkF m 1 #[.val (.ref r0), .unset, .unset] [(.int (0 : Int32))])) _
    refine XS.istoreN X0.here hx rfl (hb hby d18_1) rfl (l' := #[.val (.ref r0), .val (.int (0 : Int32)), .unset]) rfl ?_
    show Steps p.tables e below (s₁.setTop (mkF m 2 #[.val (.ref r0), .val (.int (0 : Int32)), .unset] [])) _
    refine XS.iloadN X0.here hx rfl (hb hby d18_2) rfl ?_
    show Steps p.tables e below (s₁.setTop (mkF m 3 #[.val (.ref r0), .val (.int (0 : Int32)), .unset] [(.int (0 : Int32))])) _
    refine XS.aloadN X0.here hx rfl (hb hby d18_3) rfl rfl ?_
    show Steps p.tables e below (s₁.setTop (mkF m 4 #[.val (.ref r0), .val (.int (0 : Int32)), .unset] [(.ref r0), (.int (0 : Int32))])) _
    refine st1.trans ?_
    show Steps p.tables e below (T1.setTop (mkF m 7 #[.val (.ref r0), .val (.int (0 : Int32)), .unset] [(.int (0 : Int32)), (.int (0 : Int32))])) _
    refine XS.icmpYes X1.here hx rfl (pc0 := 7) (pc' := 36) rfl (hb hby d18_7) rfl (flt (by decide)).2.1 (by decide) (by decide) ?_
    show Steps p.tables e below (T1.setTop (mkF m 36 #[.val (.ref r0), .val (.int (0 : Int32)), .unset] [])) _
    refine XS.iconst X1.here hx rfl (hb hby d18_36) ?_
    exact k
  obtain ⟨fs, hr, hrun, hended, hW, hsame⟩ := X1.leave (v := some (.int (1 : Int32))) (fun h => by rw [Bd.returns] at h; cases h)
  refine ⟨_, _, k2 _ ?_, hrun, hended, _, _, rfl, ?_, ⟨_, rfl⟩, hW, hsame.mono (by decide) (by decide)⟩
  · exact retN X1 hx (t := .boolean) Bd.returns (by simp) (hb hby d18_37) hr
  · show own_Q (some (.int (own_cb_0 c0 c1))) h0 n0 _ T1.heap _
    rw [e1]
    exact ⟨rfl, N1, rfl⟩
theorem ef_rmLn_1 (m : MethodId) (x0 : Addr) : entryFrame m #[(.ref x0)] 1 = mkF m 0 #[.val (.ref x0)] [] := by first | (simp [entryFrame, mkF, argsToLocals, Value.category]; done) | rfl
def own_ln_1  : Int32 := (1 : Int32)
set_option maxRecDepth 65536 in
set_option maxHeartbeats 40000000 in
theorem rmLn_1 (l : Launch) (Z : State) (a0 : Array Value) (hw : ∀ d ∈ tables_1, d.before a0 Z = true) (ws : List Jvm.Cond) (r0 : Addr) (rv : Addr) (cb : ClassId) (c0 c1 : Int32) (w_CS : Int32) (w_E : Addr) (w_F : Value) (h0 : Heap) (n0 : Nat) (hG : own_GC Z w_CS w_E w_F) (O0 : Old Z n0 h0) (hc0 : own_c8 c0) (hc1 : own_c8 c1) (E_r0 : Exa Z h0 r0 "java/lang/String") (Fv : Fld Z h0 r0 "java/lang/String" "value" "[B" (.ref rv)) (Fc : Fld Z h0 r0 "java/lang/String" "coder" "B" (.int (0 : Int32))) (Va : Arv Z h0 rv cb .byte (1 : Int32) [(.int ((c0.toInt8.toInt32).toInt8.toInt32))] (.int (0 : Int32))) :
    MetFree l (⟨"java/lang/String", "length", "()I"⟩ : MethodName) (head1 (Jvm.Cond.code (⟨"java/lang/String", "length", "()I"⟩ : MethodName) jdk_42_method_54_code 1 (some .int) :: ws) ({ frames := 1, cells := 0, slots := 0, locals := 14 } : Room)) (fun a U => a = #[(.ref r0)] ∧ Z.Warmed39 U.vm ∧ U.heap = h0) (fun _ _ _ _ _ => True) (fun _ U o U' => ∃ v L, o = .returned v ∧ own_Q (some (.int (own_ln_1 ))) h0 n0 v U'.heap L ∧ FrameEnd U o U' L ({ frames := 1, cells := 0, slots := 0, locals := 14 } : Room).cells ({ frames := 1, cells := 0, slots := 0, locals := 14 } : Room).slots) := by
  refine MetFree.of_bodySF (plainFor_of_name pn_0) hisR ?_
  intro p e s m args below meth c s₁ Bd hml0 hP hK
  obtain ⟨rfl, hZ, hh⟩ := hP
  have hx := Bd.exec
  have hby := Bd.bytes
  have hml : c.maxLocals = 1 := hml0
  have hown : s.vm.findClass "java/lang/String" = some m.cls := findClass_of_methodNamed Bd.named
  have hnm := (name_of_methodNamed Bd.named Bd.method).1
  have X0 : Stand p l e ({ frames := 1, cells := 0, slots := 0, locals := 14 } : Room) s m #[(.ref r0)] below meth c s₁ [] 0 0 := Stand.of_body Bd
  have e0 : s₁.heap = h0 := by rw [← hh, Bd.state]; rfl
  have N0 := Fr.nil n0
  have pre0 : ∀ t, Steps p.tables e below (s₁.setTop (mkF m 0 #[.val (.ref r0)] [])) t → Steps p.tables e below (s₁.setTop (entryFrame m #[(.ref r0)] 1)) t := fun t k => castTop (ef_rmLn_1 m r0) k
  have hG' := hG
  obtain ⟨S_CS, hCS, S_E, E_E, F_E, S_F, hF⟩ := hG'
  obtain ⟨T1, X1, e1, st1⟩ := getF X0 hx hZ hown (host := "") (Or.inl (hw _ (List.mem_of_getElem? (i := 24) rfl))) Via.refl e0 Fv (g := (mkF m 1 #[.val (.ref r0)] [(.ref r0)])) rfl rfl (hb hby d19_1)
  have k3 : ∀ t, Steps p.tables e below (T1.setTop (mkF m 6 #[.val (.ref r0)] [(.ref r0), (.int (1 : Int32))])) t → Steps p.tables e below (s₁.setTop (entryFrame m #[(.ref r0)] 1)) t := by
    intro t k
    refine pre0 _ ?_
    show Steps p.tables e below (s₁.setTop (mkF m 0 #[.val (.ref r0)] [])) _
    refine XS.aloadN X0.here hx rfl (hb hby d19_0) rfl rfl ?_
    show Steps p.tables e below (s₁.setTop (mkF m 1 #[.val (.ref r0)] [(.ref r0)])) _
    refine st1 _ ?_
    show Steps p.tables e below (T1.setTop (mkF m 4 #[.val (.ref r0)] [(.ref rv)])) _
    obtain ⟨cl_2, Ar_2, -, S_2, N_2, -, -⟩ := id Va
    refine X1.arraylength hx (by rw [e1]; exact Ar_2.1) (State.isArrayOf_alike hZ.alike Ar_2.2.1) (g := (mkF m 4 #[.val (.ref r0)] [(.ref rv)])) rfl rfl (hb hby d19_4) _ ?_
    rw [len_of S_2 N_2]
    show Steps p.tables e below (T1.setTop (mkF m 5 #[.val (.ref r0)] [(.int (1 : Int32))])) _
    refine XS.aloadN X1.here hx rfl (hb hby d19_5) rfl rfl ?_
    exact k
  obtain ⟨cq4, kq4, q4a, q4b, q4c⟩ := isOf hZ e1 E_r0
  obtain ⟨_, _, ⟨T4, L4, k4_, n4⟩, -, X4, ⟨Lc4, hQ4, l4, y4, z4⟩, st4⟩ := X1.virtualBack hx (y := (⟨"java/lang/String", "coder", "()B"⟩ : MethodName)) (z := (⟨"java/lang/String", "coder", "()B"⟩ : MethodName)) hown (mvT hZ (hw _ (List.mem_of_getElem? (i := 108) rfl))) (mvT hZ (hw _ (List.mem_of_getElem? (i := 109) rfl))) (notFace_of_selects (args := #[]) (mvT hZ (hw _ (List.mem_of_getElem? (i := 111) rfl)))) (mvT hZ (hw _ (List.mem_of_getElem? (i := 111) rfl))) (mvT hZ (hw _ (List.mem_of_getElem? (i := 110) rfl))) (by decide) (backOf (W := 1) (rmCo l Z a0 hw [] r0 w_CS w_E w_F h0 n0 hG O0 Fc E_r0) hZ (hw _ (List.mem_of_getElem? (i := 112) rfl)) (hw _ (List.mem_of_getElem? (i := 6) rfl)) (by decide) (by decide)) q4a q4c (g := (mkF m 6 #[.val (.ref r0)] [(.ref r0), (.int (1 : Int32))])) rfl (by rw [hml]; rfl) (Steps.refl _) (argsL := []) (rest := [(.int (1 : Int32))]) (lenOf pd_10 rfl) rfl (by show 2 * 0 + _ ≤ _; exact Nat.le_of_eq rfl) (hb hby d19_6) (fun _ _ => ⟨rfl, e1, (by decide : 0 + 0 ≤ _), (by decide : 0 + 0 ≤ _)⟩)
  dsimp only [Pt.U, Pt.locs, Pt.cells, Pt.slots] at X4 l4 y4 z4 st4 hQ4
  subst l4 y4 z4
  obtain ⟨rfl, Nq4, e4⟩ := hQ4
  have N4 := Fr.app N0 Nq4
  have k5 : ∀ t, Steps p.tables e below (T4.setTop (mkF m 10 #[.val (.ref r0)] [(.int (1 : Int32))])) t → Steps p.tables e below (s₁.setTop (entryFrame m #[(.ref r0)] 1)) t := by
    intro t k
    refine k3 _ ?_
    show Steps p.tables e below (T1.setTop (mkF m 6 #[.val (.ref r0)] [(.ref r0), (.int (1 : Int32))])) _
    refine st4.trans ?_
    show Steps p.tables e below (T4.setTop (mkF m 9 #[.val (.ref r0)] [(.int (0 : Int32)), (.int (1 : Int32))])) _
    refine XS.ishr X4.here hx rfl (hb hby d19_9) rfl ?_
    exact k
  obtain ⟨fs, hr, hrun, hended, hW, hsame⟩ := X4.leave (v := some (.int (1 : Int32))) (fun h => by rw [Bd.returns] at h; cases h)
  refine ⟨_, _, k5 _ ?_, hrun, hended, _, _, rfl, ?_, ⟨_, rfl⟩, hW, hsame.mono (by decide) (by decide)⟩
  · exact retOut X4 hx Bd.returns rfl (Or.inl ⟨rfl, Or.inl rfl, _, rfl⟩) (hb hby d19_10) hr
  · show own_Q (some (.int (own_ln_1 ))) h0 n0 _ T4.heap _
    rw [e4]
    exact ⟨rfl, N4, rfl⟩
theorem ef_rmLC_1_0 (m : MethodId) (x0 : Addr) (x1 : Int32) : entryFrame m #[(.ref x0), (.int x1)] 2 = mkF m 0 #[.val (.ref x0), .val (.int x1)] [] := by first | (simp [entryFrame, mkF, argsToLocals, Value.category]; done) | rfl
theorem d23_0 : decode jdk_43_method_2_code 0 = .ok (.iload_n 1, 1) := by decide +kernel
theorem d23_1 : decode jdk_43_method_2_code 1 = .ok (.aload_n 0, 1) := by decide +kernel
theorem d23_2 : decode jdk_43_method_2_code 2 = .ok (.arraylength, 1) := by decide +kernel
theorem pd_12 : parseMethodDescriptor "(II)V" = some ⟨[.int, .int], none⟩ := by decide +kernel
theorem d23_3 : decode jdk_43_method_2_code 3 = .ok (.invokestatic 9, 3) := by decide +kernel
theorem d23_6 : decode jdk_43_method_2_code 6 = .ok (.aload_n 0, 1) := by decide +kernel
theorem d23_7 : decode jdk_43_method_2_code 7 = .ok (.iload_n 1, 1) := by decide +kernel
theorem d23_8 : decode jdk_43_method_2_code 8 = .ok (.baload, 1) := by decide +kernel
theorem d23_9 : decode jdk_43_method_2_code 9 = .ok (.sipush 255, 3) := by decide +kernel
theorem d23_12 : decode jdk_43_method_2_code 12 = .ok (.iand, 1) := by decide +kernel
theorem d23_13 : decode jdk_43_method_2_code 13 = .ok (.i2c, 1) := by decide +kernel
theorem d23_14 : decode jdk_43_method_2_code 14 = .ok (.ireturn, 1) := by decide +kernel
def own_lc_1_0 (c0 c1 : Int32) : Int32 := (nar .char ((((c0.toInt8.toInt32).toInt8.toInt32) &&& (255 : Int32)).toUInt32.toUInt16.toUInt32.toInt32))
set_option maxRecDepth 65536 in
set_option maxHeartbeats 40000000 in
theorem rmLC_1_0 (l : Launch) (Z : State) (a0 : Array Value) (hw : ∀ d ∈ tables_1, d.before a0 Z = true) (ws : List Jvm.Cond) (r0 : Addr) (cb : ClassId) (c0 c1 : Int32) (w_CS : Int32) (w_E : Addr) (w_F : Value) (h0 : Heap) (n0 : Nat) (hG : own_GC Z w_CS w_E w_F) (O0 : Old Z n0 h0) (hc0 : own_c8 c0) (hc1 : own_c8 c1) (Va : Arv Z h0 r0 cb .byte (1 : Int32) [(.int ((c0.toInt8.toInt32).toInt8.toInt32))] (.int (0 : Int32))) :
    MetFree l (⟨"java/lang/StringLatin1", "charAt", "([BI)C"⟩ : MethodName) (head1 (Jvm.Cond.code (⟨"java/lang/StringLatin1", "charAt", "([BI)C"⟩ : MethodName) jdk_43_method_2_code 2 (some .char) :: ws) ({ frames := 2, cells := 0, slots := 0, locals := 32 } : Room)) (fun a U => a = #[(.ref r0), (.int (0 : Int32))] ∧ Z.Warmed39 U.vm ∧ U.heap = h0) (fun _ _ _ _ _ => True) (fun _ U o U' => ∃ v L, o = .returned v ∧ own_Q (some (.int (own_lc_1_0 c0 c1))) h0 n0 v U'.heap L ∧ FrameEnd U o U' L ({ frames := 2, cells := 0, slots := 0, locals := 32 } : Room).cells ({ frames := 2, cells := 0, slots := 0, locals := 32 } : Room).slots) := by
  refine MetFree.of_bodySF (plainFor_of_name pn_2) hisR ?_
  intro p e s m args below meth c s₁ Bd hml0 hP hK
  obtain ⟨rfl, hZ, hh⟩ := hP
  have hx := Bd.exec
  have hby := Bd.bytes
  have hml : c.maxLocals = 2 := hml0
  have hown : s.vm.findClass "java/lang/StringLatin1" = some m.cls := findClass_of_methodNamed Bd.named
  have hnm := (name_of_methodNamed Bd.named Bd.method).1
  have X0 : Stand p l e ({ frames := 2, cells := 0, slots := 0, locals := 32 } : Room) s m #[(.ref r0), (.int (0 : Int32))] below meth c s₁ [] 0 0 := Stand.of_body Bd
  have e0 : s₁.heap = h0 := by rw [← hh, Bd.state]; rfl
  have N0 := Fr.nil n0
  have pre0 : ∀ t, Steps p.tables e below (s₁.setTop (mkF m 0 #[.val (.ref r0), .val (.int (0 : Int32))] [])) t → Steps p.tables e below (s₁.setTop (entryFrame m #[(.ref r0), (.int (0 : Int32))] 2)) t := fun t k => castTop (ef_rmLC_1_0 m r0 (0 : Int32)) k
  have hG' := hG
  obtain ⟨S_CS, hCS, S_E, E_E, F_E, S_F, hF⟩ := hG'
  have k2 : ∀ t, Steps p.tables e below (s₁.setTop (mkF m 3 #[.val (.ref r0), .val (.int (0 : Int32))] [(.int (1 : Int32)), (.int (0 : Int32))])) t → Steps p.tables e below (s₁.setTop (entryFrame m #[(.ref r0), (.int (0 : Int32))] 2)) t := by
    intro t k
    refine pre0 _ ?_
    show Steps p.tables e below (s₁.setTop (mkF m 0 #[.val (.ref r0), .val (.int (0 : Int32))] [])) _
    refine XS.iloadN X0.here hx rfl (hb hby d23_0) rfl ?_
    show Steps p.tables e below (s₁.setTop (mkF m 1 #[.val (.ref r0), .val (.int (0 : Int32))] [(.int (0 : Int32))])) _
    refine XS.aloadN X0.here hx rfl (hb hby d23_1) rfl rfl ?_
    show Steps p.tables e below (s₁.setTop (mkF m 2 #[.val (.ref r0), .val (.int (0 : Int32))] [(.ref r0), (.int (0 : Int32))])) _
    obtain ⟨cl_1, Ar_1, -, S_1, N_1, -, -⟩ := id Va
    refine X0.arraylength hx (by rw [e0]; exact Ar_1.1) (State.isArrayOf_alike hZ.alike Ar_1.2.1) (g := (mkF m 2 #[.val (.ref r0), .val (.int (0 : Int32))] [(.ref r0), (.int (0 : Int32))])) rfl rfl (hb hby d23_2) _ ?_
    rw [len_of S_1 N_1]
    exact k
  obtain ⟨_, _, ⟨T3, L3, k3_, n3⟩, -, X3, ⟨Lc3, hQ3, l3, y3, z3⟩, st3⟩ := Jvm.LawKit.callS X0 hx (y := (⟨"java/lang/String", "checkIndex", "(II)V"⟩ : MethodName)) hown (mvT hZ (hw _ (List.mem_of_getElem? (i := 126) rfl))) (mvT hZ (hw _ (List.mem_of_getElem? (i := 127) rfl))) (mvT hZ (hw _ (List.mem_of_getElem? (i := 6) rfl))) (mvT hZ (hw _ (List.mem_of_getElem? (i := 128) rfl))) (by decide) (backOf (W := 0) (rmCI l Z a0 hw [] (0 : Int32) (1 : Int32) w_CS w_E w_F h0 n0 hG O0 (by decide) (by decide)) hZ (hw _ (List.mem_of_getElem? (i := 128) rfl)) (hw _ (List.mem_of_getElem? (i := 6) rfl)) (by decide) (by decide)) (g := (mkF m 3 #[.val (.ref r0), .val (.int (0 : Int32))] [(.int (1 : Int32)), (.int (0 : Int32))])) rfl (by rw [hml]; rfl) (argsL := [(.int (0 : Int32)), (.int (1 : Int32))]) (rest := []) (lenOf pd_12 rfl) rfl (by show 2 * 0 + _ ≤ _; exact Nat.le_of_eq rfl) (hb hby d23_3) (fun _ _ => ⟨rfl, e0, (by decide : 0 + 0 ≤ _), (by decide : 0 + 0 ≤ _)⟩)
  dsimp only [Pt.U, Pt.locs, Pt.cells, Pt.slots] at X3 l3 y3 z3 st3 hQ3
  subst l3 y3 z3
  obtain ⟨rfl, Nq3, e3⟩ := hQ3
  have N3 := Fr.app N0 Nq3
  have k5 : ∀ t, Steps p.tables e below (T3.setTop (mkF m 14 #[.val (.ref r0), .val (.int (0 : Int32))] [(.int ((((c0.toInt8.toInt32).toInt8.toInt32) &&& (255 : Int32)).toUInt32.toUInt16.toUInt32.toInt32))])) t → Steps p.tables e below (s₁.setTop (entryFrame m #[(.ref r0), (.int (0 : Int32))] 2)) t := by
    intro t k
    refine k2 _ ?_
    show Steps p.tables e below (s₁.setTop (mkF m 3 #[.val (.ref r0), .val (.int (0 : Int32))] [(.int (1 : Int32)), (.int (0 : Int32))])) _
    refine st3 _ ?_
    show Steps p.tables e below (T3.setTop (mkF m 6 #[.val (.ref r0), .val (.int (0 : Int32))] [])) _
    refine XS.aloadN X3.here hx rfl (hb hby d23_6) rfl rfl ?_
    show Steps p.tables e below (T3.setTop (mkF m 7 #[.val (.ref r0), .val (.int (0 : Int32))] [(.ref r0)])) _
    refine XS.iloadN X3.here hx rfl (hb hby d23_7) rfl ?_
    show Steps p.tables e below (T3.setTop (mkF m 8 #[.val (.ref r0), .val (.int (0 : Int32))] [(.int (0 : Int32)), (.ref r0)])) _
    obtain ⟨cl_4, Ar_4, q_4, S_4, N_4, H_4, G_4⟩ := id Va
    have hin_4 : ¬ ((0 : Int32) < 0 ∨ cl_4.slots.size ≤ ((0 : Int32)).toNatClampNeg) := inb_of S_4 ⟨by decide, by decide⟩
    refine X3.baloadBytes hx (j := (0 : Int32)) (v := (.int ((c0.toInt8.toInt32).toInt8.toInt32))) (by rw [e3]; exact Ar_4.1) (State.isArrayOf_alike hZ.alike Ar_4.2.1) Ar_4.2.2 hin_4 (Has.at H_4 hin_4 rfl) (g := (mkF m 8 #[.val (.ref r0), .val (.int (0 : Int32))] [(.int (0 : Int32)), (.ref r0)])) rfl rfl (hb hby d23_8) _ ?_
    show Steps p.tables e below (T3.setTop (mkF m 9 #[.val (.ref r0), .val (.int (0 : Int32))] [(.int ((c0.toInt8.toInt32).toInt8.toInt32))])) _
    refine XS.sipush X3.here hx rfl (hb hby d23_9) ?_
    show Steps p.tables e below (T3.setTop (mkF m 12 #[.val (.ref r0), .val (.int (0 : Int32))] [(.int (255 : Int32)), (.int ((c0.toInt8.toInt32).toInt8.toInt32))])) _
    refine XS.iand X3.here hx rfl (hb hby d23_12) rfl ?_
    show Steps p.tables e below (T3.setTop (mkF m 13 #[.val (.ref r0), .val (.int (0 : Int32))] [(.int (((c0.toInt8.toInt32).toInt8.toInt32) &&& (255 : Int32)))])) _
    refine XS.i2c X3.here hx rfl (hb hby d23_13) rfl ?_
    exact k
  obtain ⟨fs, hr, hrun, hended, hW, hsame⟩ := X3.leave (v := some (.int (nar .char ((((c0.toInt8.toInt32).toInt8.toInt32) &&& (255 : Int32)).toUInt32.toUInt16.toUInt32.toInt32)))) (fun h => by rw [Bd.returns] at h; cases h)
  refine ⟨_, _, k5 _ ?_, hrun, hended, _, _, rfl, ?_, ⟨_, rfl⟩, hW, hsame.mono (by decide) (by decide)⟩
  · exact retN X3 hx (t := .char) Bd.returns (by simp) (hb hby d23_14) hr
  · show own_Q (some (.int (own_lc_1_0 c0 c1))) h0 n0 _ T3.heap _
    rw [e3]
    exact ⟨rfl, N3, rfl⟩
set_option maxRecDepth 65536 in
set_option maxHeartbeats 40000000 in
theorem rmLW_1_0 (l : Launch) (Z : State) (a0 : Array Value) (hw : ∀ d ∈ tables_1, d.before a0 Z = true) (ws : List Jvm.Cond) (r0 : Addr) (cb : ClassId) (c0 c1 : Int32) (w_CS : Int32) (w_E : Addr) (w_F : Value) (h0 : Heap) (n0 : Nat) (hG : own_GC Z w_CS w_E w_F) (O0 : Old Z n0 h0) (hc0 : own_c8 c0) (hc1 : own_c8 c1) (Va : Arv Z h0 r0 cb .byte (1 : Int32) [(.int ((c0.toInt8.toInt32).toInt8.toInt32))] (.int (0 : Int32))) :
    MetFree l (⟨"java/lang/StringLatin1", "charAt", "([BI)C"⟩ : MethodName) (head1 (Jvm.Cond.code (⟨"java/lang/StringLatin1", "charAt", "([BI)C"⟩ : MethodName) jdk_43_method_2_code 2 (some .char) :: ws) ({ frames := 2, cells := 0, slots := 0, locals := 32 } : Room)) (fun a U => a = #[(.ref r0), (.int (0 : Int32))] ∧ Z.Warmed39 U.vm ∧ U.heap = h0) (fun _ _ _ _ _ => True) (fun _ U o U' => ∃ v L, o = .returned v ∧ own_Q (some (.int c0)) h0 n0 v U'.heap L ∧ FrameEnd U o U' L ({ frames := 2, cells := 0, slots := 0, locals := 32 } : Room).cells ({ frames := 2, cells := 0, slots := 0, locals := 32 } : Room).slots) := by
  have q := rmLC_1_0 l Z a0 hw ws r0 cb c0 c1 w_CS w_E w_F h0 n0 hG O0 hc0 hc1 Va
  rw [show own_lc_1_0 c0 c1 = c0 from own_lcv hc0] at q
  exact q
theorem ef_rmSC_1_0 (m : MethodId) (x0 : Addr) (x1 : Int32) : entryFrame m #[(.ref x0), (.int x1)] 2 = mkF m 0 #[.val (.ref x0), .val (.int x1)] [] := by first | (simp [entryFrame, mkF, argsToLocals, Value.category]; done) | rfl
theorem d21_0 : decode jdk_42_method_56_code 0 = .ok (.aload_n 0, 1) := by decide +kernel
theorem pd_13 : parseMethodDescriptor "()Z" = some ⟨[], some .boolean⟩ := by decide +kernel
theorem d21_1 : decode jdk_42_method_56_code 1 = .ok (.invokevirtual 492, 3) := by decide +kernel
theorem d21_4 : decode jdk_42_method_56_code 4 = .ok (.ifCond .eq 12, 3) := by decide +kernel
theorem d21_7 : decode jdk_42_method_56_code 7 = .ok (.aload_n 0, 1) := by decide +kernel
theorem d21_8 : decode jdk_42_method_56_code 8 = .ok (.getfield 9, 3) := by decide +kernel
theorem d21_11 : decode jdk_42_method_56_code 11 = .ok (.iload_n 1, 1) := by decide +kernel
theorem pd_14 : parseMethodDescriptor "([BI)C" = some ⟨[(.array .byte), .int], some .char⟩ := by decide +kernel
theorem d21_12 : decode jdk_42_method_56_code 12 = .ok (.invokestatic 495, 3) := by decide +kernel
theorem d21_15 : decode jdk_42_method_56_code 15 = .ok (.ireturn, 1) := by decide +kernel
def own_sc_1_0 (c0 c1 : Int32) : Int32 := (nar .char c0)
set_option maxRecDepth 65536 in
set_option maxHeartbeats 40000000 in
theorem rmSC_1_0 (l : Launch) (Z : State) (a0 : Array Value) (hw : ∀ d ∈ tables_1, d.before a0 Z = true) (ws : List Jvm.Cond) (r0 : Addr) (rv : Addr) (cb : ClassId) (c0 c1 : Int32) (w_CS : Int32) (w_E : Addr) (w_F : Value) (h0 : Heap) (n0 : Nat) (hG : own_GC Z w_CS w_E w_F) (O0 : Old Z n0 h0) (hc0 : own_c8 c0) (hc1 : own_c8 c1) (E_r0 : Exa Z h0 r0 "java/lang/String") (Fv : Fld Z h0 r0 "java/lang/String" "value" "[B" (.ref rv)) (Fc : Fld Z h0 r0 "java/lang/String" "coder" "B" (.int (0 : Int32))) (Va : Arv Z h0 rv cb .byte (1 : Int32) [(.int ((c0.toInt8.toInt32).toInt8.toInt32))] (.int (0 : Int32))) :
    MetFree l (⟨"java/lang/String", "charAt", "(I)C"⟩ : MethodName) (head1 (Jvm.Cond.code (⟨"java/lang/String", "charAt", "(I)C"⟩ : MethodName) jdk_42_method_56_code 2 (some .char) :: ws) ({ frames := 3, cells := 0, slots := 0, locals := 50 } : Room)) (fun a U => a = #[(.ref r0), (.int (0 : Int32))] ∧ Z.Warmed39 U.vm ∧ U.heap = h0) (fun _ _ _ _ _ => True) (fun _ U o U' => ∃ v L, o = .returned v ∧ own_Q (some (.int (own_sc_1_0 c0 c1))) h0 n0 v U'.heap L ∧ FrameEnd U o U' L ({ frames := 3, cells := 0, slots := 0, locals := 50 } : Room).cells ({ frames := 3, cells := 0, slots := 0, locals := 50 } : Room).slots) := by
  refine MetFree.of_bodySF (plainFor_of_name pn_0) hisR ?_
  intro p e s m args below meth c s₁ Bd hml0 hP hK
  obtain ⟨rfl, hZ, hh⟩ := hP
  have hx := Bd.exec
  have hby := Bd.bytes
  have hml : c.maxLocals = 2 := hml0
  have hown : s.vm.findClass "java/lang/String" = some m.cls := findClass_of_methodNamed Bd.named
  have hnm := (name_of_methodNamed Bd.named Bd.method).1
  have X0 : Stand p l e ({ frames := 3, cells := 0, slots := 0, locals := 50 } : Room) s m #[(.ref r0), (.int (0 : Int32))] below meth c s₁ [] 0 0 := Stand.of_body Bd
  have e0 : s₁.heap = h0 := by rw [← hh, Bd.state]; rfl
  have N0 := Fr.nil n0
  have pre0 : ∀ t, Steps p.tables e below (s₁.setTop (mkF m 0 #[.val (.ref r0), .val (.int (0 : Int32))] [])) t → Steps p.tables e below (s₁.setTop (entryFrame m #[(.ref r0), (.int (0 : Int32))] 2)) t := fun t k => castTop (ef_rmSC_1_0 m r0 (0 : Int32)) k
  have hG' := hG
  obtain ⟨S_CS, hCS, S_E, E_E, F_E, S_F, hF⟩ := hG'
  obtain ⟨cq1, kq1, q1a, q1b, q1c⟩ := isOf hZ e0 E_r0
  obtain ⟨_, _, ⟨T1, L1, k1_, n1⟩, -, X1, ⟨Lc1, hQ1, l1, y1, z1⟩, st1⟩ := X0.virtualBack hx (y := (⟨"java/lang/String", "isLatin1", "()Z"⟩ : MethodName)) (z := (⟨"java/lang/String", "isLatin1", "()Z"⟩ : MethodName)) hown (mvT hZ (hw _ (List.mem_of_getElem? (i := 118) rfl))) (mvT hZ (hw _ (List.mem_of_getElem? (i := 119) rfl))) (notFace_of_selects (args := #[]) (mvT hZ (hw _ (List.mem_of_getElem? (i := 121) rfl)))) (mvT hZ (hw _ (List.mem_of_getElem? (i := 121) rfl))) (mvT hZ (hw _ (List.mem_of_getElem? (i := 120) rfl))) (by decide) (backOf (W := 0) (rmIl l Z a0 hw [] r0 w_CS w_E w_F h0 n0 hG O0 Fc E_r0) hZ (hw _ (List.mem_of_getElem? (i := 122) rfl)) (hw _ (List.mem_of_getElem? (i := 6) rfl)) (by decide) (by decide)) q1a q1c (g := (mkF m 1 #[.val (.ref r0), .val (.int (0 : Int32))] [(.ref r0)])) rfl (by rw [hml]; rfl) (Steps.refl _) (argsL := []) (rest := []) (lenOf pd_13 rfl) rfl (by show 2 * 0 + _ ≤ _; exact Nat.le_of_eq rfl) (hb hby d21_1) (fun _ _ => ⟨rfl, e0, (by decide : 0 + 0 ≤ _), (by decide : 0 + 0 ≤ _)⟩)
  dsimp only [Pt.U, Pt.locs, Pt.cells, Pt.slots] at X1 l1 y1 z1 st1 hQ1
  subst l1 y1 z1
  obtain ⟨rfl, Nq1, e1⟩ := hQ1
  have N1 := Fr.app N0 Nq1
  obtain ⟨T2, X2, e2, st2⟩ := getF X1 hx hZ hown (host := "") (Or.inl (hw _ (List.mem_of_getElem? (i := 24) rfl))) Via.refl e1 Fv (g := (mkF m 8 #[.val (.ref r0), .val (.int (0 : Int32))] [(.ref r0)])) rfl rfl (hb hby d21_8)
  obtain ⟨_, _, ⟨T3, L3, k3_, n3⟩, -, X3, ⟨Lc3, hQ3, l3, y3, z3⟩, st3⟩ := Jvm.LawKit.callS X2 hx (y := (⟨"java/lang/StringLatin1", "charAt", "([BI)C"⟩ : MethodName)) hown (mvT hZ (hw _ (List.mem_of_getElem? (i := 123) rfl))) (mvT hZ (hw _ (List.mem_of_getElem? (i := 124) rfl))) (mvT hZ (hw _ (List.mem_of_getElem? (i := 79) rfl))) (mvT hZ (hw _ (List.mem_of_getElem? (i := 125) rfl))) (by decide) (backOf (W := 0) (rmLW_1_0 l Z a0 hw [] rv cb c0 c1 w_CS w_E w_F h0 n0 hG O0 hc0 hc1 Va) hZ (hw _ (List.mem_of_getElem? (i := 125) rfl)) (hw _ (List.mem_of_getElem? (i := 79) rfl)) (by decide) (by decide)) (g := (mkF m 12 #[.val (.ref r0), .val (.int (0 : Int32))] [(.int (0 : Int32)), (.ref rv)])) rfl (by rw [hml]; rfl) (argsL := [(.ref rv), (.int (0 : Int32))]) (rest := []) (lenOf pd_14 rfl) rfl (by show 2 * 0 + _ ≤ _; exact Nat.le_of_eq rfl) (hb hby d21_12) (fun _ _ => ⟨rfl, e2, (by decide : 0 + 0 ≤ _), (by decide : 0 + 0 ≤ _)⟩)
  dsimp only [Pt.U, Pt.locs, Pt.cells, Pt.slots] at X3 l3 y3 z3 st3 hQ3
  subst l3 y3 z3
  obtain ⟨rfl, Nq3, e3⟩ := hQ3
  have N3 := Fr.app N1 Nq3
  have k4 : ∀ t, Steps p.tables e below (T3.setTop (mkF m 15 #[.val (.ref r0), .val (.int (0 : Int32))] [(.int c0)])) t → Steps p.tables e below (s₁.setTop (entryFrame m #[(.ref r0), (.int (0 : Int32))] 2)) t := by
    intro t k
    refine pre0 _ ?_
    show Steps p.tables e below (s₁.setTop (mkF m 0 #[.val (.ref r0), .val (.int (0 : Int32))] [])) _
    refine XS.aloadN X0.here hx rfl (hb hby d21_0) rfl rfl ?_
    show Steps p.tables e below (s₁.setTop (mkF m 1 #[.val (.ref r0), .val (.int (0 : Int32))] [(.ref r0)])) _
    refine st1.trans ?_
    show Steps p.tables e below (T1.setTop (mkF m 4 #[.val (.ref r0), .val (.int (0 : Int32))] [(.int (1 : Int32))])) _
    refine XS.ifNo X1.here hx rfl (hb hby d21_4) rfl ((if0 _ _).trans (feq (by decide)).1) ?_
    show Steps p.tables e below (T1.setTop (mkF m 7 #[.val (.ref r0), .val (.int (0 : Int32))] [])) _
    refine XS.aloadN X1.here hx rfl (hb hby d21_7) rfl rfl ?_
    show Steps p.tables e below (T1.setTop (mkF m 8 #[.val (.ref r0), .val (.int (0 : Int32))] [(.ref r0)])) _
    refine st2 _ ?_
    show Steps p.tables e below (T2.setTop (mkF m 11 #[.val (.ref r0), .val (.int (0 : Int32))] [(.ref rv)])) _
    refine XS.iloadN X2.here hx rfl (hb hby d21_11) rfl ?_
    show Steps p.tables e below (T2.setTop (mkF m 12 #[.val (.ref r0), .val (.int (0 : Int32))] [(.int (0 : Int32)), (.ref rv)])) _
    refine st3 _ ?_
    exact k
  obtain ⟨fs, hr, hrun, hended, hW, hsame⟩ := X3.leave (v := some (.int (nar .char c0))) (fun h => by rw [Bd.returns] at h; cases h)
  refine ⟨_, _, k4 _ ?_, hrun, hended, _, _, rfl, ?_, ⟨_, rfl⟩, hW, hsame.mono (by decide) (by decide)⟩
  · exact retN X3 hx (t := .char) Bd.returns (by simp) (hb hby d21_15) hr
  · show own_Q (some (.int (own_sc_1_0 c0 c1))) h0 n0 _ T3.heap _
    rw [e3]
    exact ⟨rfl, N3, rfl⟩
set_option maxRecDepth 65536 in
set_option maxHeartbeats 40000000 in
theorem rmSW_1_0 (l : Launch) (Z : State) (a0 : Array Value) (hw : ∀ d ∈ tables_1, d.before a0 Z = true) (ws : List Jvm.Cond) (r0 : Addr) (rv : Addr) (cb : ClassId) (c0 c1 : Int32) (w_CS : Int32) (w_E : Addr) (w_F : Value) (h0 : Heap) (n0 : Nat) (hG : own_GC Z w_CS w_E w_F) (O0 : Old Z n0 h0) (hc0 : own_c8 c0) (hc1 : own_c8 c1) (E_r0 : Exa Z h0 r0 "java/lang/String") (Fv : Fld Z h0 r0 "java/lang/String" "value" "[B" (.ref rv)) (Fc : Fld Z h0 r0 "java/lang/String" "coder" "B" (.int (0 : Int32))) (Va : Arv Z h0 rv cb .byte (1 : Int32) [(.int ((c0.toInt8.toInt32).toInt8.toInt32))] (.int (0 : Int32))) :
    MetFree l (⟨"java/lang/String", "charAt", "(I)C"⟩ : MethodName) (head1 (Jvm.Cond.code (⟨"java/lang/String", "charAt", "(I)C"⟩ : MethodName) jdk_42_method_56_code 2 (some .char) :: ws) ({ frames := 3, cells := 0, slots := 0, locals := 50 } : Room)) (fun a U => a = #[(.ref r0), (.int (0 : Int32))] ∧ Z.Warmed39 U.vm ∧ U.heap = h0) (fun _ _ _ _ _ => True) (fun _ U o U' => ∃ v L, o = .returned v ∧ own_Q (some (.int c0)) h0 n0 v U'.heap L ∧ FrameEnd U o U' L ({ frames := 3, cells := 0, slots := 0, locals := 50 } : Room).cells ({ frames := 3, cells := 0, slots := 0, locals := 50 } : Room).slots) := by
  have q := rmSC_1_0 l Z a0 hw ws r0 rv cb c0 c1 w_CS w_E w_F h0 n0 hG O0 hc0 hc1 E_r0 Fv Fc Va
  rw [show own_sc_1_0 c0 c1 = c0 from own_nc hc0] at q
  exact q
theorem ef_rmCB_1 (m : MethodId) (x0 : Addr) : entryFrame m #[(.ref x0)] 3 = mkF m 0 #[.val (.ref x0), .unset, .unset] [] := by first | (simp [entryFrame, mkF, argsToLocals, Value.category]; done) | rfl
theorem d18_10 : decode prog_47_method_3_code 10 = .ok (.aload_n 0, 1) := by decide +kernel
theorem d18_11 : decode prog_47_method_3_code 11 = .ok (.iload_n 1, 1) := by decide +kernel
theorem pd_15 : parseMethodDescriptor "(I)C" = some ⟨[.int], some .char⟩ := by decide +kernel
theorem d18_12 : decode prog_47_method_3_code 12 = .ok (.invokevirtual 36, 3) := by decide +kernel
theorem d18_15 : decode prog_47_method_3_code 15 = .ok (.istore_n 2, 1) := by decide +kernel
theorem d18_16 : decode prog_47_method_3_code 16 = .ok (.iload_n 2, 1) := by decide +kernel
theorem d18_17 : decode prog_47_method_3_code 17 = .ok (.bipush 32, 2) := by decide +kernel
theorem d18_19 : decode prog_47_method_3_code 19 = .ok (.if_icmp .lt 9, 3) := by decide +kernel
theorem d18_28 : decode prog_47_method_3_code 28 = .ok (.iconst 0, 1) := by decide +kernel
theorem d18_29 : decode prog_47_method_3_code 29 = .ok (.ireturn, 1) := by decide +kernel
theorem d18_22 : decode prog_47_method_3_code 22 = .ok (.iload_n 2, 1) := by decide +kernel
theorem d18_23 : decode prog_47_method_3_code 23 = .ok (.bipush 126, 2) := by decide +kernel
theorem d18_25 : decode prog_47_method_3_code 25 = .ok (.if_icmp .le 5, 3) := by decide +kernel
theorem d18_30 : decode prog_47_method_3_code 30 = .ok (.iinc 1 1, 3) := by decide +kernel
theorem d18_33 : decode prog_47_method_3_code 33 = .ok (.goto (-31), 3) := by decide +kernel
def own_cb_1 (c0 c1 : Int32) : Int32 := (if c0 < (32 : Int32) then (0 : Int32) else (if (126 : Int32) < c0 then (0 : Int32) else (1 : Int32)))
set_option maxRecDepth 65536 in
set_option maxHeartbeats 40000000 in
theorem rmCB_1 (l : Launch) (Z : State) (a0 : Array Value) (hw : ∀ d ∈ tables_1, d.before a0 Z = true) (ws : List Jvm.Cond) (r0 : Addr) (rv : Addr) (cb : ClassId) (c0 c1 : Int32) (w_CS : Int32) (w_E : Addr) (w_F : Value) (h0 : Heap) (n0 : Nat) (hG : own_GC Z w_CS w_E w_F) (O0 : Old Z n0 h0) (hc0 : own_c8 c0) (hc1 : own_c8 c1) (E_r0 : Exa Z h0 r0 "java/lang/String") (Fv : Fld Z h0 r0 "java/lang/String" "value" "[B" (.ref rv)) (Fc : Fld Z h0 r0 "java/lang/String" "coder" "B" (.int (0 : Int32))) (Va : Arv Z h0 rv cb .byte (1 : Int32) [(.int ((c0.toInt8.toInt32).toInt8.toInt32))] (.int (0 : Int32))) :
    MetFree l (⟨"com/example/indelible_crawl/indeliblecrawl/fetch/Validators", "canBeSent", "(Ljava/lang/String;)Z"⟩ : MethodName) (head1 (Jvm.Cond.code (⟨"com/example/indelible_crawl/indeliblecrawl/fetch/Validators", "canBeSent", "(Ljava/lang/String;)Z"⟩ : MethodName) prog_47_method_3_code 3 (some .boolean) :: ws) ({ frames := 4, cells := 0, slots := 0, locals := 70 } : Room)) (fun a U => a = #[(.ref r0)] ∧ Z.Warmed39 U.vm ∧ U.heap = h0) (fun _ _ _ _ _ => True) (fun _ U o U' => ∃ v L, o = .returned v ∧ own_Q (some (.int (own_cb_1 c0 c1))) h0 n0 v U'.heap L ∧ FrameEnd U o U' L ({ frames := 4, cells := 0, slots := 0, locals := 70 } : Room).cells ({ frames := 4, cells := 0, slots := 0, locals := 70 } : Room).slots) := by
  refine MetFree.of_bodySF (plainFor_of_name pn_5) hisR ?_
  intro p e s m args below meth c s₁ Bd hml0 hP hK
  obtain ⟨rfl, hZ, hh⟩ := hP
  have hx := Bd.exec
  have hby := Bd.bytes
  have hml : c.maxLocals = 3 := hml0
  have hown : s.vm.findClass "com/example/indelible_crawl/indeliblecrawl/fetch/Validators" = some m.cls := findClass_of_methodNamed Bd.named
  have hnm := (name_of_methodNamed Bd.named Bd.method).1
  have X0 : Stand p l e ({ frames := 4, cells := 0, slots := 0, locals := 70 } : Room) s m #[(.ref r0)] below meth c s₁ [] 0 0 := Stand.of_body Bd
  have e0 : s₁.heap = h0 := by rw [← hh, Bd.state]; rfl
  have N0 := Fr.nil n0
  have pre0 : ∀ t, Steps p.tables e below (s₁.setTop (mkF m 0 #[.val (.ref r0), .unset, .unset] [])) t → Steps p.tables e below (s₁.setTop (entryFrame m #[(.ref r0)] 3)) t := fun t k => castTop (ef_rmCB_1 m r0) k
  have hG' := hG
  obtain ⟨S_CS, hCS, S_E, E_E, F_E, S_F, hF⟩ := hG'
  obtain ⟨cq1, kq1, q1a, q1b, q1c⟩ := isOf hZ e0 E_r0
  obtain ⟨_, _, ⟨T1, L1, k1_, n1⟩, -, X1, ⟨Lc1, hQ1, l1, y1, z1⟩, st1⟩ := X0.virtualBack hx (y := (⟨"java/lang/String", "length", "()I"⟩ : MethodName)) (z := (⟨"java/lang/String", "length", "()I"⟩ : MethodName)) hown (mvT hZ (hw _ (List.mem_of_getElem? (i := 103) rfl))) (mvT hZ (hw _ (List.mem_of_getElem? (i := 104) rfl))) (notFace_of_selects (args := #[]) (mvT hZ (hw _ (List.mem_of_getElem? (i := 106) rfl)))) (mvT hZ (hw _ (List.mem_of_getElem? (i := 106) rfl))) (mvT hZ (hw _ (List.mem_of_getElem? (i := 105) rfl))) (by decide) (backOf (W := 1) (rmLn_1 l Z a0 hw [] r0 rv cb c0 c1 w_CS w_E w_F h0 n0 hG O0 hc0 hc1 E_r0 Fv Fc Va) hZ (hw _ (List.mem_of_getElem? (i := 107) rfl)) (hw _ (List.mem_of_getElem? (i := 6) rfl)) (by decide) (by decide)) q1a q1c (g := (mkF m 4 #[.val (.ref r0), .val (.int (0 : Int32)), .unset] [(.ref r0), (.int (0 : Int32))])) rfl (by rw [hml]; rfl) (Steps.refl _) (argsL := []) (rest := [(.int (0 : Int32))]) (lenOf pd_11 rfl) rfl (by show 2 * 0 + _ ≤ _; exact Nat.le_of_eq rfl) (hb hby d18_4) (fun _ _ => ⟨rfl, e0, (by decide : 0 + 0 ≤ _), (by decide : 0 + 0 ≤ _)⟩)
  dsimp only [Pt.U, Pt.locs, Pt.cells, Pt.slots] at X1 l1 y1 z1 st1 hQ1
  subst l1 y1 z1
  obtain ⟨rfl, Nq1, e1⟩ := hQ1
  have N1 := Fr.app N0 Nq1
  obtain ⟨cq2, kq2, q2a, q2b, q2c⟩ := isOf hZ e1 E_r0
  obtain ⟨_, _, ⟨T2, L2, k2_, n2⟩, -, X2, ⟨Lc2, hQ2, l2, y2, z2⟩, st2⟩ := X1.virtualBack hx (y := (⟨"java/lang/String", "charAt", "(I)C"⟩ : MethodName)) (z := (⟨"java/lang/String", "charAt", "(I)C"⟩ : MethodName)) hown (mvT hZ (hw _ (List.mem_of_getElem? (i := 113) rfl))) (mvT hZ (hw _ (List.mem_of_getElem? (i := 114) rfl))) (notFace_of_selects (args := #[]) (mvT hZ (hw _ (List.mem_of_getElem? (i := 116) rfl)))) (mvT hZ (hw _ (List.mem_of_getElem? (i := 116) rfl))) (mvT hZ (hw _ (List.mem_of_getElem? (i := 115) rfl))) (by decide) (backOf (W := 0) (rmSW_1_0 l Z a0 hw [] r0 rv cb c0 c1 w_CS w_E w_F h0 n0 hG O0 hc0 hc1 E_r0 Fv Fc Va) hZ (hw _ (List.mem_of_getElem? (i := 117) rfl)) (hw _ (List.mem_of_getElem? (i := 6) rfl)) (by decide) (by decide)) q2a q2c (g := (mkF m 12 #[.val (.ref r0), .val (.int (0 : Int32)), .unset] [(.int (0 : Int32)), (.ref r0)])) rfl (by rw [hml]; rfl) (Steps.refl _) (argsL := [(.int (0 : Int32))]) (rest := []) (lenOf pd_15 rfl) rfl (by show 2 * 0 + _ ≤ _; exact Nat.le_of_eq rfl) (hb hby d18_12) (fun _ _ => ⟨rfl, e1, (by decide : 0 + 0 ≤ _), (by decide : 0 + 0 ≤ _)⟩)
  dsimp only [Pt.U, Pt.locs, Pt.cells, Pt.slots] at X2 l2 y2 z2 st2 hQ2
  subst l2 y2 z2
  obtain ⟨rfl, Nq2, e2⟩ := hQ2
  have N2 := Fr.app N1 Nq2
  have k3 : ∀ t, Steps p.tables e below (T2.setTop (mkF m 19 #[.val (.ref r0), .val (.int (0 : Int32)), .val (.int c0)] [(.int (32 : Int32)), (.int c0)])) t → Steps p.tables e below (s₁.setTop (entryFrame m #[(.ref r0)] 3)) t := by
    intro t k
    refine pre0 _ ?_
    show Steps p.tables e below (s₁.setTop (mkF m 0 #[.val (.ref r0), .unset, .unset] [])) _
    refine XS.iconst X0.here hx rfl (hb hby d18_0) ?_
    show Steps p.tables e below (s₁.setTop (mkF m 1 #[.val (.ref r0), .unset, .unset] [(.int (0 : Int32))])) _
    refine XS.istoreN X0.here hx rfl (hb hby d18_1) rfl (l' := #[.val (.ref r0), .val (.int (0 : Int32)), .unset]) rfl ?_
    show Steps p.tables e below (s₁.setTop (mkF m 2 #[.val (.ref r0), .val (.int (0 : Int32)), .unset] [])) _
    refine XS.iloadN X0.here hx rfl (hb hby d18_2) rfl ?_
    show Steps p.tables e below (s₁.setTop (mkF m 3 #[.val (.ref r0), .val (.int (0 : Int32)), .unset] [(.int (0 : Int32))])) _
    refine XS.aloadN X0.here hx rfl (hb hby d18_3) rfl rfl ?_
    show Steps p.tables e below (s₁.setTop (mkF m 4 #[.val (.ref r0), .val (.int (0 : Int32)), .unset] [(.ref r0), (.int (0 : Int32))])) _
    refine st1.trans ?_
    show Steps p.tables e below (T1.setTop (mkF m 7 #[.val (.ref r0), .val (.int (0 : Int32)), .unset] [(.int (1 : Int32)), (.int (0 : Int32))])) _
    refine XS.icmpNo X1.here hx rfl (hb hby d18_7) rfl (tlt (by decide)).2.1 ?_
    show Steps p.tables e below (T1.setTop (mkF m 10 #[.val (.ref r0), .val (.int (0 : Int32)), .unset] [])) _
    refine XS.aloadN X1.here hx rfl (hb hby d18_10) rfl rfl ?_
    show Steps p.tables e below (T1.setTop (mkF m 11 #[.val (.ref r0), .val (.int (0 : Int32)), .unset] [(.ref r0)])) _
    refine XS.iloadN X1.here hx rfl (hb hby d18_11) rfl ?_
    show Steps p.tables e below (T1.setTop (mkF m 12 #[.val (.ref r0), .val (.int (0 : Int32)), .unset] [(.int (0 : Int32)), (.ref r0)])) _
    refine st2.trans ?_
    show Steps p.tables e below (T2.setTop (mkF m 15 #[.val (.ref r0), .val (.int (0 : Int32)), .unset] [(.int c0)])) _
    refine XS.istoreN X2.here hx rfl (hb hby d18_15) rfl (l' := #[.val (.ref r0), .val (.int (0 : Int32)), .val (.int c0)]) rfl ?_
    show Steps p.tables e below (T2.setTop (mkF m 16 #[.val (.ref r0), .val (.int (0 : Int32)), .val (.int c0)] [])) _
    refine XS.iloadN X2.here hx rfl (hb hby d18_16) rfl ?_
    show Steps p.tables e below (T2.setTop (mkF m 17 #[.val (.ref r0), .val (.int (0 : Int32)), .val (.int c0)] [(.int c0)])) _
    refine XS.bipush X2.here hx rfl (hb hby d18_17) ?_
    exact k
  by_cases hc19_1 : c0 < (32 : Int32)
  · have k4 : ∀ t, Steps p.tables e below (T2.setTop (mkF m 29 #[.val (.ref r0), .val (.int (0 : Int32)), .val (.int c0)] [(.int (0 : Int32))])) t → Steps p.tables e below (s₁.setTop (entryFrame m #[(.ref r0)] 3)) t := by
      intro t k
      refine k3 _ ?_
      show Steps p.tables e below (T2.setTop (mkF m 19 #[.val (.ref r0), .val (.int (0 : Int32)), .val (.int c0)] [(.int (32 : Int32)), (.int c0)])) _
      refine XS.icmpYes X2.here hx rfl (pc0 := 19) (pc' := 28) rfl (hb hby d18_19) rfl (tlt hc19_1).1 (by decide) (by decide) ?_
      show Steps p.tables e below (T2.setTop (mkF m 28 #[.val (.ref r0), .val (.int (0 : Int32)), .val (.int c0)] [])) _
      refine XS.iconst X2.here hx rfl (hb hby d18_28) ?_
      exact k
    obtain ⟨fs, hr, hrun, hended, hW, hsame⟩ := X2.leave (v := some (.int (0 : Int32))) (fun h => by rw [Bd.returns] at h; cases h)
    refine ⟨_, _, k4 _ ?_, hrun, hended, _, _, rfl, ?_, ⟨_, rfl⟩, hW, hsame.mono (by decide) (by decide)⟩
    · exact retN X2 hx (t := .boolean) Bd.returns (by simp) (hb hby d18_29) hr
    · show own_Q (some (.int (own_cb_1 c0 c1))) h0 n0 _ T2.heap _
      rw [e2]
      exact ⟨by simp only [own_cb_1, if_pos hc19_1], N2, rfl⟩
  · have k5 : ∀ t, Steps p.tables e below (T2.setTop (mkF m 25 #[.val (.ref r0), .val (.int (0 : Int32)), .val (.int c0)] [(.int (126 : Int32)), (.int c0)])) t → Steps p.tables e below (s₁.setTop (entryFrame m #[(.ref r0)] 3)) t := by
      intro t k
      refine k3 _ ?_
      show Steps p.tables e below (T2.setTop (mkF m 19 #[.val (.ref r0), .val (.int (0 : Int32)), .val (.int c0)] [(.int (32 : Int32)), (.int c0)])) _
      refine XS.icmpNo X2.here hx rfl (hb hby d18_19) rfl (flt hc19_1).1 ?_
      show Steps p.tables e below (T2.setTop (mkF m 22 #[.val (.ref r0), .val (.int (0 : Int32)), .val (.int c0)] [])) _
      refine XS.iloadN X2.here hx rfl (hb hby d18_22) rfl ?_
      show Steps p.tables e below (T2.setTop (mkF m 23 #[.val (.ref r0), .val (.int (0 : Int32)), .val (.int c0)] [(.int c0)])) _
      refine XS.bipush X2.here hx rfl (hb hby d18_23) ?_
      exact k
    by_cases hc25_2 : (126 : Int32) < c0
    · have k6 : ∀ t, Steps p.tables e below (T2.setTop (mkF m 29 #[.val (.ref r0), .val (.int (0 : Int32)), .val (.int c0)] [(.int (0 : Int32))])) t → Steps p.tables e below (s₁.setTop (entryFrame m #[(.ref r0)] 3)) t := by
        intro t k
        refine k5 _ ?_
        show Steps p.tables e below (T2.setTop (mkF m 25 #[.val (.ref r0), .val (.int (0 : Int32)), .val (.int c0)] [(.int (126 : Int32)), (.int c0)])) _
        refine XS.icmpNo X2.here hx rfl (hb hby d18_25) rfl (tlt hc25_2).2.2.2 ?_
        show Steps p.tables e below (T2.setTop (mkF m 28 #[.val (.ref r0), .val (.int (0 : Int32)), .val (.int c0)] [])) _
        refine XS.iconst X2.here hx rfl (hb hby d18_28) ?_
        exact k
      obtain ⟨fs, hr, hrun, hended, hW, hsame⟩ := X2.leave (v := some (.int (0 : Int32))) (fun h => by rw [Bd.returns] at h; cases h)
      refine ⟨_, _, k6 _ ?_, hrun, hended, _, _, rfl, ?_, ⟨_, rfl⟩, hW, hsame.mono (by decide) (by decide)⟩
      · exact retN X2 hx (t := .boolean) Bd.returns (by simp) (hb hby d18_29) hr
      · show own_Q (some (.int (own_cb_1 c0 c1))) h0 n0 _ T2.heap _
        rw [e2]
        exact ⟨by simp only [own_cb_1, if_neg hc19_1, if_pos hc25_2], N2, rfl⟩
    · obtain ⟨cq7, kq7, q7a, q7b, q7c⟩ := isOf hZ e2 E_r0
      obtain ⟨_, _, ⟨T7, L7, k7_, n7⟩, -, X7, ⟨Lc7, hQ7, l7, y7, z7⟩, st7⟩ := X2.virtualBack hx (y := (⟨"java/lang/String", "length", "()I"⟩ : MethodName)) (z := (⟨"java/lang/String", "length", "()I"⟩ : MethodName)) hown (mvT hZ (hw _ (List.mem_of_getElem? (i := 103) rfl))) (mvT hZ (hw _ (List.mem_of_getElem? (i := 104) rfl))) (notFace_of_selects (args := #[]) (mvT hZ (hw _ (List.mem_of_getElem? (i := 106) rfl)))) (mvT hZ (hw _ (List.mem_of_getElem? (i := 106) rfl))) (mvT hZ (hw _ (List.mem_of_getElem? (i := 105) rfl))) (by decide) (backOf (W := 1) (rmLn_1 l Z a0 hw [] r0 rv cb c0 c1 w_CS w_E w_F h0 n0 hG O0 hc0 hc1 E_r0 Fv Fc Va) hZ (hw _ (List.mem_of_getElem? (i := 107) rfl)) (hw _ (List.mem_of_getElem? (i := 6) rfl)) (by decide) (by decide)) q7a q7c (g := (mkF m 4 #[.val (.ref r0), .val (.int (1 : Int32)), .val (.int c0)] [(.ref r0), (.int (1 : Int32))])) rfl (by rw [hml]; rfl) (Steps.refl _) (argsL := []) (rest := [(.int (1 : Int32))]) (lenOf pd_11 rfl) rfl (by show 2 * 0 + _ ≤ _; exact Nat.le_of_eq rfl) (hb hby d18_4) (fun _ _ => ⟨rfl, e2, (by decide : 0 + 0 ≤ _), (by decide : 0 + 0 ≤ _)⟩)
      dsimp only [Pt.U, Pt.locs, Pt.cells, Pt.slots] at X7 l7 y7 z7 st7 hQ7
      subst l7 y7 z7
      obtain ⟨rfl, Nq7, e7⟩ := hQ7
      have N7 := Fr.app N2 Nq7
      have k8 : ∀ t, Steps p.tables e below (T7.setTop (mkF m 37 #[.val (.ref r0), .val (.int (1 : Int32)), .val (.int c0)] [(.int (1 : Int32))])) t → Steps p.tables e below (s₁.setTop (entryFrame m #[(.ref r0)] 3)) t := by
        intro t k
        refine k5 _ ?_
        show Steps p.tables e below (T2.setTop (mkF m 25 #[.val (.ref r0), .val (.int (0 : Int32)), .val (.int c0)] [(.int (126 : Int32)), (.int c0)])) _
        refine XS.icmpYes X2.here hx rfl (pc0 := 25) (pc' := 30) rfl (hb hby d18_25) rfl (flt hc25_2).2.2.2 (by decide) (by decide) ?_
        show Steps p.tables e below (T2.setTop (mkF m 30 #[.val (.ref r0), .val (.int (0 : Int32)), .val (.int c0)] [])) _
        refine XS.iinc X2.here hx rfl (hb hby d18_30) rfl (l' := #[.val (.ref r0), .val (.int (1 : Int32)), .val (.int c0)]) rfl ?_
        show Steps p.tables e below (T2.setTop (mkF m 33 #[.val (.ref r0), .val (.int (1 : Int32)), .val (.int c0)] [])) _
        refine XS.goto X2.here hx rfl (pc0 := 33) (pc' := 2) rfl (hb hby d18_33) (by decide) (by decide) ?_
        show Steps p.tables e below (T2.setTop (mkF m 2 #[.val (.ref r0), .val (.int (1 : Int32)), .val (.int c0)] [])) _
        refine XS.iloadN X2.here hx rfl (hb hby d18_2) rfl ?_
        show Steps p.tables e below (T2.setTop (mkF m 3 #[.val (.ref r0), .val (.int (1 : Int32)), .val (.int c0)] [(.int (1 : Int32))])) _
        refine XS.aloadN X2.here hx rfl (hb hby d18_3) rfl rfl ?_
        show Steps p.tables e below (T2.setTop (mkF m 4 #[.val (.ref r0), .val (.int (1 : Int32)), .val (.int c0)] [(.ref r0), (.int (1 : Int32))])) _
        refine st7.trans ?_
        show Steps p.tables e below (T7.setTop (mkF m 7 #[.val (.ref r0), .val (.int (1 : Int32)), .val (.int c0)] [(.int (1 : Int32)), (.int (1 : Int32))])) _
        refine XS.icmpYes X7.here hx rfl (pc0 := 7) (pc' := 36) rfl (hb hby d18_7) rfl (flt (by decide)).2.1 (by decide) (by decide) ?_
        show Steps p.tables e below (T7.setTop (mkF m 36 #[.val (.ref r0), .val (.int (1 : Int32)), .val (.int c0)] [])) _
        refine XS.iconst X7.here hx rfl (hb hby d18_36) ?_
        exact k
      obtain ⟨fs, hr, hrun, hended, hW, hsame⟩ := X7.leave (v := some (.int (1 : Int32))) (fun h => by rw [Bd.returns] at h; cases h)
      refine ⟨_, _, k8 _ ?_, hrun, hended, _, _, rfl, ?_, ⟨_, rfl⟩, hW, hsame.mono (by decide) (by decide)⟩
      · exact retN X7 hx (t := .boolean) Bd.returns (by simp) (hb hby d18_37) hr
      · show own_Q (some (.int (own_cb_1 c0 c1))) h0 n0 _ T7.heap _
        rw [e7]
        exact ⟨by simp only [own_cb_1, if_neg hc19_1, if_neg hc25_2], N7, rfl⟩
theorem ef_rmLn_2 (m : MethodId) (x0 : Addr) : entryFrame m #[(.ref x0)] 1 = mkF m 0 #[.val (.ref x0)] [] := by first | (simp [entryFrame, mkF, argsToLocals, Value.category]; done) | rfl
def own_ln_2  : Int32 := (2 : Int32)
set_option maxRecDepth 65536 in
set_option maxHeartbeats 40000000 in
theorem rmLn_2 (l : Launch) (Z : State) (a0 : Array Value) (hw : ∀ d ∈ tables_1, d.before a0 Z = true) (ws : List Jvm.Cond) (r0 : Addr) (rv : Addr) (cb : ClassId) (c0 c1 : Int32) (w_CS : Int32) (w_E : Addr) (w_F : Value) (h0 : Heap) (n0 : Nat) (hG : own_GC Z w_CS w_E w_F) (O0 : Old Z n0 h0) (hc0 : own_c8 c0) (hc1 : own_c8 c1) (E_r0 : Exa Z h0 r0 "java/lang/String") (Fv : Fld Z h0 r0 "java/lang/String" "value" "[B" (.ref rv)) (Fc : Fld Z h0 r0 "java/lang/String" "coder" "B" (.int (0 : Int32))) (Va : Arv Z h0 rv cb .byte (2 : Int32) [(.int ((c0.toInt8.toInt32).toInt8.toInt32)), (.int ((c1.toInt8.toInt32).toInt8.toInt32))] (.int (0 : Int32))) :
    MetFree l (⟨"java/lang/String", "length", "()I"⟩ : MethodName) (head1 (Jvm.Cond.code (⟨"java/lang/String", "length", "()I"⟩ : MethodName) jdk_42_method_54_code 1 (some .int) :: ws) ({ frames := 1, cells := 0, slots := 0, locals := 14 } : Room)) (fun a U => a = #[(.ref r0)] ∧ Z.Warmed39 U.vm ∧ U.heap = h0) (fun _ _ _ _ _ => True) (fun _ U o U' => ∃ v L, o = .returned v ∧ own_Q (some (.int (own_ln_2 ))) h0 n0 v U'.heap L ∧ FrameEnd U o U' L ({ frames := 1, cells := 0, slots := 0, locals := 14 } : Room).cells ({ frames := 1, cells := 0, slots := 0, locals := 14 } : Room).slots) := by
  refine MetFree.of_bodySF (plainFor_of_name pn_0) hisR ?_
  intro p e s m args below meth c s₁ Bd hml0 hP hK
  obtain ⟨rfl, hZ, hh⟩ := hP
  have hx := Bd.exec
  have hby := Bd.bytes
  have hml : c.maxLocals = 1 := hml0
  have hown : s.vm.findClass "java/lang/String" = some m.cls := findClass_of_methodNamed Bd.named
  have hnm := (name_of_methodNamed Bd.named Bd.method).1
  have X0 : Stand p l e ({ frames := 1, cells := 0, slots := 0, locals := 14 } : Room) s m #[(.ref r0)] below meth c s₁ [] 0 0 := Stand.of_body Bd
  have e0 : s₁.heap = h0 := by rw [← hh, Bd.state]; rfl
  have N0 := Fr.nil n0
  have pre0 : ∀ t, Steps p.tables e below (s₁.setTop (mkF m 0 #[.val (.ref r0)] [])) t → Steps p.tables e below (s₁.setTop (entryFrame m #[(.ref r0)] 1)) t := fun t k => castTop (ef_rmLn_2 m r0) k
  have hG' := hG
  obtain ⟨S_CS, hCS, S_E, E_E, F_E, S_F, hF⟩ := hG'
  obtain ⟨T1, X1, e1, st1⟩ := getF X0 hx hZ hown (host := "") (Or.inl (hw _ (List.mem_of_getElem? (i := 24) rfl))) Via.refl e0 Fv (g := (mkF m 1 #[.val (.ref r0)] [(.ref r0)])) rfl rfl (hb hby d19_1)
  have k3 : ∀ t, Steps p.tables e below (T1.setTop (mkF m 6 #[.val (.ref r0)] [(.ref r0), (.int (2 : Int32))])) t → Steps p.tables e below (s₁.setTop (entryFrame m #[(.ref r0)] 1)) t := by
    intro t k
    refine pre0 _ ?_
    show Steps p.tables e below (s₁.setTop (mkF m 0 #[.val (.ref r0)] [])) _
    refine XS.aloadN X0.here hx rfl (hb hby d19_0) rfl rfl ?_
    show Steps p.tables e below (s₁.setTop (mkF m 1 #[.val (.ref r0)] [(.ref r0)])) _
    refine st1 _ ?_
    show Steps p.tables e below (T1.setTop (mkF m 4 #[.val (.ref r0)] [(.ref rv)])) _
    obtain ⟨cl_2, Ar_2, -, S_2, N_2, -, -⟩ := id Va
    refine X1.arraylength hx (by rw [e1]; exact Ar_2.1) (State.isArrayOf_alike hZ.alike Ar_2.2.1) (g := (mkF m 4 #[.val (.ref r0)] [(.ref rv)])) rfl rfl (hb hby d19_4) _ ?_
    rw [len_of S_2 N_2]
    show Steps p.tables e below (T1.setTop (mkF m 5 #[.val (.ref r0)] [(.int (2 : Int32))])) _
    refine XS.aloadN X1.here hx rfl (hb hby d19_5) rfl rfl ?_
    exact k
  obtain ⟨cq4, kq4, q4a, q4b, q4c⟩ := isOf hZ e1 E_r0
  obtain ⟨_, _, ⟨T4, L4, k4_, n4⟩, -, X4, ⟨Lc4, hQ4, l4, y4, z4⟩, st4⟩ := X1.virtualBack hx (y := (⟨"java/lang/String", "coder", "()B"⟩ : MethodName)) (z := (⟨"java/lang/String", "coder", "()B"⟩ : MethodName)) hown (mvT hZ (hw _ (List.mem_of_getElem? (i := 108) rfl))) (mvT hZ (hw _ (List.mem_of_getElem? (i := 109) rfl))) (notFace_of_selects (args := #[]) (mvT hZ (hw _ (List.mem_of_getElem? (i := 111) rfl)))) (mvT hZ (hw _ (List.mem_of_getElem? (i := 111) rfl))) (mvT hZ (hw _ (List.mem_of_getElem? (i := 110) rfl))) (by decide) (backOf (W := 1) (rmCo l Z a0 hw [] r0 w_CS w_E w_F h0 n0 hG O0 Fc E_r0) hZ (hw _ (List.mem_of_getElem? (i := 112) rfl)) (hw _ (List.mem_of_getElem? (i := 6) rfl)) (by decide) (by decide)) q4a q4c (g := (mkF m 6 #[.val (.ref r0)] [(.ref r0), (.int (2 : Int32))])) rfl (by rw [hml]; rfl) (Steps.refl _) (argsL := []) (rest := [(.int (2 : Int32))]) (lenOf pd_10 rfl) rfl (by show 2 * 0 + _ ≤ _; exact Nat.le_of_eq rfl) (hb hby d19_6) (fun _ _ => ⟨rfl, e1, (by decide : 0 + 0 ≤ _), (by decide : 0 + 0 ≤ _)⟩)
  dsimp only [Pt.U, Pt.locs, Pt.cells, Pt.slots] at X4 l4 y4 z4 st4 hQ4
  subst l4 y4 z4
  obtain ⟨rfl, Nq4, e4⟩ := hQ4
  have N4 := Fr.app N0 Nq4
  have k5 : ∀ t, Steps p.tables e below (T4.setTop (mkF m 10 #[.val (.ref r0)] [(.int (2 : Int32))])) t → Steps p.tables e below (s₁.setTop (entryFrame m #[(.ref r0)] 1)) t := by
    intro t k
    refine k3 _ ?_
    show Steps p.tables e below (T1.setTop (mkF m 6 #[.val (.ref r0)] [(.ref r0), (.int (2 : Int32))])) _
    refine st4.trans ?_
    show Steps p.tables e below (T4.setTop (mkF m 9 #[.val (.ref r0)] [(.int (0 : Int32)), (.int (2 : Int32))])) _
    refine XS.ishr X4.here hx rfl (hb hby d19_9) rfl ?_
    exact k
  obtain ⟨fs, hr, hrun, hended, hW, hsame⟩ := X4.leave (v := some (.int (2 : Int32))) (fun h => by rw [Bd.returns] at h; cases h)
  refine ⟨_, _, k5 _ ?_, hrun, hended, _, _, rfl, ?_, ⟨_, rfl⟩, hW, hsame.mono (by decide) (by decide)⟩
  · exact retOut X4 hx Bd.returns rfl (Or.inl ⟨rfl, Or.inl rfl, _, rfl⟩) (hb hby d19_10) hr
  · show own_Q (some (.int (own_ln_2 ))) h0 n0 _ T4.heap _
    rw [e4]
    exact ⟨rfl, N4, rfl⟩
theorem ef_rmLC_2_0 (m : MethodId) (x0 : Addr) (x1 : Int32) : entryFrame m #[(.ref x0), (.int x1)] 2 = mkF m 0 #[.val (.ref x0), .val (.int x1)] [] := by first | (simp [entryFrame, mkF, argsToLocals, Value.category]; done) | rfl
def own_lc_2_0 (c0 c1 : Int32) : Int32 := (nar .char ((((c0.toInt8.toInt32).toInt8.toInt32) &&& (255 : Int32)).toUInt32.toUInt16.toUInt32.toInt32))
set_option maxRecDepth 65536 in
set_option maxHeartbeats 40000000 in
theorem rmLC_2_0 (l : Launch) (Z : State) (a0 : Array Value) (hw : ∀ d ∈ tables_1, d.before a0 Z = true) (ws : List Jvm.Cond) (r0 : Addr) (cb : ClassId) (c0 c1 : Int32) (w_CS : Int32) (w_E : Addr) (w_F : Value) (h0 : Heap) (n0 : Nat) (hG : own_GC Z w_CS w_E w_F) (O0 : Old Z n0 h0) (hc0 : own_c8 c0) (hc1 : own_c8 c1) (Va : Arv Z h0 r0 cb .byte (2 : Int32) [(.int ((c0.toInt8.toInt32).toInt8.toInt32)), (.int ((c1.toInt8.toInt32).toInt8.toInt32))] (.int (0 : Int32))) :
    MetFree l (⟨"java/lang/StringLatin1", "charAt", "([BI)C"⟩ : MethodName) (head1 (Jvm.Cond.code (⟨"java/lang/StringLatin1", "charAt", "([BI)C"⟩ : MethodName) jdk_43_method_2_code 2 (some .char) :: ws) ({ frames := 2, cells := 0, slots := 0, locals := 32 } : Room)) (fun a U => a = #[(.ref r0), (.int (0 : Int32))] ∧ Z.Warmed39 U.vm ∧ U.heap = h0) (fun _ _ _ _ _ => True) (fun _ U o U' => ∃ v L, o = .returned v ∧ own_Q (some (.int (own_lc_2_0 c0 c1))) h0 n0 v U'.heap L ∧ FrameEnd U o U' L ({ frames := 2, cells := 0, slots := 0, locals := 32 } : Room).cells ({ frames := 2, cells := 0, slots := 0, locals := 32 } : Room).slots) := by
  refine MetFree.of_bodySF (plainFor_of_name pn_2) hisR ?_
  intro p e s m args below meth c s₁ Bd hml0 hP hK
  obtain ⟨rfl, hZ, hh⟩ := hP
  have hx := Bd.exec
  have hby := Bd.bytes
  have hml : c.maxLocals = 2 := hml0
  have hown : s.vm.findClass "java/lang/StringLatin1" = some m.cls := findClass_of_methodNamed Bd.named
  have hnm := (name_of_methodNamed Bd.named Bd.method).1
  have X0 : Stand p l e ({ frames := 2, cells := 0, slots := 0, locals := 32 } : Room) s m #[(.ref r0), (.int (0 : Int32))] below meth c s₁ [] 0 0 := Stand.of_body Bd
  have e0 : s₁.heap = h0 := by rw [← hh, Bd.state]; rfl
  have N0 := Fr.nil n0
  have pre0 : ∀ t, Steps p.tables e below (s₁.setTop (mkF m 0 #[.val (.ref r0), .val (.int (0 : Int32))] [])) t → Steps p.tables e below (s₁.setTop (entryFrame m #[(.ref r0), (.int (0 : Int32))] 2)) t := fun t k => castTop (ef_rmLC_2_0 m r0 (0 : Int32)) k
  have hG' := hG
  obtain ⟨S_CS, hCS, S_E, E_E, F_E, S_F, hF⟩ := hG'
  have k2 : ∀ t, Steps p.tables e below (s₁.setTop (mkF m 3 #[.val (.ref r0), .val (.int (0 : Int32))] [(.int (2 : Int32)), (.int (0 : Int32))])) t → Steps p.tables e below (s₁.setTop (entryFrame m #[(.ref r0), (.int (0 : Int32))] 2)) t := by
    intro t k
    refine pre0 _ ?_
    show Steps p.tables e below (s₁.setTop (mkF m 0 #[.val (.ref r0), .val (.int (0 : Int32))] [])) _
    refine XS.iloadN X0.here hx rfl (hb hby d23_0) rfl ?_
    show Steps p.tables e below (s₁.setTop (mkF m 1 #[.val (.ref r0), .val (.int (0 : Int32))] [(.int (0 : Int32))])) _
    refine XS.aloadN X0.here hx rfl (hb hby d23_1) rfl rfl ?_
    show Steps p.tables e below (s₁.setTop (mkF m 2 #[.val (.ref r0), .val (.int (0 : Int32))] [(.ref r0), (.int (0 : Int32))])) _
    obtain ⟨cl_1, Ar_1, -, S_1, N_1, -, -⟩ := id Va
    refine X0.arraylength hx (by rw [e0]; exact Ar_1.1) (State.isArrayOf_alike hZ.alike Ar_1.2.1) (g := (mkF m 2 #[.val (.ref r0), .val (.int (0 : Int32))] [(.ref r0), (.int (0 : Int32))])) rfl rfl (hb hby d23_2) _ ?_
    rw [len_of S_1 N_1]
    exact k
  obtain ⟨_, _, ⟨T3, L3, k3_, n3⟩, -, X3, ⟨Lc3, hQ3, l3, y3, z3⟩, st3⟩ := Jvm.LawKit.callS X0 hx (y := (⟨"java/lang/String", "checkIndex", "(II)V"⟩ : MethodName)) hown (mvT hZ (hw _ (List.mem_of_getElem? (i := 126) rfl))) (mvT hZ (hw _ (List.mem_of_getElem? (i := 127) rfl))) (mvT hZ (hw _ (List.mem_of_getElem? (i := 6) rfl))) (mvT hZ (hw _ (List.mem_of_getElem? (i := 128) rfl))) (by decide) (backOf (W := 0) (rmCI l Z a0 hw [] (0 : Int32) (2 : Int32) w_CS w_E w_F h0 n0 hG O0 (by decide) (by decide)) hZ (hw _ (List.mem_of_getElem? (i := 128) rfl)) (hw _ (List.mem_of_getElem? (i := 6) rfl)) (by decide) (by decide)) (g := (mkF m 3 #[.val (.ref r0), .val (.int (0 : Int32))] [(.int (2 : Int32)), (.int (0 : Int32))])) rfl (by rw [hml]; rfl) (argsL := [(.int (0 : Int32)), (.int (2 : Int32))]) (rest := []) (lenOf pd_12 rfl) rfl (by show 2 * 0 + _ ≤ _; exact Nat.le_of_eq rfl) (hb hby d23_3) (fun _ _ => ⟨rfl, e0, (by decide : 0 + 0 ≤ _), (by decide : 0 + 0 ≤ _)⟩)
  dsimp only [Pt.U, Pt.locs, Pt.cells, Pt.slots] at X3 l3 y3 z3 st3 hQ3
  subst l3 y3 z3
  obtain ⟨rfl, Nq3, e3⟩ := hQ3
  have N3 := Fr.app N0 Nq3
  have k5 : ∀ t, Steps p.tables e below (T3.setTop (mkF m 14 #[.val (.ref r0), .val (.int (0 : Int32))] [(.int ((((c0.toInt8.toInt32).toInt8.toInt32) &&& (255 : Int32)).toUInt32.toUInt16.toUInt32.toInt32))])) t → Steps p.tables e below (s₁.setTop (entryFrame m #[(.ref r0), (.int (0 : Int32))] 2)) t := by
    intro t k
    refine k2 _ ?_
    show Steps p.tables e below (s₁.setTop (mkF m 3 #[.val (.ref r0), .val (.int (0 : Int32))] [(.int (2 : Int32)), (.int (0 : Int32))])) _
    refine st3 _ ?_
    show Steps p.tables e below (T3.setTop (mkF m 6 #[.val (.ref r0), .val (.int (0 : Int32))] [])) _
    refine XS.aloadN X3.here hx rfl (hb hby d23_6) rfl rfl ?_
    show Steps p.tables e below (T3.setTop (mkF m 7 #[.val (.ref r0), .val (.int (0 : Int32))] [(.ref r0)])) _
    refine XS.iloadN X3.here hx rfl (hb hby d23_7) rfl ?_
    show Steps p.tables e below (T3.setTop (mkF m 8 #[.val (.ref r0), .val (.int (0 : Int32))] [(.int (0 : Int32)), (.ref r0)])) _
    obtain ⟨cl_4, Ar_4, q_4, S_4, N_4, H_4, G_4⟩ := id Va
    have hin_4 : ¬ ((0 : Int32) < 0 ∨ cl_4.slots.size ≤ ((0 : Int32)).toNatClampNeg) := inb_of S_4 ⟨by decide, by decide⟩
    refine X3.baloadBytes hx (j := (0 : Int32)) (v := (.int ((c0.toInt8.toInt32).toInt8.toInt32))) (by rw [e3]; exact Ar_4.1) (State.isArrayOf_alike hZ.alike Ar_4.2.1) Ar_4.2.2 hin_4 (Has.at H_4 hin_4 rfl) (g := (mkF m 8 #[.val (.ref r0), .val (.int (0 : Int32))] [(.int (0 : Int32)), (.ref r0)])) rfl rfl (hb hby d23_8) _ ?_
    show Steps p.tables e below (T3.setTop (mkF m 9 #[.val (.ref r0), .val (.int (0 : Int32))] [(.int ((c0.toInt8.toInt32).toInt8.toInt32))])) _
    refine XS.sipush X3.here hx rfl (hb hby d23_9) ?_
    show Steps p.tables e below (T3.setTop (mkF m 12 #[.val (.ref r0), .val (.int (0 : Int32))] [(.int (255 : Int32)), (.int ((c0.toInt8.toInt32).toInt8.toInt32))])) _
    refine XS.iand X3.here hx rfl (hb hby d23_12) rfl ?_
    show Steps p.tables e below (T3.setTop (mkF m 13 #[.val (.ref r0), .val (.int (0 : Int32))] [(.int (((c0.toInt8.toInt32).toInt8.toInt32) &&& (255 : Int32)))])) _
    refine XS.i2c X3.here hx rfl (hb hby d23_13) rfl ?_
    exact k
  obtain ⟨fs, hr, hrun, hended, hW, hsame⟩ := X3.leave (v := some (.int (nar .char ((((c0.toInt8.toInt32).toInt8.toInt32) &&& (255 : Int32)).toUInt32.toUInt16.toUInt32.toInt32)))) (fun h => by rw [Bd.returns] at h; cases h)
  refine ⟨_, _, k5 _ ?_, hrun, hended, _, _, rfl, ?_, ⟨_, rfl⟩, hW, hsame.mono (by decide) (by decide)⟩
  · exact retN X3 hx (t := .char) Bd.returns (by simp) (hb hby d23_14) hr
  · show own_Q (some (.int (own_lc_2_0 c0 c1))) h0 n0 _ T3.heap _
    rw [e3]
    exact ⟨rfl, N3, rfl⟩
set_option maxRecDepth 65536 in
set_option maxHeartbeats 40000000 in
theorem rmLW_2_0 (l : Launch) (Z : State) (a0 : Array Value) (hw : ∀ d ∈ tables_1, d.before a0 Z = true) (ws : List Jvm.Cond) (r0 : Addr) (cb : ClassId) (c0 c1 : Int32) (w_CS : Int32) (w_E : Addr) (w_F : Value) (h0 : Heap) (n0 : Nat) (hG : own_GC Z w_CS w_E w_F) (O0 : Old Z n0 h0) (hc0 : own_c8 c0) (hc1 : own_c8 c1) (Va : Arv Z h0 r0 cb .byte (2 : Int32) [(.int ((c0.toInt8.toInt32).toInt8.toInt32)), (.int ((c1.toInt8.toInt32).toInt8.toInt32))] (.int (0 : Int32))) :
    MetFree l (⟨"java/lang/StringLatin1", "charAt", "([BI)C"⟩ : MethodName) (head1 (Jvm.Cond.code (⟨"java/lang/StringLatin1", "charAt", "([BI)C"⟩ : MethodName) jdk_43_method_2_code 2 (some .char) :: ws) ({ frames := 2, cells := 0, slots := 0, locals := 32 } : Room)) (fun a U => a = #[(.ref r0), (.int (0 : Int32))] ∧ Z.Warmed39 U.vm ∧ U.heap = h0) (fun _ _ _ _ _ => True) (fun _ U o U' => ∃ v L, o = .returned v ∧ own_Q (some (.int c0)) h0 n0 v U'.heap L ∧ FrameEnd U o U' L ({ frames := 2, cells := 0, slots := 0, locals := 32 } : Room).cells ({ frames := 2, cells := 0, slots := 0, locals := 32 } : Room).slots) := by
  have q := rmLC_2_0 l Z a0 hw ws r0 cb c0 c1 w_CS w_E w_F h0 n0 hG O0 hc0 hc1 Va
  rw [show own_lc_2_0 c0 c1 = c0 from own_lcv hc0] at q
  exact q
theorem ef_rmSC_2_0 (m : MethodId) (x0 : Addr) (x1 : Int32) : entryFrame m #[(.ref x0), (.int x1)] 2 = mkF m 0 #[.val (.ref x0), .val (.int x1)] [] := by first | (simp [entryFrame, mkF, argsToLocals, Value.category]; done) | rfl
def own_sc_2_0 (c0 c1 : Int32) : Int32 := (nar .char c0)
set_option maxRecDepth 65536 in
set_option maxHeartbeats 40000000 in
theorem rmSC_2_0 (l : Launch) (Z : State) (a0 : Array Value) (hw : ∀ d ∈ tables_1, d.before a0 Z = true) (ws : List Jvm.Cond) (r0 : Addr) (rv : Addr) (cb : ClassId) (c0 c1 : Int32) (w_CS : Int32) (w_E : Addr) (w_F : Value) (h0 : Heap) (n0 : Nat) (hG : own_GC Z w_CS w_E w_F) (O0 : Old Z n0 h0) (hc0 : own_c8 c0) (hc1 : own_c8 c1) (E_r0 : Exa Z h0 r0 "java/lang/String") (Fv : Fld Z h0 r0 "java/lang/String" "value" "[B" (.ref rv)) (Fc : Fld Z h0 r0 "java/lang/String" "coder" "B" (.int (0 : Int32))) (Va : Arv Z h0 rv cb .byte (2 : Int32) [(.int ((c0.toInt8.toInt32).toInt8.toInt32)), (.int ((c1.toInt8.toInt32).toInt8.toInt32))] (.int (0 : Int32))) :
    MetFree l (⟨"java/lang/String", "charAt", "(I)C"⟩ : MethodName) (head1 (Jvm.Cond.code (⟨"java/lang/String", "charAt", "(I)C"⟩ : MethodName) jdk_42_method_56_code 2 (some .char) :: ws) ({ frames := 3, cells := 0, slots := 0, locals := 50 } : Room)) (fun a U => a = #[(.ref r0), (.int (0 : Int32))] ∧ Z.Warmed39 U.vm ∧ U.heap = h0) (fun _ _ _ _ _ => True) (fun _ U o U' => ∃ v L, o = .returned v ∧ own_Q (some (.int (own_sc_2_0 c0 c1))) h0 n0 v U'.heap L ∧ FrameEnd U o U' L ({ frames := 3, cells := 0, slots := 0, locals := 50 } : Room).cells ({ frames := 3, cells := 0, slots := 0, locals := 50 } : Room).slots) := by
  refine MetFree.of_bodySF (plainFor_of_name pn_0) hisR ?_
  intro p e s m args below meth c s₁ Bd hml0 hP hK
  obtain ⟨rfl, hZ, hh⟩ := hP
  have hx := Bd.exec
  have hby := Bd.bytes
  have hml : c.maxLocals = 2 := hml0
  have hown : s.vm.findClass "java/lang/String" = some m.cls := findClass_of_methodNamed Bd.named
  have hnm := (name_of_methodNamed Bd.named Bd.method).1
  have X0 : Stand p l e ({ frames := 3, cells := 0, slots := 0, locals := 50 } : Room) s m #[(.ref r0), (.int (0 : Int32))] below meth c s₁ [] 0 0 := Stand.of_body Bd
  have e0 : s₁.heap = h0 := by rw [← hh, Bd.state]; rfl
  have N0 := Fr.nil n0
  have pre0 : ∀ t, Steps p.tables e below (s₁.setTop (mkF m 0 #[.val (.ref r0), .val (.int (0 : Int32))] [])) t → Steps p.tables e below (s₁.setTop (entryFrame m #[(.ref r0), (.int (0 : Int32))] 2)) t := fun t k => castTop (ef_rmSC_2_0 m r0 (0 : Int32)) k
  have hG' := hG
  obtain ⟨S_CS, hCS, S_E, E_E, F_E, S_F, hF⟩ := hG'
  obtain ⟨cq1, kq1, q1a, q1b, q1c⟩ := isOf hZ e0 E_r0
  obtain ⟨_, _, ⟨T1, L1, k1_, n1⟩, -, X1, ⟨Lc1, hQ1, l1, y1, z1⟩, st1⟩ := X0.virtualBack hx (y := (⟨"java/lang/String", "isLatin1", "()Z"⟩ : MethodName)) (z := (⟨"java/lang/String", "isLatin1", "()Z"⟩ : MethodName)) hown (mvT hZ (hw _ (List.mem_of_getElem? (i := 118) rfl))) (mvT hZ (hw _ (List.mem_of_getElem? (i := 119) rfl))) (notFace_of_selects (args := #[]) (mvT hZ (hw _ (List.mem_of_getElem? (i := 121) rfl)))) (mvT hZ (hw _ (List.mem_of_getElem? (i := 121) rfl))) (mvT hZ (hw _ (List.mem_of_getElem? (i := 120) rfl))) (by decide) (backOf (W := 0) (rmIl l Z a0 hw [] r0 w_CS w_E w_F h0 n0 hG O0 Fc E_r0) hZ (hw _ (List.mem_of_getElem? (i := 122) rfl)) (hw _ (List.mem_of_getElem? (i := 6) rfl)) (by decide) (by decide)) q1a q1c (g := (mkF m 1 #[.val (.ref r0), .val (.int (0 : Int32))] [(.ref r0)])) rfl (by rw [hml]; rfl) (Steps.refl _) (argsL := []) (rest := []) (lenOf pd_13 rfl) rfl (by show 2 * 0 + _ ≤ _; exact Nat.le_of_eq rfl) (hb hby d21_1) (fun _ _ => ⟨rfl, e0, (by decide : 0 + 0 ≤ _), (by decide : 0 + 0 ≤ _)⟩)
  dsimp only [Pt.U, Pt.locs, Pt.cells, Pt.slots] at X1 l1 y1 z1 st1 hQ1
  subst l1 y1 z1
  obtain ⟨rfl, Nq1, e1⟩ := hQ1
  have N1 := Fr.app N0 Nq1
  obtain ⟨T2, X2, e2, st2⟩ := getF X1 hx hZ hown (host := "") (Or.inl (hw _ (List.mem_of_getElem? (i := 24) rfl))) Via.refl e1 Fv (g := (mkF m 8 #[.val (.ref r0), .val (.int (0 : Int32))] [(.ref r0)])) rfl rfl (hb hby d21_8)
  obtain ⟨_, _, ⟨T3, L3, k3_, n3⟩, -, X3, ⟨Lc3, hQ3, l3, y3, z3⟩, st3⟩ := Jvm.LawKit.callS X2 hx (y := (⟨"java/lang/StringLatin1", "charAt", "([BI)C"⟩ : MethodName)) hown (mvT hZ (hw _ (List.mem_of_getElem? (i := 123) rfl))) (mvT hZ (hw _ (List.mem_of_getElem? (i := 124) rfl))) (mvT hZ (hw _ (List.mem_of_getElem? (i := 79) rfl))) (mvT hZ (hw _ (List.mem_of_getElem? (i := 125) rfl))) (by decide) (backOf (W := 0) (rmLW_2_0 l Z a0 hw [] rv cb c0 c1 w_CS w_E w_F h0 n0 hG O0 hc0 hc1 Va) hZ (hw _ (List.mem_of_getElem? (i := 125) rfl)) (hw _ (List.mem_of_getElem? (i := 79) rfl)) (by decide) (by decide)) (g := (mkF m 12 #[.val (.ref r0), .val (.int (0 : Int32))] [(.int (0 : Int32)), (.ref rv)])) rfl (by rw [hml]; rfl) (argsL := [(.ref rv), (.int (0 : Int32))]) (rest := []) (lenOf pd_14 rfl) rfl (by show 2 * 0 + _ ≤ _; exact Nat.le_of_eq rfl) (hb hby d21_12) (fun _ _ => ⟨rfl, e2, (by decide : 0 + 0 ≤ _), (by decide : 0 + 0 ≤ _)⟩)
  dsimp only [Pt.U, Pt.locs, Pt.cells, Pt.slots] at X3 l3 y3 z3 st3 hQ3
  subst l3 y3 z3
  obtain ⟨rfl, Nq3, e3⟩ := hQ3
  have N3 := Fr.app N1 Nq3
  have k4 : ∀ t, Steps p.tables e below (T3.setTop (mkF m 15 #[.val (.ref r0), .val (.int (0 : Int32))] [(.int c0)])) t → Steps p.tables e below (s₁.setTop (entryFrame m #[(.ref r0), (.int (0 : Int32))] 2)) t := by
    intro t k
    refine pre0 _ ?_
    show Steps p.tables e below (s₁.setTop (mkF m 0 #[.val (.ref r0), .val (.int (0 : Int32))] [])) _
    refine XS.aloadN X0.here hx rfl (hb hby d21_0) rfl rfl ?_
    show Steps p.tables e below (s₁.setTop (mkF m 1 #[.val (.ref r0), .val (.int (0 : Int32))] [(.ref r0)])) _
    refine st1.trans ?_
    show Steps p.tables e below (T1.setTop (mkF m 4 #[.val (.ref r0), .val (.int (0 : Int32))] [(.int (1 : Int32))])) _
    refine XS.ifNo X1.here hx rfl (hb hby d21_4) rfl ((if0 _ _).trans (feq (by decide)).1) ?_
    show Steps p.tables e below (T1.setTop (mkF m 7 #[.val (.ref r0), .val (.int (0 : Int32))] [])) _
    refine XS.aloadN X1.here hx rfl (hb hby d21_7) rfl rfl ?_
    show Steps p.tables e below (T1.setTop (mkF m 8 #[.val (.ref r0), .val (.int (0 : Int32))] [(.ref r0)])) _
    refine st2 _ ?_
    show Steps p.tables e below (T2.setTop (mkF m 11 #[.val (.ref r0), .val (.int (0 : Int32))] [(.ref rv)])) _
    refine XS.iloadN X2.here hx rfl (hb hby d21_11) rfl ?_
    show Steps p.tables e below (T2.setTop (mkF m 12 #[.val (.ref r0), .val (.int (0 : Int32))] [(.int (0 : Int32)), (.ref rv)])) _
    refine st3 _ ?_
    exact k
  obtain ⟨fs, hr, hrun, hended, hW, hsame⟩ := X3.leave (v := some (.int (nar .char c0))) (fun h => by rw [Bd.returns] at h; cases h)
  refine ⟨_, _, k4 _ ?_, hrun, hended, _, _, rfl, ?_, ⟨_, rfl⟩, hW, hsame.mono (by decide) (by decide)⟩
  · exact retN X3 hx (t := .char) Bd.returns (by simp) (hb hby d21_15) hr
  · show own_Q (some (.int (own_sc_2_0 c0 c1))) h0 n0 _ T3.heap _
    rw [e3]
    exact ⟨rfl, N3, rfl⟩
set_option maxRecDepth 65536 in
set_option maxHeartbeats 40000000 in
theorem rmSW_2_0 (l : Launch) (Z : State) (a0 : Array Value) (hw : ∀ d ∈ tables_1, d.before a0 Z = true) (ws : List Jvm.Cond) (r0 : Addr) (rv : Addr) (cb : ClassId) (c0 c1 : Int32) (w_CS : Int32) (w_E : Addr) (w_F : Value) (h0 : Heap) (n0 : Nat) (hG : own_GC Z w_CS w_E w_F) (O0 : Old Z n0 h0) (hc0 : own_c8 c0) (hc1 : own_c8 c1) (E_r0 : Exa Z h0 r0 "java/lang/String") (Fv : Fld Z h0 r0 "java/lang/String" "value" "[B" (.ref rv)) (Fc : Fld Z h0 r0 "java/lang/String" "coder" "B" (.int (0 : Int32))) (Va : Arv Z h0 rv cb .byte (2 : Int32) [(.int ((c0.toInt8.toInt32).toInt8.toInt32)), (.int ((c1.toInt8.toInt32).toInt8.toInt32))] (.int (0 : Int32))) :
    MetFree l (⟨"java/lang/String", "charAt", "(I)C"⟩ : MethodName) (head1 (Jvm.Cond.code (⟨"java/lang/String", "charAt", "(I)C"⟩ : MethodName) jdk_42_method_56_code 2 (some .char) :: ws) ({ frames := 3, cells := 0, slots := 0, locals := 50 } : Room)) (fun a U => a = #[(.ref r0), (.int (0 : Int32))] ∧ Z.Warmed39 U.vm ∧ U.heap = h0) (fun _ _ _ _ _ => True) (fun _ U o U' => ∃ v L, o = .returned v ∧ own_Q (some (.int c0)) h0 n0 v U'.heap L ∧ FrameEnd U o U' L ({ frames := 3, cells := 0, slots := 0, locals := 50 } : Room).cells ({ frames := 3, cells := 0, slots := 0, locals := 50 } : Room).slots) := by
  have q := rmSC_2_0 l Z a0 hw ws r0 rv cb c0 c1 w_CS w_E w_F h0 n0 hG O0 hc0 hc1 E_r0 Fv Fc Va
  rw [show own_sc_2_0 c0 c1 = c0 from own_nc hc0] at q
  exact q
theorem ef_rmLC_2_1 (m : MethodId) (x0 : Addr) (x1 : Int32) : entryFrame m #[(.ref x0), (.int x1)] 2 = mkF m 0 #[.val (.ref x0), .val (.int x1)] [] := by first | (simp [entryFrame, mkF, argsToLocals, Value.category]; done) | rfl
def own_lc_2_1 (c0 c1 : Int32) : Int32 := (nar .char ((((c1.toInt8.toInt32).toInt8.toInt32) &&& (255 : Int32)).toUInt32.toUInt16.toUInt32.toInt32))
set_option maxRecDepth 65536 in
set_option maxHeartbeats 40000000 in
theorem rmLC_2_1 (l : Launch) (Z : State) (a0 : Array Value) (hw : ∀ d ∈ tables_1, d.before a0 Z = true) (ws : List Jvm.Cond) (r0 : Addr) (cb : ClassId) (c0 c1 : Int32) (w_CS : Int32) (w_E : Addr) (w_F : Value) (h0 : Heap) (n0 : Nat) (hG : own_GC Z w_CS w_E w_F) (O0 : Old Z n0 h0) (hc0 : own_c8 c0) (hc1 : own_c8 c1) (Va : Arv Z h0 r0 cb .byte (2 : Int32) [(.int ((c0.toInt8.toInt32).toInt8.toInt32)), (.int ((c1.toInt8.toInt32).toInt8.toInt32))] (.int (0 : Int32))) :
    MetFree l (⟨"java/lang/StringLatin1", "charAt", "([BI)C"⟩ : MethodName) (head1 (Jvm.Cond.code (⟨"java/lang/StringLatin1", "charAt", "([BI)C"⟩ : MethodName) jdk_43_method_2_code 2 (some .char) :: ws) ({ frames := 2, cells := 0, slots := 0, locals := 32 } : Room)) (fun a U => a = #[(.ref r0), (.int (1 : Int32))] ∧ Z.Warmed39 U.vm ∧ U.heap = h0) (fun _ _ _ _ _ => True) (fun _ U o U' => ∃ v L, o = .returned v ∧ own_Q (some (.int (own_lc_2_1 c0 c1))) h0 n0 v U'.heap L ∧ FrameEnd U o U' L ({ frames := 2, cells := 0, slots := 0, locals := 32 } : Room).cells ({ frames := 2, cells := 0, slots := 0, locals := 32 } : Room).slots) := by
  refine MetFree.of_bodySF (plainFor_of_name pn_2) hisR ?_
  intro p e s m args below meth c s₁ Bd hml0 hP hK
  obtain ⟨rfl, hZ, hh⟩ := hP
  have hx := Bd.exec
  have hby := Bd.bytes
  have hml : c.maxLocals = 2 := hml0
  have hown : s.vm.findClass "java/lang/StringLatin1" = some m.cls := findClass_of_methodNamed Bd.named
  have hnm := (name_of_methodNamed Bd.named Bd.method).1
  have X0 : Stand p l e ({ frames := 2, cells := 0, slots := 0, locals := 32 } : Room) s m #[(.ref r0), (.int (1 : Int32))] below meth c s₁ [] 0 0 := Stand.of_body Bd
  have e0 : s₁.heap = h0 := by rw [← hh, Bd.state]; rfl
  have N0 := Fr.nil n0
  have pre0 : ∀ t, Steps p.tables e below (s₁.setTop (mkF m 0 #[.val (.ref r0), .val (.int (1 : Int32))] [])) t → Steps p.tables e below (s₁.setTop (entryFrame m #[(.ref r0), (.int (1 : Int32))] 2)) t := fun t k => castTop (ef_rmLC_2_1 m r0 (1 : Int32)) k
  have hG' := hG
  obtain ⟨S_CS, hCS, S_E, E_E, F_E, S_F, hF⟩ := hG'
  have k2 : ∀ t, Steps p.tables e below (s₁.setTop (mkF m 3 #[.val (.ref r0), .val (.int (1 : Int32))] [(.int (2 : Int32)), (.int (1 : Int32))])) t → Steps p.tables e below (s₁.setTop (entryFrame m #[(.ref r0), (.int (1 : Int32))] 2)) t := by
    intro t k
    refine pre0 _ ?_
    show Steps p.tables e below (s₁.setTop (mkF m 0 #[.val (.ref r0), .val (.int (1 : Int32))] [])) _
    refine XS.iloadN X0.here hx rfl (hb hby d23_0) rfl ?_
    show Steps p.tables e below (s₁.setTop (mkF m 1 #[.val (.ref r0), .val (.int (1 : Int32))] [(.int (1 : Int32))])) _
    refine XS.aloadN X0.here hx rfl (hb hby d23_1) rfl rfl ?_
    show Steps p.tables e below (s₁.setTop (mkF m 2 #[.val (.ref r0), .val (.int (1 : Int32))] [(.ref r0), (.int (1 : Int32))])) _
    obtain ⟨cl_1, Ar_1, -, S_1, N_1, -, -⟩ := id Va
    refine X0.arraylength hx (by rw [e0]; exact Ar_1.1) (State.isArrayOf_alike hZ.alike Ar_1.2.1) (g := (mkF m 2 #[.val (.ref r0), .val (.int (1 : Int32))] [(.ref r0), (.int (1 : Int32))])) rfl rfl (hb hby d23_2) _ ?_
    rw [len_of S_1 N_1]
    exact k
  obtain ⟨_, _, ⟨T3, L3, k3_, n3⟩, -, X3, ⟨Lc3, hQ3, l3, y3, z3⟩, st3⟩ := Jvm.LawKit.callS X0 hx (y := (⟨"java/lang/String", "checkIndex", "(II)V"⟩ : MethodName)) hown (mvT hZ (hw _ (List.mem_of_getElem? (i := 126) rfl))) (mvT hZ (hw _ (List.mem_of_getElem? (i := 127) rfl))) (mvT hZ (hw _ (List.mem_of_getElem? (i := 6) rfl))) (mvT hZ (hw _ (List.mem_of_getElem? (i := 128) rfl))) (by decide) (backOf (W := 0) (rmCI l Z a0 hw [] (1 : Int32) (2 : Int32) w_CS w_E w_F h0 n0 hG O0 (by decide) (by decide)) hZ (hw _ (List.mem_of_getElem? (i := 128) rfl)) (hw _ (List.mem_of_getElem? (i := 6) rfl)) (by decide) (by decide)) (g := (mkF m 3 #[.val (.ref r0), .val (.int (1 : Int32))] [(.int (2 : Int32)), (.int (1 : Int32))])) rfl (by rw [hml]; rfl) (argsL := [(.int (1 : Int32)), (.int (2 : Int32))]) (rest := []) (lenOf pd_12 rfl) rfl (by show 2 * 0 + _ ≤ _; exact Nat.le_of_eq rfl) (hb hby d23_3) (fun _ _ => ⟨rfl, e0, (by decide : 0 + 0 ≤ _), (by decide : 0 + 0 ≤ _)⟩)
  dsimp only [Pt.U, Pt.locs, Pt.cells, Pt.slots] at X3 l3 y3 z3 st3 hQ3
  subst l3 y3 z3
  obtain ⟨rfl, Nq3, e3⟩ := hQ3
  have N3 := Fr.app N0 Nq3
  have k5 : ∀ t, Steps p.tables e below (T3.setTop (mkF m 14 #[.val (.ref r0), .val (.int (1 : Int32))] [(.int ((((c1.toInt8.toInt32).toInt8.toInt32) &&& (255 : Int32)).toUInt32.toUInt16.toUInt32.toInt32))])) t → Steps p.tables e below (s₁.setTop (entryFrame m #[(.ref r0), (.int (1 : Int32))] 2)) t := by
    intro t k
    refine k2 _ ?_
    show Steps p.tables e below (s₁.setTop (mkF m 3 #[.val (.ref r0), .val (.int (1 : Int32))] [(.int (2 : Int32)), (.int (1 : Int32))])) _
    refine st3 _ ?_
    show Steps p.tables e below (T3.setTop (mkF m 6 #[.val (.ref r0), .val (.int (1 : Int32))] [])) _
    refine XS.aloadN X3.here hx rfl (hb hby d23_6) rfl rfl ?_
    show Steps p.tables e below (T3.setTop (mkF m 7 #[.val (.ref r0), .val (.int (1 : Int32))] [(.ref r0)])) _
    refine XS.iloadN X3.here hx rfl (hb hby d23_7) rfl ?_
    show Steps p.tables e below (T3.setTop (mkF m 8 #[.val (.ref r0), .val (.int (1 : Int32))] [(.int (1 : Int32)), (.ref r0)])) _
    obtain ⟨cl_4, Ar_4, q_4, S_4, N_4, H_4, G_4⟩ := id Va
    have hin_4 : ¬ ((1 : Int32) < 0 ∨ cl_4.slots.size ≤ ((1 : Int32)).toNatClampNeg) := inb_of S_4 ⟨by decide, by decide⟩
    refine X3.baloadBytes hx (j := (1 : Int32)) (v := (.int ((c1.toInt8.toInt32).toInt8.toInt32))) (by rw [e3]; exact Ar_4.1) (State.isArrayOf_alike hZ.alike Ar_4.2.1) Ar_4.2.2 hin_4 (Has.at H_4 hin_4 rfl) (g := (mkF m 8 #[.val (.ref r0), .val (.int (1 : Int32))] [(.int (1 : Int32)), (.ref r0)])) rfl rfl (hb hby d23_8) _ ?_
    show Steps p.tables e below (T3.setTop (mkF m 9 #[.val (.ref r0), .val (.int (1 : Int32))] [(.int ((c1.toInt8.toInt32).toInt8.toInt32))])) _
    refine XS.sipush X3.here hx rfl (hb hby d23_9) ?_
    show Steps p.tables e below (T3.setTop (mkF m 12 #[.val (.ref r0), .val (.int (1 : Int32))] [(.int (255 : Int32)), (.int ((c1.toInt8.toInt32).toInt8.toInt32))])) _
    refine XS.iand X3.here hx rfl (hb hby d23_12) rfl ?_
    show Steps p.tables e below (T3.setTop (mkF m 13 #[.val (.ref r0), .val (.int (1 : Int32))] [(.int (((c1.toInt8.toInt32).toInt8.toInt32) &&& (255 : Int32)))])) _
    refine XS.i2c X3.here hx rfl (hb hby d23_13) rfl ?_
    exact k
  obtain ⟨fs, hr, hrun, hended, hW, hsame⟩ := X3.leave (v := some (.int (nar .char ((((c1.toInt8.toInt32).toInt8.toInt32) &&& (255 : Int32)).toUInt32.toUInt16.toUInt32.toInt32)))) (fun h => by rw [Bd.returns] at h; cases h)
  refine ⟨_, _, k5 _ ?_, hrun, hended, _, _, rfl, ?_, ⟨_, rfl⟩, hW, hsame.mono (by decide) (by decide)⟩
  · exact retN X3 hx (t := .char) Bd.returns (by simp) (hb hby d23_14) hr
  · show own_Q (some (.int (own_lc_2_1 c0 c1))) h0 n0 _ T3.heap _
    rw [e3]
    exact ⟨rfl, N3, rfl⟩
set_option maxRecDepth 65536 in
set_option maxHeartbeats 40000000 in
theorem rmLW_2_1 (l : Launch) (Z : State) (a0 : Array Value) (hw : ∀ d ∈ tables_1, d.before a0 Z = true) (ws : List Jvm.Cond) (r0 : Addr) (cb : ClassId) (c0 c1 : Int32) (w_CS : Int32) (w_E : Addr) (w_F : Value) (h0 : Heap) (n0 : Nat) (hG : own_GC Z w_CS w_E w_F) (O0 : Old Z n0 h0) (hc0 : own_c8 c0) (hc1 : own_c8 c1) (Va : Arv Z h0 r0 cb .byte (2 : Int32) [(.int ((c0.toInt8.toInt32).toInt8.toInt32)), (.int ((c1.toInt8.toInt32).toInt8.toInt32))] (.int (0 : Int32))) :
    MetFree l (⟨"java/lang/StringLatin1", "charAt", "([BI)C"⟩ : MethodName) (head1 (Jvm.Cond.code (⟨"java/lang/StringLatin1", "charAt", "([BI)C"⟩ : MethodName) jdk_43_method_2_code 2 (some .char) :: ws) ({ frames := 2, cells := 0, slots := 0, locals := 32 } : Room)) (fun a U => a = #[(.ref r0), (.int (1 : Int32))] ∧ Z.Warmed39 U.vm ∧ U.heap = h0) (fun _ _ _ _ _ => True) (fun _ U o U' => ∃ v L, o = .returned v ∧ own_Q (some (.int c1)) h0 n0 v U'.heap L ∧ FrameEnd U o U' L ({ frames := 2, cells := 0, slots := 0, locals := 32 } : Room).cells ({ frames := 2, cells := 0, slots := 0, locals := 32 } : Room).slots) := by
  have q := rmLC_2_1 l Z a0 hw ws r0 cb c0 c1 w_CS w_E w_F h0 n0 hG O0 hc0 hc1 Va
  rw [show own_lc_2_1 c0 c1 = c1 from own_lcv hc1] at q
  exact q
theorem ef_rmSC_2_1 (m : MethodId) (x0 : Addr) (x1 : Int32) : entryFrame m #[(.ref x0), (.int x1)] 2 = mkF m 0 #[.val (.ref x0), .val (.int x1)] [] := by first | (simp [entryFrame, mkF, argsToLocals, Value.category]; done) | rfl
def own_sc_2_1 (c0 c1 : Int32) : Int32 := (nar .char c1)
set_option maxRecDepth 65536 in
set_option maxHeartbeats 40000000 in
theorem rmSC_2_1 (l : Launch) (Z : State) (a0 : Array Value) (hw : ∀ d ∈ tables_1, d.before a0 Z = true) (ws : List Jvm.Cond) (r0 : Addr) (rv : Addr) (cb : ClassId) (c0 c1 : Int32) (w_CS : Int32) (w_E : Addr) (w_F : Value) (h0 : Heap) (n0 : Nat) (hG : own_GC Z w_CS w_E w_F) (O0 : Old Z n0 h0) (hc0 : own_c8 c0) (hc1 : own_c8 c1) (E_r0 : Exa Z h0 r0 "java/lang/String") (Fv : Fld Z h0 r0 "java/lang/String" "value" "[B" (.ref rv)) (Fc : Fld Z h0 r0 "java/lang/String" "coder" "B" (.int (0 : Int32))) (Va : Arv Z h0 rv cb .byte (2 : Int32) [(.int ((c0.toInt8.toInt32).toInt8.toInt32)), (.int ((c1.toInt8.toInt32).toInt8.toInt32))] (.int (0 : Int32))) :
    MetFree l (⟨"java/lang/String", "charAt", "(I)C"⟩ : MethodName) (head1 (Jvm.Cond.code (⟨"java/lang/String", "charAt", "(I)C"⟩ : MethodName) jdk_42_method_56_code 2 (some .char) :: ws) ({ frames := 3, cells := 0, slots := 0, locals := 50 } : Room)) (fun a U => a = #[(.ref r0), (.int (1 : Int32))] ∧ Z.Warmed39 U.vm ∧ U.heap = h0) (fun _ _ _ _ _ => True) (fun _ U o U' => ∃ v L, o = .returned v ∧ own_Q (some (.int (own_sc_2_1 c0 c1))) h0 n0 v U'.heap L ∧ FrameEnd U o U' L ({ frames := 3, cells := 0, slots := 0, locals := 50 } : Room).cells ({ frames := 3, cells := 0, slots := 0, locals := 50 } : Room).slots) := by
  refine MetFree.of_bodySF (plainFor_of_name pn_0) hisR ?_
  intro p e s m args below meth c s₁ Bd hml0 hP hK
  obtain ⟨rfl, hZ, hh⟩ := hP
  have hx := Bd.exec
  have hby := Bd.bytes
  have hml : c.maxLocals = 2 := hml0
  have hown : s.vm.findClass "java/lang/String" = some m.cls := findClass_of_methodNamed Bd.named
  have hnm := (name_of_methodNamed Bd.named Bd.method).1
  have X0 : Stand p l e ({ frames := 3, cells := 0, slots := 0, locals := 50 } : Room) s m #[(.ref r0), (.int (1 : Int32))] below meth c s₁ [] 0 0 := Stand.of_body Bd
  have e0 : s₁.heap = h0 := by rw [← hh, Bd.state]; rfl
  have N0 := Fr.nil n0
  have pre0 : ∀ t, Steps p.tables e below (s₁.setTop (mkF m 0 #[.val (.ref r0), .val (.int (1 : Int32))] [])) t → Steps p.tables e below (s₁.setTop (entryFrame m #[(.ref r0), (.int (1 : Int32))] 2)) t := fun t k => castTop (ef_rmSC_2_1 m r0 (1 : Int32)) k
  have hG' := hG
  obtain ⟨S_CS, hCS, S_E, E_E, F_E, S_F, hF⟩ := hG'
  obtain ⟨cq1, kq1, q1a, q1b, q1c⟩ := isOf hZ e0 E_r0
  obtain ⟨_, _, ⟨T1, L1, k1_, n1⟩, -, X1, ⟨Lc1, hQ1, l1, y1, z1⟩, st1⟩ := X0.virtualBack hx (y := (⟨"java/lang/String", "isLatin1", "()Z"⟩ : MethodName)) (z := (⟨"java/lang/String", "isLatin1", "()Z"⟩ : MethodName)) hown (mvT hZ (hw _ (List.mem_of_getElem? (i := 118) rfl))) (mvT hZ (hw _ (List.mem_of_getElem? (i := 119) rfl))) (notFace_of_selects (args := #[]) (mvT hZ (hw _ (List.mem_of_getElem? (i := 121) rfl)))) (mvT hZ (hw _ (List.mem_of_getElem? (i := 121) rfl))) (mvT hZ (hw _ (List.mem_of_getElem? (i := 120) rfl))) (by decide) (backOf (W := 0) (rmIl l Z a0 hw [] r0 w_CS w_E w_F h0 n0 hG O0 Fc E_r0) hZ (hw _ (List.mem_of_getElem? (i := 122) rfl)) (hw _ (List.mem_of_getElem? (i := 6) rfl)) (by decide) (by decide)) q1a q1c (g := (mkF m 1 #[.val (.ref r0), .val (.int (1 : Int32))] [(.ref r0)])) rfl (by rw [hml]; rfl) (Steps.refl _) (argsL := []) (rest := []) (lenOf pd_13 rfl) rfl (by show 2 * 0 + _ ≤ _; exact Nat.le_of_eq rfl) (hb hby d21_1) (fun _ _ => ⟨rfl, e0, (by decide : 0 + 0 ≤ _), (by decide : 0 + 0 ≤ _)⟩)
  dsimp only [Pt.U, Pt.locs, Pt.cells, Pt.slots] at X1 l1 y1 z1 st1 hQ1
  subst l1 y1 z1
  obtain ⟨rfl, Nq1, e1⟩ := hQ1
  have N1 := Fr.app N0 Nq1
  obtain ⟨T2, X2, e2, st2⟩ := getF X1 hx hZ hown (host := "") (Or.inl (hw _ (List.mem_of_getElem? (i := 24) rfl))) Via.refl e1 Fv (g := (mkF m 8 #[.val (.ref r0), .val (.int (1 : Int32))] [(.ref r0)])) rfl rfl (hb hby d21_8)
  obtain ⟨_, _, ⟨T3, L3, k3_, n3⟩, -, X3, ⟨Lc3, hQ3, l3, y3, z3⟩, st3⟩ := Jvm.LawKit.callS X2 hx (y := (⟨"java/lang/StringLatin1", "charAt", "([BI)C"⟩ : MethodName)) hown (mvT hZ (hw _ (List.mem_of_getElem? (i := 123) rfl))) (mvT hZ (hw _ (List.mem_of_getElem? (i := 124) rfl))) (mvT hZ (hw _ (List.mem_of_getElem? (i := 79) rfl))) (mvT hZ (hw _ (List.mem_of_getElem? (i := 125) rfl))) (by decide) (backOf (W := 0) (rmLW_2_1 l Z a0 hw [] rv cb c0 c1 w_CS w_E w_F h0 n0 hG O0 hc0 hc1 Va) hZ (hw _ (List.mem_of_getElem? (i := 125) rfl)) (hw _ (List.mem_of_getElem? (i := 79) rfl)) (by decide) (by decide)) (g := (mkF m 12 #[.val (.ref r0), .val (.int (1 : Int32))] [(.int (1 : Int32)), (.ref rv)])) rfl (by rw [hml]; rfl) (argsL := [(.ref rv), (.int (1 : Int32))]) (rest := []) (lenOf pd_14 rfl) rfl (by show 2 * 0 + _ ≤ _; exact Nat.le_of_eq rfl) (hb hby d21_12) (fun _ _ => ⟨rfl, e2, (by decide : 0 + 0 ≤ _), (by decide : 0 + 0 ≤ _)⟩)
  dsimp only [Pt.U, Pt.locs, Pt.cells, Pt.slots] at X3 l3 y3 z3 st3 hQ3
  subst l3 y3 z3
  obtain ⟨rfl, Nq3, e3⟩ := hQ3
  have N3 := Fr.app N1 Nq3
  have k4 : ∀ t, Steps p.tables e below (T3.setTop (mkF m 15 #[.val (.ref r0), .val (.int (1 : Int32))] [(.int c1)])) t → Steps p.tables e below (s₁.setTop (entryFrame m #[(.ref r0), (.int (1 : Int32))] 2)) t := by
    intro t k
    refine pre0 _ ?_
    show Steps p.tables e below (s₁.setTop (mkF m 0 #[.val (.ref r0), .val (.int (1 : Int32))] [])) _
    refine XS.aloadN X0.here hx rfl (hb hby d21_0) rfl rfl ?_
    show Steps p.tables e below (s₁.setTop (mkF m 1 #[.val (.ref r0), .val (.int (1 : Int32))] [(.ref r0)])) _
    refine st1.trans ?_
    show Steps p.tables e below (T1.setTop (mkF m 4 #[.val (.ref r0), .val (.int (1 : Int32))] [(.int (1 : Int32))])) _
    refine XS.ifNo X1.here hx rfl (hb hby d21_4) rfl ((if0 _ _).trans (feq (by decide)).1) ?_
    show Steps p.tables e below (T1.setTop (mkF m 7 #[.val (.ref r0), .val (.int (1 : Int32))] [])) _
    refine XS.aloadN X1.here hx rfl (hb hby d21_7) rfl rfl ?_
    show Steps p.tables e below (T1.setTop (mkF m 8 #[.val (.ref r0), .val (.int (1 : Int32))] [(.ref r0)])) _
    refine st2 _ ?_
    show Steps p.tables e below (T2.setTop (mkF m 11 #[.val (.ref r0), .val (.int (1 : Int32))] [(.ref rv)])) _
    refine XS.iloadN X2.here hx rfl (hb hby d21_11) rfl ?_
    show Steps p.tables e below (T2.setTop (mkF m 12 #[.val (.ref r0), .val (.int (1 : Int32))] [(.int (1 : Int32)), (.ref rv)])) _
    refine st3 _ ?_
    exact k
  obtain ⟨fs, hr, hrun, hended, hW, hsame⟩ := X3.leave (v := some (.int (nar .char c1))) (fun h => by rw [Bd.returns] at h; cases h)
  refine ⟨_, _, k4 _ ?_, hrun, hended, _, _, rfl, ?_, ⟨_, rfl⟩, hW, hsame.mono (by decide) (by decide)⟩
  · exact retN X3 hx (t := .char) Bd.returns (by simp) (hb hby d21_15) hr
  · show own_Q (some (.int (own_sc_2_1 c0 c1))) h0 n0 _ T3.heap _
    rw [e3]
    exact ⟨rfl, N3, rfl⟩
set_option maxRecDepth 65536 in
set_option maxHeartbeats 40000000 in
theorem rmSW_2_1 (l : Launch) (Z : State) (a0 : Array Value) (hw : ∀ d ∈ tables_1, d.before a0 Z = true) (ws : List Jvm.Cond) (r0 : Addr) (rv : Addr) (cb : ClassId) (c0 c1 : Int32) (w_CS : Int32) (w_E : Addr) (w_F : Value) (h0 : Heap) (n0 : Nat) (hG : own_GC Z w_CS w_E w_F) (O0 : Old Z n0 h0) (hc0 : own_c8 c0) (hc1 : own_c8 c1) (E_r0 : Exa Z h0 r0 "java/lang/String") (Fv : Fld Z h0 r0 "java/lang/String" "value" "[B" (.ref rv)) (Fc : Fld Z h0 r0 "java/lang/String" "coder" "B" (.int (0 : Int32))) (Va : Arv Z h0 rv cb .byte (2 : Int32) [(.int ((c0.toInt8.toInt32).toInt8.toInt32)), (.int ((c1.toInt8.toInt32).toInt8.toInt32))] (.int (0 : Int32))) :
    MetFree l (⟨"java/lang/String", "charAt", "(I)C"⟩ : MethodName) (head1 (Jvm.Cond.code (⟨"java/lang/String", "charAt", "(I)C"⟩ : MethodName) jdk_42_method_56_code 2 (some .char) :: ws) ({ frames := 3, cells := 0, slots := 0, locals := 50 } : Room)) (fun a U => a = #[(.ref r0), (.int (1 : Int32))] ∧ Z.Warmed39 U.vm ∧ U.heap = h0) (fun _ _ _ _ _ => True) (fun _ U o U' => ∃ v L, o = .returned v ∧ own_Q (some (.int c1)) h0 n0 v U'.heap L ∧ FrameEnd U o U' L ({ frames := 3, cells := 0, slots := 0, locals := 50 } : Room).cells ({ frames := 3, cells := 0, slots := 0, locals := 50 } : Room).slots) := by
  have q := rmSC_2_1 l Z a0 hw ws r0 rv cb c0 c1 w_CS w_E w_F h0 n0 hG O0 hc0 hc1 E_r0 Fv Fc Va
  rw [show own_sc_2_1 c0 c1 = c1 from own_nc hc1] at q
  exact q
theorem ef_rmCB_2 (m : MethodId) (x0 : Addr) : entryFrame m #[(.ref x0)] 3 = mkF m 0 #[.val (.ref x0), .unset, .unset] [] := by first | (simp [entryFrame, mkF, argsToLocals, Value.category]; done) | rfl
def own_cb_2 (c0 c1 : Int32) : Int32 := (if c0 < (32 : Int32) then (0 : Int32) else (if (126 : Int32) < c0 then (0 : Int32) else (if c1 < (32 : Int32) then (0 : Int32) else (if (126 : Int32) < c1 then (0 : Int32) else (1 : Int32)))))
set_option maxRecDepth 65536 in
set_option maxHeartbeats 40000000 in
theorem rmCB_2 (l : Launch) (Z : State) (a0 : Array Value) (hw : ∀ d ∈ tables_1, d.before a0 Z = true) (ws : List Jvm.Cond) (r0 : Addr) (rv : Addr) (cb : ClassId) (c0 c1 : Int32) (w_CS : Int32) (w_E : Addr) (w_F : Value) (h0 : Heap) (n0 : Nat) (hG : own_GC Z w_CS w_E w_F) (O0 : Old Z n0 h0) (hc0 : own_c8 c0) (hc1 : own_c8 c1) (E_r0 : Exa Z h0 r0 "java/lang/String") (Fv : Fld Z h0 r0 "java/lang/String" "value" "[B" (.ref rv)) (Fc : Fld Z h0 r0 "java/lang/String" "coder" "B" (.int (0 : Int32))) (Va : Arv Z h0 rv cb .byte (2 : Int32) [(.int ((c0.toInt8.toInt32).toInt8.toInt32)), (.int ((c1.toInt8.toInt32).toInt8.toInt32))] (.int (0 : Int32))) :
    MetFree l (⟨"com/example/indelible_crawl/indeliblecrawl/fetch/Validators", "canBeSent", "(Ljava/lang/String;)Z"⟩ : MethodName) (head1 (Jvm.Cond.code (⟨"com/example/indelible_crawl/indeliblecrawl/fetch/Validators", "canBeSent", "(Ljava/lang/String;)Z"⟩ : MethodName) prog_47_method_3_code 3 (some .boolean) :: ws) ({ frames := 4, cells := 0, slots := 0, locals := 70 } : Room)) (fun a U => a = #[(.ref r0)] ∧ Z.Warmed39 U.vm ∧ U.heap = h0) (fun _ _ _ _ _ => True) (fun _ U o U' => ∃ v L, o = .returned v ∧ own_Q (some (.int (own_cb_2 c0 c1))) h0 n0 v U'.heap L ∧ FrameEnd U o U' L ({ frames := 4, cells := 0, slots := 0, locals := 70 } : Room).cells ({ frames := 4, cells := 0, slots := 0, locals := 70 } : Room).slots) := by
  refine MetFree.of_bodySF (plainFor_of_name pn_5) hisR ?_
  intro p e s m args below meth c s₁ Bd hml0 hP hK
  obtain ⟨rfl, hZ, hh⟩ := hP
  have hx := Bd.exec
  have hby := Bd.bytes
  have hml : c.maxLocals = 3 := hml0
  have hown : s.vm.findClass "com/example/indelible_crawl/indeliblecrawl/fetch/Validators" = some m.cls := findClass_of_methodNamed Bd.named
  have hnm := (name_of_methodNamed Bd.named Bd.method).1
  have X0 : Stand p l e ({ frames := 4, cells := 0, slots := 0, locals := 70 } : Room) s m #[(.ref r0)] below meth c s₁ [] 0 0 := Stand.of_body Bd
  have e0 : s₁.heap = h0 := by rw [← hh, Bd.state]; rfl
  have N0 := Fr.nil n0
  have pre0 : ∀ t, Steps p.tables e below (s₁.setTop (mkF m 0 #[.val (.ref r0), .unset, .unset] [])) t → Steps p.tables e below (s₁.setTop (entryFrame m #[(.ref r0)] 3)) t := fun t k => castTop (ef_rmCB_2 m r0) k
  have hG' := hG
  obtain ⟨S_CS, hCS, S_E, E_E, F_E, S_F, hF⟩ := hG'
  obtain ⟨cq1, kq1, q1a, q1b, q1c⟩ := isOf hZ e0 E_r0
  obtain ⟨_, _, ⟨T1, L1, k1_, n1⟩, -, X1, ⟨Lc1, hQ1, l1, y1, z1⟩, st1⟩ := X0.virtualBack hx (y := (⟨"java/lang/String", "length", "()I"⟩ : MethodName)) (z := (⟨"java/lang/String", "length", "()I"⟩ : MethodName)) hown (mvT hZ (hw _ (List.mem_of_getElem? (i := 103) rfl))) (mvT hZ (hw _ (List.mem_of_getElem? (i := 104) rfl))) (notFace_of_selects (args := #[]) (mvT hZ (hw _ (List.mem_of_getElem? (i := 106) rfl)))) (mvT hZ (hw _ (List.mem_of_getElem? (i := 106) rfl))) (mvT hZ (hw _ (List.mem_of_getElem? (i := 105) rfl))) (by decide) (backOf (W := 1) (rmLn_2 l Z a0 hw [] r0 rv cb c0 c1 w_CS w_E w_F h0 n0 hG O0 hc0 hc1 E_r0 Fv Fc Va) hZ (hw _ (List.mem_of_getElem? (i := 107) rfl)) (hw _ (List.mem_of_getElem? (i := 6) rfl)) (by decide) (by decide)) q1a q1c (g := (mkF m 4 #[.val (.ref r0), .val (.int (0 : Int32)), .unset] [(.ref r0), (.int (0 : Int32))])) rfl (by rw [hml]; rfl) (Steps.refl _) (argsL := []) (rest := [(.int (0 : Int32))]) (lenOf pd_11 rfl) rfl (by show 2 * 0 + _ ≤ _; exact Nat.le_of_eq rfl) (hb hby d18_4) (fun _ _ => ⟨rfl, e0, (by decide : 0 + 0 ≤ _), (by decide : 0 + 0 ≤ _)⟩)
  dsimp only [Pt.U, Pt.locs, Pt.cells, Pt.slots] at X1 l1 y1 z1 st1 hQ1
  subst l1 y1 z1
  obtain ⟨rfl, Nq1, e1⟩ := hQ1
  have N1 := Fr.app N0 Nq1
  obtain ⟨cq2, kq2, q2a, q2b, q2c⟩ := isOf hZ e1 E_r0
  obtain ⟨_, _, ⟨T2, L2, k2_, n2⟩, -, X2, ⟨Lc2, hQ2, l2, y2, z2⟩, st2⟩ := X1.virtualBack hx (y := (⟨"java/lang/String", "charAt", "(I)C"⟩ : MethodName)) (z := (⟨"java/lang/String", "charAt", "(I)C"⟩ : MethodName)) hown (mvT hZ (hw _ (List.mem_of_getElem? (i := 113) rfl))) (mvT hZ (hw _ (List.mem_of_getElem? (i := 114) rfl))) (notFace_of_selects (args := #[]) (mvT hZ (hw _ (List.mem_of_getElem? (i := 116) rfl)))) (mvT hZ (hw _ (List.mem_of_getElem? (i := 116) rfl))) (mvT hZ (hw _ (List.mem_of_getElem? (i := 115) rfl))) (by decide) (backOf (W := 0) (rmSW_2_0 l Z a0 hw [] r0 rv cb c0 c1 w_CS w_E w_F h0 n0 hG O0 hc0 hc1 E_r0 Fv Fc Va) hZ (hw _ (List.mem_of_getElem? (i := 117) rfl)) (hw _ (List.mem_of_getElem? (i := 6) rfl)) (by decide) (by decide)) q2a q2c (g := (mkF m 12 #[.val (.ref r0), .val (.int (0 : Int32)), .unset] [(.int (0 : Int32)), (.ref r0)])) rfl (by rw [hml]; rfl) (Steps.refl _) (argsL := [(.int (0 : Int32))]) (rest := []) (lenOf pd_15 rfl) rfl (by show 2 * 0 + _ ≤ _; exact Nat.le_of_eq rfl) (hb hby d18_12) (fun _ _ => ⟨rfl, e1, (by decide : 0 + 0 ≤ _), (by decide : 0 + 0 ≤ _)⟩)
  dsimp only [Pt.U, Pt.locs, Pt.cells, Pt.slots] at X2 l2 y2 z2 st2 hQ2
  subst l2 y2 z2
  obtain ⟨rfl, Nq2, e2⟩ := hQ2
  have N2 := Fr.app N1 Nq2
  have k3 : ∀ t, Steps p.tables e below (T2.setTop (mkF m 19 #[.val (.ref r0), .val (.int (0 : Int32)), .val (.int c0)] [(.int (32 : Int32)), (.int c0)])) t → Steps p.tables e below (s₁.setTop (entryFrame m #[(.ref r0)] 3)) t := by
    intro t k
    refine pre0 _ ?_
    show Steps p.tables e below (s₁.setTop (mkF m 0 #[.val (.ref r0), .unset, .unset] [])) _
    refine XS.iconst X0.here hx rfl (hb hby d18_0) ?_
    show Steps p.tables e below (s₁.setTop (mkF m 1 #[.val (.ref r0), .unset, .unset] [(.int (0 : Int32))])) _
    refine XS.istoreN X0.here hx rfl (hb hby d18_1) rfl (l' := #[.val (.ref r0), .val (.int (0 : Int32)), .unset]) rfl ?_
    show Steps p.tables e below (s₁.setTop (mkF m 2 #[.val (.ref r0), .val (.int (0 : Int32)), .unset] [])) _
    refine XS.iloadN X0.here hx rfl (hb hby d18_2) rfl ?_
    show Steps p.tables e below (s₁.setTop (mkF m 3 #[.val (.ref r0), .val (.int (0 : Int32)), .unset] [(.int (0 : Int32))])) _
    refine XS.aloadN X0.here hx rfl (hb hby d18_3) rfl rfl ?_
    show Steps p.tables e below (s₁.setTop (mkF m 4 #[.val (.ref r0), .val (.int (0 : Int32)), .unset] [(.ref r0), (.int (0 : Int32))])) _
    refine st1.trans ?_
    show Steps p.tables e below (T1.setTop (mkF m 7 #[.val (.ref r0), .val (.int (0 : Int32)), .unset] [(.int (2 : Int32)), (.int (0 : Int32))])) _
    refine XS.icmpNo X1.here hx rfl (hb hby d18_7) rfl (tlt (by decide)).2.1 ?_
    show Steps p.tables e below (T1.setTop (mkF m 10 #[.val (.ref r0), .val (.int (0 : Int32)), .unset] [])) _
    refine XS.aloadN X1.here hx rfl (hb hby d18_10) rfl rfl ?_
    show Steps p.tables e below (T1.setTop (mkF m 11 #[.val (.ref r0), .val (.int (0 : Int32)), .unset] [(.ref r0)])) _
    refine XS.iloadN X1.here hx rfl (hb hby d18_11) rfl ?_
    show Steps p.tables e below (T1.setTop (mkF m 12 #[.val (.ref r0), .val (.int (0 : Int32)), .unset] [(.int (0 : Int32)), (.ref r0)])) _
    refine st2.trans ?_
    show Steps p.tables e below (T2.setTop (mkF m 15 #[.val (.ref r0), .val (.int (0 : Int32)), .unset] [(.int c0)])) _
    refine XS.istoreN X2.here hx rfl (hb hby d18_15) rfl (l' := #[.val (.ref r0), .val (.int (0 : Int32)), .val (.int c0)]) rfl ?_
    show Steps p.tables e below (T2.setTop (mkF m 16 #[.val (.ref r0), .val (.int (0 : Int32)), .val (.int c0)] [])) _
    refine XS.iloadN X2.here hx rfl (hb hby d18_16) rfl ?_
    show Steps p.tables e below (T2.setTop (mkF m 17 #[.val (.ref r0), .val (.int (0 : Int32)), .val (.int c0)] [(.int c0)])) _
    refine XS.bipush X2.here hx rfl (hb hby d18_17) ?_
    exact k
  by_cases hc19_1 : c0 < (32 : Int32)
  · have k4 : ∀ t, Steps p.tables e below (T2.setTop (mkF m 29 #[.val (.ref r0), .val (.int (0 : Int32)), .val (.int c0)] [(.int (0 : Int32))])) t → Steps p.tables e below (s₁.setTop (entryFrame m #[(.ref r0)] 3)) t := by
      intro t k
      refine k3 _ ?_
      show Steps p.tables e below (T2.setTop (mkF m 19 #[.val (.ref r0), .val (.int (0 : Int32)), .val (.int c0)] [(.int (32 : Int32)), (.int c0)])) _
      refine XS.icmpYes X2.here hx rfl (pc0 := 19) (pc' := 28) rfl (hb hby d18_19) rfl (tlt hc19_1).1 (by decide) (by decide) ?_
      show Steps p.tables e below (T2.setTop (mkF m 28 #[.val (.ref r0), .val (.int (0 : Int32)), .val (.int c0)] [])) _
      refine XS.iconst X2.here hx rfl (hb hby d18_28) ?_
      exact k
    obtain ⟨fs, hr, hrun, hended, hW, hsame⟩ := X2.leave (v := some (.int (0 : Int32))) (fun h => by rw [Bd.returns] at h; cases h)
    refine ⟨_, _, k4 _ ?_, hrun, hended, _, _, rfl, ?_, ⟨_, rfl⟩, hW, hsame.mono (by decide) (by decide)⟩
    · exact retN X2 hx (t := .boolean) Bd.returns (by simp) (hb hby d18_29) hr
    · show own_Q (some (.int (own_cb_2 c0 c1))) h0 n0 _ T2.heap _
      rw [e2]
      exact ⟨by simp only [own_cb_2, if_pos hc19_1], N2, rfl⟩
  · have k5 : ∀ t, Steps p.tables e below (T2.setTop (mkF m 25 #[.val (.ref r0), .val (.int (0 : Int32)), .val (.int c0)] [(.int (126 : Int32)), (.int c0)])) t → Steps p.tables e below (s₁.setTop (entryFrame m #[(.ref r0)] 3)) t := by
      intro t k
      refine k3 _ ?_
      show Steps p.tables e below (T2.setTop (mkF m 19 #[.val (.ref r0), .val (.int (0 : Int32)), .val (.int c0)] [(.int (32 : Int32)), (.int c0)])) _
      refine XS.icmpNo X2.here hx rfl (hb hby d18_19) rfl (flt hc19_1).1 ?_
      show Steps p.tables e below (T2.setTop (mkF m 22 #[.val (.ref r0), .val (.int (0 : Int32)), .val (.int c0)] [])) _
      refine XS.iloadN X2.here hx rfl (hb hby d18_22) rfl ?_
      show Steps p.tables e below (T2.setTop (mkF m 23 #[.val (.ref r0), .val (.int (0 : Int32)), .val (.int c0)] [(.int c0)])) _
      refine XS.bipush X2.here hx rfl (hb hby d18_23) ?_
      exact k
    by_cases hc25_2 : (126 : Int32) < c0
    · have k6 : ∀ t, Steps p.tables e below (T2.setTop (mkF m 29 #[.val (.ref r0), .val (.int (0 : Int32)), .val (.int c0)] [(.int (0 : Int32))])) t → Steps p.tables e below (s₁.setTop (entryFrame m #[(.ref r0)] 3)) t := by
        intro t k
        refine k5 _ ?_
        show Steps p.tables e below (T2.setTop (mkF m 25 #[.val (.ref r0), .val (.int (0 : Int32)), .val (.int c0)] [(.int (126 : Int32)), (.int c0)])) _
        refine XS.icmpNo X2.here hx rfl (hb hby d18_25) rfl (tlt hc25_2).2.2.2 ?_
        show Steps p.tables e below (T2.setTop (mkF m 28 #[.val (.ref r0), .val (.int (0 : Int32)), .val (.int c0)] [])) _
        refine XS.iconst X2.here hx rfl (hb hby d18_28) ?_
        exact k
      obtain ⟨fs, hr, hrun, hended, hW, hsame⟩ := X2.leave (v := some (.int (0 : Int32))) (fun h => by rw [Bd.returns] at h; cases h)
      refine ⟨_, _, k6 _ ?_, hrun, hended, _, _, rfl, ?_, ⟨_, rfl⟩, hW, hsame.mono (by decide) (by decide)⟩
      · exact retN X2 hx (t := .boolean) Bd.returns (by simp) (hb hby d18_29) hr
      · show own_Q (some (.int (own_cb_2 c0 c1))) h0 n0 _ T2.heap _
        rw [e2]
        exact ⟨by simp only [own_cb_2, if_neg hc19_1, if_pos hc25_2], N2, rfl⟩
    · obtain ⟨cq7, kq7, q7a, q7b, q7c⟩ := isOf hZ e2 E_r0
      obtain ⟨_, _, ⟨T7, L7, k7_, n7⟩, -, X7, ⟨Lc7, hQ7, l7, y7, z7⟩, st7⟩ := X2.virtualBack hx (y := (⟨"java/lang/String", "length", "()I"⟩ : MethodName)) (z := (⟨"java/lang/String", "length", "()I"⟩ : MethodName)) hown (mvT hZ (hw _ (List.mem_of_getElem? (i := 103) rfl))) (mvT hZ (hw _ (List.mem_of_getElem? (i := 104) rfl))) (notFace_of_selects (args := #[]) (mvT hZ (hw _ (List.mem_of_getElem? (i := 106) rfl)))) (mvT hZ (hw _ (List.mem_of_getElem? (i := 106) rfl))) (mvT hZ (hw _ (List.mem_of_getElem? (i := 105) rfl))) (by decide) (backOf (W := 1) (rmLn_2 l Z a0 hw [] r0 rv cb c0 c1 w_CS w_E w_F h0 n0 hG O0 hc0 hc1 E_r0 Fv Fc Va) hZ (hw _ (List.mem_of_getElem? (i := 107) rfl)) (hw _ (List.mem_of_getElem? (i := 6) rfl)) (by decide) (by decide)) q7a q7c (g := (mkF m 4 #[.val (.ref r0), .val (.int (1 : Int32)), .val (.int c0)] [(.ref r0), (.int (1 : Int32))])) rfl (by rw [hml]; rfl) (Steps.refl _) (argsL := []) (rest := [(.int (1 : Int32))]) (lenOf pd_11 rfl) rfl (by show 2 * 0 + _ ≤ _; exact Nat.le_of_eq rfl) (hb hby d18_4) (fun _ _ => ⟨rfl, e2, (by decide : 0 + 0 ≤ _), (by decide : 0 + 0 ≤ _)⟩)
      dsimp only [Pt.U, Pt.locs, Pt.cells, Pt.slots] at X7 l7 y7 z7 st7 hQ7
      subst l7 y7 z7
      obtain ⟨rfl, Nq7, e7⟩ := hQ7
      have N7 := Fr.app N2 Nq7
      obtain ⟨cq8, kq8, q8a, q8b, q8c⟩ := isOf hZ e7 E_r0
      obtain ⟨_, _, ⟨T8, L8, k8_, n8⟩, -, X8, ⟨Lc8, hQ8, l8, y8, z8⟩, st8⟩ := X7.virtualBack hx (y := (⟨"java/lang/String", "charAt", "(I)C"⟩ : MethodName)) (z := (⟨"java/lang/String", "charAt", "(I)C"⟩ : MethodName)) hown (mvT hZ (hw _ (List.mem_of_getElem? (i := 113) rfl))) (mvT hZ (hw _ (List.mem_of_getElem? (i := 114) rfl))) (notFace_of_selects (args := #[]) (mvT hZ (hw _ (List.mem_of_getElem? (i := 116) rfl)))) (mvT hZ (hw _ (List.mem_of_getElem? (i := 116) rfl))) (mvT hZ (hw _ (List.mem_of_getElem? (i := 115) rfl))) (by decide) (backOf (W := 0) (rmSW_2_1 l Z a0 hw [] r0 rv cb c0 c1 w_CS w_E w_F h0 n0 hG O0 hc0 hc1 E_r0 Fv Fc Va) hZ (hw _ (List.mem_of_getElem? (i := 117) rfl)) (hw _ (List.mem_of_getElem? (i := 6) rfl)) (by decide) (by decide)) q8a q8c (g := (mkF m 12 #[.val (.ref r0), .val (.int (1 : Int32)), .val (.int c0)] [(.int (1 : Int32)), (.ref r0)])) rfl (by rw [hml]; rfl) (Steps.refl _) (argsL := [(.int (1 : Int32))]) (rest := []) (lenOf pd_15 rfl) rfl (by show 2 * 0 + _ ≤ _; exact Nat.le_of_eq rfl) (hb hby d18_12) (fun _ _ => ⟨rfl, e7, (by decide : 0 + 0 ≤ _), (by decide : 0 + 0 ≤ _)⟩)
      dsimp only [Pt.U, Pt.locs, Pt.cells, Pt.slots] at X8 l8 y8 z8 st8 hQ8
      subst l8 y8 z8
      obtain ⟨rfl, Nq8, e8⟩ := hQ8
      have N8 := Fr.app N7 Nq8
      have k9 : ∀ t, Steps p.tables e below (T8.setTop (mkF m 19 #[.val (.ref r0), .val (.int (1 : Int32)), .val (.int c1)] [(.int (32 : Int32)), (.int c1)])) t → Steps p.tables e below (s₁.setTop (entryFrame m #[(.ref r0)] 3)) t := by
        intro t k
        refine k5 _ ?_
        show Steps p.tables e below (T2.setTop (mkF m 25 #[.val (.ref r0), .val (.int (0 : Int32)), .val (.int c0)] [(.int (126 : Int32)), (.int c0)])) _
        refine XS.icmpYes X2.here hx rfl (pc0 := 25) (pc' := 30) rfl (hb hby d18_25) rfl (flt hc25_2).2.2.2 (by decide) (by decide) ?_
        show Steps p.tables e below (T2.setTop (mkF m 30 #[.val (.ref r0), .val (.int (0 : Int32)), .val (.int c0)] [])) _
        refine XS.iinc X2.here hx rfl (hb hby d18_30) rfl (l' := #[.val (.ref r0), .val (.int (1 : Int32)), .val (.int c0)]) rfl ?_
        show Steps p.tables e below (T2.setTop (mkF m 33 #[.val (.ref r0), .val (.int (1 : Int32)), .val (.int c0)] [])) _
        refine XS.goto X2.here hx rfl (pc0 := 33) (pc' := 2) rfl (hb hby d18_33) (by decide) (by decide) ?_
        show Steps p.tables e below (T2.setTop (mkF m 2 #[.val (.ref r0), .val (.int (1 : Int32)), .val (.int c0)] [])) _
        refine XS.iloadN X2.here hx rfl (hb hby d18_2) rfl ?_
        show Steps p.tables e below (T2.setTop (mkF m 3 #[.val (.ref r0), .val (.int (1 : Int32)), .val (.int c0)] [(.int (1 : Int32))])) _
        refine XS.aloadN X2.here hx rfl (hb hby d18_3) rfl rfl ?_
        show Steps p.tables e below (T2.setTop (mkF m 4 #[.val (.ref r0), .val (.int (1 : Int32)), .val (.int c0)] [(.ref r0), (.int (1 : Int32))])) _
        refine st7.trans ?_
        show Steps p.tables e below (T7.setTop (mkF m 7 #[.val (.ref r0), .val (.int (1 : Int32)), .val (.int c0)] [(.int (2 : Int32)), (.int (1 : Int32))])) _
        refine XS.icmpNo X7.here hx rfl (hb hby d18_7) rfl (tlt (by decide)).2.1 ?_
        show Steps p.tables e below (T7.setTop (mkF m 10 #[.val (.ref r0), .val (.int (1 : Int32)), .val (.int c0)] [])) _
        refine XS.aloadN X7.here hx rfl (hb hby d18_10) rfl rfl ?_
        show Steps p.tables e below (T7.setTop (mkF m 11 #[.val (.ref r0), .val (.int (1 : Int32)), .val (.int c0)] [(.ref r0)])) _
        refine XS.iloadN X7.here hx rfl (hb hby d18_11) rfl ?_
        show Steps p.tables e below (T7.setTop (mkF m 12 #[.val (.ref r0), .val (.int (1 : Int32)), .val (.int c0)] [(.int (1 : Int32)), (.ref r0)])) _
        refine st8.trans ?_
        show Steps p.tables e below (T8.setTop (mkF m 15 #[.val (.ref r0), .val (.int (1 : Int32)), .val (.int c0)] [(.int c1)])) _
        refine XS.istoreN X8.here hx rfl (hb hby d18_15) rfl (l' := #[.val (.ref r0), .val (.int (1 : Int32)), .val (.int c1)]) rfl ?_
        show Steps p.tables e below (T8.setTop (mkF m 16 #[.val (.ref r0), .val (.int (1 : Int32)), .val (.int c1)] [])) _
        refine XS.iloadN X8.here hx rfl (hb hby d18_16) rfl ?_
        show Steps p.tables e below (T8.setTop (mkF m 17 #[.val (.ref r0), .val (.int (1 : Int32)), .val (.int c1)] [(.int c1)])) _
        refine XS.bipush X8.here hx rfl (hb hby d18_17) ?_
        exact k
      by_cases hc19_3 : c1 < (32 : Int32)
      · have k10 : ∀ t, Steps p.tables e below (T8.setTop (mkF m 29 #[.val (.ref r0), .val (.int (1 : Int32)), .val (.int c1)] [(.int (0 : Int32))])) t → Steps p.tables e below (s₁.setTop (entryFrame m #[(.ref r0)] 3)) t := by
          intro t k
          refine k9 _ ?_
          show Steps p.tables e below (T8.setTop (mkF m 19 #[.val (.ref r0), .val (.int (1 : Int32)), .val (.int c1)] [(.int (32 : Int32)), (.int c1)])) _
          refine XS.icmpYes X8.here hx rfl (pc0 := 19) (pc' := 28) rfl (hb hby d18_19) rfl (tlt hc19_3).1 (by decide) (by decide) ?_
          show Steps p.tables e below (T8.setTop (mkF m 28 #[.val (.ref r0), .val (.int (1 : Int32)), .val (.int c1)] [])) _
          refine XS.iconst X8.here hx rfl (hb hby d18_28) ?_
          exact k
        obtain ⟨fs, hr, hrun, hended, hW, hsame⟩ := X8.leave (v := some (.int (0 : Int32))) (fun h => by rw [Bd.returns] at h; cases h)
        refine ⟨_, _, k10 _ ?_, hrun, hended, _, _, rfl, ?_, ⟨_, rfl⟩, hW, hsame.mono (by decide) (by decide)⟩
        · exact retN X8 hx (t := .boolean) Bd.returns (by simp) (hb hby d18_29) hr
        · show own_Q (some (.int (own_cb_2 c0 c1))) h0 n0 _ T8.heap _
          rw [e8]
          exact ⟨by simp only [own_cb_2, if_neg hc19_1, if_neg hc25_2, if_pos hc19_3], N8, rfl⟩
      · have k11 : ∀ t, Steps p.tables e below (T8.setTop (mkF m 25 #[.val (.ref r0), .val (.int (1 : Int32)), .val (.int c1)] [(.int (126 : Int32)), (.int c1)])) t → Steps p.tables e below (s₁.setTop (entryFrame m #[(.ref r0)] 3)) t := by
          intro t k
          refine k9 _ ?_
          show Steps p.tables e below (T8.setTop (mkF m 19 #[.val (.ref r0), .val (.int (1 : Int32)), .val (.int c1)] [(.int (32 : Int32)), (.int c1)])) _
          refine XS.icmpNo X8.here hx rfl (hb hby d18_19) rfl (flt hc19_3).1 ?_
          show Steps p.tables e below (T8.setTop (mkF m 22 #[.val (.ref r0), .val (.int (1 : Int32)), .val (.int c1)] [])) _
          refine XS.iloadN X8.here hx rfl (hb hby d18_22) rfl ?_
          show Steps p.tables e below (T8.setTop (mkF m 23 #[.val (.ref r0), .val (.int (1 : Int32)), .val (.int c1)] [(.int c1)])) _
          refine XS.bipush X8.here hx rfl (hb hby d18_23) ?_
          exact k
        by_cases hc25_4 : (126 : Int32) < c1
        · have k12 : ∀ t, Steps p.tables e below (T8.setTop (mkF m 29 #[.val (.ref r0), .val (.int (1 : Int32)), .val (.int c1)] [(.int (0 : Int32))])) t → Steps p.tables e below (s₁.setTop (entryFrame m #[(.ref r0)] 3)) t := by
            intro t k
            refine k11 _ ?_
            show Steps p.tables e below (T8.setTop (mkF m 25 #[.val (.ref r0), .val (.int (1 : Int32)), .val (.int c1)] [(.int (126 : Int32)), (.int c1)])) _
            refine XS.icmpNo X8.here hx rfl (hb hby d18_25) rfl (tlt hc25_4).2.2.2 ?_
            show Steps p.tables e below (T8.setTop (mkF m 28 #[.val (.ref r0), .val (.int (1 : Int32)), .val (.int c1)] [])) _
            refine XS.iconst X8.here hx rfl (hb hby d18_28) ?_
            exact k
          obtain ⟨fs, hr, hrun, hended, hW, hsame⟩ := X8.leave (v := some (.int (0 : Int32))) (fun h => by rw [Bd.returns] at h; cases h)
          refine ⟨_, _, k12 _ ?_, hrun, hended, _, _, rfl, ?_, ⟨_, rfl⟩, hW, hsame.mono (by decide) (by decide)⟩
          · exact retN X8 hx (t := .boolean) Bd.returns (by simp) (hb hby d18_29) hr
          · show own_Q (some (.int (own_cb_2 c0 c1))) h0 n0 _ T8.heap _
            rw [e8]
            exact ⟨by simp only [own_cb_2, if_neg hc19_1, if_neg hc25_2, if_neg hc19_3, if_pos hc25_4], N8, rfl⟩
        · obtain ⟨cq13, kq13, q13a, q13b, q13c⟩ := isOf hZ e8 E_r0
          obtain ⟨_, _, ⟨T13, L13, k13_, n13⟩, -, X13, ⟨Lc13, hQ13, l13, y13, z13⟩, st13⟩ := X8.virtualBack hx (y := (⟨"java/lang/String", "length", "()I"⟩ : MethodName)) (z := (⟨"java/lang/String", "length", "()I"⟩ : MethodName)) hown (mvT hZ (hw _ (List.mem_of_getElem? (i := 103) rfl))) (mvT hZ (hw _ (List.mem_of_getElem? (i := 104) rfl))) (notFace_of_selects (args := #[]) (mvT hZ (hw _ (List.mem_of_getElem? (i := 106) rfl)))) (mvT hZ (hw _ (List.mem_of_getElem? (i := 106) rfl))) (mvT hZ (hw _ (List.mem_of_getElem? (i := 105) rfl))) (by decide) (backOf (W := 1) (rmLn_2 l Z a0 hw [] r0 rv cb c0 c1 w_CS w_E w_F h0 n0 hG O0 hc0 hc1 E_r0 Fv Fc Va) hZ (hw _ (List.mem_of_getElem? (i := 107) rfl)) (hw _ (List.mem_of_getElem? (i := 6) rfl)) (by decide) (by decide)) q13a q13c (g := (mkF m 4 #[.val (.ref r0), .val (.int (2 : Int32)), .val (.int c1)] [(.ref r0), (.int (2 : Int32))])) rfl (by rw [hml]; rfl) (Steps.refl _) (argsL := []) (rest := [(.int (2 : Int32))]) (lenOf pd_11 rfl) rfl (by show 2 * 0 + _ ≤ _; exact Nat.le_of_eq rfl) (hb hby d18_4) (fun _ _ => ⟨rfl, e8, (by decide : 0 + 0 ≤ _), (by decide : 0 + 0 ≤ _)⟩)
          dsimp only [Pt.U, Pt.locs, Pt.cells, Pt.slots] at X13 l13 y13 z13 st13 hQ13
          subst l13 y13 z13
          obtain ⟨rfl, Nq13, e13⟩ := hQ13
          have N13 := Fr.app N8 Nq13
          have k14 : ∀ t, Steps p.tables e below (T13.setTop (mkF m 37 #[.val (.ref r0), .val (.int (2 : Int32)), .val (.int c1)] [(.int (1 : Int32))])) t → Steps p.tables e below (s₁.setTop (entryFrame m #[(.ref r0)] 3)) t := by
            intro t k
            refine k11 _ ?_
            show Steps p.tables e below (T8.setTop (mkF m 25 #[.val (.ref r0), .val (.int (1 : Int32)), .val (.int c1)] [(.int (126 : Int32)), (.int c1)])) _
            refine XS.icmpYes X8.here hx rfl (pc0 := 25) (pc' := 30) rfl (hb hby d18_25) rfl (flt hc25_4).2.2.2 (by decide) (by decide) ?_
            show Steps p.tables e below (T8.setTop (mkF m 30 #[.val (.ref r0), .val (.int (1 : Int32)), .val (.int c1)] [])) _
            refine XS.iinc X8.here hx rfl (hb hby d18_30) rfl (l' := #[.val (.ref r0), .val (.int (2 : Int32)), .val (.int c1)]) rfl ?_
            show Steps p.tables e below (T8.setTop (mkF m 33 #[.val (.ref r0), .val (.int (2 : Int32)), .val (.int c1)] [])) _
            refine XS.goto X8.here hx rfl (pc0 := 33) (pc' := 2) rfl (hb hby d18_33) (by decide) (by decide) ?_
            show Steps p.tables e below (T8.setTop (mkF m 2 #[.val (.ref r0), .val (.int (2 : Int32)), .val (.int c1)] [])) _
            refine XS.iloadN X8.here hx rfl (hb hby d18_2) rfl ?_
            show Steps p.tables e below (T8.setTop (mkF m 3 #[.val (.ref r0), .val (.int (2 : Int32)), .val (.int c1)] [(.int (2 : Int32))])) _
            refine XS.aloadN X8.here hx rfl (hb hby d18_3) rfl rfl ?_
            show Steps p.tables e below (T8.setTop (mkF m 4 #[.val (.ref r0), .val (.int (2 : Int32)), .val (.int c1)] [(.ref r0), (.int (2 : Int32))])) _
            refine st13.trans ?_
            show Steps p.tables e below (T13.setTop (mkF m 7 #[.val (.ref r0), .val (.int (2 : Int32)), .val (.int c1)] [(.int (2 : Int32)), (.int (2 : Int32))])) _
            refine XS.icmpYes X13.here hx rfl (pc0 := 7) (pc' := 36) rfl (hb hby d18_7) rfl (flt (by decide)).2.1 (by decide) (by decide) ?_
            show Steps p.tables e below (T13.setTop (mkF m 36 #[.val (.ref r0), .val (.int (2 : Int32)), .val (.int c1)] [])) _
            refine XS.iconst X13.here hx rfl (hb hby d18_36) ?_
            exact k
          obtain ⟨fs, hr, hrun, hended, hW, hsame⟩ := X13.leave (v := some (.int (1 : Int32))) (fun h => by rw [Bd.returns] at h; cases h)
          refine ⟨_, _, k14 _ ?_, hrun, hended, _, _, rfl, ?_, ⟨_, rfl⟩, hW, hsame.mono (by decide) (by decide)⟩
          · exact retN X13 hx (t := .boolean) Bd.returns (by simp) (hb hby d18_37) hr
          · show own_Q (some (.int (own_cb_2 c0 c1))) h0 n0 _ T13.heap _
            rw [e13]
            exact ⟨by simp only [own_cb_2, if_neg hc19_1, if_neg hc25_2, if_neg hc19_3, if_neg hc25_4], N13, rfl⟩
theorem ef_rm27 (m : MethodId) (x0 : Int32) : entryFrame m #[(.int x0)] 1 = mkF m 0 #[.val (.int x0)] [] := by first | (simp [entryFrame, mkF, argsToLocals, Value.category]; done) | rfl
theorem d27_0 : decode method_4_code 0 = .ok (.iload_n 0, 1) := by decide +kernel
theorem d27_1 : decode method_4_code 1 = .ok (.bipush 32, 2) := by decide +kernel
theorem d27_3 : decode method_4_code 3 = .ok (.if_icmp .lt 13, 3) := by decide +kernel
theorem d27_16 : decode method_4_code 16 = .ok (.iconst 0, 1) := by decide +kernel
theorem d27_17 : decode method_4_code 17 = .ok (.ireturn, 1) := by decide +kernel
theorem d27_6 : decode method_4_code 6 = .ok (.iload_n 0, 1) := by decide +kernel
theorem d27_7 : decode method_4_code 7 = .ok (.bipush 126, 2) := by decide +kernel
theorem d27_9 : decode method_4_code 9 = .ok (.if_icmp .gt 7, 3) := by decide +kernel
theorem d27_12 : decode method_4_code 12 = .ok (.iconst 1, 1) := by decide +kernel
theorem d27_13 : decode method_4_code 13 = .ok (.goto 4, 3) := by decide +kernel
def own_f27 (p0 : Int32) : Int32 := (if p0 < (32 : Int32) then (0 : Int32) else (if (126 : Int32) < p0 then (0 : Int32) else (1 : Int32)))
set_option maxRecDepth 65536 in
set_option maxHeartbeats 40000000 in
theorem rm27 (l : Launch) (Z : State) (a0 : Array Value) (hw : ∀ d ∈ tables_1, d.before a0 Z = true) (ws : List Jvm.Cond) (p0 : Int32) (h0 : Heap) (n0 : Nat) :
    MetFree l (⟨"com/example/indelible_crawl/indeliblecrawl/fetch/ValidatorsIsEmptyPinLaw", "ok", "(C)Z"⟩ : MethodName) (head1 (Jvm.Cond.code (⟨"com/example/indelible_crawl/indeliblecrawl/fetch/ValidatorsIsEmptyPinLaw", "ok", "(C)Z"⟩ : MethodName) method_4_code 1 (some .boolean) :: ws) ({ frames := 0, cells := 0, slots := 0, locals := 0 } : Room)) (fun a U => a = #[(.int p0)] ∧ Z.Warmed39 U.vm ∧ U.heap = h0) (fun _ _ _ _ _ => True) (fun _ U o U' => ∃ v L, o = .returned v ∧ own_Q (some (.int (own_f27 p0))) h0 n0 v U'.heap L ∧ FrameEnd U o U' L ({ frames := 0, cells := 0, slots := 0, locals := 0 } : Room).cells ({ frames := 0, cells := 0, slots := 0, locals := 0 } : Room).slots) := by
  refine MetFree.of_bodySF (plainFor_of_name pn_3) hisR ?_
  intro p e s m args below meth c s₁ Bd hml0 hP hK
  obtain ⟨rfl, hZ, hh⟩ := hP
  have hx := Bd.exec
  have hby := Bd.bytes
  have hml : c.maxLocals = 1 := hml0
  have hown : s.vm.findClass "com/example/indelible_crawl/indeliblecrawl/fetch/ValidatorsIsEmptyPinLaw" = some m.cls := findClass_of_methodNamed Bd.named
  have hnm := (name_of_methodNamed Bd.named Bd.method).1
  have X0 : Stand p l e ({ frames := 0, cells := 0, slots := 0, locals := 0 } : Room) s m #[(.int p0)] below meth c s₁ [] 0 0 := Stand.of_body Bd
  have e0 : s₁.heap = h0 := by rw [← hh, Bd.state]; rfl
  have N0 := Fr.nil n0
  have pre0 : ∀ t, Steps p.tables e below (s₁.setTop (mkF m 0 #[.val (.int p0)] [])) t → Steps p.tables e below (s₁.setTop (entryFrame m #[(.int p0)] 1)) t := fun t k => castTop (ef_rm27 m p0) k
  have k1 : ∀ t, Steps p.tables e below (s₁.setTop (mkF m 3 #[.val (.int p0)] [(.int (32 : Int32)), (.int p0)])) t → Steps p.tables e below (s₁.setTop (entryFrame m #[(.int p0)] 1)) t := by
    intro t k
    refine pre0 _ ?_
    show Steps p.tables e below (s₁.setTop (mkF m 0 #[.val (.int p0)] [])) _
    refine XS.iloadN X0.here hx rfl (hb hby d27_0) rfl ?_
    show Steps p.tables e below (s₁.setTop (mkF m 1 #[.val (.int p0)] [(.int p0)])) _
    refine XS.bipush X0.here hx rfl (hb hby d27_1) ?_
    exact k
  by_cases hc3_1 : p0 < (32 : Int32)
  · have k2 : ∀ t, Steps p.tables e below (s₁.setTop (mkF m 17 #[.val (.int p0)] [(.int (0 : Int32))])) t → Steps p.tables e below (s₁.setTop (entryFrame m #[(.int p0)] 1)) t := by
      intro t k
      refine k1 _ ?_
      show Steps p.tables e below (s₁.setTop (mkF m 3 #[.val (.int p0)] [(.int (32 : Int32)), (.int p0)])) _
      refine XS.icmpYes X0.here hx rfl (pc0 := 3) (pc' := 16) rfl (hb hby d27_3) rfl (tlt hc3_1).1 (by decide) (by decide) ?_
      show Steps p.tables e below (s₁.setTop (mkF m 16 #[.val (.int p0)] [])) _
      refine XS.iconst X0.here hx rfl (hb hby d27_16) ?_
      exact k
    obtain ⟨fs, hr, hrun, hended, hW, hsame⟩ := X0.leave (v := some (.int (0 : Int32))) (fun h => by rw [Bd.returns] at h; cases h)
    refine ⟨_, _, k2 _ ?_, hrun, hended, _, _, rfl, ?_, ⟨_, rfl⟩, hW, hsame.mono (by decide) (by decide)⟩
    · exact retN X0 hx (t := .boolean) Bd.returns (by simp) (hb hby d27_17) hr
    · show own_Q (some (.int (own_f27 p0))) h0 n0 _ s₁.heap _
      rw [e0]
      exact ⟨by simp only [own_f27, if_pos hc3_1], N0, rfl⟩
  · have k3 : ∀ t, Steps p.tables e below (s₁.setTop (mkF m 9 #[.val (.int p0)] [(.int (126 : Int32)), (.int p0)])) t → Steps p.tables e below (s₁.setTop (entryFrame m #[(.int p0)] 1)) t := by
      intro t k
      refine k1 _ ?_
      show Steps p.tables e below (s₁.setTop (mkF m 3 #[.val (.int p0)] [(.int (32 : Int32)), (.int p0)])) _
      refine XS.icmpNo X0.here hx rfl (hb hby d27_3) rfl (flt hc3_1).1 ?_
      show Steps p.tables e below (s₁.setTop (mkF m 6 #[.val (.int p0)] [])) _
      refine XS.iloadN X0.here hx rfl (hb hby d27_6) rfl ?_
      show Steps p.tables e below (s₁.setTop (mkF m 7 #[.val (.int p0)] [(.int p0)])) _
      refine XS.bipush X0.here hx rfl (hb hby d27_7) ?_
      exact k
    by_cases hc9_2 : (126 : Int32) < p0
    · have k4 : ∀ t, Steps p.tables e below (s₁.setTop (mkF m 17 #[.val (.int p0)] [(.int (0 : Int32))])) t → Steps p.tables e below (s₁.setTop (entryFrame m #[(.int p0)] 1)) t := by
        intro t k
        refine k3 _ ?_
        show Steps p.tables e below (s₁.setTop (mkF m 9 #[.val (.int p0)] [(.int (126 : Int32)), (.int p0)])) _
        refine XS.icmpYes X0.here hx rfl (pc0 := 9) (pc' := 16) rfl (hb hby d27_9) rfl (tlt hc9_2).2.2.1 (by decide) (by decide) ?_
        show Steps p.tables e below (s₁.setTop (mkF m 16 #[.val (.int p0)] [])) _
        refine XS.iconst X0.here hx rfl (hb hby d27_16) ?_
        exact k
      obtain ⟨fs, hr, hrun, hended, hW, hsame⟩ := X0.leave (v := some (.int (0 : Int32))) (fun h => by rw [Bd.returns] at h; cases h)
      refine ⟨_, _, k4 _ ?_, hrun, hended, _, _, rfl, ?_, ⟨_, rfl⟩, hW, hsame.mono (by decide) (by decide)⟩
      · exact retN X0 hx (t := .boolean) Bd.returns (by simp) (hb hby d27_17) hr
      · show own_Q (some (.int (own_f27 p0))) h0 n0 _ s₁.heap _
        rw [e0]
        exact ⟨by simp only [own_f27, if_neg hc3_1, if_pos hc9_2], N0, rfl⟩
    · have k5 : ∀ t, Steps p.tables e below (s₁.setTop (mkF m 17 #[.val (.int p0)] [(.int (1 : Int32))])) t → Steps p.tables e below (s₁.setTop (entryFrame m #[(.int p0)] 1)) t := by
        intro t k
        refine k3 _ ?_
        show Steps p.tables e below (s₁.setTop (mkF m 9 #[.val (.int p0)] [(.int (126 : Int32)), (.int p0)])) _
        refine XS.icmpNo X0.here hx rfl (hb hby d27_9) rfl (flt hc9_2).2.2.1 ?_
        show Steps p.tables e below (s₁.setTop (mkF m 12 #[.val (.int p0)] [])) _
        refine XS.iconst X0.here hx rfl (hb hby d27_12) ?_
        show Steps p.tables e below (s₁.setTop (mkF m 13 #[.val (.int p0)] [(.int (1 : Int32))])) _
        refine XS.goto X0.here hx rfl (pc0 := 13) (pc' := 17) rfl (hb hby d27_13) (by decide) (by decide) ?_
        exact k
      obtain ⟨fs, hr, hrun, hended, hW, hsame⟩ := X0.leave (v := some (.int (1 : Int32))) (fun h => by rw [Bd.returns] at h; cases h)
      refine ⟨_, _, k5 _ ?_, hrun, hended, _, _, rfl, ?_, ⟨_, rfl⟩, hW, hsame.mono (by decide) (by decide)⟩
      · exact retN X0 hx (t := .boolean) Bd.returns (by simp) (hb hby d27_17) hr
      · show own_Q (some (.int (own_f27 p0))) h0 n0 _ s₁.heap _
        rw [e0]
        exact ⟨by simp only [own_f27, if_neg hc3_1, if_neg hc9_2], N0, rfl⟩
theorem ef_rm26 (m : MethodId) (x0 : Int32) (x1 : Int32) (x2 : Int32) : entryFrame m #[(.int x0), (.int x1), (.int x2)] 3 = mkF m 0 #[.val (.int x0), .val (.int x1), .val (.int x2)] [] := by first | (simp [entryFrame, mkF, argsToLocals, Value.category]; done) | rfl
theorem d26_0 : decode method_5_code 0 = .ok (.iload_n 0, 1) := by decide +kernel
theorem d26_1 : decode method_5_code 1 = .ok (.iconst 1, 1) := by decide +kernel
theorem d26_2 : decode method_5_code 2 = .ok (.if_icmp .lt 10, 3) := by decide +kernel
theorem d26_12 : decode method_5_code 12 = .ok (.iload_n 0, 1) := by decide +kernel
theorem d26_13 : decode method_5_code 13 = .ok (.iconst 2, 1) := by decide +kernel
theorem d26_14 : decode method_5_code 14 = .ok (.if_icmp .lt 10, 3) := by decide +kernel
theorem d26_24 : decode method_5_code 24 = .ok (.iconst 1, 1) := by decide +kernel
theorem d26_25 : decode method_5_code 25 = .ok (.goto 4, 3) := by decide +kernel
theorem d26_29 : decode method_5_code 29 = .ok (.ireturn, 1) := by decide +kernel
theorem d26_17 : decode method_5_code 17 = .ok (.iload_n 2, 1) := by decide +kernel
theorem d26_18 : decode method_5_code 18 = .ok (.invokestatic 45, 3) := by decide +kernel
theorem d26_21 : decode method_5_code 21 = .ok (.ifCond .eq 7, 3) := by decide +kernel
theorem d26_28 : decode method_5_code 28 = .ok (.iconst 0, 1) := by decide +kernel
theorem d26_5 : decode method_5_code 5 = .ok (.iload_n 1, 1) := by decide +kernel
theorem d26_6 : decode method_5_code 6 = .ok (.invokestatic 45, 3) := by decide +kernel
theorem d26_9 : decode method_5_code 9 = .ok (.ifCond .eq 19, 3) := by decide +kernel
def own_f26 (p0 : Int32) (p1 : Int32) (p2 : Int32) : Int32 := (if p0 < (1 : Int32) then (if p0 < (2 : Int32) then (1 : Int32) else (if (own_f27 p2 ) = (0 : Int32) then (0 : Int32) else (1 : Int32))) else (if (own_f27 p1 ) = (0 : Int32) then (0 : Int32) else (if p0 < (2 : Int32) then (1 : Int32) else (if (own_f27 p2 ) = (0 : Int32) then (0 : Int32) else (1 : Int32)))))
set_option maxRecDepth 65536 in
set_option maxHeartbeats 40000000 in
theorem rm26 (l : Launch) (Z : State) (a0 : Array Value) (hw : ∀ d ∈ tables_1, d.before a0 Z = true) (ws : List Jvm.Cond) (p0 : Int32) (p1 : Int32) (p2 : Int32) (h0 : Heap) (n0 : Nat) :
    MetFree l (⟨"com/example/indelible_crawl/indeliblecrawl/fetch/ValidatorsIsEmptyPinLaw", "sendable", "(ICC)Z"⟩ : MethodName) (head1 (Jvm.Cond.code (⟨"com/example/indelible_crawl/indeliblecrawl/fetch/ValidatorsIsEmptyPinLaw", "sendable", "(ICC)Z"⟩ : MethodName) method_5_code 3 (some .boolean) :: ws) ({ frames := 1, cells := 0, slots := 0, locals := 16 } : Room)) (fun a U => a = #[(.int p0), (.int p1), (.int p2)] ∧ Z.Warmed39 U.vm ∧ U.heap = h0) (fun _ _ _ _ _ => True) (fun _ U o U' => ∃ v L, o = .returned v ∧ own_Q (some (.int (own_f26 p0 p1 p2))) h0 n0 v U'.heap L ∧ FrameEnd U o U' L ({ frames := 1, cells := 0, slots := 0, locals := 16 } : Room).cells ({ frames := 1, cells := 0, slots := 0, locals := 16 } : Room).slots) := by
  refine MetFree.of_bodySF (plainFor_of_name pn_3) hisR ?_
  intro p e s m args below meth c s₁ Bd hml0 hP hK
  obtain ⟨rfl, hZ, hh⟩ := hP
  have hx := Bd.exec
  have hby := Bd.bytes
  have hml : c.maxLocals = 3 := hml0
  have hown : s.vm.findClass "com/example/indelible_crawl/indeliblecrawl/fetch/ValidatorsIsEmptyPinLaw" = some m.cls := findClass_of_methodNamed Bd.named
  have hnm := (name_of_methodNamed Bd.named Bd.method).1
  have X0 : Stand p l e ({ frames := 1, cells := 0, slots := 0, locals := 16 } : Room) s m #[(.int p0), (.int p1), (.int p2)] below meth c s₁ [] 0 0 := Stand.of_body Bd
  have e0 : s₁.heap = h0 := by rw [← hh, Bd.state]; rfl
  have N0 := Fr.nil n0
  have pre0 : ∀ t, Steps p.tables e below (s₁.setTop (mkF m 0 #[.val (.int p0), .val (.int p1), .val (.int p2)] [])) t → Steps p.tables e below (s₁.setTop (entryFrame m #[(.int p0), (.int p1), (.int p2)] 3)) t := fun t k => castTop (ef_rm26 m p0 p1 p2) k
  have k1 : ∀ t, Steps p.tables e below (s₁.setTop (mkF m 2 #[.val (.int p0), .val (.int p1), .val (.int p2)] [(.int (1 : Int32)), (.int p0)])) t → Steps p.tables e below (s₁.setTop (entryFrame m #[(.int p0), (.int p1), (.int p2)] 3)) t := by
    intro t k
    refine pre0 _ ?_
    show Steps p.tables e below (s₁.setTop (mkF m 0 #[.val (.int p0), .val (.int p1), .val (.int p2)] [])) _
    refine XS.iloadN X0.here hx rfl (hb hby d26_0) rfl ?_
    show Steps p.tables e below (s₁.setTop (mkF m 1 #[.val (.int p0), .val (.int p1), .val (.int p2)] [(.int p0)])) _
    refine XS.iconst X0.here hx rfl (hb hby d26_1) ?_
    exact k
  by_cases hc2_1 : p0 < (1 : Int32)
  · have k2 : ∀ t, Steps p.tables e below (s₁.setTop (mkF m 14 #[.val (.int p0), .val (.int p1), .val (.int p2)] [(.int (2 : Int32)), (.int p0)])) t → Steps p.tables e below (s₁.setTop (entryFrame m #[(.int p0), (.int p1), (.int p2)] 3)) t := by
      intro t k
      refine k1 _ ?_
      show Steps p.tables e below (s₁.setTop (mkF m 2 #[.val (.int p0), .val (.int p1), .val (.int p2)] [(.int (1 : Int32)), (.int p0)])) _
      refine XS.icmpYes X0.here hx rfl (pc0 := 2) (pc' := 12) rfl (hb hby d26_2) rfl (tlt hc2_1).1 (by decide) (by decide) ?_
      show Steps p.tables e below (s₁.setTop (mkF m 12 #[.val (.int p0), .val (.int p1), .val (.int p2)] [])) _
      refine XS.iloadN X0.here hx rfl (hb hby d26_12) rfl ?_
      show Steps p.tables e below (s₁.setTop (mkF m 13 #[.val (.int p0), .val (.int p1), .val (.int p2)] [(.int p0)])) _
      refine XS.iconst X0.here hx rfl (hb hby d26_13) ?_
      exact k
    by_cases hc14_2 : p0 < (2 : Int32)
    · have k3 : ∀ t, Steps p.tables e below (s₁.setTop (mkF m 29 #[.val (.int p0), .val (.int p1), .val (.int p2)] [(.int (1 : Int32))])) t → Steps p.tables e below (s₁.setTop (entryFrame m #[(.int p0), (.int p1), (.int p2)] 3)) t := by
        intro t k
        refine k2 _ ?_
        show Steps p.tables e below (s₁.setTop (mkF m 14 #[.val (.int p0), .val (.int p1), .val (.int p2)] [(.int (2 : Int32)), (.int p0)])) _
        refine XS.icmpYes X0.here hx rfl (pc0 := 14) (pc' := 24) rfl (hb hby d26_14) rfl (tlt hc14_2).1 (by decide) (by decide) ?_
        show Steps p.tables e below (s₁.setTop (mkF m 24 #[.val (.int p0), .val (.int p1), .val (.int p2)] [])) _
        refine XS.iconst X0.here hx rfl (hb hby d26_24) ?_
        show Steps p.tables e below (s₁.setTop (mkF m 25 #[.val (.int p0), .val (.int p1), .val (.int p2)] [(.int (1 : Int32))])) _
        refine XS.goto X0.here hx rfl (pc0 := 25) (pc' := 29) rfl (hb hby d26_25) (by decide) (by decide) ?_
        exact k
      obtain ⟨fs, hr, hrun, hended, hW, hsame⟩ := X0.leave (v := some (.int (1 : Int32))) (fun h => by rw [Bd.returns] at h; cases h)
      refine ⟨_, _, k3 _ ?_, hrun, hended, _, _, rfl, ?_, ⟨_, rfl⟩, hW, hsame.mono (by decide) (by decide)⟩
      · exact retN X0 hx (t := .boolean) Bd.returns (by simp) (hb hby d26_29) hr
      · show own_Q (some (.int (own_f26 p0 p1 p2))) h0 n0 _ s₁.heap _
        rw [e0]
        exact ⟨by simp only [own_f26, if_pos hc2_1, if_pos hc14_2], N0, rfl⟩
    · obtain ⟨_, _, ⟨T4, L4, k4_, n4⟩, -, X4, ⟨Lc4, hQ4, l4, y4, z4⟩, st4⟩ := Jvm.LawKit.callS X0 hx (y := (⟨"com/example/indelible_crawl/indeliblecrawl/fetch/ValidatorsIsEmptyPinLaw", "ok", "(C)Z"⟩ : MethodName)) hown (mvT hZ (hw _ (List.mem_of_getElem? (i := 138) rfl))) (mvT hZ (hw _ (List.mem_of_getElem? (i := 139) rfl))) (mvT hZ (hw _ (List.mem_of_getElem? (i := 2) rfl))) (mvT hZ (hw _ (List.mem_of_getElem? (i := 140) rfl))) (by decide) (backOf (W := 0) (rm27 l Z a0 hw [] p2 h0 n0 ) hZ (hw _ (List.mem_of_getElem? (i := 140) rfl)) (hw _ (List.mem_of_getElem? (i := 2) rfl)) (by decide) (by decide)) (g := (mkF m 18 #[.val (.int p0), .val (.int p1), .val (.int p2)] [(.int p2)])) rfl (by rw [hml]; rfl) (argsL := [(.int p2)]) (rest := []) (lenOf pd_4 rfl) rfl (by show 2 * 0 + _ ≤ _; exact Nat.le_of_eq rfl) (hb hby d26_18) (fun _ _ => ⟨rfl, e0, (by decide : 0 + 0 ≤ _), (by decide : 0 + 0 ≤ _)⟩)
      dsimp only [Pt.U, Pt.locs, Pt.cells, Pt.slots] at X4 l4 y4 z4 st4 hQ4
      subst l4 y4 z4
      obtain ⟨rfl, Nq4, e4⟩ := hQ4
      have N4 := Fr.app N0 Nq4
      have k5 : ∀ t, Steps p.tables e below (T4.setTop (mkF m 21 #[.val (.int p0), .val (.int p1), .val (.int p2)] [(.int (own_f27 p2 ))])) t → Steps p.tables e below (s₁.setTop (entryFrame m #[(.int p0), (.int p1), (.int p2)] 3)) t := by
        intro t k
        refine k2 _ ?_
        show Steps p.tables e below (s₁.setTop (mkF m 14 #[.val (.int p0), .val (.int p1), .val (.int p2)] [(.int (2 : Int32)), (.int p0)])) _
        refine XS.icmpNo X0.here hx rfl (hb hby d26_14) rfl (flt hc14_2).1 ?_
        show Steps p.tables e below (s₁.setTop (mkF m 17 #[.val (.int p0), .val (.int p1), .val (.int p2)] [])) _
        refine XS.iloadN X0.here hx rfl (hb hby d26_17) rfl ?_
        show Steps p.tables e below (s₁.setTop (mkF m 18 #[.val (.int p0), .val (.int p1), .val (.int p2)] [(.int p2)])) _
        refine st4 _ ?_
        exact k
      by_cases hc21_3 : (own_f27 p2 ) = (0 : Int32)
      · have k6 : ∀ t, Steps p.tables e below (T4.setTop (mkF m 29 #[.val (.int p0), .val (.int p1), .val (.int p2)] [(.int (0 : Int32))])) t → Steps p.tables e below (s₁.setTop (entryFrame m #[(.int p0), (.int p1), (.int p2)] 3)) t := by
          intro t k
          refine k5 _ ?_
          show Steps p.tables e below (T4.setTop (mkF m 21 #[.val (.int p0), .val (.int p1), .val (.int p2)] [(.int (own_f27 p2 ))])) _
          refine XS.ifYes X4.here hx rfl (pc0 := 21) (pc' := 28) rfl (hb hby d26_21) rfl ((if0 _ _).trans (teq hc21_3).1) (by decide) (by decide) ?_
          show Steps p.tables e below (T4.setTop (mkF m 28 #[.val (.int p0), .val (.int p1), .val (.int p2)] [])) _
          refine XS.iconst X4.here hx rfl (hb hby d26_28) ?_
          exact k
        obtain ⟨fs, hr, hrun, hended, hW, hsame⟩ := X4.leave (v := some (.int (0 : Int32))) (fun h => by rw [Bd.returns] at h; cases h)
        refine ⟨_, _, k6 _ ?_, hrun, hended, _, _, rfl, ?_, ⟨_, rfl⟩, hW, hsame.mono (by decide) (by decide)⟩
        · exact retN X4 hx (t := .boolean) Bd.returns (by simp) (hb hby d26_29) hr
        · show own_Q (some (.int (own_f26 p0 p1 p2))) h0 n0 _ T4.heap _
          rw [e4]
          exact ⟨by simp only [own_f26, if_pos hc2_1, if_neg hc14_2, if_pos hc21_3], N4, rfl⟩
      · have k7 : ∀ t, Steps p.tables e below (T4.setTop (mkF m 29 #[.val (.int p0), .val (.int p1), .val (.int p2)] [(.int (1 : Int32))])) t → Steps p.tables e below (s₁.setTop (entryFrame m #[(.int p0), (.int p1), (.int p2)] 3)) t := by
          intro t k
          refine k5 _ ?_
          show Steps p.tables e below (T4.setTop (mkF m 21 #[.val (.int p0), .val (.int p1), .val (.int p2)] [(.int (own_f27 p2 ))])) _
          refine XS.ifNo X4.here hx rfl (hb hby d26_21) rfl ((if0 _ _).trans (feq hc21_3).1) ?_
          show Steps p.tables e below (T4.setTop (mkF m 24 #[.val (.int p0), .val (.int p1), .val (.int p2)] [])) _
          refine XS.iconst X4.here hx rfl (hb hby d26_24) ?_
          show Steps p.tables e below (T4.setTop (mkF m 25 #[.val (.int p0), .val (.int p1), .val (.int p2)] [(.int (1 : Int32))])) _
          refine XS.goto X4.here hx rfl (pc0 := 25) (pc' := 29) rfl (hb hby d26_25) (by decide) (by decide) ?_
          exact k
        obtain ⟨fs, hr, hrun, hended, hW, hsame⟩ := X4.leave (v := some (.int (1 : Int32))) (fun h => by rw [Bd.returns] at h; cases h)
        refine ⟨_, _, k7 _ ?_, hrun, hended, _, _, rfl, ?_, ⟨_, rfl⟩, hW, hsame.mono (by decide) (by decide)⟩
        · exact retN X4 hx (t := .boolean) Bd.returns (by simp) (hb hby d26_29) hr
        · show own_Q (some (.int (own_f26 p0 p1 p2))) h0 n0 _ T4.heap _
          rw [e4]
          exact ⟨by simp only [own_f26, if_pos hc2_1, if_neg hc14_2, if_neg hc21_3], N4, rfl⟩
  · obtain ⟨_, _, ⟨T8, L8, k8_, n8⟩, -, X8, ⟨Lc8, hQ8, l8, y8, z8⟩, st8⟩ := Jvm.LawKit.callS X0 hx (y := (⟨"com/example/indelible_crawl/indeliblecrawl/fetch/ValidatorsIsEmptyPinLaw", "ok", "(C)Z"⟩ : MethodName)) hown (mvT hZ (hw _ (List.mem_of_getElem? (i := 138) rfl))) (mvT hZ (hw _ (List.mem_of_getElem? (i := 139) rfl))) (mvT hZ (hw _ (List.mem_of_getElem? (i := 2) rfl))) (mvT hZ (hw _ (List.mem_of_getElem? (i := 140) rfl))) (by decide) (backOf (W := 0) (rm27 l Z a0 hw [] p1 h0 n0 ) hZ (hw _ (List.mem_of_getElem? (i := 140) rfl)) (hw _ (List.mem_of_getElem? (i := 2) rfl)) (by decide) (by decide)) (g := (mkF m 6 #[.val (.int p0), .val (.int p1), .val (.int p2)] [(.int p1)])) rfl (by rw [hml]; rfl) (argsL := [(.int p1)]) (rest := []) (lenOf pd_4 rfl) rfl (by show 2 * 0 + _ ≤ _; exact Nat.le_of_eq rfl) (hb hby d26_6) (fun _ _ => ⟨rfl, e0, (by decide : 0 + 0 ≤ _), (by decide : 0 + 0 ≤ _)⟩)
    dsimp only [Pt.U, Pt.locs, Pt.cells, Pt.slots] at X8 l8 y8 z8 st8 hQ8
    subst l8 y8 z8
    obtain ⟨rfl, Nq8, e8⟩ := hQ8
    have N8 := Fr.app N0 Nq8
    have k9 : ∀ t, Steps p.tables e below (T8.setTop (mkF m 9 #[.val (.int p0), .val (.int p1), .val (.int p2)] [(.int (own_f27 p1 ))])) t → Steps p.tables e below (s₁.setTop (entryFrame m #[(.int p0), (.int p1), (.int p2)] 3)) t := by
      intro t k
      refine k1 _ ?_
      show Steps p.tables e below (s₁.setTop (mkF m 2 #[.val (.int p0), .val (.int p1), .val (.int p2)] [(.int (1 : Int32)), (.int p0)])) _
      refine XS.icmpNo X0.here hx rfl (hb hby d26_2) rfl (flt hc2_1).1 ?_
      show Steps p.tables e below (s₁.setTop (mkF m 5 #[.val (.int p0), .val (.int p1), .val (.int p2)] [])) _
      refine XS.iloadN X0.here hx rfl (hb hby d26_5) rfl ?_
      show Steps p.tables e below (s₁.setTop (mkF m 6 #[.val (.int p0), .val (.int p1), .val (.int p2)] [(.int p1)])) _
      refine st8 _ ?_
      exact k
    by_cases hc9_4 : (own_f27 p1 ) = (0 : Int32)
    · have k10 : ∀ t, Steps p.tables e below (T8.setTop (mkF m 29 #[.val (.int p0), .val (.int p1), .val (.int p2)] [(.int (0 : Int32))])) t → Steps p.tables e below (s₁.setTop (entryFrame m #[(.int p0), (.int p1), (.int p2)] 3)) t := by
        intro t k
        refine k9 _ ?_
        show Steps p.tables e below (T8.setTop (mkF m 9 #[.val (.int p0), .val (.int p1), .val (.int p2)] [(.int (own_f27 p1 ))])) _
        refine XS.ifYes X8.here hx rfl (pc0 := 9) (pc' := 28) rfl (hb hby d26_9) rfl ((if0 _ _).trans (teq hc9_4).1) (by decide) (by decide) ?_
        show Steps p.tables e below (T8.setTop (mkF m 28 #[.val (.int p0), .val (.int p1), .val (.int p2)] [])) _
        refine XS.iconst X8.here hx rfl (hb hby d26_28) ?_
        exact k
      obtain ⟨fs, hr, hrun, hended, hW, hsame⟩ := X8.leave (v := some (.int (0 : Int32))) (fun h => by rw [Bd.returns] at h; cases h)
      refine ⟨_, _, k10 _ ?_, hrun, hended, _, _, rfl, ?_, ⟨_, rfl⟩, hW, hsame.mono (by decide) (by decide)⟩
      · exact retN X8 hx (t := .boolean) Bd.returns (by simp) (hb hby d26_29) hr
      · show own_Q (some (.int (own_f26 p0 p1 p2))) h0 n0 _ T8.heap _
        rw [e8]
        exact ⟨by simp only [own_f26, if_neg hc2_1, if_pos hc9_4], N8, rfl⟩
    · have k11 : ∀ t, Steps p.tables e below (T8.setTop (mkF m 14 #[.val (.int p0), .val (.int p1), .val (.int p2)] [(.int (2 : Int32)), (.int p0)])) t → Steps p.tables e below (s₁.setTop (entryFrame m #[(.int p0), (.int p1), (.int p2)] 3)) t := by
        intro t k
        refine k9 _ ?_
        show Steps p.tables e below (T8.setTop (mkF m 9 #[.val (.int p0), .val (.int p1), .val (.int p2)] [(.int (own_f27 p1 ))])) _
        refine XS.ifNo X8.here hx rfl (hb hby d26_9) rfl ((if0 _ _).trans (feq hc9_4).1) ?_
        show Steps p.tables e below (T8.setTop (mkF m 12 #[.val (.int p0), .val (.int p1), .val (.int p2)] [])) _
        refine XS.iloadN X8.here hx rfl (hb hby d26_12) rfl ?_
        show Steps p.tables e below (T8.setTop (mkF m 13 #[.val (.int p0), .val (.int p1), .val (.int p2)] [(.int p0)])) _
        refine XS.iconst X8.here hx rfl (hb hby d26_13) ?_
        exact k
      by_cases hc14_5 : p0 < (2 : Int32)
      · have k12 : ∀ t, Steps p.tables e below (T8.setTop (mkF m 29 #[.val (.int p0), .val (.int p1), .val (.int p2)] [(.int (1 : Int32))])) t → Steps p.tables e below (s₁.setTop (entryFrame m #[(.int p0), (.int p1), (.int p2)] 3)) t := by
          intro t k
          refine k11 _ ?_
          show Steps p.tables e below (T8.setTop (mkF m 14 #[.val (.int p0), .val (.int p1), .val (.int p2)] [(.int (2 : Int32)), (.int p0)])) _
          refine XS.icmpYes X8.here hx rfl (pc0 := 14) (pc' := 24) rfl (hb hby d26_14) rfl (tlt hc14_5).1 (by decide) (by decide) ?_
          show Steps p.tables e below (T8.setTop (mkF m 24 #[.val (.int p0), .val (.int p1), .val (.int p2)] [])) _
          refine XS.iconst X8.here hx rfl (hb hby d26_24) ?_
          show Steps p.tables e below (T8.setTop (mkF m 25 #[.val (.int p0), .val (.int p1), .val (.int p2)] [(.int (1 : Int32))])) _
          refine XS.goto X8.here hx rfl (pc0 := 25) (pc' := 29) rfl (hb hby d26_25) (by decide) (by decide) ?_
          exact k
        obtain ⟨fs, hr, hrun, hended, hW, hsame⟩ := X8.leave (v := some (.int (1 : Int32))) (fun h => by rw [Bd.returns] at h; cases h)
        refine ⟨_, _, k12 _ ?_, hrun, hended, _, _, rfl, ?_, ⟨_, rfl⟩, hW, hsame.mono (by decide) (by decide)⟩
        · exact retN X8 hx (t := .boolean) Bd.returns (by simp) (hb hby d26_29) hr
        · show own_Q (some (.int (own_f26 p0 p1 p2))) h0 n0 _ T8.heap _
          rw [e8]
          exact ⟨by simp only [own_f26, if_neg hc2_1, if_neg hc9_4, if_pos hc14_5], N8, rfl⟩
      · obtain ⟨_, _, ⟨T13, L13, k13_, n13⟩, -, X13, ⟨Lc13, hQ13, l13, y13, z13⟩, st13⟩ := Jvm.LawKit.callS X8 hx (y := (⟨"com/example/indelible_crawl/indeliblecrawl/fetch/ValidatorsIsEmptyPinLaw", "ok", "(C)Z"⟩ : MethodName)) hown (mvT hZ (hw _ (List.mem_of_getElem? (i := 138) rfl))) (mvT hZ (hw _ (List.mem_of_getElem? (i := 139) rfl))) (mvT hZ (hw _ (List.mem_of_getElem? (i := 2) rfl))) (mvT hZ (hw _ (List.mem_of_getElem? (i := 140) rfl))) (by decide) (backOf (W := 0) (rm27 l Z a0 hw [] p2 h0 n0 ) hZ (hw _ (List.mem_of_getElem? (i := 140) rfl)) (hw _ (List.mem_of_getElem? (i := 2) rfl)) (by decide) (by decide)) (g := (mkF m 18 #[.val (.int p0), .val (.int p1), .val (.int p2)] [(.int p2)])) rfl (by rw [hml]; rfl) (argsL := [(.int p2)]) (rest := []) (lenOf pd_4 rfl) rfl (by show 2 * 0 + _ ≤ _; exact Nat.le_of_eq rfl) (hb hby d26_18) (fun _ _ => ⟨rfl, e8, (by decide : 0 + 0 ≤ _), (by decide : 0 + 0 ≤ _)⟩)
        dsimp only [Pt.U, Pt.locs, Pt.cells, Pt.slots] at X13 l13 y13 z13 st13 hQ13
        subst l13 y13 z13
        obtain ⟨rfl, Nq13, e13⟩ := hQ13
        have N13 := Fr.app N8 Nq13
        have k14 : ∀ t, Steps p.tables e below (T13.setTop (mkF m 21 #[.val (.int p0), .val (.int p1), .val (.int p2)] [(.int (own_f27 p2 ))])) t → Steps p.tables e below (s₁.setTop (entryFrame m #[(.int p0), (.int p1), (.int p2)] 3)) t := by
          intro t k
          refine k11 _ ?_
          show Steps p.tables e below (T8.setTop (mkF m 14 #[.val (.int p0), .val (.int p1), .val (.int p2)] [(.int (2 : Int32)), (.int p0)])) _
          refine XS.icmpNo X8.here hx rfl (hb hby d26_14) rfl (flt hc14_5).1 ?_
          show Steps p.tables e below (T8.setTop (mkF m 17 #[.val (.int p0), .val (.int p1), .val (.int p2)] [])) _
          refine XS.iloadN X8.here hx rfl (hb hby d26_17) rfl ?_
          show Steps p.tables e below (T8.setTop (mkF m 18 #[.val (.int p0), .val (.int p1), .val (.int p2)] [(.int p2)])) _
          refine st13 _ ?_
          exact k
        by_cases hc21_6 : (own_f27 p2 ) = (0 : Int32)
        · have k15 : ∀ t, Steps p.tables e below (T13.setTop (mkF m 29 #[.val (.int p0), .val (.int p1), .val (.int p2)] [(.int (0 : Int32))])) t → Steps p.tables e below (s₁.setTop (entryFrame m #[(.int p0), (.int p1), (.int p2)] 3)) t := by
            intro t k
            refine k14 _ ?_
            show Steps p.tables e below (T13.setTop (mkF m 21 #[.val (.int p0), .val (.int p1), .val (.int p2)] [(.int (own_f27 p2 ))])) _
            refine XS.ifYes X13.here hx rfl (pc0 := 21) (pc' := 28) rfl (hb hby d26_21) rfl ((if0 _ _).trans (teq hc21_6).1) (by decide) (by decide) ?_
            show Steps p.tables e below (T13.setTop (mkF m 28 #[.val (.int p0), .val (.int p1), .val (.int p2)] [])) _
            refine XS.iconst X13.here hx rfl (hb hby d26_28) ?_
            exact k
          obtain ⟨fs, hr, hrun, hended, hW, hsame⟩ := X13.leave (v := some (.int (0 : Int32))) (fun h => by rw [Bd.returns] at h; cases h)
          refine ⟨_, _, k15 _ ?_, hrun, hended, _, _, rfl, ?_, ⟨_, rfl⟩, hW, hsame.mono (by decide) (by decide)⟩
          · exact retN X13 hx (t := .boolean) Bd.returns (by simp) (hb hby d26_29) hr
          · show own_Q (some (.int (own_f26 p0 p1 p2))) h0 n0 _ T13.heap _
            rw [e13]
            exact ⟨by simp only [own_f26, if_neg hc2_1, if_neg hc9_4, if_neg hc14_5, if_pos hc21_6], N13, rfl⟩
        · have k16 : ∀ t, Steps p.tables e below (T13.setTop (mkF m 29 #[.val (.int p0), .val (.int p1), .val (.int p2)] [(.int (1 : Int32))])) t → Steps p.tables e below (s₁.setTop (entryFrame m #[(.int p0), (.int p1), (.int p2)] 3)) t := by
            intro t k
            refine k14 _ ?_
            show Steps p.tables e below (T13.setTop (mkF m 21 #[.val (.int p0), .val (.int p1), .val (.int p2)] [(.int (own_f27 p2 ))])) _
            refine XS.ifNo X13.here hx rfl (hb hby d26_21) rfl ((if0 _ _).trans (feq hc21_6).1) ?_
            show Steps p.tables e below (T13.setTop (mkF m 24 #[.val (.int p0), .val (.int p1), .val (.int p2)] [])) _
            refine XS.iconst X13.here hx rfl (hb hby d26_24) ?_
            show Steps p.tables e below (T13.setTop (mkF m 25 #[.val (.int p0), .val (.int p1), .val (.int p2)] [(.int (1 : Int32))])) _
            refine XS.goto X13.here hx rfl (pc0 := 25) (pc' := 29) rfl (hb hby d26_25) (by decide) (by decide) ?_
            exact k
          obtain ⟨fs, hr, hrun, hended, hW, hsame⟩ := X13.leave (v := some (.int (1 : Int32))) (fun h => by rw [Bd.returns] at h; cases h)
          refine ⟨_, _, k16 _ ?_, hrun, hended, _, _, rfl, ?_, ⟨_, rfl⟩, hW, hsame.mono (by decide) (by decide)⟩
          · exact retN X13 hx (t := .boolean) Bd.returns (by simp) (hb hby d26_29) hr
          · show own_Q (some (.int (own_f26 p0 p1 p2))) h0 n0 _ T13.heap _
            rw [e13]
            exact ⟨by simp only [own_f26, if_neg hc2_1, if_neg hc9_4, if_neg hc14_5, if_neg hc21_6], N13, rfl⟩
theorem own_sb_0 (c0 c1 : Int32) : own_f26 (0 : Int32) c0 c1 = own_cb_0 c0 c1 := by
  by_cases h1 : c0 < (32 : Int32) <;> by_cases h2 : (126 : Int32) < c0 <;> by_cases h3 : c1 < (32 : Int32) <;> by_cases h4 : (126 : Int32) < c1 <;> simp [own_f26, own_f27, own_cb_0, h1, h2, h3, h4]
theorem own_sb_1 (c0 c1 : Int32) : own_f26 (1 : Int32) c0 c1 = own_cb_1 c0 c1 := by
  by_cases h1 : c0 < (32 : Int32) <;> by_cases h2 : (126 : Int32) < c0 <;> by_cases h3 : c1 < (32 : Int32) <;> by_cases h4 : (126 : Int32) < c1 <;> simp [own_f26, own_f27, own_cb_1, h1, h2, h3, h4]
theorem own_sb_2 (c0 c1 : Int32) : own_f26 (2 : Int32) c0 c1 = own_cb_2 c0 c1 := by
  by_cases h1 : c0 < (32 : Int32) <;> by_cases h2 : (126 : Int32) < c0 <;> by_cases h3 : c1 < (32 : Int32) <;> by_cases h4 : (126 : Int32) < c1 <;> simp [own_f26, own_f27, own_cb_2, h1, h2, h3, h4]
theorem own_b01 (n c0 c1 : Int32) : own_f26 n c0 c1 = (0 : Int32) ∨ own_f26 n c0 c1 = (1 : Int32) := by
  unfold own_f26
  repeat' split
  all_goals first | exact Or.inl rfl | exact Or.inr rfl
set_option maxRecDepth 65536 in
set_option maxHeartbeats 40000000 in
theorem rmCS (l : Launch) (Z : State) (a0 : Array Value) (hw : ∀ d ∈ tables_1, d.before a0 Z = true) (ws : List Jvm.Cond) (r0 : Addr) (rv : Addr) (cb : ClassId) (n c0 c1 ln : Int32) (vs : List Value) (w_CS : Int32) (w_E : Addr) (w_F : Value) (h0 : Heap) (n0 : Nat) (hG : own_GC Z w_CS w_E w_F) (O0 : Old Z n0 h0) (hc0 : own_c8 c0) (hc1 : own_c8 c1) (E_r0 : Exa Z h0 r0 "java/lang/String") (Fv : Fld Z h0 r0 "java/lang/String" "value" "[B" (.ref rv)) (Fc : Fld Z h0 r0 "java/lang/String" "coder" "B" (.int (0 : Int32))) (Va : Arv Z h0 rv cb .byte ln vs (.int (0 : Int32))) (hdl : own_dl n c0 c1 ln vs) :
    MetFree l (⟨"com/example/indelible_crawl/indeliblecrawl/fetch/Validators", "canBeSent", "(Ljava/lang/String;)Z"⟩ : MethodName) (head1 (Jvm.Cond.code (⟨"com/example/indelible_crawl/indeliblecrawl/fetch/Validators", "canBeSent", "(Ljava/lang/String;)Z"⟩ : MethodName) prog_47_method_3_code 3 (some .boolean) :: ws) ({ frames := 4, cells := 0, slots := 0, locals := 70 } : Room)) (fun a U => a = #[(.ref r0)] ∧ Z.Warmed39 U.vm ∧ U.heap = h0) (fun _ _ _ _ _ => True) (fun _ U o U' => ∃ v L, o = .returned v ∧ own_Q (some (.int (own_f26 n c0 c1))) h0 n0 v U'.heap L ∧ FrameEnd U o U' L ({ frames := 4, cells := 0, slots := 0, locals := 70 } : Room).cells ({ frames := 4, cells := 0, slots := 0, locals := 70 } : Room).slots) := by
  rcases hdl with ⟨rfl, rfl, rfl⟩ | ⟨rfl, rfl, rfl⟩ | ⟨rfl, rfl, rfl⟩
  · rw [own_sb_0]; exact rmCB_0 l Z a0 hw ws r0 rv cb c0 c1 w_CS w_E w_F h0 n0 hG O0 hc0 hc1 E_r0 Fv Fc Va
  · rw [own_sb_1]; exact rmCB_1 l Z a0 hw ws r0 rv cb c0 c1 w_CS w_E w_F h0 n0 hG O0 hc0 hc1 E_r0 Fv Fc Va
  · rw [own_sb_2]; exact rmCB_2 l Z a0 hw ws r0 rv cb c0 c1 w_CS w_E w_F h0 n0 hG O0 hc0 hc1 E_r0 Fv Fc Va
theorem pn_6 : plainName "java/util/Objects" = true := by first | (simp [plainName, overriddenIn]; done) | decide +kernel
theorem ef_rm9 (m : MethodId) (x0 : Addr) : entryFrame m #[(.ref x0)] 1 = mkF m 0 #[.val (.ref x0)] [] := by first | (simp [entryFrame, mkF, argsToLocals, Value.category]; done) | rfl
theorem d9_0 : decode jdk_31_method_10_code 0 = .ok (.aload_n 0, 1) := by decide +kernel
theorem d9_1 : decode jdk_31_method_10_code 1 = .ok (.ifnonnull 11, 3) := by decide +kernel
theorem d9_12 : decode jdk_31_method_10_code 12 = .ok (.aload_n 0, 1) := by decide +kernel
theorem d9_13 : decode jdk_31_method_10_code 13 = .ok (.areturn, 1) := by decide +kernel
set_option maxRecDepth 65536 in
set_option maxHeartbeats 40000000 in
theorem rm9 (l : Launch) (Z : State) (a0 : Array Value) (hw : ∀ d ∈ tables_1, d.before a0 Z = true) (ws : List Jvm.Cond) (r0 : Addr) (h0 : Heap) (n0 : Nat) :
    MetFree l (⟨"java/util/Objects", "requireNonNull", "(Ljava/lang/Object;)Ljava/lang/Object;"⟩ : MethodName) (head1 (Jvm.Cond.code (⟨"java/util/Objects", "requireNonNull", "(Ljava/lang/Object;)Ljava/lang/Object;"⟩ : MethodName) jdk_31_method_10_code 1 (some (.object "java/lang/Object")) :: ws) ({ frames := 0, cells := 0, slots := 0, locals := 0 } : Room)) (fun a U => a = #[(.ref r0)] ∧ Z.Warmed39 U.vm ∧ U.heap = h0) (fun _ _ _ _ _ => True) (fun _ U o U' => ∃ v L, o = .returned v ∧ own_Q (some (.ref r0)) h0 n0 v U'.heap L ∧ FrameEnd U o U' L ({ frames := 0, cells := 0, slots := 0, locals := 0 } : Room).cells ({ frames := 0, cells := 0, slots := 0, locals := 0 } : Room).slots) := by
  refine MetFree.of_bodySF (plainFor_of_name pn_6) hisR ?_
  intro p e s m args below meth c s₁ Bd hml0 hP hK
  obtain ⟨rfl, hZ, hh⟩ := hP
  have hx := Bd.exec
  have hby := Bd.bytes
  have hml : c.maxLocals = 1 := hml0
  have hown : s.vm.findClass "java/util/Objects" = some m.cls := findClass_of_methodNamed Bd.named
  have hnm := (name_of_methodNamed Bd.named Bd.method).1
  have X0 : Stand p l e ({ frames := 0, cells := 0, slots := 0, locals := 0 } : Room) s m #[(.ref r0)] below meth c s₁ [] 0 0 := Stand.of_body Bd
  have e0 : s₁.heap = h0 := by rw [← hh, Bd.state]; rfl
  have N0 := Fr.nil n0
  have pre0 : ∀ t, Steps p.tables e below (s₁.setTop (mkF m 0 #[.val (.ref r0)] [])) t → Steps p.tables e below (s₁.setTop (entryFrame m #[(.ref r0)] 1)) t := fun t k => castTop (ef_rm9 m r0) k
  have k1 : ∀ t, Steps p.tables e below (s₁.setTop (mkF m 13 #[.val (.ref r0)] [(.ref r0)])) t → Steps p.tables e below (s₁.setTop (entryFrame m #[(.ref r0)] 1)) t := by
    intro t k
    refine pre0 _ ?_
    show Steps p.tables e below (s₁.setTop (mkF m 0 #[.val (.ref r0)] [])) _
    refine XS.aloadN X0.here hx rfl (hb hby d9_0) rfl rfl ?_
    show Steps p.tables e below (s₁.setTop (mkF m 1 #[.val (.ref r0)] [(.ref r0)])) _
    refine XS.ifnonnullYes X0.here hx rfl (pc0 := 1) (pc' := 12) rfl (hb hby d9_1) rfl (by decide) (by decide) ?_
    show Steps p.tables e below (s₁.setTop (mkF m 12 #[.val (.ref r0)] [])) _
    refine XS.aloadN X0.here hx rfl (hb hby d9_12) rfl rfl ?_
    exact k
  obtain ⟨fs, hr, hrun, hended, hW, hsame⟩ := X0.leave (v := some (.ref r0)) (fun h => by rw [Bd.returns] at h; cases h)
  refine ⟨_, _, k1 _ ?_, hrun, hended, _, _, rfl, ?_, ⟨_, rfl⟩, hW, hsame.mono (by decide) (by decide)⟩
  · exact retOut X0 hx Bd.returns rfl (Or.inr (Or.inr (Or.inr (Or.inr ⟨rfl, rfl, rfl⟩)))) (hb hby d9_13) hr
  · show own_Q (some (.ref r0)) h0 n0 _ s₁.heap _
    rw [e0]
    exact ⟨rfl, N0, rfl⟩
theorem pn_7 : plainName "java/util/Optional" = true := by first | (simp [plainName, overriddenIn]; done) | decide +kernel
theorem ef_rm5 (m : MethodId)  : entryFrame m #[] 1 = mkF m 0 #[.unset] [] := by first | (simp [entryFrame, mkF, argsToLocals, Value.category]; done) | rfl
theorem d5_0 : decode jdk_32_method_1_code 0 = .ok (.getstatic 1, 3) := by decide +kernel
theorem d5_3 : decode jdk_32_method_1_code 3 = .ok (.astore_n 0, 1) := by decide +kernel
theorem d5_4 : decode jdk_32_method_1_code 4 = .ok (.aload_n 0, 1) := by decide +kernel
theorem d5_5 : decode jdk_32_method_1_code 5 = .ok (.areturn, 1) := by decide +kernel
set_option maxRecDepth 65536 in
set_option maxHeartbeats 40000000 in
theorem rm5 (l : Launch) (Z : State) (a0 : Array Value) (hw : ∀ d ∈ tables_1, d.before a0 Z = true) (ws : List Jvm.Cond) (w_CS : Int32) (w_E : Addr) (w_F : Value) (h0 : Heap) (n0 : Nat) (hG : own_GC Z w_CS w_E w_F) (O0 : Old Z n0 h0) :
    MetFree l (⟨"java/util/Optional", "empty", "()Ljava/util/Optional;"⟩ : MethodName) (head1 (Jvm.Cond.code (⟨"java/util/Optional", "empty", "()Ljava/util/Optional;"⟩ : MethodName) jdk_32_method_1_code 1 (some (.object "java/util/Optional")) :: ws) ({ frames := 0, cells := 0, slots := 0, locals := 0 } : Room)) (fun a U => a = #[] ∧ Z.Warmed39 U.vm ∧ U.heap = h0) (fun _ _ _ _ _ => True) (fun _ U o U' => ∃ v L, o = .returned v ∧ own_Q (some (.ref w_E)) h0 n0 v U'.heap L ∧ FrameEnd U o U' L ({ frames := 0, cells := 0, slots := 0, locals := 0 } : Room).cells ({ frames := 0, cells := 0, slots := 0, locals := 0 } : Room).slots) := by
  refine MetFree.of_bodySF (plainFor_of_name pn_7) hisR ?_
  intro p e s m args below meth c s₁ Bd hml0 hP hK
  obtain ⟨rfl, hZ, hh⟩ := hP
  have hx := Bd.exec
  have hby := Bd.bytes
  have hml : c.maxLocals = 1 := hml0
  have hown : s.vm.findClass "java/util/Optional" = some m.cls := findClass_of_methodNamed Bd.named
  have hnm := (name_of_methodNamed Bd.named Bd.method).1
  have X0 : Stand p l e ({ frames := 0, cells := 0, slots := 0, locals := 0 } : Room) s m #[] below meth c s₁ [] 0 0 := Stand.of_body Bd
  have e0 : s₁.heap = h0 := by rw [← hh, Bd.state]; rfl
  have N0 := Fr.nil n0
  have pre0 : ∀ t, Steps p.tables e below (s₁.setTop (mkF m 0 #[.unset] [])) t → Steps p.tables e below (s₁.setTop (entryFrame m #[] 1)) t := fun t k => castTop (ef_rm5 m ) k
  have hG' := hG
  obtain ⟨S_CS, hCS, S_E, E_E, F_E, S_F, hF⟩ := hG'
  obtain ⟨T1, X1, e1, st1⟩ := getS2 X0 hx hZ hown (host := "") (Or.inl (hw _ (List.mem_of_getElem? (i := 30) rfl))) Via.refl e0 (S_E.ext O0.2) (g := (mkF m 0 #[.unset] [])) rfl (hb hby d5_0)
  have k2 : ∀ t, Steps p.tables e below (T1.setTop (mkF m 5 #[.val (.ref w_E)] [(.ref w_E)])) t → Steps p.tables e below (s₁.setTop (entryFrame m #[] 1)) t := by
    intro t k
    refine pre0 _ ?_
    show Steps p.tables e below (s₁.setTop (mkF m 0 #[.unset] [])) _
    refine st1 _ ?_
    show Steps p.tables e below (T1.setTop (mkF m 3 #[.unset] [(.ref w_E)])) _
    refine XS.astoreN X1.here hx rfl (hb hby d5_3) rfl rfl (l' := #[.val (.ref w_E)]) rfl ?_
    show Steps p.tables e below (T1.setTop (mkF m 4 #[.val (.ref w_E)] [])) _
    refine XS.aloadN X1.here hx rfl (hb hby d5_4) rfl rfl ?_
    exact k
  obtain ⟨fs, hr, hrun, hended, hW, hsame⟩ := X1.leave (v := some (.ref w_E)) (fun h => by rw [Bd.returns] at h; cases h)
  refine ⟨_, _, k2 _ ?_, hrun, hended, _, _, rfl, ?_, ⟨_, rfl⟩, hW, hsame.mono (by decide) (by decide)⟩
  · exact retOut X1 hx Bd.returns rfl (Or.inr (Or.inr (Or.inr (Or.inr ⟨rfl, rfl, rfl⟩)))) (hb hby d5_5) hr
  · show own_Q (some (.ref w_E)) h0 n0 _ T1.heap _
    rw [e1]
    exact ⟨rfl, N0, rfl⟩
theorem ef_rmIE_0 (m : MethodId) (x0 : Addr) : entryFrame m #[(.ref x0)] 1 = mkF m 0 #[.val (.ref x0)] [] := by first | (simp [entryFrame, mkF, argsToLocals, Value.category]; done) | rfl
theorem d10_0 : decode jdk_32_method_7_code 0 = .ok (.aload_n 0, 1) := by decide +kernel
theorem d10_1 : decode jdk_32_method_7_code 1 = .ok (.getfield 13, 3) := by decide +kernel
theorem d10_4 : decode jdk_32_method_7_code 4 = .ok (.ifnonnull 7, 3) := by decide +kernel
theorem d10_7 : decode jdk_32_method_7_code 7 = .ok (.iconst 1, 1) := by decide +kernel
theorem d10_8 : decode jdk_32_method_7_code 8 = .ok (.goto 4, 3) := by decide +kernel
theorem d10_12 : decode jdk_32_method_7_code 12 = .ok (.ireturn, 1) := by decide +kernel
set_option maxRecDepth 65536 in
set_option maxHeartbeats 40000000 in
theorem rmIE_0 (l : Launch) (Z : State) (a0 : Array Value) (hw : ∀ d ∈ tables_1, d.before a0 Z = true) (ws : List Jvm.Cond) (r0 : Addr) (h0 : Heap) (n0 : Nat) (Fo : Fld Z h0 r0 "java/util/Optional" "value" "Ljava/lang/Object;" .null) :
    MetFree l (⟨"java/util/Optional", "isEmpty", "()Z"⟩ : MethodName) (head1 (Jvm.Cond.code (⟨"java/util/Optional", "isEmpty", "()Z"⟩ : MethodName) jdk_32_method_7_code 1 (some .boolean) :: ws) ({ frames := 0, cells := 0, slots := 0, locals := 0 } : Room)) (fun a U => a = #[(.ref r0)] ∧ Z.Warmed39 U.vm ∧ U.heap = h0) (fun _ _ _ _ _ => True) (fun _ U o U' => ∃ v L, o = .returned v ∧ own_Q (some (.int (1 : Int32))) h0 n0 v U'.heap L ∧ FrameEnd U o U' L ({ frames := 0, cells := 0, slots := 0, locals := 0 } : Room).cells ({ frames := 0, cells := 0, slots := 0, locals := 0 } : Room).slots) := by
  refine MetFree.of_bodySF (plainFor_of_name pn_7) hisR ?_
  intro p e s m args below meth c s₁ Bd hml0 hP hK
  obtain ⟨rfl, hZ, hh⟩ := hP
  have hx := Bd.exec
  have hby := Bd.bytes
  have hml : c.maxLocals = 1 := hml0
  have hown : s.vm.findClass "java/util/Optional" = some m.cls := findClass_of_methodNamed Bd.named
  have hnm := (name_of_methodNamed Bd.named Bd.method).1
  have X0 : Stand p l e ({ frames := 0, cells := 0, slots := 0, locals := 0 } : Room) s m #[(.ref r0)] below meth c s₁ [] 0 0 := Stand.of_body Bd
  have e0 : s₁.heap = h0 := by rw [← hh, Bd.state]; rfl
  have N0 := Fr.nil n0
  have pre0 : ∀ t, Steps p.tables e below (s₁.setTop (mkF m 0 #[.val (.ref r0)] [])) t → Steps p.tables e below (s₁.setTop (entryFrame m #[(.ref r0)] 1)) t := fun t k => castTop (ef_rmIE_0 m r0) k
  obtain ⟨T1, X1, e1, st1⟩ := getF X0 hx hZ hown (host := "") (Or.inl (hw _ (List.mem_of_getElem? (i := 60) rfl))) Via.refl e0 Fo (g := (mkF m 1 #[.val (.ref r0)] [(.ref r0)])) rfl rfl (hb hby d10_1)
  have k2 : ∀ t, Steps p.tables e below (T1.setTop (mkF m 12 #[.val (.ref r0)] [(.int (1 : Int32))])) t → Steps p.tables e below (s₁.setTop (entryFrame m #[(.ref r0)] 1)) t := by
    intro t k
    refine pre0 _ ?_
    show Steps p.tables e below (s₁.setTop (mkF m 0 #[.val (.ref r0)] [])) _
    refine XS.aloadN X0.here hx rfl (hb hby d10_0) rfl rfl ?_
    show Steps p.tables e below (s₁.setTop (mkF m 1 #[.val (.ref r0)] [(.ref r0)])) _
    refine st1 _ ?_
    show Steps p.tables e below (T1.setTop (mkF m 4 #[.val (.ref r0)] [.null])) _
    refine XS.ifnonnullNo X1.here hx rfl (hb hby d10_4) rfl ?_
    show Steps p.tables e below (T1.setTop (mkF m 7 #[.val (.ref r0)] [])) _
    refine XS.iconst X1.here hx rfl (hb hby d10_7) ?_
    show Steps p.tables e below (T1.setTop (mkF m 8 #[.val (.ref r0)] [(.int (1 : Int32))])) _
    refine XS.goto X1.here hx rfl (pc0 := 8) (pc' := 12) rfl (hb hby d10_8) (by decide) (by decide) ?_
    exact k
  obtain ⟨fs, hr, hrun, hended, hW, hsame⟩ := X1.leave (v := some (.int (1 : Int32))) (fun h => by rw [Bd.returns] at h; cases h)
  refine ⟨_, _, k2 _ ?_, hrun, hended, _, _, rfl, ?_, ⟨_, rfl⟩, hW, hsame.mono (by decide) (by decide)⟩
  · exact retN X1 hx (t := .boolean) Bd.returns (by simp) (hb hby d10_12) hr
  · show own_Q (some (.int (1 : Int32))) h0 n0 _ T1.heap _
    rw [e1]
    exact ⟨rfl, N0, rfl⟩
theorem ef_rmIE_1 (m : MethodId) (x0 : Addr) : entryFrame m #[(.ref x0)] 1 = mkF m 0 #[.val (.ref x0)] [] := by first | (simp [entryFrame, mkF, argsToLocals, Value.category]; done) | rfl
theorem d10_11 : decode jdk_32_method_7_code 11 = .ok (.iconst 0, 1) := by decide +kernel
set_option maxRecDepth 65536 in
set_option maxHeartbeats 40000000 in
theorem rmIE_1 (l : Launch) (Z : State) (a0 : Array Value) (hw : ∀ d ∈ tables_1, d.before a0 Z = true) (ws : List Jvm.Cond) (r0 : Addr) (q : Addr) (h0 : Heap) (n0 : Nat) (Fo : Fld Z h0 r0 "java/util/Optional" "value" "Ljava/lang/Object;" (.ref q)) :
    MetFree l (⟨"java/util/Optional", "isEmpty", "()Z"⟩ : MethodName) (head1 (Jvm.Cond.code (⟨"java/util/Optional", "isEmpty", "()Z"⟩ : MethodName) jdk_32_method_7_code 1 (some .boolean) :: ws) ({ frames := 0, cells := 0, slots := 0, locals := 0 } : Room)) (fun a U => a = #[(.ref r0)] ∧ Z.Warmed39 U.vm ∧ U.heap = h0) (fun _ _ _ _ _ => True) (fun _ U o U' => ∃ v L, o = .returned v ∧ own_Q (some (.int (0 : Int32))) h0 n0 v U'.heap L ∧ FrameEnd U o U' L ({ frames := 0, cells := 0, slots := 0, locals := 0 } : Room).cells ({ frames := 0, cells := 0, slots := 0, locals := 0 } : Room).slots) := by
  refine MetFree.of_bodySF (plainFor_of_name pn_7) hisR ?_
  intro p e s m args below meth c s₁ Bd hml0 hP hK
  obtain ⟨rfl, hZ, hh⟩ := hP
  have hx := Bd.exec
  have hby := Bd.bytes
  have hml : c.maxLocals = 1 := hml0
  have hown : s.vm.findClass "java/util/Optional" = some m.cls := findClass_of_methodNamed Bd.named
  have hnm := (name_of_methodNamed Bd.named Bd.method).1
  have X0 : Stand p l e ({ frames := 0, cells := 0, slots := 0, locals := 0 } : Room) s m #[(.ref r0)] below meth c s₁ [] 0 0 := Stand.of_body Bd
  have e0 : s₁.heap = h0 := by rw [← hh, Bd.state]; rfl
  have N0 := Fr.nil n0
  have pre0 : ∀ t, Steps p.tables e below (s₁.setTop (mkF m 0 #[.val (.ref r0)] [])) t → Steps p.tables e below (s₁.setTop (entryFrame m #[(.ref r0)] 1)) t := fun t k => castTop (ef_rmIE_1 m r0) k
  obtain ⟨T1, X1, e1, st1⟩ := getF X0 hx hZ hown (host := "") (Or.inl (hw _ (List.mem_of_getElem? (i := 60) rfl))) Via.refl e0 Fo (g := (mkF m 1 #[.val (.ref r0)] [(.ref r0)])) rfl rfl (hb hby d10_1)
  have k2 : ∀ t, Steps p.tables e below (T1.setTop (mkF m 12 #[.val (.ref r0)] [(.int (0 : Int32))])) t → Steps p.tables e below (s₁.setTop (entryFrame m #[(.ref r0)] 1)) t := by
    intro t k
    refine pre0 _ ?_
    show Steps p.tables e below (s₁.setTop (mkF m 0 #[.val (.ref r0)] [])) _
    refine XS.aloadN X0.here hx rfl (hb hby d10_0) rfl rfl ?_
    show Steps p.tables e below (s₁.setTop (mkF m 1 #[.val (.ref r0)] [(.ref r0)])) _
    refine st1 _ ?_
    show Steps p.tables e below (T1.setTop (mkF m 4 #[.val (.ref r0)] [(.ref q)])) _
    refine XS.ifnonnullYes X1.here hx rfl (pc0 := 4) (pc' := 11) rfl (hb hby d10_4) rfl (by decide) (by decide) ?_
    show Steps p.tables e below (T1.setTop (mkF m 11 #[.val (.ref r0)] [])) _
    refine XS.iconst X1.here hx rfl (hb hby d10_11) ?_
    exact k
  obtain ⟨fs, hr, hrun, hended, hW, hsame⟩ := X1.leave (v := some (.int (0 : Int32))) (fun h => by rw [Bd.returns] at h; cases h)
  refine ⟨_, _, k2 _ ?_, hrun, hended, _, _, rfl, ?_, ⟨_, rfl⟩, hW, hsame.mono (by decide) (by decide)⟩
  · exact retN X1 hx (t := .boolean) Bd.returns (by simp) (hb hby d10_12) hr
  · show own_Q (some (.int (0 : Int32))) h0 n0 _ T1.heap _
    rw [e1]
    exact ⟨rfl, N0, rfl⟩
theorem ef_rm17 (m : MethodId) (x0 : Addr) (x1 : Addr) : entryFrame m #[(.ref x0), (.ref x1)] 2 = mkF m 0 #[.val (.ref x0), .val (.ref x1)] [] := by first | (simp [entryFrame, mkF, argsToLocals, Value.category]; done) | rfl
theorem d17_0 : decode jdk_32_method_2_code 0 = .ok (.aload_n 0, 1) := by decide +kernel
theorem d17_1 : decode jdk_32_method_2_code 1 = .ok (.invokespecial 7, 3) := by decide +kernel
theorem d17_4 : decode jdk_32_method_2_code 4 = .ok (.aload_n 0, 1) := by decide +kernel
theorem d17_5 : decode jdk_32_method_2_code 5 = .ok (.aload_n 1, 1) := by decide +kernel
theorem d17_6 : decode jdk_32_method_2_code 6 = .ok (.putfield 13, 3) := by decide +kernel
theorem d17_9 : decode jdk_32_method_2_code 9 = .ok (.return_, 1) := by decide +kernel
def own_C17 (Z : State) (r0 : Addr) (r1 : Addr) (h0 : Heap) (n0 : Nat) (v : Option Value) (h : Heap) (L : List Loc) : Prop := v = none ∧ Fr n0 L ∧ Keep h0 h [r0] ∧ Exa Z h r0 "java/util/Optional" ∧ Fld Z h r0 "java/util/Optional" "value" "Ljava/lang/Object;" (.ref r1)
set_option maxRecDepth 65536 in
set_option maxHeartbeats 40000000 in
theorem rm17 (l : Launch) (Z : State) (a0 : Array Value) (hw : ∀ d ∈ tables_1, d.before a0 Z = true) (ws : List Jvm.Cond) (r0 : Addr) (r1 : Addr) (h0 : Heap) (n0 : Nat) (Z0 : n0 ≤ h0.size) (g_r0 : n0 ≤ r0) (E_r0 : Exa Z h0 r0 "java/util/Optional") (F_value_r0 : Fld Z h0 r0 "java/util/Optional" "value" "Ljava/lang/Object;" .null) :
    MetFree l (⟨"java/util/Optional", "<init>", "(Ljava/lang/Object;)V"⟩ : MethodName) (head1 (Jvm.Cond.code (⟨"java/util/Optional", "<init>", "(Ljava/lang/Object;)V"⟩ : MethodName) jdk_32_method_2_code 2 none :: ws) ({ frames := 2, cells := 0, slots := 0, locals := 24 } : Room)) (fun a U => a = #[(.ref r0), (.ref r1)] ∧ Z.Warmed39 U.vm ∧ U.heap = h0) (fun _ _ _ _ _ => True) (fun _ U o U' => ∃ v L, o = .returned v ∧ own_C17 Z r0 r1 h0 n0 v U'.heap L ∧ FrameEnd U o U' L ({ frames := 2, cells := 0, slots := 0, locals := 24 } : Room).cells ({ frames := 2, cells := 0, slots := 0, locals := 24 } : Room).slots) := by
  refine MetFree.of_bodySF (plainFor_of_name pn_7) hisR ?_
  intro p e s m args below meth c s₁ Bd hml0 hP hK
  obtain ⟨rfl, hZ, hh⟩ := hP
  have hx := Bd.exec
  have hby := Bd.bytes
  have hml : c.maxLocals = 2 := hml0
  have hown : s.vm.findClass "java/util/Optional" = some m.cls := findClass_of_methodNamed Bd.named
  have hnm := (name_of_methodNamed Bd.named Bd.method).1
  have X0 : Stand p l e ({ frames := 2, cells := 0, slots := 0, locals := 24 } : Room) s m #[(.ref r0), (.ref r1)] below meth c s₁ [] 0 0 := Stand.of_body Bd
  have e0 : s₁.heap = h0 := by rw [← hh, Bd.state]; rfl
  have N0 := Fr.nil n0
  have pre0 : ∀ t, Steps p.tables e below (s₁.setTop (mkF m 0 #[.val (.ref r0), .val (.ref r1)] [])) t → Steps p.tables e below (s₁.setTop (entryFrame m #[(.ref r0), (.ref r1)] 2)) t := fun t k => castTop (ef_rm17 m r0 r1) k
  have K0 : Keep h0 h0 [r0] := Keep.refl _ _
  obtain ⟨T1, X1, e1, st1⟩ := initO X0 hx hZ hown (hw _ (List.mem_of_getElem? (i := 97) rfl)) (hw _ (List.mem_of_getElem? (i := 16) rfl)) (hw _ (List.mem_of_getElem? (i := 17) rfl)) e0 (g := (mkF m 1 #[.val (.ref r0), .val (.ref r1)] [(.ref r0)])) rfl (by rw [hml]; rfl) rfl (hb hby d17_1) (by decide) (W := 0) (by show 2 * 0 + _ ≤ _; exact Nat.le_of_eq rfl) (by decide)
  obtain ⟨T2, h2, X2, e2, W2, st2⟩ := putF X1 hx hZ hown (host := "") (Or.inl (hw _ (List.mem_of_getElem? (i := 60) rfl))) Via.refl e1 F_value_r0 E_r0 (Or.inr ⟨(hw _ (List.mem_of_getElem? (i := 61) rfl)), rfl, hnm⟩) (hw _ (List.mem_of_getElem? (i := 92) rfl)) (ty := (.object "java/lang/Object")) (by decide) rfl rfl (g := (mkF m 6 #[.val (.ref r0), .val (.ref r1)] [(.ref r1), (.ref r0)])) rfl rfl (hb hby d17_6)
  replace E_r0 := E_r0.wr W2
  replace K0 := K0.wr W2 (Or.inl (List.mem_of_getElem? (i := 0) rfl))
  replace F_value_r0 := F_value_r0.same W2
  have N2 := Fr.snoc X2 N0 g_r0
  have Zs2 : n0 ≤ h2.size := by rw [W2.size]; exact Z0
  have k3 : ∀ t, Steps p.tables e below (T2.setTop (mkF m 9 #[.val (.ref r0), .val (.ref r1)] [])) t → Steps p.tables e below (s₁.setTop (entryFrame m #[(.ref r0), (.ref r1)] 2)) t := by
    intro t k
    refine pre0 _ ?_
    show Steps p.tables e below (s₁.setTop (mkF m 0 #[.val (.ref r0), .val (.ref r1)] [])) _
    refine XS.aloadN X0.here hx rfl (hb hby d17_0) rfl rfl ?_
    show Steps p.tables e below (s₁.setTop (mkF m 1 #[.val (.ref r0), .val (.ref r1)] [(.ref r0)])) _
    refine st1 _ ?_
    show Steps p.tables e below (T1.setTop (mkF m 4 #[.val (.ref r0), .val (.ref r1)] [])) _
    refine XS.aloadN X1.here hx rfl (hb hby d17_4) rfl rfl ?_
    show Steps p.tables e below (T1.setTop (mkF m 5 #[.val (.ref r0), .val (.ref r1)] [(.ref r0)])) _
    refine XS.aloadN X1.here hx rfl (hb hby d17_5) rfl rfl ?_
    show Steps p.tables e below (T1.setTop (mkF m 6 #[.val (.ref r0), .val (.ref r1)] [(.ref r1), (.ref r0)])) _
    refine st2 _ ?_
    exact k
  obtain ⟨fs, hr, hrun, hended, hW, hsame⟩ := X2.leave (v := none) (fun _ => rfl)
  refine ⟨_, _, k3 _ ?_, hrun, hended, _, _, rfl, ?_, ⟨_, rfl⟩, hW, hsame.mono (by decide) (by decide)⟩
  · exact X2.returnOut hx Bd.returns (hb hby d17_9) hr
  · show own_C17 Z r0 r1 h0 n0 _ T2.heap _
    rw [e2]
    exact ⟨rfl, N2, K0, E_r0, F_value_r0⟩
def own_OO (Z : State) (r0 : Addr) (h0 : Heap) (n0 : Nat) (v : Option Value) (h : Heap) (L : List Loc) : Prop := ∃ b : Addr, v = some (.ref b) ∧ Fr n0 L ∧ Keep h0 h [] ∧ Exa Z h b "java/util/Optional" ∧ Fld Z h b "java/util/Optional" "value" "Ljava/lang/Object;" (.ref r0)
theorem ef_rm16 (m : MethodId) (x0 : Addr) : entryFrame m #[(.ref x0)] 1 = mkF m 0 #[.val (.ref x0)] [] := by first | (simp [entryFrame, mkF, argsToLocals, Value.category]; done) | rfl
theorem d16_0 : decode jdk_32_method_3_code 0 = .ok (.new 2, 3) := by decide +kernel
theorem d16_3 : decode jdk_32_method_3_code 3 = .ok (.dup, 1) := by decide +kernel
theorem d16_4 : decode jdk_32_method_3_code 4 = .ok (.aload_n 0, 1) := by decide +kernel
theorem pd_16 : parseMethodDescriptor "(Ljava/lang/Object;)Ljava/lang/Object;" = some ⟨[(.object "java/lang/Object")], some (.object "java/lang/Object")⟩ := by decide +kernel
theorem d16_5 : decode jdk_32_method_3_code 5 = .ok (.invokestatic 17, 3) := by decide +kernel
theorem pd_17 : parseMethodDescriptor "(Ljava/lang/Object;)V" = some ⟨[(.object "java/lang/Object")], none⟩ := by decide +kernel
theorem d16_8 : decode jdk_32_method_3_code 8 = .ok (.invokespecial 23, 3) := by decide +kernel
theorem d16_11 : decode jdk_32_method_3_code 11 = .ok (.areturn, 1) := by decide +kernel
set_option maxRecDepth 65536 in
set_option maxHeartbeats 40000000 in
theorem rm16 (l : Launch) (Z : State) (a0 : Array Value) (hw : ∀ d ∈ tables_1, d.before a0 Z = true) (ws : List Jvm.Cond) (r0 : Addr) (h0 : Heap) (n0 : Nat) (Z0 : n0 ≤ h0.size) :
    MetFree l (⟨"java/util/Optional", "of", "(Ljava/lang/Object;)Ljava/util/Optional;"⟩ : MethodName) (head1 (Jvm.Cond.code (⟨"java/util/Optional", "of", "(Ljava/lang/Object;)Ljava/util/Optional;"⟩ : MethodName) jdk_32_method_3_code 1 (some (.object "java/util/Optional")) :: ws) ({ frames := 3, cells := 1, slots := 1, locals := 45 } : Room)) (fun a U => a = #[(.ref r0)] ∧ Z.Warmed39 U.vm ∧ U.heap = h0) (fun _ _ _ _ _ => True) (fun _ U o U' => ∃ v L, o = .returned v ∧ own_OO Z r0 h0 n0 v U'.heap L ∧ FrameEnd U o U' L ({ frames := 3, cells := 1, slots := 1, locals := 45 } : Room).cells ({ frames := 3, cells := 1, slots := 1, locals := 45 } : Room).slots) := by
  refine MetFree.of_bodySF (plainFor_of_name pn_7) hisR ?_
  intro p e s m args below meth c s₁ Bd hml0 hP hK
  obtain ⟨rfl, hZ, hh⟩ := hP
  have hx := Bd.exec
  have hby := Bd.bytes
  have hml : c.maxLocals = 1 := hml0
  have hown : s.vm.findClass "java/util/Optional" = some m.cls := findClass_of_methodNamed Bd.named
  have hnm := (name_of_methodNamed Bd.named Bd.method).1
  have X0 : Stand p l e ({ frames := 3, cells := 1, slots := 1, locals := 45 } : Room) s m #[(.ref r0)] below meth c s₁ [] 0 0 := Stand.of_body Bd
  have e0 : s₁.heap = h0 := by rw [← hh, Bd.state]; rfl
  have N0 := Fr.nil n0
  have pre0 : ∀ t, Steps p.tables e below (s₁.setTop (mkF m 0 #[.val (.ref r0)] [])) t → Steps p.tables e below (s₁.setTop (entryFrame m #[(.ref r0)] 1)) t := fun t k => castTop (ef_rm16 m r0) k
  have K0 : Keep h0 h0 [] := Keep.refl _ _
  obtain ⟨T1, h1, X1, e1, E1, A1, D1, -, st1⟩ := newO X0 hx hZ hown (hw _ (List.mem_of_getElem? (i := 91) rfl)) (hw _ (List.mem_of_getElem? (i := 92) rfl)) (hw _ (List.mem_of_getElem? (i := 28) rfl)) e0 (g := (mkF m 0 #[.val (.ref r0)] [])) rfl (hb hby d16_0) (by decide) (by decide)
  obtain ⟨b1, g1⟩ : ∃ z, z = h0.size := ⟨_, rfl⟩
  rw [← g1] at A1 D1 st1
  have gn_b1 : n0 ≤ b1 := Nat.le_trans Z0 (Nat.le_of_eq g1.symm)
  have sz_b1_K0 : h0.size ≤ b1 := Nat.le_trans K0.1 (Nat.le_of_eq g1.symm)
  replace K0 := K0.ext E1
  have Zs1 : n0 ≤ h1.size := Nat.le_trans Z0 E1.1
  have E_b1 := A1
  have F_value_b1 : Fld Z h1 b1 "java/util/Optional" "value" "Ljava/lang/Object;" .null := D1 (Or.inr (hw _ (List.mem_of_getElem? (i := 61) rfl))) (ty := (.object "java/lang/Object")) (by decide)
  obtain ⟨_, _, ⟨T2, L2, k2_, n2⟩, -, X2, ⟨Lc2, hQ2, l2, y2, z2⟩, st2⟩ := Jvm.LawKit.callS X1 hx (y := (⟨"java/util/Objects", "requireNonNull", "(Ljava/lang/Object;)Ljava/lang/Object;"⟩ : MethodName)) hown (mvT hZ (hw _ (List.mem_of_getElem? (i := 51) rfl))) (mvT hZ (hw _ (List.mem_of_getElem? (i := 52) rfl))) (mvT hZ (hw _ (List.mem_of_getElem? (i := 53) rfl))) (mvT hZ (hw _ (List.mem_of_getElem? (i := 54) rfl))) (by decide) (backOf (W := 2) (rm9 l Z a0 hw [] r0 h1 n0) hZ (hw _ (List.mem_of_getElem? (i := 54) rfl)) (hw _ (List.mem_of_getElem? (i := 53) rfl)) (by decide) (by decide)) (g := (mkF m 5 #[.val (.ref r0)] [(.ref r0), (.ref b1), (.ref b1)])) rfl (by rw [hml]; rfl) (argsL := [(.ref r0)]) (rest := [(.ref b1), (.ref b1)]) (lenOf pd_16 rfl) rfl (by show 2 * 0 + _ ≤ _; exact Nat.le_of_eq rfl) (hb hby d16_5) (fun _ _ => ⟨rfl, e1, (by decide : 1 + 0 ≤ _), (by decide : 1 + 0 ≤ _)⟩)
  dsimp only [Pt.U, Pt.locs, Pt.cells, Pt.slots] at X2 l2 y2 z2 st2 hQ2
  subst l2 y2 z2
  obtain ⟨rfl, Nq2, e2⟩ := hQ2
  have N2 := Fr.app N0 Nq2
  obtain ⟨_, _, ⟨T3, L3, k3_, n3⟩, -, X3, ⟨Lc3, hQ3, l3, y3, z3⟩, st3⟩ := X2.specialBack hx (y := (⟨"java/util/Optional", "<init>", "(Ljava/lang/Object;)V"⟩ : MethodName)) rfl hown (mvT hZ (hw _ (List.mem_of_getElem? (i := 93) rfl))) (mvT hZ (hw _ (List.mem_of_getElem? (i := 94) rfl))) (mvT hZ (hw _ (List.mem_of_getElem? (i := 96) rfl))) (by decide) (backOf (W := 1) (rm17 l Z a0 hw [] b1 r0 h1 n0 Zs1 gn_b1 E_b1 F_value_b1) hZ (hw _ (List.mem_of_getElem? (i := 96) rfl)) (hw _ (List.mem_of_getElem? (i := 28) rfl)) (by decide) (by decide)) (g := (mkF m 8 #[.val (.ref r0)] [(.ref r0), (.ref b1), (.ref b1)])) rfl (by rw [hml]; rfl) (Steps.refl _) (a := b1) (argsL := [(.ref r0)]) (rest := [(.ref b1)]) (lenOf pd_17 rfl) rfl (by show 2 * 0 + _ ≤ _; exact Nat.le_of_eq rfl) (hb hby d16_8) (fun _ _ => ⟨rfl, e2, (by decide : 1 + 0 ≤ _), (by decide : 1 + 0 ≤ _)⟩)
  dsimp only [Pt.U, Pt.locs, Pt.cells, Pt.slots] at X3 l3 y3 z3 st3 hQ3
  subst l3 y3 z3
  obtain ⟨rfl, Nq3, Kq3, Eq3, Fn_value_3⟩ := hQ3
  have N3 := Fr.app N2 Nq3
  have Zs3 : n0 ≤ T3.heap.size := Nat.le_trans Zs1 Kq3.1
  replace E_b1 := E_b1.keep Kq3
  replace K0 := K0.trans Kq3 (fun x hx => by cases List.mem_singleton.mp hx; exact (Or.inr sz_b1_K0))
  have k4 : ∀ t, Steps p.tables e below (T3.setTop (mkF m 11 #[.val (.ref r0)] [(.ref b1)])) t → Steps p.tables e below (s₁.setTop (entryFrame m #[(.ref r0)] 1)) t := by
    intro t k
    refine pre0 _ ?_
    show Steps p.tables e below (s₁.setTop (mkF m 0 #[.val (.ref r0)] [])) _
    refine st1 _ ?_
    show Steps p.tables e below (T1.setTop (mkF m 3 #[.val (.ref r0)] [(.ref b1)])) _
    refine XS.dup X1.here hx rfl (hb hby d16_3) rfl rfl ?_
    show Steps p.tables e below (T1.setTop (mkF m 4 #[.val (.ref r0)] [(.ref b1), (.ref b1)])) _
    refine XS.aloadN X1.here hx rfl (hb hby d16_4) rfl rfl ?_
    show Steps p.tables e below (T1.setTop (mkF m 5 #[.val (.ref r0)] [(.ref r0), (.ref b1), (.ref b1)])) _
    refine st2 _ ?_
    show Steps p.tables e below (T2.setTop (mkF m 8 #[.val (.ref r0)] [(.ref r0), (.ref b1), (.ref b1)])) _
    refine st3.trans ?_
    exact k
  obtain ⟨fs, hr, hrun, hended, hW, hsame⟩ := X3.leave (v := some (.ref b1)) (fun h => by rw [Bd.returns] at h; cases h)
  refine ⟨_, _, k4 _ ?_, hrun, hended, _, _, rfl, ?_, ⟨_, rfl⟩, hW, hsame.mono (by decide) (by decide)⟩
  · exact retOut X3 hx Bd.returns rfl (Or.inr (Or.inr (Or.inr (Or.inr ⟨rfl, rfl, rfl⟩)))) (hb hby d16_11) hr
  · show own_OO Z r0 h0 n0 _ T3.heap _
    exact ⟨_, rfl, N3, K0, E_b1, Fn_value_3⟩
theorem ef_rmFN (m : MethodId) (x0 : Addr) (x1 : Addr) : entryFrame m #[(.ref x0), (.ref x1)] 2 = mkF m 0 #[.val (.ref x0), .val (.ref x1)] [] := by first | (simp [entryFrame, mkF, argsToLocals, Value.category]; done) | rfl
theorem d8_0 : decode jdk_32_method_10_code 0 = .ok (.aload_n 1, 1) := by decide +kernel
theorem d8_1 : decode jdk_32_method_10_code 1 = .ok (.invokestatic 17, 3) := by decide +kernel
theorem d8_4 : decode jdk_32_method_10_code 4 = .ok (.pop, 1) := by decide +kernel
theorem d8_5 : decode jdk_32_method_10_code 5 = .ok (.aload_n 0, 1) := by decide +kernel
theorem d8_6 : decode jdk_32_method_10_code 6 = .ok (.invokevirtual 43, 3) := by decide +kernel
theorem d8_9 : decode jdk_32_method_10_code 9 = .ok (.ifCond .eq 5, 3) := by decide +kernel
theorem d8_12 : decode jdk_32_method_10_code 12 = .ok (.aload_n 0, 1) := by decide +kernel
theorem d8_13 : decode jdk_32_method_10_code 13 = .ok (.areturn, 1) := by decide +kernel
set_option maxRecDepth 65536 in
set_option maxHeartbeats 40000000 in
theorem rmFN (l : Launch) (Z : State) (a0 : Array Value) (hw : ∀ d ∈ tables_1, d.before a0 Z = true) (ws : List Jvm.Cond) (r0 : Addr) (r1 : Addr) (h0 : Heap) (n0 : Nat) (E_r0 : Exa Z h0 r0 "java/util/Optional") (Fo : Fld Z h0 r0 "java/util/Optional" "value" "Ljava/lang/Object;" .null) :
    MetFree l (⟨"java/util/Optional", "filter", "(Ljava/util/function/Predicate;)Ljava/util/Optional;"⟩ : MethodName) (head1 (Jvm.Cond.code (⟨"java/util/Optional", "filter", "(Ljava/util/function/Predicate;)Ljava/util/Optional;"⟩ : MethodName) jdk_32_method_10_code 2 (some (.object "java/util/Optional")) :: ws) ({ frames := 6, cells := 0, slots := 0, locals := 110 } : Room)) (fun a U => a = #[(.ref r0), (.ref r1)] ∧ Z.Warmed39 U.vm ∧ U.heap = h0) (fun _ _ _ _ _ => True) (fun _ U o U' => ∃ v L, o = .returned v ∧ own_Q (some (.ref r0)) h0 n0 v U'.heap L ∧ FrameEnd U o U' L ({ frames := 6, cells := 0, slots := 0, locals := 110 } : Room).cells ({ frames := 6, cells := 0, slots := 0, locals := 110 } : Room).slots) := by
  refine MetFree.of_bodySF (plainFor_of_name pn_7) hisR ?_
  intro p e s m args below meth c s₁ Bd hml0 hP hK
  obtain ⟨rfl, hZ, hh⟩ := hP
  have hx := Bd.exec
  have hby := Bd.bytes
  have hml : c.maxLocals = 2 := hml0
  have hown : s.vm.findClass "java/util/Optional" = some m.cls := findClass_of_methodNamed Bd.named
  have hnm := (name_of_methodNamed Bd.named Bd.method).1
  have X0 : Stand p l e ({ frames := 6, cells := 0, slots := 0, locals := 110 } : Room) s m #[(.ref r0), (.ref r1)] below meth c s₁ [] 0 0 := Stand.of_body Bd
  have e0 : s₁.heap = h0 := by rw [← hh, Bd.state]; rfl
  have N0 := Fr.nil n0
  have pre0 : ∀ t, Steps p.tables e below (s₁.setTop (mkF m 0 #[.val (.ref r0), .val (.ref r1)] [])) t → Steps p.tables e below (s₁.setTop (entryFrame m #[(.ref r0), (.ref r1)] 2)) t := fun t k => castTop (ef_rmFN m r0 r1) k
  obtain ⟨_, _, ⟨T1, L1, k1_, n1⟩, -, X1, ⟨Lc1, hQ1, l1, y1, z1⟩, st1⟩ := Jvm.LawKit.callS X0 hx (y := (⟨"java/util/Objects", "requireNonNull", "(Ljava/lang/Object;)Ljava/lang/Object;"⟩ : MethodName)) hown (mvT hZ (hw _ (List.mem_of_getElem? (i := 51) rfl))) (mvT hZ (hw _ (List.mem_of_getElem? (i := 52) rfl))) (mvT hZ (hw _ (List.mem_of_getElem? (i := 53) rfl))) (mvT hZ (hw _ (List.mem_of_getElem? (i := 54) rfl))) (by decide) (backOf (W := 0) (rm9 l Z a0 hw [] r1 h0 n0) hZ (hw _ (List.mem_of_getElem? (i := 54) rfl)) (hw _ (List.mem_of_getElem? (i := 53) rfl)) (by decide) (by decide)) (g := (mkF m 1 #[.val (.ref r0), .val (.ref r1)] [(.ref r1)])) rfl (by rw [hml]; rfl) (argsL := [(.ref r1)]) (rest := []) (lenOf pd_16 rfl) rfl (by show 2 * 0 + _ ≤ _; exact Nat.le_of_eq rfl) (hb hby d8_1) (fun _ _ => ⟨rfl, e0, (by decide : 0 + 0 ≤ _), (by decide : 0 + 0 ≤ _)⟩)
  dsimp only [Pt.U, Pt.locs, Pt.cells, Pt.slots] at X1 l1 y1 z1 st1 hQ1
  subst l1 y1 z1
  obtain ⟨rfl, Nq1, e1⟩ := hQ1
  have N1 := Fr.app N0 Nq1
  obtain ⟨cq2, kq2, q2a, q2b, q2c⟩ := isOf hZ e1 E_r0
  obtain ⟨_, _, ⟨T2, L2, k2_, n2⟩, -, X2, ⟨Lc2, hQ2, l2, y2, z2⟩, st2⟩ := X1.virtualBack hx (y := (⟨"java/util/Optional", "isEmpty", "()Z"⟩ : MethodName)) (z := (⟨"java/util/Optional", "isEmpty", "()Z"⟩ : MethodName)) hown (mvT hZ (hw _ (List.mem_of_getElem? (i := 55) rfl))) (mvT hZ (hw _ (List.mem_of_getElem? (i := 56) rfl))) (notFace_of_selects (args := #[]) (mvT hZ (hw _ (List.mem_of_getElem? (i := 58) rfl)))) (mvT hZ (hw _ (List.mem_of_getElem? (i := 58) rfl))) (mvT hZ (hw _ (List.mem_of_getElem? (i := 57) rfl))) (by decide) (backOf (W := 0) (rmIE_0 l Z a0 hw [] r0  h0 n0 Fo) hZ (hw _ (List.mem_of_getElem? (i := 59) rfl)) (hw _ (List.mem_of_getElem? (i := 28) rfl)) (by decide) (by decide)) q2a q2c (g := (mkF m 6 #[.val (.ref r0), .val (.ref r1)] [(.ref r0)])) rfl (by rw [hml]; rfl) (Steps.refl _) (argsL := []) (rest := []) (lenOf pd_13 rfl) rfl (by show 2 * 0 + _ ≤ _; exact Nat.le_of_eq rfl) (hb hby d8_6) (fun _ _ => ⟨rfl, e1, (by decide : 0 + 0 ≤ _), (by decide : 0 + 0 ≤ _)⟩)
  dsimp only [Pt.U, Pt.locs, Pt.cells, Pt.slots] at X2 l2 y2 z2 st2 hQ2
  subst l2 y2 z2
  obtain ⟨rfl, Nq2, e2⟩ := hQ2
  have N2 := Fr.app N1 Nq2
  have k3 : ∀ t, Steps p.tables e below (T2.setTop (mkF m 13 #[.val (.ref r0), .val (.ref r1)] [(.ref r0)])) t → Steps p.tables e below (s₁.setTop (entryFrame m #[(.ref r0), (.ref r1)] 2)) t := by
    intro t k
    refine pre0 _ ?_
    show Steps p.tables e below (s₁.setTop (mkF m 0 #[.val (.ref r0), .val (.ref r1)] [])) _
    refine XS.aloadN X0.here hx rfl (hb hby d8_0) rfl rfl ?_
    show Steps p.tables e below (s₁.setTop (mkF m 1 #[.val (.ref r0), .val (.ref r1)] [(.ref r1)])) _
    refine st1 _ ?_
    show Steps p.tables e below (T1.setTop (mkF m 4 #[.val (.ref r0), .val (.ref r1)] [(.ref r1)])) _
    refine XS.pop X1.here hx rfl (hb hby d8_4) rfl rfl ?_
    show Steps p.tables e below (T1.setTop (mkF m 5 #[.val (.ref r0), .val (.ref r1)] [])) _
    refine XS.aloadN X1.here hx rfl (hb hby d8_5) rfl rfl ?_
    show Steps p.tables e below (T1.setTop (mkF m 6 #[.val (.ref r0), .val (.ref r1)] [(.ref r0)])) _
    refine st2.trans ?_
    show Steps p.tables e below (T2.setTop (mkF m 9 #[.val (.ref r0), .val (.ref r1)] [(.int (1 : Int32))])) _
    refine XS.ifNo X2.here hx rfl (hb hby d8_9) rfl ((if0 _ _).trans (feq (by decide)).1) ?_
    show Steps p.tables e below (T2.setTop (mkF m 12 #[.val (.ref r0), .val (.ref r1)] [])) _
    refine XS.aloadN X2.here hx rfl (hb hby d8_12) rfl rfl ?_
    exact k
  obtain ⟨fs, hr, hrun, hended, hW, hsame⟩ := X2.leave (v := some (.ref r0)) (fun h => by rw [Bd.returns] at h; cases h)
  refine ⟨_, _, k3 _ ?_, hrun, hended, _, _, rfl, ?_, ⟨_, rfl⟩, hW, hsame.mono (by decide) (by decide)⟩
  · exact retOut X2 hx Bd.returns rfl (Or.inr (Or.inr (Or.inr (Or.inr ⟨rfl, rfl, rfl⟩)))) (hb hby d8_13) hr
  · show own_Q (some (.ref r0)) h0 n0 _ T2.heap _
    rw [e2]
    exact ⟨rfl, N2, rfl⟩
theorem own_met (l : Launch) (Z : State) (a0 : Array Value) (hw : ∀ d ∈ tables_1, d.before a0 Z = true) (q : Addr) (rv : Addr) (cb : ClassId) (n c0 c1 ln : Int32) (vs : List Value) (w_CS : Int32) (w_E : Addr) (w_F : Value) (h0 : Heap) (n0 : Nat) (hG : own_GC Z w_CS w_E w_F) (O0 : Old Z n0 h0) (hc0 : own_c8 c0) (hc1 : own_c8 c1) (E_q : Exa Z h0 q "java/lang/String") (Fv : Fld Z h0 q "java/lang/String" "value" "[B" (.ref rv)) (Fc : Fld Z h0 q "java/lang/String" "coder" "B" (.int (0 : Int32))) (Va : Arv Z h0 rv cb .byte ln vs (.int (0 : Int32))) (hdl : own_dl n c0 c1 ln vs) :
    Met l (⟨"com/example/indelible_crawl/indeliblecrawl/fetch/Validators", "canBeSent", "(Ljava/lang/String;)Z"⟩ : MethodName) [(Jvm.Cond.code (⟨"com/example/indelible_crawl/indeliblecrawl/fetch/Validators", "canBeSent", "(Ljava/lang/String;)Z"⟩ : MethodName) prog_47_method_3_code 3 (some .boolean))] ({ frames := 4, cells := 0, slots := 0, locals := 70 } : Room) (fun a U => a = #[.ref q] ∧ Z.Warmed39 U.vm ∧ U.heap = h0) (fun _ _ o t => ∃ v, o = .returned v ∧ v = some (.int (own_f26 n c0 c1)) ∧ t.heap = h0) 0 0 (fun b => n0 ≤ b) :=
  (rmCS l Z a0 hw [] q rv cb n c0 c1 ln vs w_CS w_E w_F h0 n0 hG O0 hc0 hc1 E_q Fv Fc Va hdl).mono (fun _ _ h => h) (fun _ _ _ _ _ h => h) (fun _ _ _ _ _ ⟨v, L, e1, ⟨e2, e3, e4⟩, hF⟩ => ⟨⟨v, e1, e2, e4⟩, L, hF, e3⟩)
theorem own_nb {x : Int32} (h : x = (0 : Int32) ∨ x = (1 : Int32)) : narrow .boolean (.int x) = .int x := by
  rcases h with rfl | rfl <;> rfl
theorem ef_rmFS (m : MethodId) (x0 : Addr) (x1 : Addr) : entryFrame m #[(.ref x0), (.ref x1)] 2 = mkF m 0 #[.val (.ref x0), .val (.ref x1)] [] := by first | (simp [entryFrame, mkF, argsToLocals, Value.category]; done) | rfl
theorem d8_14 : decode jdk_32_method_10_code 14 = .ok (.aload_n 1, 1) := by decide +kernel
theorem d8_15 : decode jdk_32_method_10_code 15 = .ok (.aload_n 0, 1) := by decide +kernel
theorem d8_16 : decode jdk_32_method_10_code 16 = .ok (.getfield 13, 3) := by decide +kernel
theorem pd_18 : parseMethodDescriptor "(Ljava/lang/Object;)Z" = some ⟨[(.object "java/lang/Object")], some .boolean⟩ := by decide +kernel
theorem pd_19 : parseMethodDescriptor "(Ljava/lang/String;)Z" = some ⟨[(.object "java/lang/String")], some .boolean⟩ := by decide +kernel
theorem d8_19 : decode jdk_32_method_10_code 19 = .ok (.invokeinterface 47 2, 5) := by decide +kernel
theorem d8_24 : decode jdk_32_method_10_code 24 = .ok (.ifCond .eq 7, 3) := by decide +kernel
theorem pd_20 : parseMethodDescriptor "()Ljava/util/Optional;" = some ⟨[], some (.object "java/util/Optional")⟩ := by decide +kernel
theorem d8_31 : decode jdk_32_method_10_code 31 = .ok (.invokestatic 53, 3) := by decide +kernel
theorem d8_34 : decode jdk_32_method_10_code 34 = .ok (.areturn, 1) := by decide +kernel
theorem d8_27 : decode jdk_32_method_10_code 27 = .ok (.aload_n 0, 1) := by decide +kernel
theorem d8_28 : decode jdk_32_method_10_code 28 = .ok (.goto 6, 3) := by decide +kernel
set_option maxRecDepth 65536 in
set_option maxHeartbeats 40000000 in
theorem rmFS (l : Launch) (Z : State) (a0 : Array Value) (hw : ∀ d ∈ tables_1, d.before a0 Z = true) (ws : List Jvm.Cond) (r0 : Addr) (r1 : Addr) (q : Addr) (rv : Addr) (cb : ClassId) (n c0 c1 ln : Int32) (vs : List Value) (cK : ClassId) (w_CS : Int32) (w_E : Addr) (w_F : Value) (h0 : Heap) (n0 : Nat) (hG : own_GC Z w_CS w_E w_F) (O0 : Old Z n0 h0) (LamKitMade : LamKit.Made Z "com/example/indelible_crawl/indeliblecrawl/fetch/Validators" own_sg cK) (hFn : LamKit.FnAt Z.heap r1 cK) (E_r0 : Exa Z h0 r0 "java/util/Optional") (Fo : Fld Z h0 r0 "java/util/Optional" "value" "Ljava/lang/Object;" (.ref q)) (hc0 : own_c8 c0) (hc1 : own_c8 c1) (E_q : Exa Z h0 q "java/lang/String") (Fv : Fld Z h0 q "java/lang/String" "value" "[B" (.ref rv)) (Fc : Fld Z h0 q "java/lang/String" "coder" "B" (.int (0 : Int32))) (Va : Arv Z h0 rv cb .byte ln vs (.int (0 : Int32))) (hdl : own_dl n c0 c1 ln vs) :
    MetFree l (⟨"java/util/Optional", "filter", "(Ljava/util/function/Predicate;)Ljava/util/Optional;"⟩ : MethodName) (head1 (Jvm.Cond.code (⟨"java/util/Optional", "filter", "(Ljava/util/function/Predicate;)Ljava/util/Optional;"⟩ : MethodName) jdk_32_method_10_code 2 (some (.object "java/util/Optional")) :: ws) ({ frames := 6, cells := 0, slots := 0, locals := 110 } : Room)) (fun a U => a = #[(.ref r0), (.ref r1)] ∧ Z.Warmed39 U.vm ∧ U.heap = h0) (fun _ _ _ _ _ => True) (fun _ U o U' => ∃ v L, o = .returned v ∧ own_Q (some (.ref (if (own_f26 n c0 c1) = (0 : Int32) then w_E else r0))) h0 n0 v U'.heap L ∧ FrameEnd U o U' L ({ frames := 6, cells := 0, slots := 0, locals := 110 } : Room).cells ({ frames := 6, cells := 0, slots := 0, locals := 110 } : Room).slots) := by
  refine MetFree.of_bodySF (plainFor_of_name pn_7) hisR ?_
  intro p e s m args below meth c s₁ Bd hml0 hP hK
  obtain ⟨rfl, hZ, hh⟩ := hP
  have hx := Bd.exec
  have hby := Bd.bytes
  have hml : c.maxLocals = 2 := hml0
  have hown : s.vm.findClass "java/util/Optional" = some m.cls := findClass_of_methodNamed Bd.named
  have hnm := (name_of_methodNamed Bd.named Bd.method).1
  have X0 : Stand p l e ({ frames := 6, cells := 0, slots := 0, locals := 110 } : Room) s m #[(.ref r0), (.ref r1)] below meth c s₁ [] 0 0 := Stand.of_body Bd
  have e0 : s₁.heap = h0 := by rw [← hh, Bd.state]; rfl
  have N0 := Fr.nil n0
  have pre0 : ∀ t, Steps p.tables e below (s₁.setTop (mkF m 0 #[.val (.ref r0), .val (.ref r1)] [])) t → Steps p.tables e below (s₁.setTop (entryFrame m #[(.ref r0), (.ref r1)] 2)) t := fun t k => castTop (ef_rmFS m r0 r1) k
  have hG' := hG
  obtain ⟨S_CS, hCS, S_E, E_E, F_E, S_F, hF⟩ := hG'
  have hMd := LamKitMade
  obtain ⟨_, _, ⟨T1, L1, k1_, n1⟩, -, X1, ⟨Lc1, hQ1, l1, y1, z1⟩, st1⟩ := Jvm.LawKit.callS X0 hx (y := (⟨"java/util/Objects", "requireNonNull", "(Ljava/lang/Object;)Ljava/lang/Object;"⟩ : MethodName)) hown (mvT hZ (hw _ (List.mem_of_getElem? (i := 51) rfl))) (mvT hZ (hw _ (List.mem_of_getElem? (i := 52) rfl))) (mvT hZ (hw _ (List.mem_of_getElem? (i := 53) rfl))) (mvT hZ (hw _ (List.mem_of_getElem? (i := 54) rfl))) (by decide) (backOf (W := 0) (rm9 l Z a0 hw [] r1 h0 n0) hZ (hw _ (List.mem_of_getElem? (i := 54) rfl)) (hw _ (List.mem_of_getElem? (i := 53) rfl)) (by decide) (by decide)) (g := (mkF m 1 #[.val (.ref r0), .val (.ref r1)] [(.ref r1)])) rfl (by rw [hml]; rfl) (argsL := [(.ref r1)]) (rest := []) (lenOf pd_16 rfl) rfl (by show 2 * 0 + _ ≤ _; exact Nat.le_of_eq rfl) (hb hby d8_1) (fun _ _ => ⟨rfl, e0, (by decide : 0 + 0 ≤ _), (by decide : 0 + 0 ≤ _)⟩)
  dsimp only [Pt.U, Pt.locs, Pt.cells, Pt.slots] at X1 l1 y1 z1 st1 hQ1
  subst l1 y1 z1
  obtain ⟨rfl, Nq1, e1⟩ := hQ1
  have N1 := Fr.app N0 Nq1
  obtain ⟨cq2, kq2, q2a, q2b, q2c⟩ := isOf hZ e1 E_r0
  obtain ⟨_, _, ⟨T2, L2, k2_, n2⟩, -, X2, ⟨Lc2, hQ2, l2, y2, z2⟩, st2⟩ := X1.virtualBack hx (y := (⟨"java/util/Optional", "isEmpty", "()Z"⟩ : MethodName)) (z := (⟨"java/util/Optional", "isEmpty", "()Z"⟩ : MethodName)) hown (mvT hZ (hw _ (List.mem_of_getElem? (i := 55) rfl))) (mvT hZ (hw _ (List.mem_of_getElem? (i := 56) rfl))) (notFace_of_selects (args := #[]) (mvT hZ (hw _ (List.mem_of_getElem? (i := 58) rfl)))) (mvT hZ (hw _ (List.mem_of_getElem? (i := 58) rfl))) (mvT hZ (hw _ (List.mem_of_getElem? (i := 57) rfl))) (by decide) (backOf (W := 0) (rmIE_1 l Z a0 hw [] r0 q h0 n0 Fo) hZ (hw _ (List.mem_of_getElem? (i := 59) rfl)) (hw _ (List.mem_of_getElem? (i := 28) rfl)) (by decide) (by decide)) q2a q2c (g := (mkF m 6 #[.val (.ref r0), .val (.ref r1)] [(.ref r0)])) rfl (by rw [hml]; rfl) (Steps.refl _) (argsL := []) (rest := []) (lenOf pd_13 rfl) rfl (by show 2 * 0 + _ ≤ _; exact Nat.le_of_eq rfl) (hb hby d8_6) (fun _ _ => ⟨rfl, e1, (by decide : 0 + 0 ≤ _), (by decide : 0 + 0 ≤ _)⟩)
  dsimp only [Pt.U, Pt.locs, Pt.cells, Pt.slots] at X2 l2 y2 z2 st2 hQ2
  subst l2 y2 z2
  obtain ⟨rfl, Nq2, e2⟩ := hQ2
  have N2 := Fr.app N1 Nq2
  obtain ⟨T3, X3, e3, st3⟩ := getF X2 hx hZ hown (host := "") (Or.inl (hw _ (List.mem_of_getElem? (i := 60) rfl))) Via.refl e2 Fo (g := (mkF m 16 #[.val (.ref r0), .val (.ref r1)] [(.ref r0), (.ref r1)])) rfl rfl (hb hby d8_16)
  have k4 : ∀ t, Steps p.tables e below (T3.setTop (mkF m 19 #[.val (.ref r0), .val (.ref r1)] [(.ref q), (.ref r1)])) t → Steps p.tables e below (s₁.setTop (entryFrame m #[(.ref r0), (.ref r1)] 2)) t := by
    intro t k
    refine pre0 _ ?_
    show Steps p.tables e below (s₁.setTop (mkF m 0 #[.val (.ref r0), .val (.ref r1)] [])) _
    refine XS.aloadN X0.here hx rfl (hb hby d8_0) rfl rfl ?_
    show Steps p.tables e below (s₁.setTop (mkF m 1 #[.val (.ref r0), .val (.ref r1)] [(.ref r1)])) _
    refine st1 _ ?_
    show Steps p.tables e below (T1.setTop (mkF m 4 #[.val (.ref r0), .val (.ref r1)] [(.ref r1)])) _
    refine XS.pop X1.here hx rfl (hb hby d8_4) rfl rfl ?_
    show Steps p.tables e below (T1.setTop (mkF m 5 #[.val (.ref r0), .val (.ref r1)] [])) _
    refine XS.aloadN X1.here hx rfl (hb hby d8_5) rfl rfl ?_
    show Steps p.tables e below (T1.setTop (mkF m 6 #[.val (.ref r0), .val (.ref r1)] [(.ref r0)])) _
    refine st2.trans ?_
    show Steps p.tables e below (T2.setTop (mkF m 9 #[.val (.ref r0), .val (.ref r1)] [(.int (0 : Int32))])) _
    refine XS.ifYes X2.here hx rfl (pc0 := 9) (pc' := 14) rfl (hb hby d8_9) rfl ((if0 _ _).trans (teq (by decide)).1) (by decide) (by decide) ?_
    show Steps p.tables e below (T2.setTop (mkF m 14 #[.val (.ref r0), .val (.ref r1)] [])) _
    refine XS.aloadN X2.here hx rfl (hb hby d8_14) rfl rfl ?_
    show Steps p.tables e below (T2.setTop (mkF m 15 #[.val (.ref r0), .val (.ref r1)] [(.ref r1)])) _
    refine XS.aloadN X2.here hx rfl (hb hby d8_15) rfl rfl ?_
    show Steps p.tables e below (T2.setTop (mkF m 16 #[.val (.ref r0), .val (.ref r1)] [(.ref r0), (.ref r1)])) _
    refine st3 _ ?_
    exact k
  obtain ⟨vL5, sL5, tL5, T5, L5, X5, hL5, eL5, -, ⟨v5, ev5, rfl, eh5⟩, st5⟩ := LamKit.callLamS X3 hx (own := "java/util/Optional") (host := "com/example/indelible_crawl/indeliblecrawl/fetch/Validators") (index := 47) (count := 2) (xi := (⟨"java/util/function/Predicate", "test", "(Ljava/lang/Object;)Z"⟩ : MethodName)) (y := (⟨"com/example/indelible_crawl/indeliblecrawl/fetch/Validators", "canBeSent", "(Ljava/lang/String;)Z"⟩ : MethodName)) (σ := own_sg) (own_met l Z a0 hw q rv cb n c0 c1 ln vs w_CS w_E w_F h0 n0 hG O0 hc0 hc1 E_q Fv Fc Va hdl) (fun _ _ _ _ h => h) rfl rfl
    (fun z hz a' U hU => by rw [List.mem_singleton.mp hz]; exact mv (wtrans hZ hU) (hw _ (List.mem_of_getElem? (i := 102) rfl))) (List.mem_singleton.mpr rfl) hown (mvT hZ (hw _ (List.mem_of_getElem? (i := 98) rfl))) (mvT hZ (hw _ (List.mem_of_getElem? (i := 99) rfl))) (mvT hZ (hw _ (List.mem_of_getElem? (i := 100) rfl))) (mvT hZ (hw _ (List.mem_of_getElem? (i := 102) rfl))) (mvT hZ (hw _ (List.mem_of_getElem? (i := 101) rfl))) (mvT hZ (hw _ (List.mem_of_getElem? (i := 33) rfl))) (by decide +kernel) (by decide +kernel) (by decide) (own_made hZ hMd) (by rw [e3]; exact own_fnat O0 hFn) own_fwd own_fd4 own_fd7
    (g := (mkF m 19 #[.val (.ref r0), .val (.ref r1)] [(.ref q), (.ref r1)])) rfl (by rw [hml]; rfl) (argsL := [.ref q]) (argsT := [.ref q]) (rest := []) (L0 := #[.val (.ref r1), .val (.ref q)]) (lenOf pd_18 rfl) (lenOf pd_19 rfl) rfl (hb hby d8_19) (fun _ => rfl) rfl
    (fun U ck bl tg hU hck hh hW k => XS.aloadN hU hx rfl (hb hck own_fd0) rfl rfl (own_cast hx hU hZ hW (own_made hZ hMd) E_q (hh.trans e3) rfl rfl (hb hck own_fd1) k))
    (fun sx w tx h => by obtain ⟨v', e1, rfl, -⟩ := h; cases e1; exact Or.inl ⟨.boolean, _, rfl, Or.inr (Or.inl rfl), own_nb (own_b01 n c0 c1), rfl, rfl⟩) (by decide) (by show 2 * 0 + 0 + (2 + 11) + (3 + 11 + 70) ≤ 110; decide) (by decide) (by decide) (fun U hU e => ⟨rfl, wtrans hZ hU, e.trans e3⟩)
  cases ev5
  have e5 : T5.heap = h0 := eL5.trans eh5
  have N5 := Fr.app N2 (show Fr n0 L5 from hL5)
  have k6 : ∀ t, Steps p.tables e below (T5.setTop (mkF m 24 #[.val (.ref r0), .val (.ref r1)] [(.int (own_f26 n c0 c1))])) t → Steps p.tables e below (s₁.setTop (entryFrame m #[(.ref r0), (.ref r1)] 2)) t := by
    intro t k
    refine k4 _ ?_
    show Steps p.tables e below (T3.setTop (mkF m 19 #[.val (.ref r0), .val (.ref r1)] [(.ref q), (.ref r1)])) _
    refine st5 _ ?_
    exact k
  by_cases hc24_1 : (own_f26 n c0 c1) = (0 : Int32)
  · obtain ⟨_, _, ⟨T7, L7, k7_, n7⟩, -, X7, ⟨Lc7, hQ7, l7, y7, z7⟩, st7⟩ := Jvm.LawKit.callS X5 hx (y := (⟨"java/util/Optional", "empty", "()Ljava/util/Optional;"⟩ : MethodName)) hown (mvT hZ (hw _ (List.mem_of_getElem? (i := 134) rfl))) (mvT hZ (hw _ (List.mem_of_getElem? (i := 27) rfl))) (mvT hZ (hw _ (List.mem_of_getElem? (i := 28) rfl))) (mvT hZ (hw _ (List.mem_of_getElem? (i := 29) rfl))) (by decide) (backOf (W := 0) (rm5 l Z a0 hw [] w_CS w_E w_F h0 n0 hG O0) hZ (hw _ (List.mem_of_getElem? (i := 29) rfl)) (hw _ (List.mem_of_getElem? (i := 28) rfl)) (by decide) (by decide)) (g := (mkF m 31 #[.val (.ref r0), .val (.ref r1)] [])) rfl (by rw [hml]; rfl) (argsL := []) (rest := []) (lenOf pd_20 rfl) rfl (by show 2 * 0 + _ ≤ _; exact Nat.le_of_eq rfl) (hb hby d8_31) (fun _ _ => ⟨rfl, e5, (by decide : 0 + 0 ≤ _), (by decide : 0 + 0 ≤ _)⟩)
    dsimp only [Pt.U, Pt.locs, Pt.cells, Pt.slots] at X7 l7 y7 z7 st7 hQ7
    subst l7 y7 z7
    obtain ⟨rfl, Nq7, e7⟩ := hQ7
    have N7 := Fr.app N5 Nq7
    have k8 : ∀ t, Steps p.tables e below (T7.setTop (mkF m 34 #[.val (.ref r0), .val (.ref r1)] [(.ref w_E)])) t → Steps p.tables e below (s₁.setTop (entryFrame m #[(.ref r0), (.ref r1)] 2)) t := by
      intro t k
      refine k6 _ ?_
      show Steps p.tables e below (T5.setTop (mkF m 24 #[.val (.ref r0), .val (.ref r1)] [(.int (own_f26 n c0 c1))])) _
      refine XS.ifYes X5.here hx rfl (pc0 := 24) (pc' := 31) rfl (hb hby d8_24) rfl ((if0 _ _).trans (teq hc24_1).1) (by decide) (by decide) ?_
      show Steps p.tables e below (T5.setTop (mkF m 31 #[.val (.ref r0), .val (.ref r1)] [])) _
      refine st7 _ ?_
      exact k
    obtain ⟨fs, hr, hrun, hended, hW, hsame⟩ := X7.leave (v := some (.ref w_E)) (fun h => by rw [Bd.returns] at h; cases h)
    refine ⟨_, _, k8 _ ?_, hrun, hended, _, _, rfl, ?_, ⟨_, rfl⟩, hW, hsame.mono (by decide) (by decide)⟩
    · exact retOut X7 hx Bd.returns rfl (Or.inr (Or.inr (Or.inr (Or.inr ⟨rfl, rfl, rfl⟩)))) (hb hby d8_34) hr
    · show own_Q (some (.ref (if (own_f26 n c0 c1) = (0 : Int32) then w_E else r0))) h0 n0 _ T7.heap _
      rw [e7]
      exact ⟨by simp only [if_pos hc24_1], N7, rfl⟩
  · have k9 : ∀ t, Steps p.tables e below (T5.setTop (mkF m 34 #[.val (.ref r0), .val (.ref r1)] [(.ref r0)])) t → Steps p.tables e below (s₁.setTop (entryFrame m #[(.ref r0), (.ref r1)] 2)) t := by
      intro t k
      refine k6 _ ?_
      show Steps p.tables e below (T5.setTop (mkF m 24 #[.val (.ref r0), .val (.ref r1)] [(.int (own_f26 n c0 c1))])) _
      refine XS.ifNo X5.here hx rfl (hb hby d8_24) rfl ((if0 _ _).trans (feq hc24_1).1) ?_
      show Steps p.tables e below (T5.setTop (mkF m 27 #[.val (.ref r0), .val (.ref r1)] [])) _
      refine XS.aloadN X5.here hx rfl (hb hby d8_27) rfl rfl ?_
      show Steps p.tables e below (T5.setTop (mkF m 28 #[.val (.ref r0), .val (.ref r1)] [(.ref r0)])) _
      refine XS.goto X5.here hx rfl (pc0 := 28) (pc' := 34) rfl (hb hby d8_28) (by decide) (by decide) ?_
      exact k
    obtain ⟨fs, hr, hrun, hended, hW, hsame⟩ := X5.leave (v := some (.ref r0)) (fun h => by rw [Bd.returns] at h; cases h)
    refine ⟨_, _, k9 _ ?_, hrun, hended, _, _, rfl, ?_, ⟨_, rfl⟩, hW, hsame.mono (by decide) (by decide)⟩
    · exact retOut X5 hx Bd.returns rfl (Or.inr (Or.inr (Or.inr (Or.inr ⟨rfl, rfl, rfl⟩)))) (hb hby d8_34) hr
    · show own_Q (some (.ref (if (own_f26 n c0 c1) = (0 : Int32) then w_E else r0))) h0 n0 _ T5.heap _
      rw [e5]
      exact ⟨by simp only [if_neg hc24_1], N5, rfl⟩
theorem pn_8 : plainName "java/lang/Record" = true := by first | (simp [plainName, overriddenIn]; done) | decide +kernel
theorem ef_rm7 (m : MethodId) (x0 : Addr) : entryFrame m #[(.ref x0)] 1 = mkF m 0 #[.val (.ref x0)] [] := by first | (simp [entryFrame, mkF, argsToLocals, Value.category]; done) | rfl
theorem d7_0 : decode jdk_30_method_1_code 0 = .ok (.aload_n 0, 1) := by decide +kernel
theorem d7_1 : decode jdk_30_method_1_code 1 = .ok (.invokespecial 1, 3) := by decide +kernel
theorem d7_4 : decode jdk_30_method_1_code 4 = .ok (.return_, 1) := by decide +kernel
set_option maxRecDepth 65536 in
set_option maxHeartbeats 40000000 in
theorem rm7 (l : Launch) (Z : State) (a0 : Array Value) (hw : ∀ d ∈ tables_1, d.before a0 Z = true) (ws : List Jvm.Cond) (r0 : Addr) (h0 : Heap) (n0 : Nat) :
    MetFree l (⟨"java/lang/Record", "<init>", "()V"⟩ : MethodName) (head1 (Jvm.Cond.code (⟨"java/lang/Record", "<init>", "()V"⟩ : MethodName) jdk_30_method_1_code 1 none :: ws) ({ frames := 1, cells := 0, slots := 0, locals := 12 } : Room)) (fun a U => a = #[(.ref r0)] ∧ Z.Warmed39 U.vm ∧ U.heap = h0) (fun _ _ _ _ _ => True) (fun _ U o U' => ∃ v L, o = .returned v ∧ own_Q (none) h0 n0 v U'.heap L ∧ FrameEnd U o U' L ({ frames := 1, cells := 0, slots := 0, locals := 12 } : Room).cells ({ frames := 1, cells := 0, slots := 0, locals := 12 } : Room).slots) := by
  refine MetFree.of_bodySF (plainFor_of_name pn_8) hisR ?_
  intro p e s m args below meth c s₁ Bd hml0 hP hK
  obtain ⟨rfl, hZ, hh⟩ := hP
  have hx := Bd.exec
  have hby := Bd.bytes
  have hml : c.maxLocals = 1 := hml0
  have hown : s.vm.findClass "java/lang/Record" = some m.cls := findClass_of_methodNamed Bd.named
  have hnm := (name_of_methodNamed Bd.named Bd.method).1
  have X0 : Stand p l e ({ frames := 1, cells := 0, slots := 0, locals := 12 } : Room) s m #[(.ref r0)] below meth c s₁ [] 0 0 := Stand.of_body Bd
  have e0 : s₁.heap = h0 := by rw [← hh, Bd.state]; rfl
  have N0 := Fr.nil n0
  have pre0 : ∀ t, Steps p.tables e below (s₁.setTop (mkF m 0 #[.val (.ref r0)] [])) t → Steps p.tables e below (s₁.setTop (entryFrame m #[(.ref r0)] 1)) t := fun t k => castTop (ef_rm7 m r0) k
  obtain ⟨T1, X1, e1, st1⟩ := initO X0 hx hZ hown (hw _ (List.mem_of_getElem? (i := 42) rfl)) (hw _ (List.mem_of_getElem? (i := 16) rfl)) (hw _ (List.mem_of_getElem? (i := 17) rfl)) e0 (g := (mkF m 1 #[.val (.ref r0)] [(.ref r0)])) rfl (by rw [hml]; rfl) rfl (hb hby d7_1) (by decide) (W := 0) (by show 2 * 0 + _ ≤ _; exact Nat.le_of_eq rfl) (by decide)
  have k2 : ∀ t, Steps p.tables e below (T1.setTop (mkF m 4 #[.val (.ref r0)] [])) t → Steps p.tables e below (s₁.setTop (entryFrame m #[(.ref r0)] 1)) t := by
    intro t k
    refine pre0 _ ?_
    show Steps p.tables e below (s₁.setTop (mkF m 0 #[.val (.ref r0)] [])) _
    refine XS.aloadN X0.here hx rfl (hb hby d7_0) rfl rfl ?_
    show Steps p.tables e below (s₁.setTop (mkF m 1 #[.val (.ref r0)] [(.ref r0)])) _
    refine st1 _ ?_
    exact k
  obtain ⟨fs, hr, hrun, hended, hW, hsame⟩ := X1.leave (v := none) (fun _ => rfl)
  refine ⟨_, _, k2 _ ?_, hrun, hended, _, _, rfl, ?_, ⟨_, rfl⟩, hW, hsame.mono (by decide) (by decide)⟩
  · exact X1.returnOut hx Bd.returns (hb hby d7_4) hr
  · show own_Q (none) h0 n0 _ T1.heap _
    rw [e1]
    exact ⟨rfl, N0, rfl⟩
def own_VI (Z : State) (r0 x1 x2 : Addr) (h0 : Heap) (n0 : Nat) (v : Option Value) (h : Heap) (L : List Loc) : Prop := v = none ∧ Fr n0 L ∧ Keep h0 h [r0] ∧ Exa Z h r0 "com/example/indelible_crawl/indeliblecrawl/fetch/Validators" ∧ Fld Z h r0 "com/example/indelible_crawl/indeliblecrawl/fetch/Validators" "lastModified" "Ljava/util/Optional;" (.ref x1) ∧ Fld Z h r0 "com/example/indelible_crawl/indeliblecrawl/fetch/Validators" "etag" "Ljava/util/Optional;" (.ref x2)
theorem ef_rmVI_0_0 (m : MethodId) (x0 : Addr) (x1 : Addr) (x2 : Addr) : entryFrame m #[(.ref x0), (.ref x1), (.ref x2)] 3 = mkF m 0 #[.val (.ref x0), .val (.ref x1), .val (.ref x2)] [] := by first | (simp [entryFrame, mkF, argsToLocals, Value.category]; done) | rfl
theorem d6_0 : decode prog_47_method_1_code 0 = .ok (.aload_n 0, 1) := by decide +kernel
theorem pd_21 : parseMethodDescriptor "()V" = some ⟨[], none⟩ := by decide +kernel
theorem d6_1 : decode prog_47_method_1_code 1 = .ok (.invokespecial 1, 3) := by decide +kernel
theorem d6_4 : decode prog_47_method_1_code 4 = .ok (.aload_n 1, 1) := by decide +kernel
theorem d6_5 : decode prog_47_method_1_code 5 = .ok (.invokedynamic 7, 5) := by decide +kernel
theorem pd_22 : parseMethodDescriptor "(Ljava/util/function/Predicate;)Ljava/util/Optional;" = some ⟨[(.object "java/util/function/Predicate")], some (.object "java/util/Optional")⟩ := by decide +kernel
theorem d6_10 : decode prog_47_method_1_code 10 = .ok (.invokevirtual 11, 3) := by decide +kernel
theorem d6_13 : decode prog_47_method_1_code 13 = .ok (.astore_n 1, 1) := by decide +kernel
theorem d6_14 : decode prog_47_method_1_code 14 = .ok (.aload_n 2, 1) := by decide +kernel
theorem d6_15 : decode prog_47_method_1_code 15 = .ok (.invokedynamic 7, 5) := by decide +kernel
theorem d6_20 : decode prog_47_method_1_code 20 = .ok (.invokevirtual 11, 3) := by decide +kernel
theorem d6_23 : decode prog_47_method_1_code 23 = .ok (.astore_n 2, 1) := by decide +kernel
theorem d6_24 : decode prog_47_method_1_code 24 = .ok (.aload_n 0, 1) := by decide +kernel
theorem d6_25 : decode prog_47_method_1_code 25 = .ok (.aload_n 1, 1) := by decide +kernel
theorem d6_26 : decode prog_47_method_1_code 26 = .ok (.putfield 17, 3) := by decide +kernel
theorem d6_29 : decode prog_47_method_1_code 29 = .ok (.aload_n 0, 1) := by decide +kernel
theorem d6_30 : decode prog_47_method_1_code 30 = .ok (.aload_n 2, 1) := by decide +kernel
theorem d6_31 : decode prog_47_method_1_code 31 = .ok (.putfield 23, 3) := by decide +kernel
theorem d6_34 : decode prog_47_method_1_code 34 = .ok (.return_, 1) := by decide +kernel
set_option maxRecDepth 65536 in
set_option maxHeartbeats 40000000 in
theorem rmVI_0_0 (l : Launch) (Z : State) (a0 : Array Value) (hw : ∀ d ∈ tables_1, d.before a0 Z = true) (ws : List Jvm.Cond) (r0 : Addr) (r1 : Addr) (r2 : Addr) (w_CS : Int32) (w_E : Addr) (w_F : Value) (h0 : Heap) (n0 : Nat) (hG : own_GC Z w_CS w_E w_F) (O0 : Old Z n0 h0) (g_r0 : n0 ≤ r0) (E_r0 : Exa Z h0 r0 "com/example/indelible_crawl/indeliblecrawl/fetch/Validators") (F_lastModified : Fld Z h0 r0 "com/example/indelible_crawl/indeliblecrawl/fetch/Validators" "lastModified" "Ljava/util/Optional;" .null) (F_etag : Fld Z h0 r0 "com/example/indelible_crawl/indeliblecrawl/fetch/Validators" "etag" "Ljava/util/Optional;" .null) (E_r1 : Exa Z h0 r1 "java/util/Optional") (Fo1 : Fld Z h0 r1 "java/util/Optional" "value" "Ljava/lang/Object;" .null) (E_r2 : Exa Z h0 r2 "java/util/Optional") (Fo2 : Fld Z h0 r2 "java/util/Optional" "value" "Ljava/lang/Object;" .null) :
    MetFree l (⟨"com/example/indelible_crawl/indeliblecrawl/fetch/Validators", "<init>", "(Ljava/util/Optional;Ljava/util/Optional;)V"⟩ : MethodName) (head1 (Jvm.Cond.code (⟨"com/example/indelible_crawl/indeliblecrawl/fetch/Validators", "<init>", "(Ljava/util/Optional;Ljava/util/Optional;)V"⟩ : MethodName) prog_47_method_1_code 3 none :: ws) ({ frames := 7, cells := 0, slots := 0, locals := 3140 } : Room)) (fun a U => a = #[(.ref r0), (.ref r1), (.ref r2)] ∧ Z.Warmed39 U.vm ∧ U.heap = h0) (fun _ _ _ _ _ => True) (fun _ U o U' => ∃ v L, o = .returned v ∧ own_VI Z r0 r1 r2 h0 n0 v U'.heap L ∧ FrameEnd U o U' L ({ frames := 7, cells := 0, slots := 0, locals := 3140 } : Room).cells ({ frames := 7, cells := 0, slots := 0, locals := 3140 } : Room).slots) := by
  refine MetFree.of_bodySF (plainFor_of_name pn_5) hisR ?_
  intro p e s m args below meth c s₁ Bd hml0 hP hK
  obtain ⟨rfl, hZ, hh⟩ := hP
  have hx := Bd.exec
  have hby := Bd.bytes
  have hml : c.maxLocals = 3 := hml0
  have hown : s.vm.findClass "com/example/indelible_crawl/indeliblecrawl/fetch/Validators" = some m.cls := findClass_of_methodNamed Bd.named
  have hnm := (name_of_methodNamed Bd.named Bd.method).1
  have X0 : Stand p l e ({ frames := 7, cells := 0, slots := 0, locals := 3140 } : Room) s m #[(.ref r0), (.ref r1), (.ref r2)] below meth c s₁ [] 0 0 := Stand.of_body Bd
  have e0 : s₁.heap = h0 := by rw [← hh, Bd.state]; rfl
  have N0 := Fr.nil n0
  have pre0 : ∀ t, Steps p.tables e below (s₁.setTop (mkF m 0 #[.val (.ref r0), .val (.ref r1), .val (.ref r2)] [])) t → Steps p.tables e below (s₁.setTop (entryFrame m #[(.ref r0), (.ref r1), (.ref r2)] 3)) t := fun t k => castTop (ef_rmVI_0_0 m r0 r1 r2) k
  have hG' := hG
  obtain ⟨S_CS, hCS, S_E, E_E, F_E, S_F, hF⟩ := hG'
  have K0 : Keep h0 h0 [r0] := Keep.refl _ _
  obtain ⟨_, _, ⟨T1, L1, k1_, n1⟩, -, X1, ⟨Lc1, hQ1, l1, y1, z1⟩, st1⟩ := X0.specialBack hx (y := (⟨"java/lang/Record", "<init>", "()V"⟩ : MethodName)) rfl hown (mvT hZ (hw _ (List.mem_of_getElem? (i := 37) rfl))) (mvT hZ (hw _ (List.mem_of_getElem? (i := 38) rfl))) (mvT hZ (hw _ (List.mem_of_getElem? (i := 41) rfl))) (by decide) (backOf (W := 0) (rm7 l Z a0 hw [] r0 h0 n0 ) hZ (hw _ (List.mem_of_getElem? (i := 41) rfl)) (hw _ (List.mem_of_getElem? (i := 40) rfl)) (by decide) (by decide)) (g := (mkF m 1 #[.val (.ref r0), .val (.ref r1), .val (.ref r2)] [(.ref r0)])) rfl (by rw [hml]; rfl) (Steps.refl _) (a := r0) (argsL := []) (rest := []) (lenOf pd_21 rfl) rfl (by show 2 * 0 + _ ≤ _; exact Nat.le_of_eq rfl) (hb hby d6_1) (fun _ _ => ⟨rfl, e0, (by decide : 0 + 0 ≤ _), (by decide : 0 + 0 ≤ _)⟩)
  dsimp only [Pt.U, Pt.locs, Pt.cells, Pt.slots] at X1 l1 y1 z1 st1 hQ1
  subst l1 y1 z1
  obtain ⟨rfl, Nq1, e1⟩ := hQ1
  have N1 := Fr.app N0 Nq1
  obtain ⟨a2, cK2, hMd2, hFn2, st2⟩ := own_dyn X1 hx hZ (x := (⟨"com/example/indelible_crawl/indeliblecrawl/fetch/Validators", "<init>", "(Ljava/util/Optional;Ljava/util/Optional;)V"⟩ : MethodName)) (pc := 5) (index := 7) (sh := own_sg) Bd.named (hw _ (List.mem_of_getElem? (i := 43) rfl)) rfl (g := (mkF m 5 #[.val (.ref r0), .val (.ref r1), .val (.ref r2)] [(.ref r1)])) rfl rfl (by rw [hml]; rfl) (hb hby d6_5) (by show 2 * 0 + 1 + 3072 ≤ 3140; decide)
  obtain ⟨cq3, kq3, q3a, q3b, q3c⟩ := isOf hZ e1 E_r1
  obtain ⟨_, _, ⟨T3, L3, k3_, n3⟩, -, X3, ⟨Lc3, hQ3, l3, y3, z3⟩, st3⟩ := X1.virtualBack hx (y := (⟨"java/util/Optional", "filter", "(Ljava/util/function/Predicate;)Ljava/util/Optional;"⟩ : MethodName)) (z := (⟨"java/util/Optional", "filter", "(Ljava/util/function/Predicate;)Ljava/util/Optional;"⟩ : MethodName)) hown (mvT hZ (hw _ (List.mem_of_getElem? (i := 46) rfl))) (mvT hZ (hw _ (List.mem_of_getElem? (i := 47) rfl))) (notFace_of_selects (args := #[]) (mvT hZ (hw _ (List.mem_of_getElem? (i := 49) rfl)))) (mvT hZ (hw _ (List.mem_of_getElem? (i := 49) rfl))) (mvT hZ (hw _ (List.mem_of_getElem? (i := 48) rfl))) (by decide) (backOf (W := 0) (rmFN l Z a0 hw [] r1 a2 h0 n0 E_r1 Fo1) hZ (hw _ (List.mem_of_getElem? (i := 50) rfl)) (hw _ (List.mem_of_getElem? (i := 28) rfl)) (by decide) (by decide)) q3a q3c (g := (mkF m 10 #[.val (.ref r0), .val (.ref r1), .val (.ref r2)] [(.ref a2), (.ref r1)])) rfl (by rw [hml]; rfl) (Steps.refl _) (argsL := [(.ref a2)]) (rest := []) (lenOf pd_22 rfl) rfl (by show 2 * 0 + _ ≤ _; exact Nat.le_of_eq rfl) (hb hby d6_10) (fun _ _ => ⟨rfl, e1, (by decide : 0 + 0 ≤ _), (by decide : 0 + 0 ≤ _)⟩)
  dsimp only [Pt.U, Pt.locs, Pt.cells, Pt.slots] at X3 l3 y3 z3 st3 hQ3
  subst l3 y3 z3
  obtain ⟨rfl, Nq3, e3⟩ := hQ3
  have N3 := Fr.app N1 Nq3
  obtain ⟨a4, cK4, hMd4, hFn4, st4⟩ := own_dyn X3 hx hZ (x := (⟨"com/example/indelible_crawl/indeliblecrawl/fetch/Validators", "<init>", "(Ljava/util/Optional;Ljava/util/Optional;)V"⟩ : MethodName)) (pc := 15) (index := 7) (sh := own_sg) Bd.named (hw _ (List.mem_of_getElem? (i := 62) rfl)) rfl (g := (mkF m 15 #[.val (.ref r0), .val (.ref r1), .val (.ref r2)] [(.ref r2)])) rfl rfl (by rw [hml]; rfl) (hb hby d6_15) (by show 2 * 0 + 1 + 3072 ≤ 3140; decide)
  obtain ⟨cq5, kq5, q5a, q5b, q5c⟩ := isOf hZ e3 E_r2
  obtain ⟨_, _, ⟨T5, L5, k5_, n5⟩, -, X5, ⟨Lc5, hQ5, l5, y5, z5⟩, st5⟩ := X3.virtualBack hx (y := (⟨"java/util/Optional", "filter", "(Ljava/util/function/Predicate;)Ljava/util/Optional;"⟩ : MethodName)) (z := (⟨"java/util/Optional", "filter", "(Ljava/util/function/Predicate;)Ljava/util/Optional;"⟩ : MethodName)) hown (mvT hZ (hw _ (List.mem_of_getElem? (i := 46) rfl))) (mvT hZ (hw _ (List.mem_of_getElem? (i := 47) rfl))) (notFace_of_selects (args := #[]) (mvT hZ (hw _ (List.mem_of_getElem? (i := 49) rfl)))) (mvT hZ (hw _ (List.mem_of_getElem? (i := 49) rfl))) (mvT hZ (hw _ (List.mem_of_getElem? (i := 48) rfl))) (by decide) (backOf (W := 0) (rmFN l Z a0 hw [] r2 a4 h0 n0 E_r2 Fo2) hZ (hw _ (List.mem_of_getElem? (i := 50) rfl)) (hw _ (List.mem_of_getElem? (i := 28) rfl)) (by decide) (by decide)) q5a q5c (g := (mkF m 20 #[.val (.ref r0), .val (.ref r1), .val (.ref r2)] [(.ref a4), (.ref r2)])) rfl (by rw [hml]; rfl) (Steps.refl _) (argsL := [(.ref a4)]) (rest := []) (lenOf pd_22 rfl) rfl (by show 2 * 0 + _ ≤ _; exact Nat.le_of_eq rfl) (hb hby d6_20) (fun _ _ => ⟨rfl, e3, (by decide : 0 + 0 ≤ _), (by decide : 0 + 0 ≤ _)⟩)
  dsimp only [Pt.U, Pt.locs, Pt.cells, Pt.slots] at X5 l5 y5 z5 st5 hQ5
  subst l5 y5 z5
  obtain ⟨rfl, Nq5, e5⟩ := hQ5
  have N5 := Fr.app N3 Nq5
  obtain ⟨T6, h6, X6, e6, W6, st6⟩ := putF X5 hx hZ hown (host := "") (Or.inl (hw _ (List.mem_of_getElem? (i := 63) rfl))) Via.refl e5 F_lastModified E_r0 (Or.inr ⟨(hw _ (List.mem_of_getElem? (i := 64) rfl)), rfl, hnm⟩) (hw _ (List.mem_of_getElem? (i := 32) rfl)) (ty := (.object "java/util/Optional")) (by decide) rfl rfl (g := (mkF m 26 #[.val (.ref r0), .val (.ref r1), .val (.ref r2)] [(.ref r1), (.ref r0)])) rfl rfl (hb hby d6_26)
  replace E_r0 := E_r0.wr W6
  replace F_etag := F_etag.other W6 (Or.inr (slot_ne (Or.inr (hw _ (List.mem_of_getElem? (i := 66) rfl))) (Or.inr (hw _ (List.mem_of_getElem? (i := 64) rfl))) (by decide) (t := (.object "java/util/Optional")) (t' := (.object "java/util/Optional")) (by decide) (by decide)))
  replace O0 := O0.wr W6 g_r0
  replace K0 := K0.wr W6 (Or.inl (List.mem_of_getElem? (i := 0) rfl))
  replace F_lastModified := F_lastModified.same W6
  have N6 := Fr.snoc X6 N5 g_r0
  obtain ⟨T7, h7, X7, e7, W7, st7⟩ := putF X6 hx hZ hown (host := "") (Or.inl (hw _ (List.mem_of_getElem? (i := 65) rfl))) Via.refl e6 F_etag E_r0 (Or.inr ⟨(hw _ (List.mem_of_getElem? (i := 66) rfl)), rfl, hnm⟩) (hw _ (List.mem_of_getElem? (i := 32) rfl)) (ty := (.object "java/util/Optional")) (by decide) rfl rfl (g := (mkF m 31 #[.val (.ref r0), .val (.ref r1), .val (.ref r2)] [(.ref r2), (.ref r0)])) rfl rfl (hb hby d6_31)
  replace E_r0 := E_r0.wr W7
  replace F_lastModified := F_lastModified.other W7 (Or.inr (slot_ne (Or.inr (hw _ (List.mem_of_getElem? (i := 64) rfl))) (Or.inr (hw _ (List.mem_of_getElem? (i := 66) rfl))) (by decide) (t := (.object "java/util/Optional")) (t' := (.object "java/util/Optional")) (by decide) (by decide)))
  replace O0 := O0.wr W7 g_r0
  replace K0 := K0.wr W7 (Or.inl (List.mem_of_getElem? (i := 0) rfl))
  replace F_etag := F_etag.same W7
  have N7 := Fr.snoc X7 N6 g_r0
  have k8 : ∀ t, Steps p.tables e below (T7.setTop (mkF m 34 #[.val (.ref r0), .val (.ref r1), .val (.ref r2)] [])) t → Steps p.tables e below (s₁.setTop (entryFrame m #[(.ref r0), (.ref r1), (.ref r2)] 3)) t := by
    intro t k
    refine pre0 _ ?_
    show Steps p.tables e below (s₁.setTop (mkF m 0 #[.val (.ref r0), .val (.ref r1), .val (.ref r2)] [])) _
    refine XS.aloadN X0.here hx rfl (hb hby d6_0) rfl rfl ?_
    show Steps p.tables e below (s₁.setTop (mkF m 1 #[.val (.ref r0), .val (.ref r1), .val (.ref r2)] [(.ref r0)])) _
    refine st1.trans ?_
    show Steps p.tables e below (T1.setTop (mkF m 4 #[.val (.ref r0), .val (.ref r1), .val (.ref r2)] [])) _
    refine XS.aloadN X1.here hx rfl (hb hby d6_4) rfl rfl ?_
    show Steps p.tables e below (T1.setTop (mkF m 5 #[.val (.ref r0), .val (.ref r1), .val (.ref r2)] [(.ref r1)])) _
    refine st2 _ ?_
    show Steps p.tables e below (T1.setTop (mkF m 10 #[.val (.ref r0), .val (.ref r1), .val (.ref r2)] [(.ref a2), (.ref r1)])) _
    refine st3.trans ?_
    show Steps p.tables e below (T3.setTop (mkF m 13 #[.val (.ref r0), .val (.ref r1), .val (.ref r2)] [(.ref r1)])) _
    refine XS.astoreN X3.here hx rfl (hb hby d6_13) rfl rfl (l' := #[.val (.ref r0), .val (.ref r1), .val (.ref r2)]) rfl ?_
    show Steps p.tables e below (T3.setTop (mkF m 14 #[.val (.ref r0), .val (.ref r1), .val (.ref r2)] [])) _
    refine XS.aloadN X3.here hx rfl (hb hby d6_14) rfl rfl ?_
    show Steps p.tables e below (T3.setTop (mkF m 15 #[.val (.ref r0), .val (.ref r1), .val (.ref r2)] [(.ref r2)])) _
    refine st4 _ ?_
    show Steps p.tables e below (T3.setTop (mkF m 20 #[.val (.ref r0), .val (.ref r1), .val (.ref r2)] [(.ref a4), (.ref r2)])) _
    refine st5.trans ?_
    show Steps p.tables e below (T5.setTop (mkF m 23 #[.val (.ref r0), .val (.ref r1), .val (.ref r2)] [(.ref r2)])) _
    refine XS.astoreN X5.here hx rfl (hb hby d6_23) rfl rfl (l' := #[.val (.ref r0), .val (.ref r1), .val (.ref r2)]) rfl ?_
    show Steps p.tables e below (T5.setTop (mkF m 24 #[.val (.ref r0), .val (.ref r1), .val (.ref r2)] [])) _
    refine XS.aloadN X5.here hx rfl (hb hby d6_24) rfl rfl ?_
    show Steps p.tables e below (T5.setTop (mkF m 25 #[.val (.ref r0), .val (.ref r1), .val (.ref r2)] [(.ref r0)])) _
    refine XS.aloadN X5.here hx rfl (hb hby d6_25) rfl rfl ?_
    show Steps p.tables e below (T5.setTop (mkF m 26 #[.val (.ref r0), .val (.ref r1), .val (.ref r2)] [(.ref r1), (.ref r0)])) _
    refine st6 _ ?_
    show Steps p.tables e below (T6.setTop (mkF m 29 #[.val (.ref r0), .val (.ref r1), .val (.ref r2)] [])) _
    refine XS.aloadN X6.here hx rfl (hb hby d6_29) rfl rfl ?_
    show Steps p.tables e below (T6.setTop (mkF m 30 #[.val (.ref r0), .val (.ref r1), .val (.ref r2)] [(.ref r0)])) _
    refine XS.aloadN X6.here hx rfl (hb hby d6_30) rfl rfl ?_
    show Steps p.tables e below (T6.setTop (mkF m 31 #[.val (.ref r0), .val (.ref r1), .val (.ref r2)] [(.ref r2), (.ref r0)])) _
    refine st7 _ ?_
    exact k
  obtain ⟨fs, hr, hrun, hended, hW, hsame⟩ := X7.leave (v := none) (fun _ => rfl)
  refine ⟨_, _, k8 _ ?_, hrun, hended, _, _, rfl, ?_, ⟨_, rfl⟩, hW, hsame.mono (by decide) (by decide)⟩
  · exact X7.returnOut hx Bd.returns (hb hby d6_34) hr
  · show own_VI Z r0 r1 r2 h0 n0 _ T7.heap _
    rw [e7]
    exact ⟨rfl, N7, K0, E_r0, F_lastModified, F_etag⟩
theorem ef_rmVI_0_1 (m : MethodId) (x0 : Addr) (x1 : Addr) (x2 : Addr) : entryFrame m #[(.ref x0), (.ref x1), (.ref x2)] 3 = mkF m 0 #[.val (.ref x0), .val (.ref x1), .val (.ref x2)] [] := by first | (simp [entryFrame, mkF, argsToLocals, Value.category]; done) | rfl
set_option maxRecDepth 65536 in
set_option maxHeartbeats 40000000 in
theorem rmVI_0_1 (l : Launch) (Z : State) (a0 : Array Value) (hw : ∀ d ∈ tables_1, d.before a0 Z = true) (ws : List Jvm.Cond) (r0 : Addr) (r1 : Addr) (r2 : Addr) (sq2 sr2 : Addr) (sk2 : ClassId) (sn2 sa2 sb2 sl2 : Int32) (sv2 : List Value) (w_CS : Int32) (w_E : Addr) (w_F : Value) (h0 : Heap) (n0 : Nat) (hG : own_GC Z w_CS w_E w_F) (O0 : Old Z n0 h0) (g_r0 : n0 ≤ r0) (E_r0 : Exa Z h0 r0 "com/example/indelible_crawl/indeliblecrawl/fetch/Validators") (F_lastModified : Fld Z h0 r0 "com/example/indelible_crawl/indeliblecrawl/fetch/Validators" "lastModified" "Ljava/util/Optional;" .null) (F_etag : Fld Z h0 r0 "com/example/indelible_crawl/indeliblecrawl/fetch/Validators" "etag" "Ljava/util/Optional;" .null) (E_r1 : Exa Z h0 r1 "java/util/Optional") (Fo1 : Fld Z h0 r1 "java/util/Optional" "value" "Ljava/lang/Object;" .null) (E_r2 : Exa Z h0 r2 "java/util/Optional") (Fo2 : Fld Z h0 r2 "java/util/Optional" "value" "Ljava/lang/Object;" (.ref sq2)) (hsa2 : own_c8 sa2) (hsb2 : own_c8 sb2) (E_q2 : Exa Z h0 sq2 "java/lang/String") (Fv2 : Fld Z h0 sq2 "java/lang/String" "value" "[B" (.ref sr2)) (Fc2 : Fld Z h0 sq2 "java/lang/String" "coder" "B" (.int (0 : Int32))) (Va2 : Arv Z h0 sr2 sk2 .byte sl2 sv2 (.int (0 : Int32))) (hdl2 : own_dl sn2 sa2 sb2 sl2 sv2) :
    MetFree l (⟨"com/example/indelible_crawl/indeliblecrawl/fetch/Validators", "<init>", "(Ljava/util/Optional;Ljava/util/Optional;)V"⟩ : MethodName) (head1 (Jvm.Cond.code (⟨"com/example/indelible_crawl/indeliblecrawl/fetch/Validators", "<init>", "(Ljava/util/Optional;Ljava/util/Optional;)V"⟩ : MethodName) prog_47_method_1_code 3 none :: ws) ({ frames := 7, cells := 0, slots := 0, locals := 3140 } : Room)) (fun a U => a = #[(.ref r0), (.ref r1), (.ref r2)] ∧ Z.Warmed39 U.vm ∧ U.heap = h0) (fun _ _ _ _ _ => True) (fun _ U o U' => ∃ v L, o = .returned v ∧ own_VI Z r0 r1 (if (own_f26 sn2 sa2 sb2) = (0 : Int32) then w_E else r2) h0 n0 v U'.heap L ∧ FrameEnd U o U' L ({ frames := 7, cells := 0, slots := 0, locals := 3140 } : Room).cells ({ frames := 7, cells := 0, slots := 0, locals := 3140 } : Room).slots) := by
  refine MetFree.of_bodySF (plainFor_of_name pn_5) hisR ?_
  intro p e s m args below meth c s₁ Bd hml0 hP hK
  obtain ⟨rfl, hZ, hh⟩ := hP
  have hx := Bd.exec
  have hby := Bd.bytes
  have hml : c.maxLocals = 3 := hml0
  have hown : s.vm.findClass "com/example/indelible_crawl/indeliblecrawl/fetch/Validators" = some m.cls := findClass_of_methodNamed Bd.named
  have hnm := (name_of_methodNamed Bd.named Bd.method).1
  have X0 : Stand p l e ({ frames := 7, cells := 0, slots := 0, locals := 3140 } : Room) s m #[(.ref r0), (.ref r1), (.ref r2)] below meth c s₁ [] 0 0 := Stand.of_body Bd
  have e0 : s₁.heap = h0 := by rw [← hh, Bd.state]; rfl
  have N0 := Fr.nil n0
  have pre0 : ∀ t, Steps p.tables e below (s₁.setTop (mkF m 0 #[.val (.ref r0), .val (.ref r1), .val (.ref r2)] [])) t → Steps p.tables e below (s₁.setTop (entryFrame m #[(.ref r0), (.ref r1), (.ref r2)] 3)) t := fun t k => castTop (ef_rmVI_0_1 m r0 r1 r2) k
  have hG' := hG
  obtain ⟨S_CS, hCS, S_E, E_E, F_E, S_F, hF⟩ := hG'
  have K0 : Keep h0 h0 [r0] := Keep.refl _ _
  obtain ⟨_, _, ⟨T1, L1, k1_, n1⟩, -, X1, ⟨Lc1, hQ1, l1, y1, z1⟩, st1⟩ := X0.specialBack hx (y := (⟨"java/lang/Record", "<init>", "()V"⟩ : MethodName)) rfl hown (mvT hZ (hw _ (List.mem_of_getElem? (i := 37) rfl))) (mvT hZ (hw _ (List.mem_of_getElem? (i := 38) rfl))) (mvT hZ (hw _ (List.mem_of_getElem? (i := 41) rfl))) (by decide) (backOf (W := 0) (rm7 l Z a0 hw [] r0 h0 n0 ) hZ (hw _ (List.mem_of_getElem? (i := 41) rfl)) (hw _ (List.mem_of_getElem? (i := 40) rfl)) (by decide) (by decide)) (g := (mkF m 1 #[.val (.ref r0), .val (.ref r1), .val (.ref r2)] [(.ref r0)])) rfl (by rw [hml]; rfl) (Steps.refl _) (a := r0) (argsL := []) (rest := []) (lenOf pd_21 rfl) rfl (by show 2 * 0 + _ ≤ _; exact Nat.le_of_eq rfl) (hb hby d6_1) (fun _ _ => ⟨rfl, e0, (by decide : 0 + 0 ≤ _), (by decide : 0 + 0 ≤ _)⟩)
  dsimp only [Pt.U, Pt.locs, Pt.cells, Pt.slots] at X1 l1 y1 z1 st1 hQ1
  subst l1 y1 z1
  obtain ⟨rfl, Nq1, e1⟩ := hQ1
  have N1 := Fr.app N0 Nq1
  obtain ⟨a2, cK2, hMd2, hFn2, st2⟩ := own_dyn X1 hx hZ (x := (⟨"com/example/indelible_crawl/indeliblecrawl/fetch/Validators", "<init>", "(Ljava/util/Optional;Ljava/util/Optional;)V"⟩ : MethodName)) (pc := 5) (index := 7) (sh := own_sg) Bd.named (hw _ (List.mem_of_getElem? (i := 43) rfl)) rfl (g := (mkF m 5 #[.val (.ref r0), .val (.ref r1), .val (.ref r2)] [(.ref r1)])) rfl rfl (by rw [hml]; rfl) (hb hby d6_5) (by show 2 * 0 + 1 + 3072 ≤ 3140; decide)
  obtain ⟨cq3, kq3, q3a, q3b, q3c⟩ := isOf hZ e1 E_r1
  obtain ⟨_, _, ⟨T3, L3, k3_, n3⟩, -, X3, ⟨Lc3, hQ3, l3, y3, z3⟩, st3⟩ := X1.virtualBack hx (y := (⟨"java/util/Optional", "filter", "(Ljava/util/function/Predicate;)Ljava/util/Optional;"⟩ : MethodName)) (z := (⟨"java/util/Optional", "filter", "(Ljava/util/function/Predicate;)Ljava/util/Optional;"⟩ : MethodName)) hown (mvT hZ (hw _ (List.mem_of_getElem? (i := 46) rfl))) (mvT hZ (hw _ (List.mem_of_getElem? (i := 47) rfl))) (notFace_of_selects (args := #[]) (mvT hZ (hw _ (List.mem_of_getElem? (i := 49) rfl)))) (mvT hZ (hw _ (List.mem_of_getElem? (i := 49) rfl))) (mvT hZ (hw _ (List.mem_of_getElem? (i := 48) rfl))) (by decide) (backOf (W := 0) (rmFN l Z a0 hw [] r1 a2 h0 n0 E_r1 Fo1) hZ (hw _ (List.mem_of_getElem? (i := 50) rfl)) (hw _ (List.mem_of_getElem? (i := 28) rfl)) (by decide) (by decide)) q3a q3c (g := (mkF m 10 #[.val (.ref r0), .val (.ref r1), .val (.ref r2)] [(.ref a2), (.ref r1)])) rfl (by rw [hml]; rfl) (Steps.refl _) (argsL := [(.ref a2)]) (rest := []) (lenOf pd_22 rfl) rfl (by show 2 * 0 + _ ≤ _; exact Nat.le_of_eq rfl) (hb hby d6_10) (fun _ _ => ⟨rfl, e1, (by decide : 0 + 0 ≤ _), (by decide : 0 + 0 ≤ _)⟩)
  dsimp only [Pt.U, Pt.locs, Pt.cells, Pt.slots] at X3 l3 y3 z3 st3 hQ3
  subst l3 y3 z3
  obtain ⟨rfl, Nq3, e3⟩ := hQ3
  have N3 := Fr.app N1 Nq3
  obtain ⟨a4, cK4, hMd4, hFn4, st4⟩ := own_dyn X3 hx hZ (x := (⟨"com/example/indelible_crawl/indeliblecrawl/fetch/Validators", "<init>", "(Ljava/util/Optional;Ljava/util/Optional;)V"⟩ : MethodName)) (pc := 15) (index := 7) (sh := own_sg) Bd.named (hw _ (List.mem_of_getElem? (i := 62) rfl)) rfl (g := (mkF m 15 #[.val (.ref r0), .val (.ref r1), .val (.ref r2)] [(.ref r2)])) rfl rfl (by rw [hml]; rfl) (hb hby d6_15) (by show 2 * 0 + 1 + 3072 ≤ 3140; decide)
  obtain ⟨cq5, kq5, q5a, q5b, q5c⟩ := isOf hZ e3 E_r2
  obtain ⟨_, _, ⟨T5, L5, k5_, n5⟩, -, X5, ⟨Lc5, hQ5, l5, y5, z5⟩, st5⟩ := X3.virtualBack hx (y := (⟨"java/util/Optional", "filter", "(Ljava/util/function/Predicate;)Ljava/util/Optional;"⟩ : MethodName)) (z := (⟨"java/util/Optional", "filter", "(Ljava/util/function/Predicate;)Ljava/util/Optional;"⟩ : MethodName)) hown (mvT hZ (hw _ (List.mem_of_getElem? (i := 46) rfl))) (mvT hZ (hw _ (List.mem_of_getElem? (i := 47) rfl))) (notFace_of_selects (args := #[]) (mvT hZ (hw _ (List.mem_of_getElem? (i := 49) rfl)))) (mvT hZ (hw _ (List.mem_of_getElem? (i := 49) rfl))) (mvT hZ (hw _ (List.mem_of_getElem? (i := 48) rfl))) (by decide) (backOf (W := 0) (rmFS l Z a0 hw [] r2 a4 sq2 sr2 sk2 sn2 sa2 sb2 sl2 sv2 cK4 w_CS w_E w_F h0 n0 hG O0 hMd4 hFn4 E_r2 Fo2 hsa2 hsb2 E_q2 Fv2 Fc2 Va2 hdl2) hZ (hw _ (List.mem_of_getElem? (i := 50) rfl)) (hw _ (List.mem_of_getElem? (i := 28) rfl)) (by decide) (by decide)) q5a q5c (g := (mkF m 20 #[.val (.ref r0), .val (.ref r1), .val (.ref r2)] [(.ref a4), (.ref r2)])) rfl (by rw [hml]; rfl) (Steps.refl _) (argsL := [(.ref a4)]) (rest := []) (lenOf pd_22 rfl) rfl (by show 2 * 0 + _ ≤ _; exact Nat.le_of_eq rfl) (hb hby d6_20) (fun _ _ => ⟨rfl, e3, (by decide : 0 + 0 ≤ _), (by decide : 0 + 0 ≤ _)⟩)
  dsimp only [Pt.U, Pt.locs, Pt.cells, Pt.slots] at X5 l5 y5 z5 st5 hQ5
  subst l5 y5 z5
  obtain ⟨rfl, Nq5, e5⟩ := hQ5
  have N5 := Fr.app N3 Nq5
  obtain ⟨T6, h6, X6, e6, W6, st6⟩ := putF X5 hx hZ hown (host := "") (Or.inl (hw _ (List.mem_of_getElem? (i := 63) rfl))) Via.refl e5 F_lastModified E_r0 (Or.inr ⟨(hw _ (List.mem_of_getElem? (i := 64) rfl)), rfl, hnm⟩) (hw _ (List.mem_of_getElem? (i := 32) rfl)) (ty := (.object "java/util/Optional")) (by decide) rfl rfl (g := (mkF m 26 #[.val (.ref r0), .val (.ref r1), .val (.ref (if (own_f26 sn2 sa2 sb2) = (0 : Int32) then w_E else r2))] [(.ref r1), (.ref r0)])) rfl rfl (hb hby d6_26)
  replace E_r0 := E_r0.wr W6
  replace F_etag := F_etag.other W6 (Or.inr (slot_ne (Or.inr (hw _ (List.mem_of_getElem? (i := 66) rfl))) (Or.inr (hw _ (List.mem_of_getElem? (i := 64) rfl))) (by decide) (t := (.object "java/util/Optional")) (t' := (.object "java/util/Optional")) (by decide) (by decide)))
  replace O0 := O0.wr W6 g_r0
  replace K0 := K0.wr W6 (Or.inl (List.mem_of_getElem? (i := 0) rfl))
  replace F_lastModified := F_lastModified.same W6
  have N6 := Fr.snoc X6 N5 g_r0
  obtain ⟨T7, h7, X7, e7, W7, st7⟩ := putF X6 hx hZ hown (host := "") (Or.inl (hw _ (List.mem_of_getElem? (i := 65) rfl))) Via.refl e6 F_etag E_r0 (Or.inr ⟨(hw _ (List.mem_of_getElem? (i := 66) rfl)), rfl, hnm⟩) (hw _ (List.mem_of_getElem? (i := 32) rfl)) (ty := (.object "java/util/Optional")) (by decide) rfl rfl (g := (mkF m 31 #[.val (.ref r0), .val (.ref r1), .val (.ref (if (own_f26 sn2 sa2 sb2) = (0 : Int32) then w_E else r2))] [(.ref (if (own_f26 sn2 sa2 sb2) = (0 : Int32) then w_E else r2)), (.ref r0)])) rfl rfl (hb hby d6_31)
  replace E_r0 := E_r0.wr W7
  replace F_lastModified := F_lastModified.other W7 (Or.inr (slot_ne (Or.inr (hw _ (List.mem_of_getElem? (i := 64) rfl))) (Or.inr (hw _ (List.mem_of_getElem? (i := 66) rfl))) (by decide) (t := (.object "java/util/Optional")) (t' := (.object "java/util/Optional")) (by decide) (by decide)))
  replace O0 := O0.wr W7 g_r0
  replace K0 := K0.wr W7 (Or.inl (List.mem_of_getElem? (i := 0) rfl))
  replace F_etag := F_etag.same W7
  have N7 := Fr.snoc X7 N6 g_r0
  have k8 : ∀ t, Steps p.tables e below (T7.setTop (mkF m 34 #[.val (.ref r0), .val (.ref r1), .val (.ref (if (own_f26 sn2 sa2 sb2) = (0 : Int32) then w_E else r2))] [])) t → Steps p.tables e below (s₁.setTop (entryFrame m #[(.ref r0), (.ref r1), (.ref r2)] 3)) t := by
    intro t k
    refine pre0 _ ?_
    show Steps p.tables e below (s₁.setTop (mkF m 0 #[.val (.ref r0), .val (.ref r1), .val (.ref r2)] [])) _
    refine XS.aloadN X0.here hx rfl (hb hby d6_0) rfl rfl ?_
    show Steps p.tables e below (s₁.setTop (mkF m 1 #[.val (.ref r0), .val (.ref r1), .val (.ref r2)] [(.ref r0)])) _
    refine st1.trans ?_
    show Steps p.tables e below (T1.setTop (mkF m 4 #[.val (.ref r0), .val (.ref r1), .val (.ref r2)] [])) _
    refine XS.aloadN X1.here hx rfl (hb hby d6_4) rfl rfl ?_
    show Steps p.tables e below (T1.setTop (mkF m 5 #[.val (.ref r0), .val (.ref r1), .val (.ref r2)] [(.ref r1)])) _
    refine st2 _ ?_
    show Steps p.tables e below (T1.setTop (mkF m 10 #[.val (.ref r0), .val (.ref r1), .val (.ref r2)] [(.ref a2), (.ref r1)])) _
    refine st3.trans ?_
    show Steps p.tables e below (T3.setTop (mkF m 13 #[.val (.ref r0), .val (.ref r1), .val (.ref r2)] [(.ref r1)])) _
    refine XS.astoreN X3.here hx rfl (hb hby d6_13) rfl rfl (l' := #[.val (.ref r0), .val (.ref r1), .val (.ref r2)]) rfl ?_
    show Steps p.tables e below (T3.setTop (mkF m 14 #[.val (.ref r0), .val (.ref r1), .val (.ref r2)] [])) _
    refine XS.aloadN X3.here hx rfl (hb hby d6_14) rfl rfl ?_
    show Steps p.tables e below (T3.setTop (mkF m 15 #[.val (.ref r0), .val (.ref r1), .val (.ref r2)] [(.ref r2)])) _
    refine st4 _ ?_
    show Steps p.tables e below (T3.setTop (mkF m 20 #[.val (.ref r0), .val (.ref r1), .val (.ref r2)] [(.ref a4), (.ref r2)])) _
    refine st5.trans ?_
    show Steps p.tables e below (T5.setTop (mkF m 23 #[.val (.ref r0), .val (.ref r1), .val (.ref r2)] [(.ref (if (own_f26 sn2 sa2 sb2) = (0 : Int32) then w_E else r2))])) _
    refine XS.astoreN X5.here hx rfl (hb hby d6_23) rfl rfl (l' := #[.val (.ref r0), .val (.ref r1), .val (.ref (if (own_f26 sn2 sa2 sb2) = (0 : Int32) then w_E else r2))]) rfl ?_
    show Steps p.tables e below (T5.setTop (mkF m 24 #[.val (.ref r0), .val (.ref r1), .val (.ref (if (own_f26 sn2 sa2 sb2) = (0 : Int32) then w_E else r2))] [])) _
    refine XS.aloadN X5.here hx rfl (hb hby d6_24) rfl rfl ?_
    show Steps p.tables e below (T5.setTop (mkF m 25 #[.val (.ref r0), .val (.ref r1), .val (.ref (if (own_f26 sn2 sa2 sb2) = (0 : Int32) then w_E else r2))] [(.ref r0)])) _
    refine XS.aloadN X5.here hx rfl (hb hby d6_25) rfl rfl ?_
    show Steps p.tables e below (T5.setTop (mkF m 26 #[.val (.ref r0), .val (.ref r1), .val (.ref (if (own_f26 sn2 sa2 sb2) = (0 : Int32) then w_E else r2))] [(.ref r1), (.ref r0)])) _
    refine st6 _ ?_
    show Steps p.tables e below (T6.setTop (mkF m 29 #[.val (.ref r0), .val (.ref r1), .val (.ref (if (own_f26 sn2 sa2 sb2) = (0 : Int32) then w_E else r2))] [])) _
    refine XS.aloadN X6.here hx rfl (hb hby d6_29) rfl rfl ?_
    show Steps p.tables e below (T6.setTop (mkF m 30 #[.val (.ref r0), .val (.ref r1), .val (.ref (if (own_f26 sn2 sa2 sb2) = (0 : Int32) then w_E else r2))] [(.ref r0)])) _
    refine XS.aloadN X6.here hx rfl (hb hby d6_30) rfl rfl ?_
    show Steps p.tables e below (T6.setTop (mkF m 31 #[.val (.ref r0), .val (.ref r1), .val (.ref (if (own_f26 sn2 sa2 sb2) = (0 : Int32) then w_E else r2))] [(.ref (if (own_f26 sn2 sa2 sb2) = (0 : Int32) then w_E else r2)), (.ref r0)])) _
    refine st7 _ ?_
    exact k
  obtain ⟨fs, hr, hrun, hended, hW, hsame⟩ := X7.leave (v := none) (fun _ => rfl)
  refine ⟨_, _, k8 _ ?_, hrun, hended, _, _, rfl, ?_, ⟨_, rfl⟩, hW, hsame.mono (by decide) (by decide)⟩
  · exact X7.returnOut hx Bd.returns (hb hby d6_34) hr
  · show own_VI Z r0 r1 (if (own_f26 sn2 sa2 sb2) = (0 : Int32) then w_E else r2) h0 n0 _ T7.heap _
    rw [e7]
    exact ⟨rfl, N7, K0, E_r0, F_lastModified, F_etag⟩
theorem ef_rmVI_1_0 (m : MethodId) (x0 : Addr) (x1 : Addr) (x2 : Addr) : entryFrame m #[(.ref x0), (.ref x1), (.ref x2)] 3 = mkF m 0 #[.val (.ref x0), .val (.ref x1), .val (.ref x2)] [] := by first | (simp [entryFrame, mkF, argsToLocals, Value.category]; done) | rfl
set_option maxRecDepth 65536 in
set_option maxHeartbeats 40000000 in
theorem rmVI_1_0 (l : Launch) (Z : State) (a0 : Array Value) (hw : ∀ d ∈ tables_1, d.before a0 Z = true) (ws : List Jvm.Cond) (r0 : Addr) (r1 : Addr) (r2 : Addr) (sq1 sr1 : Addr) (sk1 : ClassId) (sn1 sa1 sb1 sl1 : Int32) (sv1 : List Value) (w_CS : Int32) (w_E : Addr) (w_F : Value) (h0 : Heap) (n0 : Nat) (hG : own_GC Z w_CS w_E w_F) (O0 : Old Z n0 h0) (g_r0 : n0 ≤ r0) (E_r0 : Exa Z h0 r0 "com/example/indelible_crawl/indeliblecrawl/fetch/Validators") (F_lastModified : Fld Z h0 r0 "com/example/indelible_crawl/indeliblecrawl/fetch/Validators" "lastModified" "Ljava/util/Optional;" .null) (F_etag : Fld Z h0 r0 "com/example/indelible_crawl/indeliblecrawl/fetch/Validators" "etag" "Ljava/util/Optional;" .null) (E_r1 : Exa Z h0 r1 "java/util/Optional") (Fo1 : Fld Z h0 r1 "java/util/Optional" "value" "Ljava/lang/Object;" (.ref sq1)) (hsa1 : own_c8 sa1) (hsb1 : own_c8 sb1) (E_q1 : Exa Z h0 sq1 "java/lang/String") (Fv1 : Fld Z h0 sq1 "java/lang/String" "value" "[B" (.ref sr1)) (Fc1 : Fld Z h0 sq1 "java/lang/String" "coder" "B" (.int (0 : Int32))) (Va1 : Arv Z h0 sr1 sk1 .byte sl1 sv1 (.int (0 : Int32))) (hdl1 : own_dl sn1 sa1 sb1 sl1 sv1) (E_r2 : Exa Z h0 r2 "java/util/Optional") (Fo2 : Fld Z h0 r2 "java/util/Optional" "value" "Ljava/lang/Object;" .null) :
    MetFree l (⟨"com/example/indelible_crawl/indeliblecrawl/fetch/Validators", "<init>", "(Ljava/util/Optional;Ljava/util/Optional;)V"⟩ : MethodName) (head1 (Jvm.Cond.code (⟨"com/example/indelible_crawl/indeliblecrawl/fetch/Validators", "<init>", "(Ljava/util/Optional;Ljava/util/Optional;)V"⟩ : MethodName) prog_47_method_1_code 3 none :: ws) ({ frames := 7, cells := 0, slots := 0, locals := 3140 } : Room)) (fun a U => a = #[(.ref r0), (.ref r1), (.ref r2)] ∧ Z.Warmed39 U.vm ∧ U.heap = h0) (fun _ _ _ _ _ => True) (fun _ U o U' => ∃ v L, o = .returned v ∧ own_VI Z r0 (if (own_f26 sn1 sa1 sb1) = (0 : Int32) then w_E else r1) r2 h0 n0 v U'.heap L ∧ FrameEnd U o U' L ({ frames := 7, cells := 0, slots := 0, locals := 3140 } : Room).cells ({ frames := 7, cells := 0, slots := 0, locals := 3140 } : Room).slots) := by
  refine MetFree.of_bodySF (plainFor_of_name pn_5) hisR ?_
  intro p e s m args below meth c s₁ Bd hml0 hP hK
  obtain ⟨rfl, hZ, hh⟩ := hP
  have hx := Bd.exec
  have hby := Bd.bytes
  have hml : c.maxLocals = 3 := hml0
  have hown : s.vm.findClass "com/example/indelible_crawl/indeliblecrawl/fetch/Validators" = some m.cls := findClass_of_methodNamed Bd.named
  have hnm := (name_of_methodNamed Bd.named Bd.method).1
  have X0 : Stand p l e ({ frames := 7, cells := 0, slots := 0, locals := 3140 } : Room) s m #[(.ref r0), (.ref r1), (.ref r2)] below meth c s₁ [] 0 0 := Stand.of_body Bd
  have e0 : s₁.heap = h0 := by rw [← hh, Bd.state]; rfl
  have N0 := Fr.nil n0
  have pre0 : ∀ t, Steps p.tables e below (s₁.setTop (mkF m 0 #[.val (.ref r0), .val (.ref r1), .val (.ref r2)] [])) t → Steps p.tables e below (s₁.setTop (entryFrame m #[(.ref r0), (.ref r1), (.ref r2)] 3)) t := fun t k => castTop (ef_rmVI_1_0 m r0 r1 r2) k
  have hG' := hG
  obtain ⟨S_CS, hCS, S_E, E_E, F_E, S_F, hF⟩ := hG'
  have K0 : Keep h0 h0 [r0] := Keep.refl _ _
  obtain ⟨_, _, ⟨T1, L1, k1_, n1⟩, -, X1, ⟨Lc1, hQ1, l1, y1, z1⟩, st1⟩ := X0.specialBack hx (y := (⟨"java/lang/Record", "<init>", "()V"⟩ : MethodName)) rfl hown (mvT hZ (hw _ (List.mem_of_getElem? (i := 37) rfl))) (mvT hZ (hw _ (List.mem_of_getElem? (i := 38) rfl))) (mvT hZ (hw _ (List.mem_of_getElem? (i := 41) rfl))) (by decide) (backOf (W := 0) (rm7 l Z a0 hw [] r0 h0 n0 ) hZ (hw _ (List.mem_of_getElem? (i := 41) rfl)) (hw _ (List.mem_of_getElem? (i := 40) rfl)) (by decide) (by decide)) (g := (mkF m 1 #[.val (.ref r0), .val (.ref r1), .val (.ref r2)] [(.ref r0)])) rfl (by rw [hml]; rfl) (Steps.refl _) (a := r0) (argsL := []) (rest := []) (lenOf pd_21 rfl) rfl (by show 2 * 0 + _ ≤ _; exact Nat.le_of_eq rfl) (hb hby d6_1) (fun _ _ => ⟨rfl, e0, (by decide : 0 + 0 ≤ _), (by decide : 0 + 0 ≤ _)⟩)
  dsimp only [Pt.U, Pt.locs, Pt.cells, Pt.slots] at X1 l1 y1 z1 st1 hQ1
  subst l1 y1 z1
  obtain ⟨rfl, Nq1, e1⟩ := hQ1
  have N1 := Fr.app N0 Nq1
  obtain ⟨a2, cK2, hMd2, hFn2, st2⟩ := own_dyn X1 hx hZ (x := (⟨"com/example/indelible_crawl/indeliblecrawl/fetch/Validators", "<init>", "(Ljava/util/Optional;Ljava/util/Optional;)V"⟩ : MethodName)) (pc := 5) (index := 7) (sh := own_sg) Bd.named (hw _ (List.mem_of_getElem? (i := 43) rfl)) rfl (g := (mkF m 5 #[.val (.ref r0), .val (.ref r1), .val (.ref r2)] [(.ref r1)])) rfl rfl (by rw [hml]; rfl) (hb hby d6_5) (by show 2 * 0 + 1 + 3072 ≤ 3140; decide)
  obtain ⟨cq3, kq3, q3a, q3b, q3c⟩ := isOf hZ e1 E_r1
  obtain ⟨_, _, ⟨T3, L3, k3_, n3⟩, -, X3, ⟨Lc3, hQ3, l3, y3, z3⟩, st3⟩ := X1.virtualBack hx (y := (⟨"java/util/Optional", "filter", "(Ljava/util/function/Predicate;)Ljava/util/Optional;"⟩ : MethodName)) (z := (⟨"java/util/Optional", "filter", "(Ljava/util/function/Predicate;)Ljava/util/Optional;"⟩ : MethodName)) hown (mvT hZ (hw _ (List.mem_of_getElem? (i := 46) rfl))) (mvT hZ (hw _ (List.mem_of_getElem? (i := 47) rfl))) (notFace_of_selects (args := #[]) (mvT hZ (hw _ (List.mem_of_getElem? (i := 49) rfl)))) (mvT hZ (hw _ (List.mem_of_getElem? (i := 49) rfl))) (mvT hZ (hw _ (List.mem_of_getElem? (i := 48) rfl))) (by decide) (backOf (W := 0) (rmFS l Z a0 hw [] r1 a2 sq1 sr1 sk1 sn1 sa1 sb1 sl1 sv1 cK2 w_CS w_E w_F h0 n0 hG O0 hMd2 hFn2 E_r1 Fo1 hsa1 hsb1 E_q1 Fv1 Fc1 Va1 hdl1) hZ (hw _ (List.mem_of_getElem? (i := 50) rfl)) (hw _ (List.mem_of_getElem? (i := 28) rfl)) (by decide) (by decide)) q3a q3c (g := (mkF m 10 #[.val (.ref r0), .val (.ref r1), .val (.ref r2)] [(.ref a2), (.ref r1)])) rfl (by rw [hml]; rfl) (Steps.refl _) (argsL := [(.ref a2)]) (rest := []) (lenOf pd_22 rfl) rfl (by show 2 * 0 + _ ≤ _; exact Nat.le_of_eq rfl) (hb hby d6_10) (fun _ _ => ⟨rfl, e1, (by decide : 0 + 0 ≤ _), (by decide : 0 + 0 ≤ _)⟩)
  dsimp only [Pt.U, Pt.locs, Pt.cells, Pt.slots] at X3 l3 y3 z3 st3 hQ3
  subst l3 y3 z3
  obtain ⟨rfl, Nq3, e3⟩ := hQ3
  have N3 := Fr.app N1 Nq3
  obtain ⟨a4, cK4, hMd4, hFn4, st4⟩ := own_dyn X3 hx hZ (x := (⟨"com/example/indelible_crawl/indeliblecrawl/fetch/Validators", "<init>", "(Ljava/util/Optional;Ljava/util/Optional;)V"⟩ : MethodName)) (pc := 15) (index := 7) (sh := own_sg) Bd.named (hw _ (List.mem_of_getElem? (i := 62) rfl)) rfl (g := (mkF m 15 #[.val (.ref r0), .val (.ref (if (own_f26 sn1 sa1 sb1) = (0 : Int32) then w_E else r1)), .val (.ref r2)] [(.ref r2)])) rfl rfl (by rw [hml]; rfl) (hb hby d6_15) (by show 2 * 0 + 1 + 3072 ≤ 3140; decide)
  obtain ⟨cq5, kq5, q5a, q5b, q5c⟩ := isOf hZ e3 E_r2
  obtain ⟨_, _, ⟨T5, L5, k5_, n5⟩, -, X5, ⟨Lc5, hQ5, l5, y5, z5⟩, st5⟩ := X3.virtualBack hx (y := (⟨"java/util/Optional", "filter", "(Ljava/util/function/Predicate;)Ljava/util/Optional;"⟩ : MethodName)) (z := (⟨"java/util/Optional", "filter", "(Ljava/util/function/Predicate;)Ljava/util/Optional;"⟩ : MethodName)) hown (mvT hZ (hw _ (List.mem_of_getElem? (i := 46) rfl))) (mvT hZ (hw _ (List.mem_of_getElem? (i := 47) rfl))) (notFace_of_selects (args := #[]) (mvT hZ (hw _ (List.mem_of_getElem? (i := 49) rfl)))) (mvT hZ (hw _ (List.mem_of_getElem? (i := 49) rfl))) (mvT hZ (hw _ (List.mem_of_getElem? (i := 48) rfl))) (by decide) (backOf (W := 0) (rmFN l Z a0 hw [] r2 a4 h0 n0 E_r2 Fo2) hZ (hw _ (List.mem_of_getElem? (i := 50) rfl)) (hw _ (List.mem_of_getElem? (i := 28) rfl)) (by decide) (by decide)) q5a q5c (g := (mkF m 20 #[.val (.ref r0), .val (.ref (if (own_f26 sn1 sa1 sb1) = (0 : Int32) then w_E else r1)), .val (.ref r2)] [(.ref a4), (.ref r2)])) rfl (by rw [hml]; rfl) (Steps.refl _) (argsL := [(.ref a4)]) (rest := []) (lenOf pd_22 rfl) rfl (by show 2 * 0 + _ ≤ _; exact Nat.le_of_eq rfl) (hb hby d6_20) (fun _ _ => ⟨rfl, e3, (by decide : 0 + 0 ≤ _), (by decide : 0 + 0 ≤ _)⟩)
  dsimp only [Pt.U, Pt.locs, Pt.cells, Pt.slots] at X5 l5 y5 z5 st5 hQ5
  subst l5 y5 z5
  obtain ⟨rfl, Nq5, e5⟩ := hQ5
  have N5 := Fr.app N3 Nq5
  obtain ⟨T6, h6, X6, e6, W6, st6⟩ := putF X5 hx hZ hown (host := "") (Or.inl (hw _ (List.mem_of_getElem? (i := 63) rfl))) Via.refl e5 F_lastModified E_r0 (Or.inr ⟨(hw _ (List.mem_of_getElem? (i := 64) rfl)), rfl, hnm⟩) (hw _ (List.mem_of_getElem? (i := 32) rfl)) (ty := (.object "java/util/Optional")) (by decide) rfl rfl (g := (mkF m 26 #[.val (.ref r0), .val (.ref (if (own_f26 sn1 sa1 sb1) = (0 : Int32) then w_E else r1)), .val (.ref r2)] [(.ref (if (own_f26 sn1 sa1 sb1) = (0 : Int32) then w_E else r1)), (.ref r0)])) rfl rfl (hb hby d6_26)
  replace E_r0 := E_r0.wr W6
  replace F_etag := F_etag.other W6 (Or.inr (slot_ne (Or.inr (hw _ (List.mem_of_getElem? (i := 66) rfl))) (Or.inr (hw _ (List.mem_of_getElem? (i := 64) rfl))) (by decide) (t := (.object "java/util/Optional")) (t' := (.object "java/util/Optional")) (by decide) (by decide)))
  replace O0 := O0.wr W6 g_r0
  replace K0 := K0.wr W6 (Or.inl (List.mem_of_getElem? (i := 0) rfl))
  replace F_lastModified := F_lastModified.same W6
  have N6 := Fr.snoc X6 N5 g_r0
  obtain ⟨T7, h7, X7, e7, W7, st7⟩ := putF X6 hx hZ hown (host := "") (Or.inl (hw _ (List.mem_of_getElem? (i := 65) rfl))) Via.refl e6 F_etag E_r0 (Or.inr ⟨(hw _ (List.mem_of_getElem? (i := 66) rfl)), rfl, hnm⟩) (hw _ (List.mem_of_getElem? (i := 32) rfl)) (ty := (.object "java/util/Optional")) (by decide) rfl rfl (g := (mkF m 31 #[.val (.ref r0), .val (.ref (if (own_f26 sn1 sa1 sb1) = (0 : Int32) then w_E else r1)), .val (.ref r2)] [(.ref r2), (.ref r0)])) rfl rfl (hb hby d6_31)
  replace E_r0 := E_r0.wr W7
  replace F_lastModified := F_lastModified.other W7 (Or.inr (slot_ne (Or.inr (hw _ (List.mem_of_getElem? (i := 64) rfl))) (Or.inr (hw _ (List.mem_of_getElem? (i := 66) rfl))) (by decide) (t := (.object "java/util/Optional")) (t' := (.object "java/util/Optional")) (by decide) (by decide)))
  replace O0 := O0.wr W7 g_r0
  replace K0 := K0.wr W7 (Or.inl (List.mem_of_getElem? (i := 0) rfl))
  replace F_etag := F_etag.same W7
  have N7 := Fr.snoc X7 N6 g_r0
  have k8 : ∀ t, Steps p.tables e below (T7.setTop (mkF m 34 #[.val (.ref r0), .val (.ref (if (own_f26 sn1 sa1 sb1) = (0 : Int32) then w_E else r1)), .val (.ref r2)] [])) t → Steps p.tables e below (s₁.setTop (entryFrame m #[(.ref r0), (.ref r1), (.ref r2)] 3)) t := by
    intro t k
    refine pre0 _ ?_
    show Steps p.tables e below (s₁.setTop (mkF m 0 #[.val (.ref r0), .val (.ref r1), .val (.ref r2)] [])) _
    refine XS.aloadN X0.here hx rfl (hb hby d6_0) rfl rfl ?_
    show Steps p.tables e below (s₁.setTop (mkF m 1 #[.val (.ref r0), .val (.ref r1), .val (.ref r2)] [(.ref r0)])) _
    refine st1.trans ?_
    show Steps p.tables e below (T1.setTop (mkF m 4 #[.val (.ref r0), .val (.ref r1), .val (.ref r2)] [])) _
    refine XS.aloadN X1.here hx rfl (hb hby d6_4) rfl rfl ?_
    show Steps p.tables e below (T1.setTop (mkF m 5 #[.val (.ref r0), .val (.ref r1), .val (.ref r2)] [(.ref r1)])) _
    refine st2 _ ?_
    show Steps p.tables e below (T1.setTop (mkF m 10 #[.val (.ref r0), .val (.ref r1), .val (.ref r2)] [(.ref a2), (.ref r1)])) _
    refine st3.trans ?_
    show Steps p.tables e below (T3.setTop (mkF m 13 #[.val (.ref r0), .val (.ref r1), .val (.ref r2)] [(.ref (if (own_f26 sn1 sa1 sb1) = (0 : Int32) then w_E else r1))])) _
    refine XS.astoreN X3.here hx rfl (hb hby d6_13) rfl rfl (l' := #[.val (.ref r0), .val (.ref (if (own_f26 sn1 sa1 sb1) = (0 : Int32) then w_E else r1)), .val (.ref r2)]) rfl ?_
    show Steps p.tables e below (T3.setTop (mkF m 14 #[.val (.ref r0), .val (.ref (if (own_f26 sn1 sa1 sb1) = (0 : Int32) then w_E else r1)), .val (.ref r2)] [])) _
    refine XS.aloadN X3.here hx rfl (hb hby d6_14) rfl rfl ?_
    show Steps p.tables e below (T3.setTop (mkF m 15 #[.val (.ref r0), .val (.ref (if (own_f26 sn1 sa1 sb1) = (0 : Int32) then w_E else r1)), .val (.ref r2)] [(.ref r2)])) _
    refine st4 _ ?_
    show Steps p.tables e below (T3.setTop (mkF m 20 #[.val (.ref r0), .val (.ref (if (own_f26 sn1 sa1 sb1) = (0 : Int32) then w_E else r1)), .val (.ref r2)] [(.ref a4), (.ref r2)])) _
    refine st5.trans ?_
    show Steps p.tables e below (T5.setTop (mkF m 23 #[.val (.ref r0), .val (.ref (if (own_f26 sn1 sa1 sb1) = (0 : Int32) then w_E else r1)), .val (.ref r2)] [(.ref r2)])) _
    refine XS.astoreN X5.here hx rfl (hb hby d6_23) rfl rfl (l' := #[.val (.ref r0), .val (.ref (if (own_f26 sn1 sa1 sb1) = (0 : Int32) then w_E else r1)), .val (.ref r2)]) rfl ?_
    show Steps p.tables e below (T5.setTop (mkF m 24 #[.val (.ref r0), .val (.ref (if (own_f26 sn1 sa1 sb1) = (0 : Int32) then w_E else r1)), .val (.ref r2)] [])) _
    refine XS.aloadN X5.here hx rfl (hb hby d6_24) rfl rfl ?_
    show Steps p.tables e below (T5.setTop (mkF m 25 #[.val (.ref r0), .val (.ref (if (own_f26 sn1 sa1 sb1) = (0 : Int32) then w_E else r1)), .val (.ref r2)] [(.ref r0)])) _
    refine XS.aloadN X5.here hx rfl (hb hby d6_25) rfl rfl ?_
    show Steps p.tables e below (T5.setTop (mkF m 26 #[.val (.ref r0), .val (.ref (if (own_f26 sn1 sa1 sb1) = (0 : Int32) then w_E else r1)), .val (.ref r2)] [(.ref (if (own_f26 sn1 sa1 sb1) = (0 : Int32) then w_E else r1)), (.ref r0)])) _
    refine st6 _ ?_
    show Steps p.tables e below (T6.setTop (mkF m 29 #[.val (.ref r0), .val (.ref (if (own_f26 sn1 sa1 sb1) = (0 : Int32) then w_E else r1)), .val (.ref r2)] [])) _
    refine XS.aloadN X6.here hx rfl (hb hby d6_29) rfl rfl ?_
    show Steps p.tables e below (T6.setTop (mkF m 30 #[.val (.ref r0), .val (.ref (if (own_f26 sn1 sa1 sb1) = (0 : Int32) then w_E else r1)), .val (.ref r2)] [(.ref r0)])) _
    refine XS.aloadN X6.here hx rfl (hb hby d6_30) rfl rfl ?_
    show Steps p.tables e below (T6.setTop (mkF m 31 #[.val (.ref r0), .val (.ref (if (own_f26 sn1 sa1 sb1) = (0 : Int32) then w_E else r1)), .val (.ref r2)] [(.ref r2), (.ref r0)])) _
    refine st7 _ ?_
    exact k
  obtain ⟨fs, hr, hrun, hended, hW, hsame⟩ := X7.leave (v := none) (fun _ => rfl)
  refine ⟨_, _, k8 _ ?_, hrun, hended, _, _, rfl, ?_, ⟨_, rfl⟩, hW, hsame.mono (by decide) (by decide)⟩
  · exact X7.returnOut hx Bd.returns (hb hby d6_34) hr
  · show own_VI Z r0 (if (own_f26 sn1 sa1 sb1) = (0 : Int32) then w_E else r1) r2 h0 n0 _ T7.heap _
    rw [e7]
    exact ⟨rfl, N7, K0, E_r0, F_lastModified, F_etag⟩
theorem ef_rmVI_1_1 (m : MethodId) (x0 : Addr) (x1 : Addr) (x2 : Addr) : entryFrame m #[(.ref x0), (.ref x1), (.ref x2)] 3 = mkF m 0 #[.val (.ref x0), .val (.ref x1), .val (.ref x2)] [] := by first | (simp [entryFrame, mkF, argsToLocals, Value.category]; done) | rfl
set_option maxRecDepth 65536 in
set_option maxHeartbeats 40000000 in
theorem rmVI_1_1 (l : Launch) (Z : State) (a0 : Array Value) (hw : ∀ d ∈ tables_1, d.before a0 Z = true) (ws : List Jvm.Cond) (r0 : Addr) (r1 : Addr) (r2 : Addr) (sq1 sr1 : Addr) (sk1 : ClassId) (sn1 sa1 sb1 sl1 : Int32) (sv1 : List Value) (sq2 sr2 : Addr) (sk2 : ClassId) (sn2 sa2 sb2 sl2 : Int32) (sv2 : List Value) (w_CS : Int32) (w_E : Addr) (w_F : Value) (h0 : Heap) (n0 : Nat) (hG : own_GC Z w_CS w_E w_F) (O0 : Old Z n0 h0) (g_r0 : n0 ≤ r0) (E_r0 : Exa Z h0 r0 "com/example/indelible_crawl/indeliblecrawl/fetch/Validators") (F_lastModified : Fld Z h0 r0 "com/example/indelible_crawl/indeliblecrawl/fetch/Validators" "lastModified" "Ljava/util/Optional;" .null) (F_etag : Fld Z h0 r0 "com/example/indelible_crawl/indeliblecrawl/fetch/Validators" "etag" "Ljava/util/Optional;" .null) (E_r1 : Exa Z h0 r1 "java/util/Optional") (Fo1 : Fld Z h0 r1 "java/util/Optional" "value" "Ljava/lang/Object;" (.ref sq1)) (hsa1 : own_c8 sa1) (hsb1 : own_c8 sb1) (E_q1 : Exa Z h0 sq1 "java/lang/String") (Fv1 : Fld Z h0 sq1 "java/lang/String" "value" "[B" (.ref sr1)) (Fc1 : Fld Z h0 sq1 "java/lang/String" "coder" "B" (.int (0 : Int32))) (Va1 : Arv Z h0 sr1 sk1 .byte sl1 sv1 (.int (0 : Int32))) (hdl1 : own_dl sn1 sa1 sb1 sl1 sv1) (E_r2 : Exa Z h0 r2 "java/util/Optional") (Fo2 : Fld Z h0 r2 "java/util/Optional" "value" "Ljava/lang/Object;" (.ref sq2)) (hsa2 : own_c8 sa2) (hsb2 : own_c8 sb2) (E_q2 : Exa Z h0 sq2 "java/lang/String") (Fv2 : Fld Z h0 sq2 "java/lang/String" "value" "[B" (.ref sr2)) (Fc2 : Fld Z h0 sq2 "java/lang/String" "coder" "B" (.int (0 : Int32))) (Va2 : Arv Z h0 sr2 sk2 .byte sl2 sv2 (.int (0 : Int32))) (hdl2 : own_dl sn2 sa2 sb2 sl2 sv2) :
    MetFree l (⟨"com/example/indelible_crawl/indeliblecrawl/fetch/Validators", "<init>", "(Ljava/util/Optional;Ljava/util/Optional;)V"⟩ : MethodName) (head1 (Jvm.Cond.code (⟨"com/example/indelible_crawl/indeliblecrawl/fetch/Validators", "<init>", "(Ljava/util/Optional;Ljava/util/Optional;)V"⟩ : MethodName) prog_47_method_1_code 3 none :: ws) ({ frames := 7, cells := 0, slots := 0, locals := 3140 } : Room)) (fun a U => a = #[(.ref r0), (.ref r1), (.ref r2)] ∧ Z.Warmed39 U.vm ∧ U.heap = h0) (fun _ _ _ _ _ => True) (fun _ U o U' => ∃ v L, o = .returned v ∧ own_VI Z r0 (if (own_f26 sn1 sa1 sb1) = (0 : Int32) then w_E else r1) (if (own_f26 sn2 sa2 sb2) = (0 : Int32) then w_E else r2) h0 n0 v U'.heap L ∧ FrameEnd U o U' L ({ frames := 7, cells := 0, slots := 0, locals := 3140 } : Room).cells ({ frames := 7, cells := 0, slots := 0, locals := 3140 } : Room).slots) := by
  refine MetFree.of_bodySF (plainFor_of_name pn_5) hisR ?_
  intro p e s m args below meth c s₁ Bd hml0 hP hK
  obtain ⟨rfl, hZ, hh⟩ := hP
  have hx := Bd.exec
  have hby := Bd.bytes
  have hml : c.maxLocals = 3 := hml0
  have hown : s.vm.findClass "com/example/indelible_crawl/indeliblecrawl/fetch/Validators" = some m.cls := findClass_of_methodNamed Bd.named
  have hnm := (name_of_methodNamed Bd.named Bd.method).1
  have X0 : Stand p l e ({ frames := 7, cells := 0, slots := 0, locals := 3140 } : Room) s m #[(.ref r0), (.ref r1), (.ref r2)] below meth c s₁ [] 0 0 := Stand.of_body Bd
  have e0 : s₁.heap = h0 := by rw [← hh, Bd.state]; rfl
  have N0 := Fr.nil n0
  have pre0 : ∀ t, Steps p.tables e below (s₁.setTop (mkF m 0 #[.val (.ref r0), .val (.ref r1), .val (.ref r2)] [])) t → Steps p.tables e below (s₁.setTop (entryFrame m #[(.ref r0), (.ref r1), (.ref r2)] 3)) t := fun t k => castTop (ef_rmVI_1_1 m r0 r1 r2) k
  have hG' := hG
  obtain ⟨S_CS, hCS, S_E, E_E, F_E, S_F, hF⟩ := hG'
  have K0 : Keep h0 h0 [r0] := Keep.refl _ _
  obtain ⟨_, _, ⟨T1, L1, k1_, n1⟩, -, X1, ⟨Lc1, hQ1, l1, y1, z1⟩, st1⟩ := X0.specialBack hx (y := (⟨"java/lang/Record", "<init>", "()V"⟩ : MethodName)) rfl hown (mvT hZ (hw _ (List.mem_of_getElem? (i := 37) rfl))) (mvT hZ (hw _ (List.mem_of_getElem? (i := 38) rfl))) (mvT hZ (hw _ (List.mem_of_getElem? (i := 41) rfl))) (by decide) (backOf (W := 0) (rm7 l Z a0 hw [] r0 h0 n0 ) hZ (hw _ (List.mem_of_getElem? (i := 41) rfl)) (hw _ (List.mem_of_getElem? (i := 40) rfl)) (by decide) (by decide)) (g := (mkF m 1 #[.val (.ref r0), .val (.ref r1), .val (.ref r2)] [(.ref r0)])) rfl (by rw [hml]; rfl) (Steps.refl _) (a := r0) (argsL := []) (rest := []) (lenOf pd_21 rfl) rfl (by show 2 * 0 + _ ≤ _; exact Nat.le_of_eq rfl) (hb hby d6_1) (fun _ _ => ⟨rfl, e0, (by decide : 0 + 0 ≤ _), (by decide : 0 + 0 ≤ _)⟩)
  dsimp only [Pt.U, Pt.locs, Pt.cells, Pt.slots] at X1 l1 y1 z1 st1 hQ1
  subst l1 y1 z1
  obtain ⟨rfl, Nq1, e1⟩ := hQ1
  have N1 := Fr.app N0 Nq1
  obtain ⟨a2, cK2, hMd2, hFn2, st2⟩ := own_dyn X1 hx hZ (x := (⟨"com/example/indelible_crawl/indeliblecrawl/fetch/Validators", "<init>", "(Ljava/util/Optional;Ljava/util/Optional;)V"⟩ : MethodName)) (pc := 5) (index := 7) (sh := own_sg) Bd.named (hw _ (List.mem_of_getElem? (i := 43) rfl)) rfl (g := (mkF m 5 #[.val (.ref r0), .val (.ref r1), .val (.ref r2)] [(.ref r1)])) rfl rfl (by rw [hml]; rfl) (hb hby d6_5) (by show 2 * 0 + 1 + 3072 ≤ 3140; decide)
  obtain ⟨cq3, kq3, q3a, q3b, q3c⟩ := isOf hZ e1 E_r1
  obtain ⟨_, _, ⟨T3, L3, k3_, n3⟩, -, X3, ⟨Lc3, hQ3, l3, y3, z3⟩, st3⟩ := X1.virtualBack hx (y := (⟨"java/util/Optional", "filter", "(Ljava/util/function/Predicate;)Ljava/util/Optional;"⟩ : MethodName)) (z := (⟨"java/util/Optional", "filter", "(Ljava/util/function/Predicate;)Ljava/util/Optional;"⟩ : MethodName)) hown (mvT hZ (hw _ (List.mem_of_getElem? (i := 46) rfl))) (mvT hZ (hw _ (List.mem_of_getElem? (i := 47) rfl))) (notFace_of_selects (args := #[]) (mvT hZ (hw _ (List.mem_of_getElem? (i := 49) rfl)))) (mvT hZ (hw _ (List.mem_of_getElem? (i := 49) rfl))) (mvT hZ (hw _ (List.mem_of_getElem? (i := 48) rfl))) (by decide) (backOf (W := 0) (rmFS l Z a0 hw [] r1 a2 sq1 sr1 sk1 sn1 sa1 sb1 sl1 sv1 cK2 w_CS w_E w_F h0 n0 hG O0 hMd2 hFn2 E_r1 Fo1 hsa1 hsb1 E_q1 Fv1 Fc1 Va1 hdl1) hZ (hw _ (List.mem_of_getElem? (i := 50) rfl)) (hw _ (List.mem_of_getElem? (i := 28) rfl)) (by decide) (by decide)) q3a q3c (g := (mkF m 10 #[.val (.ref r0), .val (.ref r1), .val (.ref r2)] [(.ref a2), (.ref r1)])) rfl (by rw [hml]; rfl) (Steps.refl _) (argsL := [(.ref a2)]) (rest := []) (lenOf pd_22 rfl) rfl (by show 2 * 0 + _ ≤ _; exact Nat.le_of_eq rfl) (hb hby d6_10) (fun _ _ => ⟨rfl, e1, (by decide : 0 + 0 ≤ _), (by decide : 0 + 0 ≤ _)⟩)
  dsimp only [Pt.U, Pt.locs, Pt.cells, Pt.slots] at X3 l3 y3 z3 st3 hQ3
  subst l3 y3 z3
  obtain ⟨rfl, Nq3, e3⟩ := hQ3
  have N3 := Fr.app N1 Nq3
  obtain ⟨a4, cK4, hMd4, hFn4, st4⟩ := own_dyn X3 hx hZ (x := (⟨"com/example/indelible_crawl/indeliblecrawl/fetch/Validators", "<init>", "(Ljava/util/Optional;Ljava/util/Optional;)V"⟩ : MethodName)) (pc := 15) (index := 7) (sh := own_sg) Bd.named (hw _ (List.mem_of_getElem? (i := 62) rfl)) rfl (g := (mkF m 15 #[.val (.ref r0), .val (.ref (if (own_f26 sn1 sa1 sb1) = (0 : Int32) then w_E else r1)), .val (.ref r2)] [(.ref r2)])) rfl rfl (by rw [hml]; rfl) (hb hby d6_15) (by show 2 * 0 + 1 + 3072 ≤ 3140; decide)
  obtain ⟨cq5, kq5, q5a, q5b, q5c⟩ := isOf hZ e3 E_r2
  obtain ⟨_, _, ⟨T5, L5, k5_, n5⟩, -, X5, ⟨Lc5, hQ5, l5, y5, z5⟩, st5⟩ := X3.virtualBack hx (y := (⟨"java/util/Optional", "filter", "(Ljava/util/function/Predicate;)Ljava/util/Optional;"⟩ : MethodName)) (z := (⟨"java/util/Optional", "filter", "(Ljava/util/function/Predicate;)Ljava/util/Optional;"⟩ : MethodName)) hown (mvT hZ (hw _ (List.mem_of_getElem? (i := 46) rfl))) (mvT hZ (hw _ (List.mem_of_getElem? (i := 47) rfl))) (notFace_of_selects (args := #[]) (mvT hZ (hw _ (List.mem_of_getElem? (i := 49) rfl)))) (mvT hZ (hw _ (List.mem_of_getElem? (i := 49) rfl))) (mvT hZ (hw _ (List.mem_of_getElem? (i := 48) rfl))) (by decide) (backOf (W := 0) (rmFS l Z a0 hw [] r2 a4 sq2 sr2 sk2 sn2 sa2 sb2 sl2 sv2 cK4 w_CS w_E w_F h0 n0 hG O0 hMd4 hFn4 E_r2 Fo2 hsa2 hsb2 E_q2 Fv2 Fc2 Va2 hdl2) hZ (hw _ (List.mem_of_getElem? (i := 50) rfl)) (hw _ (List.mem_of_getElem? (i := 28) rfl)) (by decide) (by decide)) q5a q5c (g := (mkF m 20 #[.val (.ref r0), .val (.ref (if (own_f26 sn1 sa1 sb1) = (0 : Int32) then w_E else r1)), .val (.ref r2)] [(.ref a4), (.ref r2)])) rfl (by rw [hml]; rfl) (Steps.refl _) (argsL := [(.ref a4)]) (rest := []) (lenOf pd_22 rfl) rfl (by show 2 * 0 + _ ≤ _; exact Nat.le_of_eq rfl) (hb hby d6_20) (fun _ _ => ⟨rfl, e3, (by decide : 0 + 0 ≤ _), (by decide : 0 + 0 ≤ _)⟩)
  dsimp only [Pt.U, Pt.locs, Pt.cells, Pt.slots] at X5 l5 y5 z5 st5 hQ5
  subst l5 y5 z5
  obtain ⟨rfl, Nq5, e5⟩ := hQ5
  have N5 := Fr.app N3 Nq5
  obtain ⟨T6, h6, X6, e6, W6, st6⟩ := putF X5 hx hZ hown (host := "") (Or.inl (hw _ (List.mem_of_getElem? (i := 63) rfl))) Via.refl e5 F_lastModified E_r0 (Or.inr ⟨(hw _ (List.mem_of_getElem? (i := 64) rfl)), rfl, hnm⟩) (hw _ (List.mem_of_getElem? (i := 32) rfl)) (ty := (.object "java/util/Optional")) (by decide) rfl rfl (g := (mkF m 26 #[.val (.ref r0), .val (.ref (if (own_f26 sn1 sa1 sb1) = (0 : Int32) then w_E else r1)), .val (.ref (if (own_f26 sn2 sa2 sb2) = (0 : Int32) then w_E else r2))] [(.ref (if (own_f26 sn1 sa1 sb1) = (0 : Int32) then w_E else r1)), (.ref r0)])) rfl rfl (hb hby d6_26)
  replace E_r0 := E_r0.wr W6
  replace F_etag := F_etag.other W6 (Or.inr (slot_ne (Or.inr (hw _ (List.mem_of_getElem? (i := 66) rfl))) (Or.inr (hw _ (List.mem_of_getElem? (i := 64) rfl))) (by decide) (t := (.object "java/util/Optional")) (t' := (.object "java/util/Optional")) (by decide) (by decide)))
  replace O0 := O0.wr W6 g_r0
  replace K0 := K0.wr W6 (Or.inl (List.mem_of_getElem? (i := 0) rfl))
  replace F_lastModified := F_lastModified.same W6
  have N6 := Fr.snoc X6 N5 g_r0
  obtain ⟨T7, h7, X7, e7, W7, st7⟩ := putF X6 hx hZ hown (host := "") (Or.inl (hw _ (List.mem_of_getElem? (i := 65) rfl))) Via.refl e6 F_etag E_r0 (Or.inr ⟨(hw _ (List.mem_of_getElem? (i := 66) rfl)), rfl, hnm⟩) (hw _ (List.mem_of_getElem? (i := 32) rfl)) (ty := (.object "java/util/Optional")) (by decide) rfl rfl (g := (mkF m 31 #[.val (.ref r0), .val (.ref (if (own_f26 sn1 sa1 sb1) = (0 : Int32) then w_E else r1)), .val (.ref (if (own_f26 sn2 sa2 sb2) = (0 : Int32) then w_E else r2))] [(.ref (if (own_f26 sn2 sa2 sb2) = (0 : Int32) then w_E else r2)), (.ref r0)])) rfl rfl (hb hby d6_31)
  replace E_r0 := E_r0.wr W7
  replace F_lastModified := F_lastModified.other W7 (Or.inr (slot_ne (Or.inr (hw _ (List.mem_of_getElem? (i := 64) rfl))) (Or.inr (hw _ (List.mem_of_getElem? (i := 66) rfl))) (by decide) (t := (.object "java/util/Optional")) (t' := (.object "java/util/Optional")) (by decide) (by decide)))
  replace O0 := O0.wr W7 g_r0
  replace K0 := K0.wr W7 (Or.inl (List.mem_of_getElem? (i := 0) rfl))
  replace F_etag := F_etag.same W7
  have N7 := Fr.snoc X7 N6 g_r0
  have k8 : ∀ t, Steps p.tables e below (T7.setTop (mkF m 34 #[.val (.ref r0), .val (.ref (if (own_f26 sn1 sa1 sb1) = (0 : Int32) then w_E else r1)), .val (.ref (if (own_f26 sn2 sa2 sb2) = (0 : Int32) then w_E else r2))] [])) t → Steps p.tables e below (s₁.setTop (entryFrame m #[(.ref r0), (.ref r1), (.ref r2)] 3)) t := by
    intro t k
    refine pre0 _ ?_
    show Steps p.tables e below (s₁.setTop (mkF m 0 #[.val (.ref r0), .val (.ref r1), .val (.ref r2)] [])) _
    refine XS.aloadN X0.here hx rfl (hb hby d6_0) rfl rfl ?_
    show Steps p.tables e below (s₁.setTop (mkF m 1 #[.val (.ref r0), .val (.ref r1), .val (.ref r2)] [(.ref r0)])) _
    refine st1.trans ?_
    show Steps p.tables e below (T1.setTop (mkF m 4 #[.val (.ref r0), .val (.ref r1), .val (.ref r2)] [])) _
    refine XS.aloadN X1.here hx rfl (hb hby d6_4) rfl rfl ?_
    show Steps p.tables e below (T1.setTop (mkF m 5 #[.val (.ref r0), .val (.ref r1), .val (.ref r2)] [(.ref r1)])) _
    refine st2 _ ?_
    show Steps p.tables e below (T1.setTop (mkF m 10 #[.val (.ref r0), .val (.ref r1), .val (.ref r2)] [(.ref a2), (.ref r1)])) _
    refine st3.trans ?_
    show Steps p.tables e below (T3.setTop (mkF m 13 #[.val (.ref r0), .val (.ref r1), .val (.ref r2)] [(.ref (if (own_f26 sn1 sa1 sb1) = (0 : Int32) then w_E else r1))])) _
    refine XS.astoreN X3.here hx rfl (hb hby d6_13) rfl rfl (l' := #[.val (.ref r0), .val (.ref (if (own_f26 sn1 sa1 sb1) = (0 : Int32) then w_E else r1)), .val (.ref r2)]) rfl ?_
    show Steps p.tables e below (T3.setTop (mkF m 14 #[.val (.ref r0), .val (.ref (if (own_f26 sn1 sa1 sb1) = (0 : Int32) then w_E else r1)), .val (.ref r2)] [])) _
    refine XS.aloadN X3.here hx rfl (hb hby d6_14) rfl rfl ?_
    show Steps p.tables e below (T3.setTop (mkF m 15 #[.val (.ref r0), .val (.ref (if (own_f26 sn1 sa1 sb1) = (0 : Int32) then w_E else r1)), .val (.ref r2)] [(.ref r2)])) _
    refine st4 _ ?_
    show Steps p.tables e below (T3.setTop (mkF m 20 #[.val (.ref r0), .val (.ref (if (own_f26 sn1 sa1 sb1) = (0 : Int32) then w_E else r1)), .val (.ref r2)] [(.ref a4), (.ref r2)])) _
    refine st5.trans ?_
    show Steps p.tables e below (T5.setTop (mkF m 23 #[.val (.ref r0), .val (.ref (if (own_f26 sn1 sa1 sb1) = (0 : Int32) then w_E else r1)), .val (.ref r2)] [(.ref (if (own_f26 sn2 sa2 sb2) = (0 : Int32) then w_E else r2))])) _
    refine XS.astoreN X5.here hx rfl (hb hby d6_23) rfl rfl (l' := #[.val (.ref r0), .val (.ref (if (own_f26 sn1 sa1 sb1) = (0 : Int32) then w_E else r1)), .val (.ref (if (own_f26 sn2 sa2 sb2) = (0 : Int32) then w_E else r2))]) rfl ?_
    show Steps p.tables e below (T5.setTop (mkF m 24 #[.val (.ref r0), .val (.ref (if (own_f26 sn1 sa1 sb1) = (0 : Int32) then w_E else r1)), .val (.ref (if (own_f26 sn2 sa2 sb2) = (0 : Int32) then w_E else r2))] [])) _
    refine XS.aloadN X5.here hx rfl (hb hby d6_24) rfl rfl ?_
    show Steps p.tables e below (T5.setTop (mkF m 25 #[.val (.ref r0), .val (.ref (if (own_f26 sn1 sa1 sb1) = (0 : Int32) then w_E else r1)), .val (.ref (if (own_f26 sn2 sa2 sb2) = (0 : Int32) then w_E else r2))] [(.ref r0)])) _
    refine XS.aloadN X5.here hx rfl (hb hby d6_25) rfl rfl ?_
    show Steps p.tables e below (T5.setTop (mkF m 26 #[.val (.ref r0), .val (.ref (if (own_f26 sn1 sa1 sb1) = (0 : Int32) then w_E else r1)), .val (.ref (if (own_f26 sn2 sa2 sb2) = (0 : Int32) then w_E else r2))] [(.ref (if (own_f26 sn1 sa1 sb1) = (0 : Int32) then w_E else r1)), (.ref r0)])) _
    refine st6 _ ?_
    show Steps p.tables e below (T6.setTop (mkF m 29 #[.val (.ref r0), .val (.ref (if (own_f26 sn1 sa1 sb1) = (0 : Int32) then w_E else r1)), .val (.ref (if (own_f26 sn2 sa2 sb2) = (0 : Int32) then w_E else r2))] [])) _
    refine XS.aloadN X6.here hx rfl (hb hby d6_29) rfl rfl ?_
    show Steps p.tables e below (T6.setTop (mkF m 30 #[.val (.ref r0), .val (.ref (if (own_f26 sn1 sa1 sb1) = (0 : Int32) then w_E else r1)), .val (.ref (if (own_f26 sn2 sa2 sb2) = (0 : Int32) then w_E else r2))] [(.ref r0)])) _
    refine XS.aloadN X6.here hx rfl (hb hby d6_30) rfl rfl ?_
    show Steps p.tables e below (T6.setTop (mkF m 31 #[.val (.ref r0), .val (.ref (if (own_f26 sn1 sa1 sb1) = (0 : Int32) then w_E else r1)), .val (.ref (if (own_f26 sn2 sa2 sb2) = (0 : Int32) then w_E else r2))] [(.ref (if (own_f26 sn2 sa2 sb2) = (0 : Int32) then w_E else r2)), (.ref r0)])) _
    refine st7 _ ?_
    exact k
  obtain ⟨fs, hr, hrun, hended, hW, hsame⟩ := X7.leave (v := none) (fun _ => rfl)
  refine ⟨_, _, k8 _ ?_, hrun, hended, _, _, rfl, ?_, ⟨_, rfl⟩, hW, hsame.mono (by decide) (by decide)⟩
  · exact X7.returnOut hx Bd.returns (hb hby d6_34) hr
  · show own_VI Z r0 (if (own_f26 sn1 sa1 sb1) = (0 : Int32) then w_E else r1) (if (own_f26 sn2 sa2 sb2) = (0 : Int32) then w_E else r2) h0 n0 _ T7.heap _
    rw [e7]
    exact ⟨rfl, N7, K0, E_r0, F_lastModified, F_etag⟩
theorem ef_rmVE_0_0 (m : MethodId) (x0 : Addr) : entryFrame m #[(.ref x0)] 1 = mkF m 0 #[.val (.ref x0)] [] := by first | (simp [entryFrame, mkF, argsToLocals, Value.category]; done) | rfl
theorem d11_0 : decode prog_47_method_2_code 0 = .ok (.aload_n 0, 1) := by decide +kernel
theorem d11_1 : decode prog_47_method_2_code 1 = .ok (.getfield 17, 3) := by decide +kernel
theorem d11_4 : decode prog_47_method_2_code 4 = .ok (.invokevirtual 26, 3) := by decide +kernel
theorem d11_7 : decode prog_47_method_2_code 7 = .ok (.ifCond .eq 17, 3) := by decide +kernel
theorem d11_10 : decode prog_47_method_2_code 10 = .ok (.aload_n 0, 1) := by decide +kernel
theorem d11_11 : decode prog_47_method_2_code 11 = .ok (.getfield 23, 3) := by decide +kernel
theorem d11_14 : decode prog_47_method_2_code 14 = .ok (.invokevirtual 26, 3) := by decide +kernel
theorem d11_17 : decode prog_47_method_2_code 17 = .ok (.ifCond .eq 7, 3) := by decide +kernel
theorem d11_20 : decode prog_47_method_2_code 20 = .ok (.iconst 1, 1) := by decide +kernel
theorem d11_21 : decode prog_47_method_2_code 21 = .ok (.goto 4, 3) := by decide +kernel
theorem d11_25 : decode prog_47_method_2_code 25 = .ok (.ireturn, 1) := by decide +kernel
set_option maxRecDepth 65536 in
set_option maxHeartbeats 40000000 in
theorem rmVE_0_0 (l : Launch) (Z : State) (a0 : Array Value) (hw : ∀ d ∈ tables_1, d.before a0 Z = true) (ws : List Jvm.Cond) (r0 : Addr) (x1 x2 : Addr) (h0 : Heap) (n0 : Nat) (Fa : Fld Z h0 r0 "com/example/indelible_crawl/indeliblecrawl/fetch/Validators" "lastModified" "Ljava/util/Optional;" (.ref x1)) (Fb : Fld Z h0 r0 "com/example/indelible_crawl/indeliblecrawl/fetch/Validators" "etag" "Ljava/util/Optional;" (.ref x2)) (E_x1 : Exa Z h0 x1 "java/util/Optional") (Fo1 : Fld Z h0 x1 "java/util/Optional" "value" "Ljava/lang/Object;" .null) (E_x2 : Exa Z h0 x2 "java/util/Optional") (Fo2 : Fld Z h0 x2 "java/util/Optional" "value" "Ljava/lang/Object;" .null) :
    MetFree l (⟨"com/example/indelible_crawl/indeliblecrawl/fetch/Validators", "isEmpty", "()Z"⟩ : MethodName) (head1 (Jvm.Cond.code (⟨"com/example/indelible_crawl/indeliblecrawl/fetch/Validators", "isEmpty", "()Z"⟩ : MethodName) prog_47_method_2_code 1 (some .boolean) :: ws) ({ frames := 1, cells := 0, slots := 0, locals := 16 } : Room)) (fun a U => a = #[(.ref r0)] ∧ Z.Warmed39 U.vm ∧ U.heap = h0) (fun _ _ _ _ _ => True) (fun _ U o U' => ∃ v L, o = .returned v ∧ own_Q (some (.int (1 : Int32))) h0 n0 v U'.heap L ∧ FrameEnd U o U' L ({ frames := 1, cells := 0, slots := 0, locals := 16 } : Room).cells ({ frames := 1, cells := 0, slots := 0, locals := 16 } : Room).slots) := by
  refine MetFree.of_bodySF (plainFor_of_name pn_5) hisR ?_
  intro p e s m args below meth c s₁ Bd hml0 hP hK
  obtain ⟨rfl, hZ, hh⟩ := hP
  have hx := Bd.exec
  have hby := Bd.bytes
  have hml : c.maxLocals = 1 := hml0
  have hown : s.vm.findClass "com/example/indelible_crawl/indeliblecrawl/fetch/Validators" = some m.cls := findClass_of_methodNamed Bd.named
  have hnm := (name_of_methodNamed Bd.named Bd.method).1
  have X0 : Stand p l e ({ frames := 1, cells := 0, slots := 0, locals := 16 } : Room) s m #[(.ref r0)] below meth c s₁ [] 0 0 := Stand.of_body Bd
  have e0 : s₁.heap = h0 := by rw [← hh, Bd.state]; rfl
  have N0 := Fr.nil n0
  have pre0 : ∀ t, Steps p.tables e below (s₁.setTop (mkF m 0 #[.val (.ref r0)] [])) t → Steps p.tables e below (s₁.setTop (entryFrame m #[(.ref r0)] 1)) t := fun t k => castTop (ef_rmVE_0_0 m r0) k
  obtain ⟨T1, X1, e1, st1⟩ := getF X0 hx hZ hown (host := "") (Or.inl (hw _ (List.mem_of_getElem? (i := 63) rfl))) Via.refl e0 Fa (g := (mkF m 1 #[.val (.ref r0)] [(.ref r0)])) rfl rfl (hb hby d11_1)
  obtain ⟨cq2, kq2, q2a, q2b, q2c⟩ := isOf hZ e1 E_x1
  obtain ⟨_, _, ⟨T2, L2, k2_, n2⟩, -, X2, ⟨Lc2, hQ2, l2, y2, z2⟩, st2⟩ := X1.virtualBack hx (y := (⟨"java/util/Optional", "isEmpty", "()Z"⟩ : MethodName)) (z := (⟨"java/util/Optional", "isEmpty", "()Z"⟩ : MethodName)) hown (mvT hZ (hw _ (List.mem_of_getElem? (i := 72) rfl))) (mvT hZ (hw _ (List.mem_of_getElem? (i := 56) rfl))) (notFace_of_selects (args := #[]) (mvT hZ (hw _ (List.mem_of_getElem? (i := 58) rfl)))) (mvT hZ (hw _ (List.mem_of_getElem? (i := 58) rfl))) (mvT hZ (hw _ (List.mem_of_getElem? (i := 57) rfl))) (by decide) (backOf (W := 0) (rmIE_0 l Z a0 hw [] x1  h0 n0 Fo1) hZ (hw _ (List.mem_of_getElem? (i := 59) rfl)) (hw _ (List.mem_of_getElem? (i := 28) rfl)) (by decide) (by decide)) q2a q2c (g := (mkF m 4 #[.val (.ref r0)] [(.ref x1)])) rfl (by rw [hml]; rfl) (Steps.refl _) (argsL := []) (rest := []) (lenOf pd_13 rfl) rfl (by show 2 * 0 + _ ≤ _; exact Nat.le_of_eq rfl) (hb hby d11_4) (fun _ _ => ⟨rfl, e1, (by decide : 0 + 0 ≤ _), (by decide : 0 + 0 ≤ _)⟩)
  dsimp only [Pt.U, Pt.locs, Pt.cells, Pt.slots] at X2 l2 y2 z2 st2 hQ2
  subst l2 y2 z2
  obtain ⟨rfl, Nq2, e2⟩ := hQ2
  have N2 := Fr.app N0 Nq2
  obtain ⟨T3, X3, e3, st3⟩ := getF X2 hx hZ hown (host := "") (Or.inl (hw _ (List.mem_of_getElem? (i := 65) rfl))) Via.refl e2 Fb (g := (mkF m 11 #[.val (.ref r0)] [(.ref r0)])) rfl rfl (hb hby d11_11)
  obtain ⟨cq4, kq4, q4a, q4b, q4c⟩ := isOf hZ e3 E_x2
  obtain ⟨_, _, ⟨T4, L4, k4_, n4⟩, -, X4, ⟨Lc4, hQ4, l4, y4, z4⟩, st4⟩ := X3.virtualBack hx (y := (⟨"java/util/Optional", "isEmpty", "()Z"⟩ : MethodName)) (z := (⟨"java/util/Optional", "isEmpty", "()Z"⟩ : MethodName)) hown (mvT hZ (hw _ (List.mem_of_getElem? (i := 72) rfl))) (mvT hZ (hw _ (List.mem_of_getElem? (i := 56) rfl))) (notFace_of_selects (args := #[]) (mvT hZ (hw _ (List.mem_of_getElem? (i := 58) rfl)))) (mvT hZ (hw _ (List.mem_of_getElem? (i := 58) rfl))) (mvT hZ (hw _ (List.mem_of_getElem? (i := 57) rfl))) (by decide) (backOf (W := 0) (rmIE_0 l Z a0 hw [] x2  h0 n0 Fo2) hZ (hw _ (List.mem_of_getElem? (i := 59) rfl)) (hw _ (List.mem_of_getElem? (i := 28) rfl)) (by decide) (by decide)) q4a q4c (g := (mkF m 14 #[.val (.ref r0)] [(.ref x2)])) rfl (by rw [hml]; rfl) (Steps.refl _) (argsL := []) (rest := []) (lenOf pd_13 rfl) rfl (by show 2 * 0 + _ ≤ _; exact Nat.le_of_eq rfl) (hb hby d11_14) (fun _ _ => ⟨rfl, e3, (by decide : 0 + 0 ≤ _), (by decide : 0 + 0 ≤ _)⟩)
  dsimp only [Pt.U, Pt.locs, Pt.cells, Pt.slots] at X4 l4 y4 z4 st4 hQ4
  subst l4 y4 z4
  obtain ⟨rfl, Nq4, e4⟩ := hQ4
  have N4 := Fr.app N2 Nq4
  have k5 : ∀ t, Steps p.tables e below (T4.setTop (mkF m 25 #[.val (.ref r0)] [(.int (1 : Int32))])) t → Steps p.tables e below (s₁.setTop (entryFrame m #[(.ref r0)] 1)) t := by
    intro t k
    refine pre0 _ ?_
    show Steps p.tables e below (s₁.setTop (mkF m 0 #[.val (.ref r0)] [])) _
    refine XS.aloadN X0.here hx rfl (hb hby d11_0) rfl rfl ?_
    show Steps p.tables e below (s₁.setTop (mkF m 1 #[.val (.ref r0)] [(.ref r0)])) _
    refine st1 _ ?_
    show Steps p.tables e below (T1.setTop (mkF m 4 #[.val (.ref r0)] [(.ref x1)])) _
    refine st2.trans ?_
    show Steps p.tables e below (T2.setTop (mkF m 7 #[.val (.ref r0)] [(.int (1 : Int32))])) _
    refine XS.ifNo X2.here hx rfl (hb hby d11_7) rfl ((if0 _ _).trans (feq (by decide)).1) ?_
    show Steps p.tables e below (T2.setTop (mkF m 10 #[.val (.ref r0)] [])) _
    refine XS.aloadN X2.here hx rfl (hb hby d11_10) rfl rfl ?_
    show Steps p.tables e below (T2.setTop (mkF m 11 #[.val (.ref r0)] [(.ref r0)])) _
    refine st3 _ ?_
    show Steps p.tables e below (T3.setTop (mkF m 14 #[.val (.ref r0)] [(.ref x2)])) _
    refine st4.trans ?_
    show Steps p.tables e below (T4.setTop (mkF m 17 #[.val (.ref r0)] [(.int (1 : Int32))])) _
    refine XS.ifNo X4.here hx rfl (hb hby d11_17) rfl ((if0 _ _).trans (feq (by decide)).1) ?_
    show Steps p.tables e below (T4.setTop (mkF m 20 #[.val (.ref r0)] [])) _
    refine XS.iconst X4.here hx rfl (hb hby d11_20) ?_
    show Steps p.tables e below (T4.setTop (mkF m 21 #[.val (.ref r0)] [(.int (1 : Int32))])) _
    refine XS.goto X4.here hx rfl (pc0 := 21) (pc' := 25) rfl (hb hby d11_21) (by decide) (by decide) ?_
    exact k
  obtain ⟨fs, hr, hrun, hended, hW, hsame⟩ := X4.leave (v := some (.int (1 : Int32))) (fun h => by rw [Bd.returns] at h; cases h)
  refine ⟨_, _, k5 _ ?_, hrun, hended, _, _, rfl, ?_, ⟨_, rfl⟩, hW, hsame.mono (by decide) (by decide)⟩
  · exact retN X4 hx (t := .boolean) Bd.returns (by simp) (hb hby d11_25) hr
  · show own_Q (some (.int (1 : Int32))) h0 n0 _ T4.heap _
    rw [e4]
    exact ⟨rfl, N4, rfl⟩
theorem ef_rmVE_0_1 (m : MethodId) (x0 : Addr) : entryFrame m #[(.ref x0)] 1 = mkF m 0 #[.val (.ref x0)] [] := by first | (simp [entryFrame, mkF, argsToLocals, Value.category]; done) | rfl
theorem d11_24 : decode prog_47_method_2_code 24 = .ok (.iconst 0, 1) := by decide +kernel
set_option maxRecDepth 65536 in
set_option maxHeartbeats 40000000 in
theorem rmVE_0_1 (l : Launch) (Z : State) (a0 : Array Value) (hw : ∀ d ∈ tables_1, d.before a0 Z = true) (ws : List Jvm.Cond) (r0 : Addr) (x1 x2 q2 : Addr) (h0 : Heap) (n0 : Nat) (Fa : Fld Z h0 r0 "com/example/indelible_crawl/indeliblecrawl/fetch/Validators" "lastModified" "Ljava/util/Optional;" (.ref x1)) (Fb : Fld Z h0 r0 "com/example/indelible_crawl/indeliblecrawl/fetch/Validators" "etag" "Ljava/util/Optional;" (.ref x2)) (E_x1 : Exa Z h0 x1 "java/util/Optional") (Fo1 : Fld Z h0 x1 "java/util/Optional" "value" "Ljava/lang/Object;" .null) (E_x2 : Exa Z h0 x2 "java/util/Optional") (Fo2 : Fld Z h0 x2 "java/util/Optional" "value" "Ljava/lang/Object;" (.ref q2)) :
    MetFree l (⟨"com/example/indelible_crawl/indeliblecrawl/fetch/Validators", "isEmpty", "()Z"⟩ : MethodName) (head1 (Jvm.Cond.code (⟨"com/example/indelible_crawl/indeliblecrawl/fetch/Validators", "isEmpty", "()Z"⟩ : MethodName) prog_47_method_2_code 1 (some .boolean) :: ws) ({ frames := 1, cells := 0, slots := 0, locals := 16 } : Room)) (fun a U => a = #[(.ref r0)] ∧ Z.Warmed39 U.vm ∧ U.heap = h0) (fun _ _ _ _ _ => True) (fun _ U o U' => ∃ v L, o = .returned v ∧ own_Q (some (.int (0 : Int32))) h0 n0 v U'.heap L ∧ FrameEnd U o U' L ({ frames := 1, cells := 0, slots := 0, locals := 16 } : Room).cells ({ frames := 1, cells := 0, slots := 0, locals := 16 } : Room).slots) := by
  refine MetFree.of_bodySF (plainFor_of_name pn_5) hisR ?_
  intro p e s m args below meth c s₁ Bd hml0 hP hK
  obtain ⟨rfl, hZ, hh⟩ := hP
  have hx := Bd.exec
  have hby := Bd.bytes
  have hml : c.maxLocals = 1 := hml0
  have hown : s.vm.findClass "com/example/indelible_crawl/indeliblecrawl/fetch/Validators" = some m.cls := findClass_of_methodNamed Bd.named
  have hnm := (name_of_methodNamed Bd.named Bd.method).1
  have X0 : Stand p l e ({ frames := 1, cells := 0, slots := 0, locals := 16 } : Room) s m #[(.ref r0)] below meth c s₁ [] 0 0 := Stand.of_body Bd
  have e0 : s₁.heap = h0 := by rw [← hh, Bd.state]; rfl
  have N0 := Fr.nil n0
  have pre0 : ∀ t, Steps p.tables e below (s₁.setTop (mkF m 0 #[.val (.ref r0)] [])) t → Steps p.tables e below (s₁.setTop (entryFrame m #[(.ref r0)] 1)) t := fun t k => castTop (ef_rmVE_0_1 m r0) k
  obtain ⟨T1, X1, e1, st1⟩ := getF X0 hx hZ hown (host := "") (Or.inl (hw _ (List.mem_of_getElem? (i := 63) rfl))) Via.refl e0 Fa (g := (mkF m 1 #[.val (.ref r0)] [(.ref r0)])) rfl rfl (hb hby d11_1)
  obtain ⟨cq2, kq2, q2a, q2b, q2c⟩ := isOf hZ e1 E_x1
  obtain ⟨_, _, ⟨T2, L2, k2_, n2⟩, -, X2, ⟨Lc2, hQ2, l2, y2, z2⟩, st2⟩ := X1.virtualBack hx (y := (⟨"java/util/Optional", "isEmpty", "()Z"⟩ : MethodName)) (z := (⟨"java/util/Optional", "isEmpty", "()Z"⟩ : MethodName)) hown (mvT hZ (hw _ (List.mem_of_getElem? (i := 72) rfl))) (mvT hZ (hw _ (List.mem_of_getElem? (i := 56) rfl))) (notFace_of_selects (args := #[]) (mvT hZ (hw _ (List.mem_of_getElem? (i := 58) rfl)))) (mvT hZ (hw _ (List.mem_of_getElem? (i := 58) rfl))) (mvT hZ (hw _ (List.mem_of_getElem? (i := 57) rfl))) (by decide) (backOf (W := 0) (rmIE_0 l Z a0 hw [] x1  h0 n0 Fo1) hZ (hw _ (List.mem_of_getElem? (i := 59) rfl)) (hw _ (List.mem_of_getElem? (i := 28) rfl)) (by decide) (by decide)) q2a q2c (g := (mkF m 4 #[.val (.ref r0)] [(.ref x1)])) rfl (by rw [hml]; rfl) (Steps.refl _) (argsL := []) (rest := []) (lenOf pd_13 rfl) rfl (by show 2 * 0 + _ ≤ _; exact Nat.le_of_eq rfl) (hb hby d11_4) (fun _ _ => ⟨rfl, e1, (by decide : 0 + 0 ≤ _), (by decide : 0 + 0 ≤ _)⟩)
  dsimp only [Pt.U, Pt.locs, Pt.cells, Pt.slots] at X2 l2 y2 z2 st2 hQ2
  subst l2 y2 z2
  obtain ⟨rfl, Nq2, e2⟩ := hQ2
  have N2 := Fr.app N0 Nq2
  obtain ⟨T3, X3, e3, st3⟩ := getF X2 hx hZ hown (host := "") (Or.inl (hw _ (List.mem_of_getElem? (i := 65) rfl))) Via.refl e2 Fb (g := (mkF m 11 #[.val (.ref r0)] [(.ref r0)])) rfl rfl (hb hby d11_11)
  obtain ⟨cq4, kq4, q4a, q4b, q4c⟩ := isOf hZ e3 E_x2
  obtain ⟨_, _, ⟨T4, L4, k4_, n4⟩, -, X4, ⟨Lc4, hQ4, l4, y4, z4⟩, st4⟩ := X3.virtualBack hx (y := (⟨"java/util/Optional", "isEmpty", "()Z"⟩ : MethodName)) (z := (⟨"java/util/Optional", "isEmpty", "()Z"⟩ : MethodName)) hown (mvT hZ (hw _ (List.mem_of_getElem? (i := 72) rfl))) (mvT hZ (hw _ (List.mem_of_getElem? (i := 56) rfl))) (notFace_of_selects (args := #[]) (mvT hZ (hw _ (List.mem_of_getElem? (i := 58) rfl)))) (mvT hZ (hw _ (List.mem_of_getElem? (i := 58) rfl))) (mvT hZ (hw _ (List.mem_of_getElem? (i := 57) rfl))) (by decide) (backOf (W := 0) (rmIE_1 l Z a0 hw [] x2 q2 h0 n0 Fo2) hZ (hw _ (List.mem_of_getElem? (i := 59) rfl)) (hw _ (List.mem_of_getElem? (i := 28) rfl)) (by decide) (by decide)) q4a q4c (g := (mkF m 14 #[.val (.ref r0)] [(.ref x2)])) rfl (by rw [hml]; rfl) (Steps.refl _) (argsL := []) (rest := []) (lenOf pd_13 rfl) rfl (by show 2 * 0 + _ ≤ _; exact Nat.le_of_eq rfl) (hb hby d11_14) (fun _ _ => ⟨rfl, e3, (by decide : 0 + 0 ≤ _), (by decide : 0 + 0 ≤ _)⟩)
  dsimp only [Pt.U, Pt.locs, Pt.cells, Pt.slots] at X4 l4 y4 z4 st4 hQ4
  subst l4 y4 z4
  obtain ⟨rfl, Nq4, e4⟩ := hQ4
  have N4 := Fr.app N2 Nq4
  have k5 : ∀ t, Steps p.tables e below (T4.setTop (mkF m 25 #[.val (.ref r0)] [(.int (0 : Int32))])) t → Steps p.tables e below (s₁.setTop (entryFrame m #[(.ref r0)] 1)) t := by
    intro t k
    refine pre0 _ ?_
    show Steps p.tables e below (s₁.setTop (mkF m 0 #[.val (.ref r0)] [])) _
    refine XS.aloadN X0.here hx rfl (hb hby d11_0) rfl rfl ?_
    show Steps p.tables e below (s₁.setTop (mkF m 1 #[.val (.ref r0)] [(.ref r0)])) _
    refine st1 _ ?_
    show Steps p.tables e below (T1.setTop (mkF m 4 #[.val (.ref r0)] [(.ref x1)])) _
    refine st2.trans ?_
    show Steps p.tables e below (T2.setTop (mkF m 7 #[.val (.ref r0)] [(.int (1 : Int32))])) _
    refine XS.ifNo X2.here hx rfl (hb hby d11_7) rfl ((if0 _ _).trans (feq (by decide)).1) ?_
    show Steps p.tables e below (T2.setTop (mkF m 10 #[.val (.ref r0)] [])) _
    refine XS.aloadN X2.here hx rfl (hb hby d11_10) rfl rfl ?_
    show Steps p.tables e below (T2.setTop (mkF m 11 #[.val (.ref r0)] [(.ref r0)])) _
    refine st3 _ ?_
    show Steps p.tables e below (T3.setTop (mkF m 14 #[.val (.ref r0)] [(.ref x2)])) _
    refine st4.trans ?_
    show Steps p.tables e below (T4.setTop (mkF m 17 #[.val (.ref r0)] [(.int (0 : Int32))])) _
    refine XS.ifYes X4.here hx rfl (pc0 := 17) (pc' := 24) rfl (hb hby d11_17) rfl ((if0 _ _).trans (teq (by decide)).1) (by decide) (by decide) ?_
    show Steps p.tables e below (T4.setTop (mkF m 24 #[.val (.ref r0)] [])) _
    refine XS.iconst X4.here hx rfl (hb hby d11_24) ?_
    exact k
  obtain ⟨fs, hr, hrun, hended, hW, hsame⟩ := X4.leave (v := some (.int (0 : Int32))) (fun h => by rw [Bd.returns] at h; cases h)
  refine ⟨_, _, k5 _ ?_, hrun, hended, _, _, rfl, ?_, ⟨_, rfl⟩, hW, hsame.mono (by decide) (by decide)⟩
  · exact retN X4 hx (t := .boolean) Bd.returns (by simp) (hb hby d11_25) hr
  · show own_Q (some (.int (0 : Int32))) h0 n0 _ T4.heap _
    rw [e4]
    exact ⟨rfl, N4, rfl⟩
theorem ef_rmVE_1_0 (m : MethodId) (x0 : Addr) : entryFrame m #[(.ref x0)] 1 = mkF m 0 #[.val (.ref x0)] [] := by first | (simp [entryFrame, mkF, argsToLocals, Value.category]; done) | rfl
set_option maxRecDepth 65536 in
set_option maxHeartbeats 40000000 in
theorem rmVE_1_0 (l : Launch) (Z : State) (a0 : Array Value) (hw : ∀ d ∈ tables_1, d.before a0 Z = true) (ws : List Jvm.Cond) (r0 : Addr) (x1 x2 q1 : Addr) (h0 : Heap) (n0 : Nat) (Fa : Fld Z h0 r0 "com/example/indelible_crawl/indeliblecrawl/fetch/Validators" "lastModified" "Ljava/util/Optional;" (.ref x1)) (Fb : Fld Z h0 r0 "com/example/indelible_crawl/indeliblecrawl/fetch/Validators" "etag" "Ljava/util/Optional;" (.ref x2)) (E_x1 : Exa Z h0 x1 "java/util/Optional") (Fo1 : Fld Z h0 x1 "java/util/Optional" "value" "Ljava/lang/Object;" (.ref q1)) (E_x2 : Exa Z h0 x2 "java/util/Optional") (Fo2 : Fld Z h0 x2 "java/util/Optional" "value" "Ljava/lang/Object;" .null) :
    MetFree l (⟨"com/example/indelible_crawl/indeliblecrawl/fetch/Validators", "isEmpty", "()Z"⟩ : MethodName) (head1 (Jvm.Cond.code (⟨"com/example/indelible_crawl/indeliblecrawl/fetch/Validators", "isEmpty", "()Z"⟩ : MethodName) prog_47_method_2_code 1 (some .boolean) :: ws) ({ frames := 1, cells := 0, slots := 0, locals := 16 } : Room)) (fun a U => a = #[(.ref r0)] ∧ Z.Warmed39 U.vm ∧ U.heap = h0) (fun _ _ _ _ _ => True) (fun _ U o U' => ∃ v L, o = .returned v ∧ own_Q (some (.int (0 : Int32))) h0 n0 v U'.heap L ∧ FrameEnd U o U' L ({ frames := 1, cells := 0, slots := 0, locals := 16 } : Room).cells ({ frames := 1, cells := 0, slots := 0, locals := 16 } : Room).slots) := by
  refine MetFree.of_bodySF (plainFor_of_name pn_5) hisR ?_
  intro p e s m args below meth c s₁ Bd hml0 hP hK
  obtain ⟨rfl, hZ, hh⟩ := hP
  have hx := Bd.exec
  have hby := Bd.bytes
  have hml : c.maxLocals = 1 := hml0
  have hown : s.vm.findClass "com/example/indelible_crawl/indeliblecrawl/fetch/Validators" = some m.cls := findClass_of_methodNamed Bd.named
  have hnm := (name_of_methodNamed Bd.named Bd.method).1
  have X0 : Stand p l e ({ frames := 1, cells := 0, slots := 0, locals := 16 } : Room) s m #[(.ref r0)] below meth c s₁ [] 0 0 := Stand.of_body Bd
  have e0 : s₁.heap = h0 := by rw [← hh, Bd.state]; rfl
  have N0 := Fr.nil n0
  have pre0 : ∀ t, Steps p.tables e below (s₁.setTop (mkF m 0 #[.val (.ref r0)] [])) t → Steps p.tables e below (s₁.setTop (entryFrame m #[(.ref r0)] 1)) t := fun t k => castTop (ef_rmVE_1_0 m r0) k
  obtain ⟨T1, X1, e1, st1⟩ := getF X0 hx hZ hown (host := "") (Or.inl (hw _ (List.mem_of_getElem? (i := 63) rfl))) Via.refl e0 Fa (g := (mkF m 1 #[.val (.ref r0)] [(.ref r0)])) rfl rfl (hb hby d11_1)
  obtain ⟨cq2, kq2, q2a, q2b, q2c⟩ := isOf hZ e1 E_x1
  obtain ⟨_, _, ⟨T2, L2, k2_, n2⟩, -, X2, ⟨Lc2, hQ2, l2, y2, z2⟩, st2⟩ := X1.virtualBack hx (y := (⟨"java/util/Optional", "isEmpty", "()Z"⟩ : MethodName)) (z := (⟨"java/util/Optional", "isEmpty", "()Z"⟩ : MethodName)) hown (mvT hZ (hw _ (List.mem_of_getElem? (i := 72) rfl))) (mvT hZ (hw _ (List.mem_of_getElem? (i := 56) rfl))) (notFace_of_selects (args := #[]) (mvT hZ (hw _ (List.mem_of_getElem? (i := 58) rfl)))) (mvT hZ (hw _ (List.mem_of_getElem? (i := 58) rfl))) (mvT hZ (hw _ (List.mem_of_getElem? (i := 57) rfl))) (by decide) (backOf (W := 0) (rmIE_1 l Z a0 hw [] x1 q1 h0 n0 Fo1) hZ (hw _ (List.mem_of_getElem? (i := 59) rfl)) (hw _ (List.mem_of_getElem? (i := 28) rfl)) (by decide) (by decide)) q2a q2c (g := (mkF m 4 #[.val (.ref r0)] [(.ref x1)])) rfl (by rw [hml]; rfl) (Steps.refl _) (argsL := []) (rest := []) (lenOf pd_13 rfl) rfl (by show 2 * 0 + _ ≤ _; exact Nat.le_of_eq rfl) (hb hby d11_4) (fun _ _ => ⟨rfl, e1, (by decide : 0 + 0 ≤ _), (by decide : 0 + 0 ≤ _)⟩)
  dsimp only [Pt.U, Pt.locs, Pt.cells, Pt.slots] at X2 l2 y2 z2 st2 hQ2
  subst l2 y2 z2
  obtain ⟨rfl, Nq2, e2⟩ := hQ2
  have N2 := Fr.app N0 Nq2
  have k3 : ∀ t, Steps p.tables e below (T2.setTop (mkF m 25 #[.val (.ref r0)] [(.int (0 : Int32))])) t → Steps p.tables e below (s₁.setTop (entryFrame m #[(.ref r0)] 1)) t := by
    intro t k
    refine pre0 _ ?_
    show Steps p.tables e below (s₁.setTop (mkF m 0 #[.val (.ref r0)] [])) _
    refine XS.aloadN X0.here hx rfl (hb hby d11_0) rfl rfl ?_
    show Steps p.tables e below (s₁.setTop (mkF m 1 #[.val (.ref r0)] [(.ref r0)])) _
    refine st1 _ ?_
    show Steps p.tables e below (T1.setTop (mkF m 4 #[.val (.ref r0)] [(.ref x1)])) _
    refine st2.trans ?_
    show Steps p.tables e below (T2.setTop (mkF m 7 #[.val (.ref r0)] [(.int (0 : Int32))])) _
    refine XS.ifYes X2.here hx rfl (pc0 := 7) (pc' := 24) rfl (hb hby d11_7) rfl ((if0 _ _).trans (teq (by decide)).1) (by decide) (by decide) ?_
    show Steps p.tables e below (T2.setTop (mkF m 24 #[.val (.ref r0)] [])) _
    refine XS.iconst X2.here hx rfl (hb hby d11_24) ?_
    exact k
  obtain ⟨fs, hr, hrun, hended, hW, hsame⟩ := X2.leave (v := some (.int (0 : Int32))) (fun h => by rw [Bd.returns] at h; cases h)
  refine ⟨_, _, k3 _ ?_, hrun, hended, _, _, rfl, ?_, ⟨_, rfl⟩, hW, hsame.mono (by decide) (by decide)⟩
  · exact retN X2 hx (t := .boolean) Bd.returns (by simp) (hb hby d11_25) hr
  · show own_Q (some (.int (0 : Int32))) h0 n0 _ T2.heap _
    rw [e2]
    exact ⟨rfl, N2, rfl⟩
theorem ef_rmVE_1_1 (m : MethodId) (x0 : Addr) : entryFrame m #[(.ref x0)] 1 = mkF m 0 #[.val (.ref x0)] [] := by first | (simp [entryFrame, mkF, argsToLocals, Value.category]; done) | rfl
set_option maxRecDepth 65536 in
set_option maxHeartbeats 40000000 in
theorem rmVE_1_1 (l : Launch) (Z : State) (a0 : Array Value) (hw : ∀ d ∈ tables_1, d.before a0 Z = true) (ws : List Jvm.Cond) (r0 : Addr) (x1 x2 q1 q2 : Addr) (h0 : Heap) (n0 : Nat) (Fa : Fld Z h0 r0 "com/example/indelible_crawl/indeliblecrawl/fetch/Validators" "lastModified" "Ljava/util/Optional;" (.ref x1)) (Fb : Fld Z h0 r0 "com/example/indelible_crawl/indeliblecrawl/fetch/Validators" "etag" "Ljava/util/Optional;" (.ref x2)) (E_x1 : Exa Z h0 x1 "java/util/Optional") (Fo1 : Fld Z h0 x1 "java/util/Optional" "value" "Ljava/lang/Object;" (.ref q1)) (E_x2 : Exa Z h0 x2 "java/util/Optional") (Fo2 : Fld Z h0 x2 "java/util/Optional" "value" "Ljava/lang/Object;" (.ref q2)) :
    MetFree l (⟨"com/example/indelible_crawl/indeliblecrawl/fetch/Validators", "isEmpty", "()Z"⟩ : MethodName) (head1 (Jvm.Cond.code (⟨"com/example/indelible_crawl/indeliblecrawl/fetch/Validators", "isEmpty", "()Z"⟩ : MethodName) prog_47_method_2_code 1 (some .boolean) :: ws) ({ frames := 1, cells := 0, slots := 0, locals := 16 } : Room)) (fun a U => a = #[(.ref r0)] ∧ Z.Warmed39 U.vm ∧ U.heap = h0) (fun _ _ _ _ _ => True) (fun _ U o U' => ∃ v L, o = .returned v ∧ own_Q (some (.int (0 : Int32))) h0 n0 v U'.heap L ∧ FrameEnd U o U' L ({ frames := 1, cells := 0, slots := 0, locals := 16 } : Room).cells ({ frames := 1, cells := 0, slots := 0, locals := 16 } : Room).slots) := by
  refine MetFree.of_bodySF (plainFor_of_name pn_5) hisR ?_
  intro p e s m args below meth c s₁ Bd hml0 hP hK
  obtain ⟨rfl, hZ, hh⟩ := hP
  have hx := Bd.exec
  have hby := Bd.bytes
  have hml : c.maxLocals = 1 := hml0
  have hown : s.vm.findClass "com/example/indelible_crawl/indeliblecrawl/fetch/Validators" = some m.cls := findClass_of_methodNamed Bd.named
  have hnm := (name_of_methodNamed Bd.named Bd.method).1
  have X0 : Stand p l e ({ frames := 1, cells := 0, slots := 0, locals := 16 } : Room) s m #[(.ref r0)] below meth c s₁ [] 0 0 := Stand.of_body Bd
  have e0 : s₁.heap = h0 := by rw [← hh, Bd.state]; rfl
  have N0 := Fr.nil n0
  have pre0 : ∀ t, Steps p.tables e below (s₁.setTop (mkF m 0 #[.val (.ref r0)] [])) t → Steps p.tables e below (s₁.setTop (entryFrame m #[(.ref r0)] 1)) t := fun t k => castTop (ef_rmVE_1_1 m r0) k
  obtain ⟨T1, X1, e1, st1⟩ := getF X0 hx hZ hown (host := "") (Or.inl (hw _ (List.mem_of_getElem? (i := 63) rfl))) Via.refl e0 Fa (g := (mkF m 1 #[.val (.ref r0)] [(.ref r0)])) rfl rfl (hb hby d11_1)
  obtain ⟨cq2, kq2, q2a, q2b, q2c⟩ := isOf hZ e1 E_x1
  obtain ⟨_, _, ⟨T2, L2, k2_, n2⟩, -, X2, ⟨Lc2, hQ2, l2, y2, z2⟩, st2⟩ := X1.virtualBack hx (y := (⟨"java/util/Optional", "isEmpty", "()Z"⟩ : MethodName)) (z := (⟨"java/util/Optional", "isEmpty", "()Z"⟩ : MethodName)) hown (mvT hZ (hw _ (List.mem_of_getElem? (i := 72) rfl))) (mvT hZ (hw _ (List.mem_of_getElem? (i := 56) rfl))) (notFace_of_selects (args := #[]) (mvT hZ (hw _ (List.mem_of_getElem? (i := 58) rfl)))) (mvT hZ (hw _ (List.mem_of_getElem? (i := 58) rfl))) (mvT hZ (hw _ (List.mem_of_getElem? (i := 57) rfl))) (by decide) (backOf (W := 0) (rmIE_1 l Z a0 hw [] x1 q1 h0 n0 Fo1) hZ (hw _ (List.mem_of_getElem? (i := 59) rfl)) (hw _ (List.mem_of_getElem? (i := 28) rfl)) (by decide) (by decide)) q2a q2c (g := (mkF m 4 #[.val (.ref r0)] [(.ref x1)])) rfl (by rw [hml]; rfl) (Steps.refl _) (argsL := []) (rest := []) (lenOf pd_13 rfl) rfl (by show 2 * 0 + _ ≤ _; exact Nat.le_of_eq rfl) (hb hby d11_4) (fun _ _ => ⟨rfl, e1, (by decide : 0 + 0 ≤ _), (by decide : 0 + 0 ≤ _)⟩)
  dsimp only [Pt.U, Pt.locs, Pt.cells, Pt.slots] at X2 l2 y2 z2 st2 hQ2
  subst l2 y2 z2
  obtain ⟨rfl, Nq2, e2⟩ := hQ2
  have N2 := Fr.app N0 Nq2
  have k3 : ∀ t, Steps p.tables e below (T2.setTop (mkF m 25 #[.val (.ref r0)] [(.int (0 : Int32))])) t → Steps p.tables e below (s₁.setTop (entryFrame m #[(.ref r0)] 1)) t := by
    intro t k
    refine pre0 _ ?_
    show Steps p.tables e below (s₁.setTop (mkF m 0 #[.val (.ref r0)] [])) _
    refine XS.aloadN X0.here hx rfl (hb hby d11_0) rfl rfl ?_
    show Steps p.tables e below (s₁.setTop (mkF m 1 #[.val (.ref r0)] [(.ref r0)])) _
    refine st1 _ ?_
    show Steps p.tables e below (T1.setTop (mkF m 4 #[.val (.ref r0)] [(.ref x1)])) _
    refine st2.trans ?_
    show Steps p.tables e below (T2.setTop (mkF m 7 #[.val (.ref r0)] [(.int (0 : Int32))])) _
    refine XS.ifYes X2.here hx rfl (pc0 := 7) (pc' := 24) rfl (hb hby d11_7) rfl ((if0 _ _).trans (teq (by decide)).1) (by decide) (by decide) ?_
    show Steps p.tables e below (T2.setTop (mkF m 24 #[.val (.ref r0)] [])) _
    refine XS.iconst X2.here hx rfl (hb hby d11_24) ?_
    exact k
  obtain ⟨fs, hr, hrun, hended, hW, hsame⟩ := X2.leave (v := some (.int (0 : Int32))) (fun h => by rw [Bd.returns] at h; cases h)
  refine ⟨_, _, k3 _ ?_, hrun, hended, _, _, rfl, ?_, ⟨_, rfl⟩, hW, hsame.mono (by decide) (by decide)⟩
  · exact retN X2 hx (t := .boolean) Bd.returns (by simp) (hb hby d11_25) hr
  · show own_Q (some (.int (0 : Int32))) h0 n0 _ T2.heap _
    rw [e2]
    exact ⟨rfl, N2, rfl⟩
theorem own_m3 (x : Int32) : ((x &&& (3 : Int32)) % (3 : Int32)) = (0 : Int32) ∨ ((x &&& (3 : Int32)) % (3 : Int32)) = (1 : Int32) ∨ ((x &&& (3 : Int32)) % (3 : Int32)) = (2 : Int32) := by
  have a := c_mask x 3 2 (by decide) (by decide)
  have r := c_irem (x &&& 3) 3 3 (by decide)
  have z0 : (0 : Int32).toInt = 0 := by decide
  have z1 : (1 : Int32).toInt = 1 := by decide
  have z2 : (2 : Int32).toInt = 2 := by decide
  simp only [← Int32.toInt_inj]
  omega
theorem ef_rm0 (m : MethodId) (x0 : Int32) (x1 : Int32) (x2 : Int32) (x3 : Int32) (x4 : Int32) : entryFrame m #[(.int x0), (.int x1), (.int x2), (.int x3), (.int x4)] maxLocals = mkF m 0 #[.val (.int x0), .val (.int x1), .val (.int x2), .val (.int x3), .val (.int x4), .unset, .unset, .unset, .unset, .unset, .unset, .unset, .unset, .unset, .unset, .unset, .unset, .unset, .unset, .unset, .unset] [] := by first | (simp [entryFrame, mkF, argsToLocals, Value.category, maxLocals]; done) | rfl
theorem pd_23 : parseMethodDescriptor "(ICC)Ljava/lang/String;" = some ⟨[.int, .char, .char], some (.object "java/lang/String")⟩ := by decide +kernel
theorem pd_24 : parseMethodDescriptor "(Ljava/util/Optional;Ljava/util/Optional;)V" = some ⟨[(.object "java/util/Optional"), (.object "java/util/Optional")], none⟩ := by decide +kernel
theorem pd_25 : parseMethodDescriptor "(Ljava/lang/Object;)Ljava/util/Optional;" = some ⟨[(.object "java/lang/Object")], some (.object "java/util/Optional")⟩ := by decide +kernel
theorem pd_26 : parseMethodDescriptor "(ICC)Z" = some ⟨[.int, .char, .char], some .boolean⟩ := by decide +kernel
set_option maxRecDepth 65536 in
set_option maxHeartbeats 40000000 in
theorem rm0 (l : Launch) (Z : State) (a0 : Array Value) (hw : ∀ d ∈ tables_1, d.before a0 Z = true) (ws : List Jvm.Cond) (p0 : Int32) (p1 : Int32) (p2 : Int32) (p3 : Int32) (p4 : Int32) (w_CS : Int32) (w_E : Addr) (w_F : Value) (h0 : Heap) (n0 : Nat) (hG : own_GC Z w_CS w_E w_F) (O0 : Old Z n0 h0) :
    MetFree l x (head1 (Jvm.Cond.code x code maxLocals ret :: ws) room_1) (fun a U => a = #[(.int p0), (.int p1), (.int p2), (.int p3), (.int p4)] ∧ Z.Warmed39 U.vm ∧ U.heap = h0 ∧ CHv Z own_EL U.vm h0 ∧ ∀ x ∈ ([] : List Addr), Safe Z own_EL U.vm h0 x) (fun _ _ _ _ _ => True) (fun _ U o U' => ∃ v L, o = .returned v ∧ own_R (some (.int 1)) n0 v U'.heap L ∧ ReturnedEndW U o U' L room_1.cells room_1.slots) := by
  refine MetFree.of_bodySF (plainFor_of_name pn_3) hisR ?_
  intro p e s m args below meth c s₁ Bd hml0 hP hK
  obtain ⟨rfl, hZ, hh, hH, hSf⟩ := hP
  have hx := Bd.exec
  have hby := Bd.bytes
  have hml : c.maxLocals = 21 := hml0
  have hown : s.vm.findClass "com/example/indelible_crawl/indeliblecrawl/fetch/ValidatorsIsEmptyPinLaw" = some m.cls := findClass_of_methodNamed Bd.named
  have hnm := (name_of_methodNamed Bd.named Bd.method).1
  have X0 : Stand p l e room_1 (s.setVm s.vm) m #[(.int p0), (.int p1), (.int p2), (.int p3), (.int p4)] below meth c s₁ [] 0 0 := Stand.of_body Bd
  have e0 : s₁.heap = h0 := by rw [← hh, Bd.state]; rfl
  have N0 := Fr.nil n0
  have pre0 : ∀ t, Steps p.tables e below (s₁.setTop (mkF m 0 #[.val (.int p0), .val (.int p1), .val (.int p2), .val (.int p3), .val (.int p4), .unset, .unset, .unset, .unset, .unset, .unset, .unset, .unset, .unset, .unset, .unset, .unset, .unset, .unset, .unset, .unset] [])) t → Steps p.tables e below (s₁.setTop (entryFrame m #[(.int p0), (.int p1), (.int p2), (.int p3), (.int p4)] maxLocals)) t := fun t k => castTop (ef_rm0 m p0 p1 p2 p3 p4) k
  have hS : s.Since s.vm 0 := (State.WarmedH.refl s).since 0
  have hk : 0 ≤ h0.size := Nat.zero_le _
  replace hZ : Z.Warmed39 (s.setVm s.vm).vm := hZ
  replace hown : (s.setVm s.vm).vm.findClass "com/example/indelible_crawl/indeliblecrawl/fetch/ValidatorsIsEmptyPinLaw" = some m.cls := hown
  have HC : CHr Z own_EL s.vm h0 s.vm h0 := CHr.refl hH
  have hG' := hG
  obtain ⟨S_CS, hCS, S_E, E_E, F_E, S_F, hF⟩ := hG'
  have k1 : ∀ t, Steps p.tables e below (s₁.setTop (mkF m 12 #[.val (.int p0), .val (.int p1), .val (.int p2), .val (.int p3), .val (.int p4), .unset, .unset, .unset, .unset, .unset, .unset, .unset, .unset, .unset, .unset, .unset, .unset, .unset, .unset, .unset, .unset] [(.int (if (p4 &&& (1 : Int32)) = (0 : Int32) then (0 : Int32) else (1 : Int32)))])) t → Steps p.tables e below (s₁.setTop (entryFrame m #[(.int p0), (.int p1), (.int p2), (.int p3), (.int p4)] maxLocals)) t := by
    intro t k
    refine pre0 _ ?_
    show Steps p.tables e below (s₁.setTop (mkF m 0 #[.val (.int p0), .val (.int p1), .val (.int p2), .val (.int p3), .val (.int p4), .unset, .unset, .unset, .unset, .unset, .unset, .unset, .unset, .unset, .unset, .unset, .unset, .unset, .unset, .unset, .unset] [])) _
    refine XS.iload X0.here hx rfl (hb hby at_0) rfl ?_
    show Steps p.tables e below (s₁.setTop (mkF m 2 #[.val (.int p0), .val (.int p1), .val (.int p2), .val (.int p3), .val (.int p4), .unset, .unset, .unset, .unset, .unset, .unset, .unset, .unset, .unset, .unset, .unset, .unset, .unset, .unset, .unset, .unset] [(.int p4)])) _
    refine XS.iconst X0.here hx rfl (hb hby at_2) ?_
    show Steps p.tables e below (s₁.setTop (mkF m 3 #[.val (.int p0), .val (.int p1), .val (.int p2), .val (.int p3), .val (.int p4), .unset, .unset, .unset, .unset, .unset, .unset, .unset, .unset, .unset, .unset, .unset, .unset, .unset, .unset, .unset, .unset] [(.int (1 : Int32)), (.int p4)])) _
    refine XS.iand X0.here hx rfl (hb hby at_3) rfl ?_
    show Steps p.tables e below (s₁.setTop (mkF m 4 #[.val (.int p0), .val (.int p1), .val (.int p2), .val (.int p3), .val (.int p4), .unset, .unset, .unset, .unset, .unset, .unset, .unset, .unset, .unset, .unset, .unset, .unset, .unset, .unset, .unset, .unset] [(.int (p4 &&& (1 : Int32)))])) _
    by_cases hc4_1 : (p4 &&& (1 : Int32)) = (0 : Int32)
    · refine XS.ifYes X0.here hx rfl (pc0 := 4) (pc' := 11) rfl (hb hby at_4) rfl ((if0 _ _).trans (teq hc4_1).1) (by decide) (by decide) ?_
      show Steps p.tables e below (s₁.setTop (mkF m 11 #[.val (.int p0), .val (.int p1), .val (.int p2), .val (.int p3), .val (.int p4), .unset, .unset, .unset, .unset, .unset, .unset, .unset, .unset, .unset, .unset, .unset, .unset, .unset, .unset, .unset, .unset] [])) _
      refine XS.iconst X0.here hx rfl (hb hby at_11) ?_
      try simp only [if_pos hc4_1] at k
      exact k
    · refine XS.ifNo X0.here hx rfl (hb hby at_4) rfl ((if0 _ _).trans (feq hc4_1).1) ?_
      show Steps p.tables e below (s₁.setTop (mkF m 7 #[.val (.int p0), .val (.int p1), .val (.int p2), .val (.int p3), .val (.int p4), .unset, .unset, .unset, .unset, .unset, .unset, .unset, .unset, .unset, .unset, .unset, .unset, .unset, .unset, .unset, .unset] [])) _
      refine XS.iconst X0.here hx rfl (hb hby at_7) ?_
      show Steps p.tables e below (s₁.setTop (mkF m 8 #[.val (.int p0), .val (.int p1), .val (.int p2), .val (.int p3), .val (.int p4), .unset, .unset, .unset, .unset, .unset, .unset, .unset, .unset, .unset, .unset, .unset, .unset, .unset, .unset, .unset, .unset] [(.int (1 : Int32))])) _
      refine XS.goto X0.here hx rfl (pc0 := 8) (pc' := 12) rfl (hb hby at_8) (by decide) (by decide) ?_
      try simp only [if_neg hc4_1] at k
      exact k
  have k2 : ∀ t, Steps p.tables e below (s₁.setTop (mkF m 26 #[.val (.int p0), .val (.int p1), .val (.int p2), .val (.int p3), .val (.int p4), .val (.int (if (p4 &&& (1 : Int32)) = (0 : Int32) then (0 : Int32) else (1 : Int32))), .unset, .unset, .unset, .unset, .unset, .unset, .unset, .unset, .unset, .unset, .unset, .unset, .unset, .unset, .unset] [(.int (if (p4 &&& (2 : Int32)) = (0 : Int32) then (0 : Int32) else (1 : Int32)))])) t → Steps p.tables e below (s₁.setTop (entryFrame m #[(.int p0), (.int p1), (.int p2), (.int p3), (.int p4)] maxLocals)) t := by
    intro t k
    refine k1 _ ?_
    show Steps p.tables e below (s₁.setTop (mkF m 12 #[.val (.int p0), .val (.int p1), .val (.int p2), .val (.int p3), .val (.int p4), .unset, .unset, .unset, .unset, .unset, .unset, .unset, .unset, .unset, .unset, .unset, .unset, .unset, .unset, .unset, .unset] [(.int (if (p4 &&& (1 : Int32)) = (0 : Int32) then (0 : Int32) else (1 : Int32)))])) _
    refine XS.istore X0.here hx rfl (hb hby at_12) rfl (l' := #[.val (.int p0), .val (.int p1), .val (.int p2), .val (.int p3), .val (.int p4), .val (.int (if (p4 &&& (1 : Int32)) = (0 : Int32) then (0 : Int32) else (1 : Int32))), .unset, .unset, .unset, .unset, .unset, .unset, .unset, .unset, .unset, .unset, .unset, .unset, .unset, .unset, .unset]) rfl ?_
    show Steps p.tables e below (s₁.setTop (mkF m 14 #[.val (.int p0), .val (.int p1), .val (.int p2), .val (.int p3), .val (.int p4), .val (.int (if (p4 &&& (1 : Int32)) = (0 : Int32) then (0 : Int32) else (1 : Int32))), .unset, .unset, .unset, .unset, .unset, .unset, .unset, .unset, .unset, .unset, .unset, .unset, .unset, .unset, .unset] [])) _
    refine XS.iload X0.here hx rfl (hb hby at_14) rfl ?_
    show Steps p.tables e below (s₁.setTop (mkF m 16 #[.val (.int p0), .val (.int p1), .val (.int p2), .val (.int p3), .val (.int p4), .val (.int (if (p4 &&& (1 : Int32)) = (0 : Int32) then (0 : Int32) else (1 : Int32))), .unset, .unset, .unset, .unset, .unset, .unset, .unset, .unset, .unset, .unset, .unset, .unset, .unset, .unset, .unset] [(.int p4)])) _
    refine XS.iconst X0.here hx rfl (hb hby at_16) ?_
    show Steps p.tables e below (s₁.setTop (mkF m 17 #[.val (.int p0), .val (.int p1), .val (.int p2), .val (.int p3), .val (.int p4), .val (.int (if (p4 &&& (1 : Int32)) = (0 : Int32) then (0 : Int32) else (1 : Int32))), .unset, .unset, .unset, .unset, .unset, .unset, .unset, .unset, .unset, .unset, .unset, .unset, .unset, .unset, .unset] [(.int (2 : Int32)), (.int p4)])) _
    refine XS.iand X0.here hx rfl (hb hby at_17) rfl ?_
    show Steps p.tables e below (s₁.setTop (mkF m 18 #[.val (.int p0), .val (.int p1), .val (.int p2), .val (.int p3), .val (.int p4), .val (.int (if (p4 &&& (1 : Int32)) = (0 : Int32) then (0 : Int32) else (1 : Int32))), .unset, .unset, .unset, .unset, .unset, .unset, .unset, .unset, .unset, .unset, .unset, .unset, .unset, .unset, .unset] [(.int (p4 &&& (2 : Int32)))])) _
    by_cases hc18_2 : (p4 &&& (2 : Int32)) = (0 : Int32)
    · refine XS.ifYes X0.here hx rfl (pc0 := 18) (pc' := 25) rfl (hb hby at_18) rfl ((if0 _ _).trans (teq hc18_2).1) (by decide) (by decide) ?_
      show Steps p.tables e below (s₁.setTop (mkF m 25 #[.val (.int p0), .val (.int p1), .val (.int p2), .val (.int p3), .val (.int p4), .val (.int (if (p4 &&& (1 : Int32)) = (0 : Int32) then (0 : Int32) else (1 : Int32))), .unset, .unset, .unset, .unset, .unset, .unset, .unset, .unset, .unset, .unset, .unset, .unset, .unset, .unset, .unset] [])) _
      refine XS.iconst X0.here hx rfl (hb hby at_25) ?_
      try simp only [if_pos hc18_2] at k
      exact k
    · refine XS.ifNo X0.here hx rfl (hb hby at_18) rfl ((if0 _ _).trans (feq hc18_2).1) ?_
      show Steps p.tables e below (s₁.setTop (mkF m 21 #[.val (.int p0), .val (.int p1), .val (.int p2), .val (.int p3), .val (.int p4), .val (.int (if (p4 &&& (1 : Int32)) = (0 : Int32) then (0 : Int32) else (1 : Int32))), .unset, .unset, .unset, .unset, .unset, .unset, .unset, .unset, .unset, .unset, .unset, .unset, .unset, .unset, .unset] [])) _
      refine XS.iconst X0.here hx rfl (hb hby at_21) ?_
      show Steps p.tables e below (s₁.setTop (mkF m 22 #[.val (.int p0), .val (.int p1), .val (.int p2), .val (.int p3), .val (.int p4), .val (.int (if (p4 &&& (1 : Int32)) = (0 : Int32) then (0 : Int32) else (1 : Int32))), .unset, .unset, .unset, .unset, .unset, .unset, .unset, .unset, .unset, .unset, .unset, .unset, .unset, .unset, .unset] [(.int (1 : Int32))])) _
      refine XS.goto X0.here hx rfl (pc0 := 22) (pc' := 26) rfl (hb hby at_22) (by decide) (by decide) ?_
      try simp only [if_neg hc18_2] at k
      exact k
  have hm0 := own_m3 ((p4.toUInt32 >>> ((2 : Int32) &&& 31).toUInt32).toInt32)
  have k3 : ∀ t, Steps p.tables e below (s₁.setTop (mkF m 80 #[.val (.int p0), .val (.int p1), .val (.int p2), .val (.int p3), .val (.int p4), .val (.int (if (p4 &&& (1 : Int32)) = (0 : Int32) then (0 : Int32) else (1 : Int32))), .val (.int (if (p4 &&& (2 : Int32)) = (0 : Int32) then (0 : Int32) else (1 : Int32))), .val (.int ((((p4.toUInt32 >>> ((2 : Int32) &&& 31).toUInt32).toInt32) &&& (3 : Int32)) % (3 : Int32))), .val (.int ((((p4.toUInt32 >>> ((4 : Int32) &&& 31).toUInt32).toInt32) &&& (3 : Int32)) % (3 : Int32))), .val (.int ((p0 &&& (255 : Int32)).toUInt32.toUInt16.toUInt32.toInt32)), .val (.int ((p1 &&& (255 : Int32)).toUInt32.toUInt16.toUInt32.toInt32)), .val (.int ((p2 &&& (255 : Int32)).toUInt32.toUInt16.toUInt32.toInt32)), .val (.int ((p3 &&& (255 : Int32)).toUInt32.toUInt16.toUInt32.toInt32)), .unset, .unset, .unset, .unset, .unset, .unset, .unset, .unset] [])) t → Steps p.tables e below (s₁.setTop (entryFrame m #[(.int p0), (.int p1), (.int p2), (.int p3), (.int p4)] maxLocals)) t := by
    intro t k
    refine k2 _ ?_
    show Steps p.tables e below (s₁.setTop (mkF m 26 #[.val (.int p0), .val (.int p1), .val (.int p2), .val (.int p3), .val (.int p4), .val (.int (if (p4 &&& (1 : Int32)) = (0 : Int32) then (0 : Int32) else (1 : Int32))), .unset, .unset, .unset, .unset, .unset, .unset, .unset, .unset, .unset, .unset, .unset, .unset, .unset, .unset, .unset] [(.int (if (p4 &&& (2 : Int32)) = (0 : Int32) then (0 : Int32) else (1 : Int32)))])) _
    refine XS.istore X0.here hx rfl (hb hby at_26) rfl (l' := #[.val (.int p0), .val (.int p1), .val (.int p2), .val (.int p3), .val (.int p4), .val (.int (if (p4 &&& (1 : Int32)) = (0 : Int32) then (0 : Int32) else (1 : Int32))), .val (.int (if (p4 &&& (2 : Int32)) = (0 : Int32) then (0 : Int32) else (1 : Int32))), .unset, .unset, .unset, .unset, .unset, .unset, .unset, .unset, .unset, .unset, .unset, .unset, .unset, .unset]) rfl ?_
    show Steps p.tables e below (s₁.setTop (mkF m 28 #[.val (.int p0), .val (.int p1), .val (.int p2), .val (.int p3), .val (.int p4), .val (.int (if (p4 &&& (1 : Int32)) = (0 : Int32) then (0 : Int32) else (1 : Int32))), .val (.int (if (p4 &&& (2 : Int32)) = (0 : Int32) then (0 : Int32) else (1 : Int32))), .unset, .unset, .unset, .unset, .unset, .unset, .unset, .unset, .unset, .unset, .unset, .unset, .unset, .unset] [])) _
    refine XS.iload X0.here hx rfl (hb hby at_28) rfl ?_
    show Steps p.tables e below (s₁.setTop (mkF m 30 #[.val (.int p0), .val (.int p1), .val (.int p2), .val (.int p3), .val (.int p4), .val (.int (if (p4 &&& (1 : Int32)) = (0 : Int32) then (0 : Int32) else (1 : Int32))), .val (.int (if (p4 &&& (2 : Int32)) = (0 : Int32) then (0 : Int32) else (1 : Int32))), .unset, .unset, .unset, .unset, .unset, .unset, .unset, .unset, .unset, .unset, .unset, .unset, .unset, .unset] [(.int p4)])) _
    refine XS.iconst X0.here hx rfl (hb hby at_30) ?_
    show Steps p.tables e below (s₁.setTop (mkF m 31 #[.val (.int p0), .val (.int p1), .val (.int p2), .val (.int p3), .val (.int p4), .val (.int (if (p4 &&& (1 : Int32)) = (0 : Int32) then (0 : Int32) else (1 : Int32))), .val (.int (if (p4 &&& (2 : Int32)) = (0 : Int32) then (0 : Int32) else (1 : Int32))), .unset, .unset, .unset, .unset, .unset, .unset, .unset, .unset, .unset, .unset, .unset, .unset, .unset, .unset] [(.int (2 : Int32)), (.int p4)])) _
    refine XS.iushr X0.here hx rfl (hb hby at_31) rfl ?_
    show Steps p.tables e below (s₁.setTop (mkF m 32 #[.val (.int p0), .val (.int p1), .val (.int p2), .val (.int p3), .val (.int p4), .val (.int (if (p4 &&& (1 : Int32)) = (0 : Int32) then (0 : Int32) else (1 : Int32))), .val (.int (if (p4 &&& (2 : Int32)) = (0 : Int32) then (0 : Int32) else (1 : Int32))), .unset, .unset, .unset, .unset, .unset, .unset, .unset, .unset, .unset, .unset, .unset, .unset, .unset, .unset] [(.int ((p4.toUInt32 >>> ((2 : Int32) &&& 31).toUInt32).toInt32))])) _
    refine XS.iconst X0.here hx rfl (hb hby at_32) ?_
    show Steps p.tables e below (s₁.setTop (mkF m 33 #[.val (.int p0), .val (.int p1), .val (.int p2), .val (.int p3), .val (.int p4), .val (.int (if (p4 &&& (1 : Int32)) = (0 : Int32) then (0 : Int32) else (1 : Int32))), .val (.int (if (p4 &&& (2 : Int32)) = (0 : Int32) then (0 : Int32) else (1 : Int32))), .unset, .unset, .unset, .unset, .unset, .unset, .unset, .unset, .unset, .unset, .unset, .unset, .unset, .unset] [(.int (3 : Int32)), (.int ((p4.toUInt32 >>> ((2 : Int32) &&& 31).toUInt32).toInt32))])) _
    refine XS.iand X0.here hx rfl (hb hby at_33) rfl ?_
    show Steps p.tables e below (s₁.setTop (mkF m 34 #[.val (.int p0), .val (.int p1), .val (.int p2), .val (.int p3), .val (.int p4), .val (.int (if (p4 &&& (1 : Int32)) = (0 : Int32) then (0 : Int32) else (1 : Int32))), .val (.int (if (p4 &&& (2 : Int32)) = (0 : Int32) then (0 : Int32) else (1 : Int32))), .unset, .unset, .unset, .unset, .unset, .unset, .unset, .unset, .unset, .unset, .unset, .unset, .unset, .unset] [(.int (((p4.toUInt32 >>> ((2 : Int32) &&& 31).toUInt32).toInt32) &&& (3 : Int32)))])) _
    refine XS.iconst X0.here hx rfl (hb hby at_34) ?_
    show Steps p.tables e below (s₁.setTop (mkF m 35 #[.val (.int p0), .val (.int p1), .val (.int p2), .val (.int p3), .val (.int p4), .val (.int (if (p4 &&& (1 : Int32)) = (0 : Int32) then (0 : Int32) else (1 : Int32))), .val (.int (if (p4 &&& (2 : Int32)) = (0 : Int32) then (0 : Int32) else (1 : Int32))), .unset, .unset, .unset, .unset, .unset, .unset, .unset, .unset, .unset, .unset, .unset, .unset, .unset, .unset] [(.int (3 : Int32)), (.int (((p4.toUInt32 >>> ((2 : Int32) &&& 31).toUInt32).toInt32) &&& (3 : Int32)))])) _
    refine iremM X0 hx rfl (hb hby at_35) rfl (by decide) ?_
    show Steps p.tables e below (s₁.setTop (mkF m 36 #[.val (.int p0), .val (.int p1), .val (.int p2), .val (.int p3), .val (.int p4), .val (.int (if (p4 &&& (1 : Int32)) = (0 : Int32) then (0 : Int32) else (1 : Int32))), .val (.int (if (p4 &&& (2 : Int32)) = (0 : Int32) then (0 : Int32) else (1 : Int32))), .unset, .unset, .unset, .unset, .unset, .unset, .unset, .unset, .unset, .unset, .unset, .unset, .unset, .unset] [(.int ((((p4.toUInt32 >>> ((2 : Int32) &&& 31).toUInt32).toInt32) &&& (3 : Int32)) % (3 : Int32)))])) _
    refine XS.istore X0.here hx rfl (hb hby at_36) rfl (l' := #[.val (.int p0), .val (.int p1), .val (.int p2), .val (.int p3), .val (.int p4), .val (.int (if (p4 &&& (1 : Int32)) = (0 : Int32) then (0 : Int32) else (1 : Int32))), .val (.int (if (p4 &&& (2 : Int32)) = (0 : Int32) then (0 : Int32) else (1 : Int32))), .val (.int ((((p4.toUInt32 >>> ((2 : Int32) &&& 31).toUInt32).toInt32) &&& (3 : Int32)) % (3 : Int32))), .unset, .unset, .unset, .unset, .unset, .unset, .unset, .unset, .unset, .unset, .unset, .unset, .unset]) rfl ?_
    show Steps p.tables e below (s₁.setTop (mkF m 38 #[.val (.int p0), .val (.int p1), .val (.int p2), .val (.int p3), .val (.int p4), .val (.int (if (p4 &&& (1 : Int32)) = (0 : Int32) then (0 : Int32) else (1 : Int32))), .val (.int (if (p4 &&& (2 : Int32)) = (0 : Int32) then (0 : Int32) else (1 : Int32))), .val (.int ((((p4.toUInt32 >>> ((2 : Int32) &&& 31).toUInt32).toInt32) &&& (3 : Int32)) % (3 : Int32))), .unset, .unset, .unset, .unset, .unset, .unset, .unset, .unset, .unset, .unset, .unset, .unset, .unset] [])) _
    refine XS.iload X0.here hx rfl (hb hby at_38) rfl ?_
    show Steps p.tables e below (s₁.setTop (mkF m 40 #[.val (.int p0), .val (.int p1), .val (.int p2), .val (.int p3), .val (.int p4), .val (.int (if (p4 &&& (1 : Int32)) = (0 : Int32) then (0 : Int32) else (1 : Int32))), .val (.int (if (p4 &&& (2 : Int32)) = (0 : Int32) then (0 : Int32) else (1 : Int32))), .val (.int ((((p4.toUInt32 >>> ((2 : Int32) &&& 31).toUInt32).toInt32) &&& (3 : Int32)) % (3 : Int32))), .unset, .unset, .unset, .unset, .unset, .unset, .unset, .unset, .unset, .unset, .unset, .unset, .unset] [(.int p4)])) _
    refine XS.iconst X0.here hx rfl (hb hby at_40) ?_
    show Steps p.tables e below (s₁.setTop (mkF m 41 #[.val (.int p0), .val (.int p1), .val (.int p2), .val (.int p3), .val (.int p4), .val (.int (if (p4 &&& (1 : Int32)) = (0 : Int32) then (0 : Int32) else (1 : Int32))), .val (.int (if (p4 &&& (2 : Int32)) = (0 : Int32) then (0 : Int32) else (1 : Int32))), .val (.int ((((p4.toUInt32 >>> ((2 : Int32) &&& 31).toUInt32).toInt32) &&& (3 : Int32)) % (3 : Int32))), .unset, .unset, .unset, .unset, .unset, .unset, .unset, .unset, .unset, .unset, .unset, .unset, .unset] [(.int (4 : Int32)), (.int p4)])) _
    refine XS.iushr X0.here hx rfl (hb hby at_41) rfl ?_
    show Steps p.tables e below (s₁.setTop (mkF m 42 #[.val (.int p0), .val (.int p1), .val (.int p2), .val (.int p3), .val (.int p4), .val (.int (if (p4 &&& (1 : Int32)) = (0 : Int32) then (0 : Int32) else (1 : Int32))), .val (.int (if (p4 &&& (2 : Int32)) = (0 : Int32) then (0 : Int32) else (1 : Int32))), .val (.int ((((p4.toUInt32 >>> ((2 : Int32) &&& 31).toUInt32).toInt32) &&& (3 : Int32)) % (3 : Int32))), .unset, .unset, .unset, .unset, .unset, .unset, .unset, .unset, .unset, .unset, .unset, .unset, .unset] [(.int ((p4.toUInt32 >>> ((4 : Int32) &&& 31).toUInt32).toInt32))])) _
    refine XS.iconst X0.here hx rfl (hb hby at_42) ?_
    show Steps p.tables e below (s₁.setTop (mkF m 43 #[.val (.int p0), .val (.int p1), .val (.int p2), .val (.int p3), .val (.int p4), .val (.int (if (p4 &&& (1 : Int32)) = (0 : Int32) then (0 : Int32) else (1 : Int32))), .val (.int (if (p4 &&& (2 : Int32)) = (0 : Int32) then (0 : Int32) else (1 : Int32))), .val (.int ((((p4.toUInt32 >>> ((2 : Int32) &&& 31).toUInt32).toInt32) &&& (3 : Int32)) % (3 : Int32))), .unset, .unset, .unset, .unset, .unset, .unset, .unset, .unset, .unset, .unset, .unset, .unset, .unset] [(.int (3 : Int32)), (.int ((p4.toUInt32 >>> ((4 : Int32) &&& 31).toUInt32).toInt32))])) _
    refine XS.iand X0.here hx rfl (hb hby at_43) rfl ?_
    show Steps p.tables e below (s₁.setTop (mkF m 44 #[.val (.int p0), .val (.int p1), .val (.int p2), .val (.int p3), .val (.int p4), .val (.int (if (p4 &&& (1 : Int32)) = (0 : Int32) then (0 : Int32) else (1 : Int32))), .val (.int (if (p4 &&& (2 : Int32)) = (0 : Int32) then (0 : Int32) else (1 : Int32))), .val (.int ((((p4.toUInt32 >>> ((2 : Int32) &&& 31).toUInt32).toInt32) &&& (3 : Int32)) % (3 : Int32))), .unset, .unset, .unset, .unset, .unset, .unset, .unset, .unset, .unset, .unset, .unset, .unset, .unset] [(.int (((p4.toUInt32 >>> ((4 : Int32) &&& 31).toUInt32).toInt32) &&& (3 : Int32)))])) _
    refine XS.iconst X0.here hx rfl (hb hby at_44) ?_
    show Steps p.tables e below (s₁.setTop (mkF m 45 #[.val (.int p0), .val (.int p1), .val (.int p2), .val (.int p3), .val (.int p4), .val (.int (if (p4 &&& (1 : Int32)) = (0 : Int32) then (0 : Int32) else (1 : Int32))), .val (.int (if (p4 &&& (2 : Int32)) = (0 : Int32) then (0 : Int32) else (1 : Int32))), .val (.int ((((p4.toUInt32 >>> ((2 : Int32) &&& 31).toUInt32).toInt32) &&& (3 : Int32)) % (3 : Int32))), .unset, .unset, .unset, .unset, .unset, .unset, .unset, .unset, .unset, .unset, .unset, .unset, .unset] [(.int (3 : Int32)), (.int (((p4.toUInt32 >>> ((4 : Int32) &&& 31).toUInt32).toInt32) &&& (3 : Int32)))])) _
    refine iremM X0 hx rfl (hb hby at_45) rfl (by decide) ?_
    show Steps p.tables e below (s₁.setTop (mkF m 46 #[.val (.int p0), .val (.int p1), .val (.int p2), .val (.int p3), .val (.int p4), .val (.int (if (p4 &&& (1 : Int32)) = (0 : Int32) then (0 : Int32) else (1 : Int32))), .val (.int (if (p4 &&& (2 : Int32)) = (0 : Int32) then (0 : Int32) else (1 : Int32))), .val (.int ((((p4.toUInt32 >>> ((2 : Int32) &&& 31).toUInt32).toInt32) &&& (3 : Int32)) % (3 : Int32))), .unset, .unset, .unset, .unset, .unset, .unset, .unset, .unset, .unset, .unset, .unset, .unset, .unset] [(.int ((((p4.toUInt32 >>> ((4 : Int32) &&& 31).toUInt32).toInt32) &&& (3 : Int32)) % (3 : Int32)))])) _
    refine XS.istore X0.here hx rfl (hb hby at_46) rfl (l' := #[.val (.int p0), .val (.int p1), .val (.int p2), .val (.int p3), .val (.int p4), .val (.int (if (p4 &&& (1 : Int32)) = (0 : Int32) then (0 : Int32) else (1 : Int32))), .val (.int (if (p4 &&& (2 : Int32)) = (0 : Int32) then (0 : Int32) else (1 : Int32))), .val (.int ((((p4.toUInt32 >>> ((2 : Int32) &&& 31).toUInt32).toInt32) &&& (3 : Int32)) % (3 : Int32))), .val (.int ((((p4.toUInt32 >>> ((4 : Int32) &&& 31).toUInt32).toInt32) &&& (3 : Int32)) % (3 : Int32))), .unset, .unset, .unset, .unset, .unset, .unset, .unset, .unset, .unset, .unset, .unset, .unset]) rfl ?_
    show Steps p.tables e below (s₁.setTop (mkF m 48 #[.val (.int p0), .val (.int p1), .val (.int p2), .val (.int p3), .val (.int p4), .val (.int (if (p4 &&& (1 : Int32)) = (0 : Int32) then (0 : Int32) else (1 : Int32))), .val (.int (if (p4 &&& (2 : Int32)) = (0 : Int32) then (0 : Int32) else (1 : Int32))), .val (.int ((((p4.toUInt32 >>> ((2 : Int32) &&& 31).toUInt32).toInt32) &&& (3 : Int32)) % (3 : Int32))), .val (.int ((((p4.toUInt32 >>> ((4 : Int32) &&& 31).toUInt32).toInt32) &&& (3 : Int32)) % (3 : Int32))), .unset, .unset, .unset, .unset, .unset, .unset, .unset, .unset, .unset, .unset, .unset, .unset] [])) _
    refine XS.iloadN X0.here hx rfl (hb hby at_48) rfl ?_
    show Steps p.tables e below (s₁.setTop (mkF m 49 #[.val (.int p0), .val (.int p1), .val (.int p2), .val (.int p3), .val (.int p4), .val (.int (if (p4 &&& (1 : Int32)) = (0 : Int32) then (0 : Int32) else (1 : Int32))), .val (.int (if (p4 &&& (2 : Int32)) = (0 : Int32) then (0 : Int32) else (1 : Int32))), .val (.int ((((p4.toUInt32 >>> ((2 : Int32) &&& 31).toUInt32).toInt32) &&& (3 : Int32)) % (3 : Int32))), .val (.int ((((p4.toUInt32 >>> ((4 : Int32) &&& 31).toUInt32).toInt32) &&& (3 : Int32)) % (3 : Int32))), .unset, .unset, .unset, .unset, .unset, .unset, .unset, .unset, .unset, .unset, .unset, .unset] [(.int p0)])) _
    refine XS.sipush X0.here hx rfl (hb hby at_49) ?_
    show Steps p.tables e below (s₁.setTop (mkF m 52 #[.val (.int p0), .val (.int p1), .val (.int p2), .val (.int p3), .val (.int p4), .val (.int (if (p4 &&& (1 : Int32)) = (0 : Int32) then (0 : Int32) else (1 : Int32))), .val (.int (if (p4 &&& (2 : Int32)) = (0 : Int32) then (0 : Int32) else (1 : Int32))), .val (.int ((((p4.toUInt32 >>> ((2 : Int32) &&& 31).toUInt32).toInt32) &&& (3 : Int32)) % (3 : Int32))), .val (.int ((((p4.toUInt32 >>> ((4 : Int32) &&& 31).toUInt32).toInt32) &&& (3 : Int32)) % (3 : Int32))), .unset, .unset, .unset, .unset, .unset, .unset, .unset, .unset, .unset, .unset, .unset, .unset] [(.int (255 : Int32)), (.int p0)])) _
    refine XS.iand X0.here hx rfl (hb hby at_52) rfl ?_
    show Steps p.tables e below (s₁.setTop (mkF m 53 #[.val (.int p0), .val (.int p1), .val (.int p2), .val (.int p3), .val (.int p4), .val (.int (if (p4 &&& (1 : Int32)) = (0 : Int32) then (0 : Int32) else (1 : Int32))), .val (.int (if (p4 &&& (2 : Int32)) = (0 : Int32) then (0 : Int32) else (1 : Int32))), .val (.int ((((p4.toUInt32 >>> ((2 : Int32) &&& 31).toUInt32).toInt32) &&& (3 : Int32)) % (3 : Int32))), .val (.int ((((p4.toUInt32 >>> ((4 : Int32) &&& 31).toUInt32).toInt32) &&& (3 : Int32)) % (3 : Int32))), .unset, .unset, .unset, .unset, .unset, .unset, .unset, .unset, .unset, .unset, .unset, .unset] [(.int (p0 &&& (255 : Int32)))])) _
    refine XS.i2c X0.here hx rfl (hb hby at_53) rfl ?_
    show Steps p.tables e below (s₁.setTop (mkF m 54 #[.val (.int p0), .val (.int p1), .val (.int p2), .val (.int p3), .val (.int p4), .val (.int (if (p4 &&& (1 : Int32)) = (0 : Int32) then (0 : Int32) else (1 : Int32))), .val (.int (if (p4 &&& (2 : Int32)) = (0 : Int32) then (0 : Int32) else (1 : Int32))), .val (.int ((((p4.toUInt32 >>> ((2 : Int32) &&& 31).toUInt32).toInt32) &&& (3 : Int32)) % (3 : Int32))), .val (.int ((((p4.toUInt32 >>> ((4 : Int32) &&& 31).toUInt32).toInt32) &&& (3 : Int32)) % (3 : Int32))), .unset, .unset, .unset, .unset, .unset, .unset, .unset, .unset, .unset, .unset, .unset, .unset] [(.int ((p0 &&& (255 : Int32)).toUInt32.toUInt16.toUInt32.toInt32))])) _
    refine XS.istore X0.here hx rfl (hb hby at_54) rfl (l' := #[.val (.int p0), .val (.int p1), .val (.int p2), .val (.int p3), .val (.int p4), .val (.int (if (p4 &&& (1 : Int32)) = (0 : Int32) then (0 : Int32) else (1 : Int32))), .val (.int (if (p4 &&& (2 : Int32)) = (0 : Int32) then (0 : Int32) else (1 : Int32))), .val (.int ((((p4.toUInt32 >>> ((2 : Int32) &&& 31).toUInt32).toInt32) &&& (3 : Int32)) % (3 : Int32))), .val (.int ((((p4.toUInt32 >>> ((4 : Int32) &&& 31).toUInt32).toInt32) &&& (3 : Int32)) % (3 : Int32))), .val (.int ((p0 &&& (255 : Int32)).toUInt32.toUInt16.toUInt32.toInt32)), .unset, .unset, .unset, .unset, .unset, .unset, .unset, .unset, .unset, .unset, .unset]) rfl ?_
    show Steps p.tables e below (s₁.setTop (mkF m 56 #[.val (.int p0), .val (.int p1), .val (.int p2), .val (.int p3), .val (.int p4), .val (.int (if (p4 &&& (1 : Int32)) = (0 : Int32) then (0 : Int32) else (1 : Int32))), .val (.int (if (p4 &&& (2 : Int32)) = (0 : Int32) then (0 : Int32) else (1 : Int32))), .val (.int ((((p4.toUInt32 >>> ((2 : Int32) &&& 31).toUInt32).toInt32) &&& (3 : Int32)) % (3 : Int32))), .val (.int ((((p4.toUInt32 >>> ((4 : Int32) &&& 31).toUInt32).toInt32) &&& (3 : Int32)) % (3 : Int32))), .val (.int ((p0 &&& (255 : Int32)).toUInt32.toUInt16.toUInt32.toInt32)), .unset, .unset, .unset, .unset, .unset, .unset, .unset, .unset, .unset, .unset, .unset] [])) _
    refine XS.iloadN X0.here hx rfl (hb hby at_56) rfl ?_
    show Steps p.tables e below (s₁.setTop (mkF m 57 #[.val (.int p0), .val (.int p1), .val (.int p2), .val (.int p3), .val (.int p4), .val (.int (if (p4 &&& (1 : Int32)) = (0 : Int32) then (0 : Int32) else (1 : Int32))), .val (.int (if (p4 &&& (2 : Int32)) = (0 : Int32) then (0 : Int32) else (1 : Int32))), .val (.int ((((p4.toUInt32 >>> ((2 : Int32) &&& 31).toUInt32).toInt32) &&& (3 : Int32)) % (3 : Int32))), .val (.int ((((p4.toUInt32 >>> ((4 : Int32) &&& 31).toUInt32).toInt32) &&& (3 : Int32)) % (3 : Int32))), .val (.int ((p0 &&& (255 : Int32)).toUInt32.toUInt16.toUInt32.toInt32)), .unset, .unset, .unset, .unset, .unset, .unset, .unset, .unset, .unset, .unset, .unset] [(.int p1)])) _
    refine XS.sipush X0.here hx rfl (hb hby at_57) ?_
    show Steps p.tables e below (s₁.setTop (mkF m 60 #[.val (.int p0), .val (.int p1), .val (.int p2), .val (.int p3), .val (.int p4), .val (.int (if (p4 &&& (1 : Int32)) = (0 : Int32) then (0 : Int32) else (1 : Int32))), .val (.int (if (p4 &&& (2 : Int32)) = (0 : Int32) then (0 : Int32) else (1 : Int32))), .val (.int ((((p4.toUInt32 >>> ((2 : Int32) &&& 31).toUInt32).toInt32) &&& (3 : Int32)) % (3 : Int32))), .val (.int ((((p4.toUInt32 >>> ((4 : Int32) &&& 31).toUInt32).toInt32) &&& (3 : Int32)) % (3 : Int32))), .val (.int ((p0 &&& (255 : Int32)).toUInt32.toUInt16.toUInt32.toInt32)), .unset, .unset, .unset, .unset, .unset, .unset, .unset, .unset, .unset, .unset, .unset] [(.int (255 : Int32)), (.int p1)])) _
    refine XS.iand X0.here hx rfl (hb hby at_60) rfl ?_
    show Steps p.tables e below (s₁.setTop (mkF m 61 #[.val (.int p0), .val (.int p1), .val (.int p2), .val (.int p3), .val (.int p4), .val (.int (if (p4 &&& (1 : Int32)) = (0 : Int32) then (0 : Int32) else (1 : Int32))), .val (.int (if (p4 &&& (2 : Int32)) = (0 : Int32) then (0 : Int32) else (1 : Int32))), .val (.int ((((p4.toUInt32 >>> ((2 : Int32) &&& 31).toUInt32).toInt32) &&& (3 : Int32)) % (3 : Int32))), .val (.int ((((p4.toUInt32 >>> ((4 : Int32) &&& 31).toUInt32).toInt32) &&& (3 : Int32)) % (3 : Int32))), .val (.int ((p0 &&& (255 : Int32)).toUInt32.toUInt16.toUInt32.toInt32)), .unset, .unset, .unset, .unset, .unset, .unset, .unset, .unset, .unset, .unset, .unset] [(.int (p1 &&& (255 : Int32)))])) _
    refine XS.i2c X0.here hx rfl (hb hby at_61) rfl ?_
    show Steps p.tables e below (s₁.setTop (mkF m 62 #[.val (.int p0), .val (.int p1), .val (.int p2), .val (.int p3), .val (.int p4), .val (.int (if (p4 &&& (1 : Int32)) = (0 : Int32) then (0 : Int32) else (1 : Int32))), .val (.int (if (p4 &&& (2 : Int32)) = (0 : Int32) then (0 : Int32) else (1 : Int32))), .val (.int ((((p4.toUInt32 >>> ((2 : Int32) &&& 31).toUInt32).toInt32) &&& (3 : Int32)) % (3 : Int32))), .val (.int ((((p4.toUInt32 >>> ((4 : Int32) &&& 31).toUInt32).toInt32) &&& (3 : Int32)) % (3 : Int32))), .val (.int ((p0 &&& (255 : Int32)).toUInt32.toUInt16.toUInt32.toInt32)), .unset, .unset, .unset, .unset, .unset, .unset, .unset, .unset, .unset, .unset, .unset] [(.int ((p1 &&& (255 : Int32)).toUInt32.toUInt16.toUInt32.toInt32))])) _
    refine XS.istore X0.here hx rfl (hb hby at_62) rfl (l' := #[.val (.int p0), .val (.int p1), .val (.int p2), .val (.int p3), .val (.int p4), .val (.int (if (p4 &&& (1 : Int32)) = (0 : Int32) then (0 : Int32) else (1 : Int32))), .val (.int (if (p4 &&& (2 : Int32)) = (0 : Int32) then (0 : Int32) else (1 : Int32))), .val (.int ((((p4.toUInt32 >>> ((2 : Int32) &&& 31).toUInt32).toInt32) &&& (3 : Int32)) % (3 : Int32))), .val (.int ((((p4.toUInt32 >>> ((4 : Int32) &&& 31).toUInt32).toInt32) &&& (3 : Int32)) % (3 : Int32))), .val (.int ((p0 &&& (255 : Int32)).toUInt32.toUInt16.toUInt32.toInt32)), .val (.int ((p1 &&& (255 : Int32)).toUInt32.toUInt16.toUInt32.toInt32)), .unset, .unset, .unset, .unset, .unset, .unset, .unset, .unset, .unset, .unset]) rfl ?_
    show Steps p.tables e below (s₁.setTop (mkF m 64 #[.val (.int p0), .val (.int p1), .val (.int p2), .val (.int p3), .val (.int p4), .val (.int (if (p4 &&& (1 : Int32)) = (0 : Int32) then (0 : Int32) else (1 : Int32))), .val (.int (if (p4 &&& (2 : Int32)) = (0 : Int32) then (0 : Int32) else (1 : Int32))), .val (.int ((((p4.toUInt32 >>> ((2 : Int32) &&& 31).toUInt32).toInt32) &&& (3 : Int32)) % (3 : Int32))), .val (.int ((((p4.toUInt32 >>> ((4 : Int32) &&& 31).toUInt32).toInt32) &&& (3 : Int32)) % (3 : Int32))), .val (.int ((p0 &&& (255 : Int32)).toUInt32.toUInt16.toUInt32.toInt32)), .val (.int ((p1 &&& (255 : Int32)).toUInt32.toUInt16.toUInt32.toInt32)), .unset, .unset, .unset, .unset, .unset, .unset, .unset, .unset, .unset, .unset] [])) _
    refine XS.iloadN X0.here hx rfl (hb hby at_64) rfl ?_
    show Steps p.tables e below (s₁.setTop (mkF m 65 #[.val (.int p0), .val (.int p1), .val (.int p2), .val (.int p3), .val (.int p4), .val (.int (if (p4 &&& (1 : Int32)) = (0 : Int32) then (0 : Int32) else (1 : Int32))), .val (.int (if (p4 &&& (2 : Int32)) = (0 : Int32) then (0 : Int32) else (1 : Int32))), .val (.int ((((p4.toUInt32 >>> ((2 : Int32) &&& 31).toUInt32).toInt32) &&& (3 : Int32)) % (3 : Int32))), .val (.int ((((p4.toUInt32 >>> ((4 : Int32) &&& 31).toUInt32).toInt32) &&& (3 : Int32)) % (3 : Int32))), .val (.int ((p0 &&& (255 : Int32)).toUInt32.toUInt16.toUInt32.toInt32)), .val (.int ((p1 &&& (255 : Int32)).toUInt32.toUInt16.toUInt32.toInt32)), .unset, .unset, .unset, .unset, .unset, .unset, .unset, .unset, .unset, .unset] [(.int p2)])) _
    refine XS.sipush X0.here hx rfl (hb hby at_65) ?_
    show Steps p.tables e below (s₁.setTop (mkF m 68 #[.val (.int p0), .val (.int p1), .val (.int p2), .val (.int p3), .val (.int p4), .val (.int (if (p4 &&& (1 : Int32)) = (0 : Int32) then (0 : Int32) else (1 : Int32))), .val (.int (if (p4 &&& (2 : Int32)) = (0 : Int32) then (0 : Int32) else (1 : Int32))), .val (.int ((((p4.toUInt32 >>> ((2 : Int32) &&& 31).toUInt32).toInt32) &&& (3 : Int32)) % (3 : Int32))), .val (.int ((((p4.toUInt32 >>> ((4 : Int32) &&& 31).toUInt32).toInt32) &&& (3 : Int32)) % (3 : Int32))), .val (.int ((p0 &&& (255 : Int32)).toUInt32.toUInt16.toUInt32.toInt32)), .val (.int ((p1 &&& (255 : Int32)).toUInt32.toUInt16.toUInt32.toInt32)), .unset, .unset, .unset, .unset, .unset, .unset, .unset, .unset, .unset, .unset] [(.int (255 : Int32)), (.int p2)])) _
    refine XS.iand X0.here hx rfl (hb hby at_68) rfl ?_
    show Steps p.tables e below (s₁.setTop (mkF m 69 #[.val (.int p0), .val (.int p1), .val (.int p2), .val (.int p3), .val (.int p4), .val (.int (if (p4 &&& (1 : Int32)) = (0 : Int32) then (0 : Int32) else (1 : Int32))), .val (.int (if (p4 &&& (2 : Int32)) = (0 : Int32) then (0 : Int32) else (1 : Int32))), .val (.int ((((p4.toUInt32 >>> ((2 : Int32) &&& 31).toUInt32).toInt32) &&& (3 : Int32)) % (3 : Int32))), .val (.int ((((p4.toUInt32 >>> ((4 : Int32) &&& 31).toUInt32).toInt32) &&& (3 : Int32)) % (3 : Int32))), .val (.int ((p0 &&& (255 : Int32)).toUInt32.toUInt16.toUInt32.toInt32)), .val (.int ((p1 &&& (255 : Int32)).toUInt32.toUInt16.toUInt32.toInt32)), .unset, .unset, .unset, .unset, .unset, .unset, .unset, .unset, .unset, .unset] [(.int (p2 &&& (255 : Int32)))])) _
    refine XS.i2c X0.here hx rfl (hb hby at_69) rfl ?_
    show Steps p.tables e below (s₁.setTop (mkF m 70 #[.val (.int p0), .val (.int p1), .val (.int p2), .val (.int p3), .val (.int p4), .val (.int (if (p4 &&& (1 : Int32)) = (0 : Int32) then (0 : Int32) else (1 : Int32))), .val (.int (if (p4 &&& (2 : Int32)) = (0 : Int32) then (0 : Int32) else (1 : Int32))), .val (.int ((((p4.toUInt32 >>> ((2 : Int32) &&& 31).toUInt32).toInt32) &&& (3 : Int32)) % (3 : Int32))), .val (.int ((((p4.toUInt32 >>> ((4 : Int32) &&& 31).toUInt32).toInt32) &&& (3 : Int32)) % (3 : Int32))), .val (.int ((p0 &&& (255 : Int32)).toUInt32.toUInt16.toUInt32.toInt32)), .val (.int ((p1 &&& (255 : Int32)).toUInt32.toUInt16.toUInt32.toInt32)), .unset, .unset, .unset, .unset, .unset, .unset, .unset, .unset, .unset, .unset] [(.int ((p2 &&& (255 : Int32)).toUInt32.toUInt16.toUInt32.toInt32))])) _
    refine XS.istore X0.here hx rfl (hb hby at_70) rfl (l' := #[.val (.int p0), .val (.int p1), .val (.int p2), .val (.int p3), .val (.int p4), .val (.int (if (p4 &&& (1 : Int32)) = (0 : Int32) then (0 : Int32) else (1 : Int32))), .val (.int (if (p4 &&& (2 : Int32)) = (0 : Int32) then (0 : Int32) else (1 : Int32))), .val (.int ((((p4.toUInt32 >>> ((2 : Int32) &&& 31).toUInt32).toInt32) &&& (3 : Int32)) % (3 : Int32))), .val (.int ((((p4.toUInt32 >>> ((4 : Int32) &&& 31).toUInt32).toInt32) &&& (3 : Int32)) % (3 : Int32))), .val (.int ((p0 &&& (255 : Int32)).toUInt32.toUInt16.toUInt32.toInt32)), .val (.int ((p1 &&& (255 : Int32)).toUInt32.toUInt16.toUInt32.toInt32)), .val (.int ((p2 &&& (255 : Int32)).toUInt32.toUInt16.toUInt32.toInt32)), .unset, .unset, .unset, .unset, .unset, .unset, .unset, .unset, .unset]) rfl ?_
    show Steps p.tables e below (s₁.setTop (mkF m 72 #[.val (.int p0), .val (.int p1), .val (.int p2), .val (.int p3), .val (.int p4), .val (.int (if (p4 &&& (1 : Int32)) = (0 : Int32) then (0 : Int32) else (1 : Int32))), .val (.int (if (p4 &&& (2 : Int32)) = (0 : Int32) then (0 : Int32) else (1 : Int32))), .val (.int ((((p4.toUInt32 >>> ((2 : Int32) &&& 31).toUInt32).toInt32) &&& (3 : Int32)) % (3 : Int32))), .val (.int ((((p4.toUInt32 >>> ((4 : Int32) &&& 31).toUInt32).toInt32) &&& (3 : Int32)) % (3 : Int32))), .val (.int ((p0 &&& (255 : Int32)).toUInt32.toUInt16.toUInt32.toInt32)), .val (.int ((p1 &&& (255 : Int32)).toUInt32.toUInt16.toUInt32.toInt32)), .val (.int ((p2 &&& (255 : Int32)).toUInt32.toUInt16.toUInt32.toInt32)), .unset, .unset, .unset, .unset, .unset, .unset, .unset, .unset, .unset] [])) _
    refine XS.iloadN X0.here hx rfl (hb hby at_72) rfl ?_
    show Steps p.tables e below (s₁.setTop (mkF m 73 #[.val (.int p0), .val (.int p1), .val (.int p2), .val (.int p3), .val (.int p4), .val (.int (if (p4 &&& (1 : Int32)) = (0 : Int32) then (0 : Int32) else (1 : Int32))), .val (.int (if (p4 &&& (2 : Int32)) = (0 : Int32) then (0 : Int32) else (1 : Int32))), .val (.int ((((p4.toUInt32 >>> ((2 : Int32) &&& 31).toUInt32).toInt32) &&& (3 : Int32)) % (3 : Int32))), .val (.int ((((p4.toUInt32 >>> ((4 : Int32) &&& 31).toUInt32).toInt32) &&& (3 : Int32)) % (3 : Int32))), .val (.int ((p0 &&& (255 : Int32)).toUInt32.toUInt16.toUInt32.toInt32)), .val (.int ((p1 &&& (255 : Int32)).toUInt32.toUInt16.toUInt32.toInt32)), .val (.int ((p2 &&& (255 : Int32)).toUInt32.toUInt16.toUInt32.toInt32)), .unset, .unset, .unset, .unset, .unset, .unset, .unset, .unset, .unset] [(.int p3)])) _
    refine XS.sipush X0.here hx rfl (hb hby at_73) ?_
    show Steps p.tables e below (s₁.setTop (mkF m 76 #[.val (.int p0), .val (.int p1), .val (.int p2), .val (.int p3), .val (.int p4), .val (.int (if (p4 &&& (1 : Int32)) = (0 : Int32) then (0 : Int32) else (1 : Int32))), .val (.int (if (p4 &&& (2 : Int32)) = (0 : Int32) then (0 : Int32) else (1 : Int32))), .val (.int ((((p4.toUInt32 >>> ((2 : Int32) &&& 31).toUInt32).toInt32) &&& (3 : Int32)) % (3 : Int32))), .val (.int ((((p4.toUInt32 >>> ((4 : Int32) &&& 31).toUInt32).toInt32) &&& (3 : Int32)) % (3 : Int32))), .val (.int ((p0 &&& (255 : Int32)).toUInt32.toUInt16.toUInt32.toInt32)), .val (.int ((p1 &&& (255 : Int32)).toUInt32.toUInt16.toUInt32.toInt32)), .val (.int ((p2 &&& (255 : Int32)).toUInt32.toUInt16.toUInt32.toInt32)), .unset, .unset, .unset, .unset, .unset, .unset, .unset, .unset, .unset] [(.int (255 : Int32)), (.int p3)])) _
    refine XS.iand X0.here hx rfl (hb hby at_76) rfl ?_
    show Steps p.tables e below (s₁.setTop (mkF m 77 #[.val (.int p0), .val (.int p1), .val (.int p2), .val (.int p3), .val (.int p4), .val (.int (if (p4 &&& (1 : Int32)) = (0 : Int32) then (0 : Int32) else (1 : Int32))), .val (.int (if (p4 &&& (2 : Int32)) = (0 : Int32) then (0 : Int32) else (1 : Int32))), .val (.int ((((p4.toUInt32 >>> ((2 : Int32) &&& 31).toUInt32).toInt32) &&& (3 : Int32)) % (3 : Int32))), .val (.int ((((p4.toUInt32 >>> ((4 : Int32) &&& 31).toUInt32).toInt32) &&& (3 : Int32)) % (3 : Int32))), .val (.int ((p0 &&& (255 : Int32)).toUInt32.toUInt16.toUInt32.toInt32)), .val (.int ((p1 &&& (255 : Int32)).toUInt32.toUInt16.toUInt32.toInt32)), .val (.int ((p2 &&& (255 : Int32)).toUInt32.toUInt16.toUInt32.toInt32)), .unset, .unset, .unset, .unset, .unset, .unset, .unset, .unset, .unset] [(.int (p3 &&& (255 : Int32)))])) _
    refine XS.i2c X0.here hx rfl (hb hby at_77) rfl ?_
    show Steps p.tables e below (s₁.setTop (mkF m 78 #[.val (.int p0), .val (.int p1), .val (.int p2), .val (.int p3), .val (.int p4), .val (.int (if (p4 &&& (1 : Int32)) = (0 : Int32) then (0 : Int32) else (1 : Int32))), .val (.int (if (p4 &&& (2 : Int32)) = (0 : Int32) then (0 : Int32) else (1 : Int32))), .val (.int ((((p4.toUInt32 >>> ((2 : Int32) &&& 31).toUInt32).toInt32) &&& (3 : Int32)) % (3 : Int32))), .val (.int ((((p4.toUInt32 >>> ((4 : Int32) &&& 31).toUInt32).toInt32) &&& (3 : Int32)) % (3 : Int32))), .val (.int ((p0 &&& (255 : Int32)).toUInt32.toUInt16.toUInt32.toInt32)), .val (.int ((p1 &&& (255 : Int32)).toUInt32.toUInt16.toUInt32.toInt32)), .val (.int ((p2 &&& (255 : Int32)).toUInt32.toUInt16.toUInt32.toInt32)), .unset, .unset, .unset, .unset, .unset, .unset, .unset, .unset, .unset] [(.int ((p3 &&& (255 : Int32)).toUInt32.toUInt16.toUInt32.toInt32))])) _
    refine XS.istore X0.here hx rfl (hb hby at_78) rfl (l' := #[.val (.int p0), .val (.int p1), .val (.int p2), .val (.int p3), .val (.int p4), .val (.int (if (p4 &&& (1 : Int32)) = (0 : Int32) then (0 : Int32) else (1 : Int32))), .val (.int (if (p4 &&& (2 : Int32)) = (0 : Int32) then (0 : Int32) else (1 : Int32))), .val (.int ((((p4.toUInt32 >>> ((2 : Int32) &&& 31).toUInt32).toInt32) &&& (3 : Int32)) % (3 : Int32))), .val (.int ((((p4.toUInt32 >>> ((4 : Int32) &&& 31).toUInt32).toInt32) &&& (3 : Int32)) % (3 : Int32))), .val (.int ((p0 &&& (255 : Int32)).toUInt32.toUInt16.toUInt32.toInt32)), .val (.int ((p1 &&& (255 : Int32)).toUInt32.toUInt16.toUInt32.toInt32)), .val (.int ((p2 &&& (255 : Int32)).toUInt32.toUInt16.toUInt32.toInt32)), .val (.int ((p3 &&& (255 : Int32)).toUInt32.toUInt16.toUInt32.toInt32)), .unset, .unset, .unset, .unset, .unset, .unset, .unset, .unset]) rfl ?_
    exact k
  obtain ⟨nL, hnL⟩ : ∃ z : Int32, ((((p4.toUInt32 >>> ((2 : Int32) &&& 31).toUInt32).toInt32) &&& (3 : Int32)) % (3 : Int32)) = z := ⟨_, rfl⟩
  have k4 : ∀ t, Steps p.tables e below (s₁.setTop (mkF m 80 #[.val (.int p0), .val (.int p1), .val (.int p2), .val (.int p3), .val (.int p4), .val (.int (if (p4 &&& (1 : Int32)) = (0 : Int32) then (0 : Int32) else (1 : Int32))), .val (.int (if (p4 &&& (2 : Int32)) = (0 : Int32) then (0 : Int32) else (1 : Int32))), .val (.int nL), .val (.int ((((p4.toUInt32 >>> ((4 : Int32) &&& 31).toUInt32).toInt32) &&& (3 : Int32)) % (3 : Int32))), .val (.int ((p0 &&& (255 : Int32)).toUInt32.toUInt16.toUInt32.toInt32)), .val (.int ((p1 &&& (255 : Int32)).toUInt32.toUInt16.toUInt32.toInt32)), .val (.int ((p2 &&& (255 : Int32)).toUInt32.toUInt16.toUInt32.toInt32)), .val (.int ((p3 &&& (255 : Int32)).toUInt32.toUInt16.toUInt32.toInt32)), .unset, .unset, .unset, .unset, .unset, .unset, .unset, .unset] [])) t → Steps p.tables e below (s₁.setTop (entryFrame m #[(.int p0), (.int p1), (.int p2), (.int p3), (.int p4)] maxLocals)) t := by
    intro t k
    refine k3 _ ?_
    rw [hnL]
    exact k
  rw [hnL] at hm0
  have hm1 := own_m3 ((p4.toUInt32 >>> ((4 : Int32) &&& 31).toUInt32).toInt32)
  obtain ⟨nE, hnE⟩ : ∃ z : Int32, ((((p4.toUInt32 >>> ((4 : Int32) &&& 31).toUInt32).toInt32) &&& (3 : Int32)) % (3 : Int32)) = z := ⟨_, rfl⟩
  have k5 : ∀ t, Steps p.tables e below (s₁.setTop (mkF m 80 #[.val (.int p0), .val (.int p1), .val (.int p2), .val (.int p3), .val (.int p4), .val (.int (if (p4 &&& (1 : Int32)) = (0 : Int32) then (0 : Int32) else (1 : Int32))), .val (.int (if (p4 &&& (2 : Int32)) = (0 : Int32) then (0 : Int32) else (1 : Int32))), .val (.int nL), .val (.int nE), .val (.int ((p0 &&& (255 : Int32)).toUInt32.toUInt16.toUInt32.toInt32)), .val (.int ((p1 &&& (255 : Int32)).toUInt32.toUInt16.toUInt32.toInt32)), .val (.int ((p2 &&& (255 : Int32)).toUInt32.toUInt16.toUInt32.toInt32)), .val (.int ((p3 &&& (255 : Int32)).toUInt32.toUInt16.toUInt32.toInt32)), .unset, .unset, .unset, .unset, .unset, .unset, .unset, .unset] [])) t → Steps p.tables e below (s₁.setTop (entryFrame m #[(.int p0), (.int p1), (.int p2), (.int p3), (.int p4)] maxLocals)) t := by
    intro t k
    refine k4 _ ?_
    rw [hnE]
    exact k
  rw [hnE] at hm1
  obtain ⟨zl0, hzl0⟩ : ∃ z : Int32, ((p0 &&& (255 : Int32)).toUInt32.toUInt16.toUInt32.toInt32) = z := ⟨_, rfl⟩
  have k6 : ∀ t, Steps p.tables e below (s₁.setTop (mkF m 80 #[.val (.int p0), .val (.int p1), .val (.int p2), .val (.int p3), .val (.int p4), .val (.int (if (p4 &&& (1 : Int32)) = (0 : Int32) then (0 : Int32) else (1 : Int32))), .val (.int (if (p4 &&& (2 : Int32)) = (0 : Int32) then (0 : Int32) else (1 : Int32))), .val (.int nL), .val (.int nE), .val (.int zl0), .val (.int ((p1 &&& (255 : Int32)).toUInt32.toUInt16.toUInt32.toInt32)), .val (.int ((p2 &&& (255 : Int32)).toUInt32.toUInt16.toUInt32.toInt32)), .val (.int ((p3 &&& (255 : Int32)).toUInt32.toUInt16.toUInt32.toInt32)), .unset, .unset, .unset, .unset, .unset, .unset, .unset, .unset] [])) t → Steps p.tables e below (s₁.setTop (entryFrame m #[(.int p0), (.int p1), (.int p2), (.int p3), (.int p4)] maxLocals)) t := by
    intro t k
    refine k5 _ ?_
    rw [hzl0]
    exact k
  have hl0 : own_c8 zl0 := hzl0 ▸ own_c8m p0
  obtain ⟨zl1, hzl1⟩ : ∃ z : Int32, ((p1 &&& (255 : Int32)).toUInt32.toUInt16.toUInt32.toInt32) = z := ⟨_, rfl⟩
  have k7 : ∀ t, Steps p.tables e below (s₁.setTop (mkF m 80 #[.val (.int p0), .val (.int p1), .val (.int p2), .val (.int p3), .val (.int p4), .val (.int (if (p4 &&& (1 : Int32)) = (0 : Int32) then (0 : Int32) else (1 : Int32))), .val (.int (if (p4 &&& (2 : Int32)) = (0 : Int32) then (0 : Int32) else (1 : Int32))), .val (.int nL), .val (.int nE), .val (.int zl0), .val (.int zl1), .val (.int ((p2 &&& (255 : Int32)).toUInt32.toUInt16.toUInt32.toInt32)), .val (.int ((p3 &&& (255 : Int32)).toUInt32.toUInt16.toUInt32.toInt32)), .unset, .unset, .unset, .unset, .unset, .unset, .unset, .unset] [])) t → Steps p.tables e below (s₁.setTop (entryFrame m #[(.int p0), (.int p1), (.int p2), (.int p3), (.int p4)] maxLocals)) t := by
    intro t k
    refine k6 _ ?_
    rw [hzl1]
    exact k
  have hl1 : own_c8 zl1 := hzl1 ▸ own_c8m p1
  obtain ⟨ze0, hze0⟩ : ∃ z : Int32, ((p2 &&& (255 : Int32)).toUInt32.toUInt16.toUInt32.toInt32) = z := ⟨_, rfl⟩
  have k8 : ∀ t, Steps p.tables e below (s₁.setTop (mkF m 80 #[.val (.int p0), .val (.int p1), .val (.int p2), .val (.int p3), .val (.int p4), .val (.int (if (p4 &&& (1 : Int32)) = (0 : Int32) then (0 : Int32) else (1 : Int32))), .val (.int (if (p4 &&& (2 : Int32)) = (0 : Int32) then (0 : Int32) else (1 : Int32))), .val (.int nL), .val (.int nE), .val (.int zl0), .val (.int zl1), .val (.int ze0), .val (.int ((p3 &&& (255 : Int32)).toUInt32.toUInt16.toUInt32.toInt32)), .unset, .unset, .unset, .unset, .unset, .unset, .unset, .unset] [])) t → Steps p.tables e below (s₁.setTop (entryFrame m #[(.int p0), (.int p1), (.int p2), (.int p3), (.int p4)] maxLocals)) t := by
    intro t k
    refine k7 _ ?_
    rw [hze0]
    exact k
  have he0 : own_c8 ze0 := hze0 ▸ own_c8m p2
  obtain ⟨ze1, hze1⟩ : ∃ z : Int32, ((p3 &&& (255 : Int32)).toUInt32.toUInt16.toUInt32.toInt32) = z := ⟨_, rfl⟩
  have k9 : ∀ t, Steps p.tables e below (s₁.setTop (mkF m 80 #[.val (.int p0), .val (.int p1), .val (.int p2), .val (.int p3), .val (.int p4), .val (.int (if (p4 &&& (1 : Int32)) = (0 : Int32) then (0 : Int32) else (1 : Int32))), .val (.int (if (p4 &&& (2 : Int32)) = (0 : Int32) then (0 : Int32) else (1 : Int32))), .val (.int nL), .val (.int nE), .val (.int zl0), .val (.int zl1), .val (.int ze0), .val (.int ze1), .unset, .unset, .unset, .unset, .unset, .unset, .unset, .unset] [])) t → Steps p.tables e below (s₁.setTop (entryFrame m #[(.int p0), (.int p1), (.int p2), (.int p3), (.int p4)] maxLocals)) t := by
    intro t k
    refine k8 _ ?_
    rw [hze1]
    exact k
  have he1 : own_c8 ze1 := hze1 ▸ own_c8m p3
  have k11 : ∀ t, Steps p.tables e below (s₁.setTop (mkF m 86 #[.val (.int p0), .val (.int p1), .val (.int p2), .val (.int p3), .val (.int p4), .val (.int (if (p4 &&& (1 : Int32)) = (0 : Int32) then (0 : Int32) else (1 : Int32))), .val (.int (if (p4 &&& (2 : Int32)) = (0 : Int32) then (0 : Int32) else (1 : Int32))), .val (.int nL), .val (.int nE), .val (.int zl0), .val (.int zl1), .val (.int ze0), .val (.int ze1), .unset, .unset, .unset, .unset, .unset, .unset, .unset, .unset] [(.int zl1), (.int zl0), (.int nL)])) t → Steps p.tables e below (s₁.setTop (entryFrame m #[(.int p0), (.int p1), (.int p2), (.int p3), (.int p4)] maxLocals)) t := by
    intro t k
    refine k9 _ ?_
    show Steps p.tables e below (s₁.setTop (mkF m 80 #[.val (.int p0), .val (.int p1), .val (.int p2), .val (.int p3), .val (.int p4), .val (.int (if (p4 &&& (1 : Int32)) = (0 : Int32) then (0 : Int32) else (1 : Int32))), .val (.int (if (p4 &&& (2 : Int32)) = (0 : Int32) then (0 : Int32) else (1 : Int32))), .val (.int nL), .val (.int nE), .val (.int zl0), .val (.int zl1), .val (.int ze0), .val (.int ze1), .unset, .unset, .unset, .unset, .unset, .unset, .unset, .unset] [])) _
    refine XS.iload X0.here hx rfl (hb hby at_80) rfl ?_
    show Steps p.tables e below (s₁.setTop (mkF m 82 #[.val (.int p0), .val (.int p1), .val (.int p2), .val (.int p3), .val (.int p4), .val (.int (if (p4 &&& (1 : Int32)) = (0 : Int32) then (0 : Int32) else (1 : Int32))), .val (.int (if (p4 &&& (2 : Int32)) = (0 : Int32) then (0 : Int32) else (1 : Int32))), .val (.int nL), .val (.int nE), .val (.int zl0), .val (.int zl1), .val (.int ze0), .val (.int ze1), .unset, .unset, .unset, .unset, .unset, .unset, .unset, .unset] [(.int nL)])) _
    refine XS.iload X0.here hx rfl (hb hby at_82) rfl ?_
    show Steps p.tables e below (s₁.setTop (mkF m 84 #[.val (.int p0), .val (.int p1), .val (.int p2), .val (.int p3), .val (.int p4), .val (.int (if (p4 &&& (1 : Int32)) = (0 : Int32) then (0 : Int32) else (1 : Int32))), .val (.int (if (p4 &&& (2 : Int32)) = (0 : Int32) then (0 : Int32) else (1 : Int32))), .val (.int nL), .val (.int nE), .val (.int zl0), .val (.int zl1), .val (.int ze0), .val (.int ze1), .unset, .unset, .unset, .unset, .unset, .unset, .unset, .unset] [(.int zl0), (.int nL)])) _
    refine XS.iload X0.here hx rfl (hb hby at_84) rfl ?_
    exact k
  obtain ⟨_, _, ⟨T10, L10, k10_, n10⟩, -, X10, hS10, hg10, ⟨Lc10, hQ10, l10, y10, z10, hC10⟩, st10⟩ := callSS X0 hx (y := (⟨"com/example/indelible_crawl/indeliblecrawl/fetch/ValidatorsIsEmptyPinLaw", "make", "(ICC)Ljava/lang/String;"⟩ : MethodName)) hown (mvT hZ (hw _ (List.mem_of_getElem? (i := 0) rfl))) (mvT hZ (hw _ (List.mem_of_getElem? (i := 1) rfl))) (mvT hZ (hw _ (List.mem_of_getElem? (i := 2) rfl))) (mvT hZ (hw _ (List.mem_of_getElem? (i := 3) rfl))) (by decide) (own_backH (W := 0) (rm1 l Z a0 hw [] nL zl0 zl1 w_CS w_E w_F h0 n0 hG O0 hm0 hl0 hl1) hZ (hw _ (List.mem_of_getElem? (i := 3) rfl)) (hw _ (List.mem_of_getElem? (i := 2) rfl)) (by decide) (by decide) (own_EW hw) HC.1 (fun x hx => nomatch hx)) (g := (mkF m 86 #[.val (.int p0), .val (.int p1), .val (.int p2), .val (.int p3), .val (.int p4), .val (.int (if (p4 &&& (1 : Int32)) = (0 : Int32) then (0 : Int32) else (1 : Int32))), .val (.int (if (p4 &&& (2 : Int32)) = (0 : Int32) then (0 : Int32) else (1 : Int32))), .val (.int nL), .val (.int nE), .val (.int zl0), .val (.int zl1), .val (.int ze0), .val (.int ze1), .unset, .unset, .unset, .unset, .unset, .unset, .unset, .unset] [(.int zl1), (.int zl0), (.int nL)])) rfl (by rw [hml]; rfl) (argsL := [(.int nL), (.int zl0), (.int zl1)]) (rest := []) (lenOf pd_23 rfl) rfl (by show 2 * 0 + _ ≤ _; exact Nat.le_of_eq rfl) (hb hby at_86) (fun _ _ => ⟨rfl, e0, (by decide : 0 + 8 ≤ _), (by decide : 0 + 24 ≤ _)⟩)
  dsimp only [Pt.U, Pt.locs, Pt.cells, Pt.slots] at X10 l10 y10 z10 st10 hQ10
  subst l10 y10 z10
  dsimp only [Pt.U, Pt.locs, Pt.cells, Pt.slots] at hC10
  dsimp only [Pt.U, Pt.locs, Pt.cells, Pt.slots] at hS10 hg10
  obtain ⟨X10, hS, hZ, hown⟩ := rebS hS (show _ ≤ s₁.heap.size by rw [e0]; exact hk) X10 hS10 hg10 hZ hown
  replace hk := Nat.le_refl T10.heap.size
  replace HC := HC.trans hC10
  obtain ⟨b10, rfl, Nq10, Kq10, rv10, kq10, ln10, vs10, ⟨Eq10, Fq10, Gq10, Vq10⟩, hdl0⟩ := hQ10
  have N10 := Fr.app N0 Nq10
  replace O0 := O0.keep Kq10 (fun x hx => nomatch hx)
  have k13 : ∀ t, Steps p.tables e below (T10.setTop (mkF m 97 #[.val (.int p0), .val (.int p1), .val (.int p2), .val (.int p3), .val (.int p4), .val (.int (if (p4 &&& (1 : Int32)) = (0 : Int32) then (0 : Int32) else (1 : Int32))), .val (.int (if (p4 &&& (2 : Int32)) = (0 : Int32) then (0 : Int32) else (1 : Int32))), .val (.int nL), .val (.int nE), .val (.int zl0), .val (.int zl1), .val (.int ze0), .val (.int ze1), .val (.ref b10), .unset, .unset, .unset, .unset, .unset, .unset, .unset] [(.int ze1), (.int ze0), (.int nE)])) t → Steps p.tables e below (s₁.setTop (entryFrame m #[(.int p0), (.int p1), (.int p2), (.int p3), (.int p4)] maxLocals)) t := by
    intro t k
    refine k11 _ ?_
    show Steps p.tables e below (s₁.setTop (mkF m 86 #[.val (.int p0), .val (.int p1), .val (.int p2), .val (.int p3), .val (.int p4), .val (.int (if (p4 &&& (1 : Int32)) = (0 : Int32) then (0 : Int32) else (1 : Int32))), .val (.int (if (p4 &&& (2 : Int32)) = (0 : Int32) then (0 : Int32) else (1 : Int32))), .val (.int nL), .val (.int nE), .val (.int zl0), .val (.int zl1), .val (.int ze0), .val (.int ze1), .unset, .unset, .unset, .unset, .unset, .unset, .unset, .unset] [(.int zl1), (.int zl0), (.int nL)])) _
    refine st10.trans ?_
    show Steps p.tables e below (T10.setTop (mkF m 89 #[.val (.int p0), .val (.int p1), .val (.int p2), .val (.int p3), .val (.int p4), .val (.int (if (p4 &&& (1 : Int32)) = (0 : Int32) then (0 : Int32) else (1 : Int32))), .val (.int (if (p4 &&& (2 : Int32)) = (0 : Int32) then (0 : Int32) else (1 : Int32))), .val (.int nL), .val (.int nE), .val (.int zl0), .val (.int zl1), .val (.int ze0), .val (.int ze1), .unset, .unset, .unset, .unset, .unset, .unset, .unset, .unset] [(.ref b10)])) _
    refine XS.astore X10.here hx rfl (hb hby at_89) rfl rfl (l' := #[.val (.int p0), .val (.int p1), .val (.int p2), .val (.int p3), .val (.int p4), .val (.int (if (p4 &&& (1 : Int32)) = (0 : Int32) then (0 : Int32) else (1 : Int32))), .val (.int (if (p4 &&& (2 : Int32)) = (0 : Int32) then (0 : Int32) else (1 : Int32))), .val (.int nL), .val (.int nE), .val (.int zl0), .val (.int zl1), .val (.int ze0), .val (.int ze1), .val (.ref b10), .unset, .unset, .unset, .unset, .unset, .unset, .unset]) rfl ?_
    show Steps p.tables e below (T10.setTop (mkF m 91 #[.val (.int p0), .val (.int p1), .val (.int p2), .val (.int p3), .val (.int p4), .val (.int (if (p4 &&& (1 : Int32)) = (0 : Int32) then (0 : Int32) else (1 : Int32))), .val (.int (if (p4 &&& (2 : Int32)) = (0 : Int32) then (0 : Int32) else (1 : Int32))), .val (.int nL), .val (.int nE), .val (.int zl0), .val (.int zl1), .val (.int ze0), .val (.int ze1), .val (.ref b10), .unset, .unset, .unset, .unset, .unset, .unset, .unset] [])) _
    refine XS.iload X10.here hx rfl (hb hby at_91) rfl ?_
    show Steps p.tables e below (T10.setTop (mkF m 93 #[.val (.int p0), .val (.int p1), .val (.int p2), .val (.int p3), .val (.int p4), .val (.int (if (p4 &&& (1 : Int32)) = (0 : Int32) then (0 : Int32) else (1 : Int32))), .val (.int (if (p4 &&& (2 : Int32)) = (0 : Int32) then (0 : Int32) else (1 : Int32))), .val (.int nL), .val (.int nE), .val (.int zl0), .val (.int zl1), .val (.int ze0), .val (.int ze1), .val (.ref b10), .unset, .unset, .unset, .unset, .unset, .unset, .unset] [(.int nE)])) _
    refine XS.iload X10.here hx rfl (hb hby at_93) rfl ?_
    show Steps p.tables e below (T10.setTop (mkF m 95 #[.val (.int p0), .val (.int p1), .val (.int p2), .val (.int p3), .val (.int p4), .val (.int (if (p4 &&& (1 : Int32)) = (0 : Int32) then (0 : Int32) else (1 : Int32))), .val (.int (if (p4 &&& (2 : Int32)) = (0 : Int32) then (0 : Int32) else (1 : Int32))), .val (.int nL), .val (.int nE), .val (.int zl0), .val (.int zl1), .val (.int ze0), .val (.int ze1), .val (.ref b10), .unset, .unset, .unset, .unset, .unset, .unset, .unset] [(.int ze0), (.int nE)])) _
    refine XS.iload X10.here hx rfl (hb hby at_95) rfl ?_
    exact k
  obtain ⟨_, _, ⟨T12, L12, k12_, n12⟩, -, X12, hS12, hg12, ⟨Lc12, hQ12, l12, y12, z12, hC12⟩, st12⟩ := callSS X10 hx (y := (⟨"com/example/indelible_crawl/indeliblecrawl/fetch/ValidatorsIsEmptyPinLaw", "make", "(ICC)Ljava/lang/String;"⟩ : MethodName)) hown (mvT hZ (hw _ (List.mem_of_getElem? (i := 0) rfl))) (mvT hZ (hw _ (List.mem_of_getElem? (i := 1) rfl))) (mvT hZ (hw _ (List.mem_of_getElem? (i := 2) rfl))) (mvT hZ (hw _ (List.mem_of_getElem? (i := 3) rfl))) (by decide) (own_backH (W := 0) (rm1 l Z a0 hw [] nE ze0 ze1 w_CS w_E w_F T10.heap n0 hG O0 hm1 he0 he1) hZ (hw _ (List.mem_of_getElem? (i := 3) rfl)) (hw _ (List.mem_of_getElem? (i := 2) rfl)) (by decide) (by decide) (own_EW hw) HC.1 (fun x hx => nomatch hx)) (g := (mkF m 97 #[.val (.int p0), .val (.int p1), .val (.int p2), .val (.int p3), .val (.int p4), .val (.int (if (p4 &&& (1 : Int32)) = (0 : Int32) then (0 : Int32) else (1 : Int32))), .val (.int (if (p4 &&& (2 : Int32)) = (0 : Int32) then (0 : Int32) else (1 : Int32))), .val (.int nL), .val (.int nE), .val (.int zl0), .val (.int zl1), .val (.int ze0), .val (.int ze1), .val (.ref b10), .unset, .unset, .unset, .unset, .unset, .unset, .unset] [(.int ze1), (.int ze0), (.int nE)])) rfl (by rw [hml]; rfl) (argsL := [(.int nE), (.int ze0), (.int ze1)]) (rest := []) (lenOf pd_23 rfl) rfl (by show 2 * 0 + _ ≤ _; exact Nat.le_of_eq rfl) (hb hby at_97) (fun _ _ => ⟨rfl, rfl, (by decide : 8 + 8 ≤ _), (by decide : 24 + 24 ≤ _)⟩)
  dsimp only [Pt.U, Pt.locs, Pt.cells, Pt.slots] at X12 l12 y12 z12 st12 hQ12
  subst l12 y12 z12
  dsimp only [Pt.U, Pt.locs, Pt.cells, Pt.slots] at hC12
  dsimp only [Pt.U, Pt.locs, Pt.cells, Pt.slots] at hS12 hg12
  obtain ⟨X12, hS, hZ, hown⟩ := rebS hS hk X12 hS12 hg12 hZ hown
  replace hk := Nat.le_refl T12.heap.size
  replace HC := HC.trans hC12
  obtain ⟨b12, rfl, Nq12, Kq12, rv12, kq12, ln12, vs12, ⟨Eq12, Fq12, Gq12, Vq12⟩, hdl1⟩ := hQ12
  have N12 := Fr.app N10 Nq12
  replace Eq10 := Eq10.keep Kq12
  replace Fq10 := Fq10.keep Kq12 List.not_mem_nil
  replace Gq10 := Gq10.keep Kq12 List.not_mem_nil
  replace Vq10 := Vq10.keep Kq12 List.not_mem_nil
  replace O0 := O0.keep Kq12 (fun x hx => nomatch hx)
  have k14 : ∀ t, Steps p.tables e below (T12.setTop (mkF m 104 #[.val (.int p0), .val (.int p1), .val (.int p2), .val (.int p3), .val (.int p4), .val (.int (if (p4 &&& (1 : Int32)) = (0 : Int32) then (0 : Int32) else (1 : Int32))), .val (.int (if (p4 &&& (2 : Int32)) = (0 : Int32) then (0 : Int32) else (1 : Int32))), .val (.int nL), .val (.int nE), .val (.int zl0), .val (.int zl1), .val (.int ze0), .val (.int ze1), .val (.ref b10), .val (.ref b12), .unset, .unset, .unset, .unset, .unset, .unset] [(.int (if (p4 &&& (1 : Int32)) = (0 : Int32) then (0 : Int32) else (1 : Int32)))])) t → Steps p.tables e below (s₁.setTop (entryFrame m #[(.int p0), (.int p1), (.int p2), (.int p3), (.int p4)] maxLocals)) t := by
    intro t k
    refine k13 _ ?_
    show Steps p.tables e below (T10.setTop (mkF m 97 #[.val (.int p0), .val (.int p1), .val (.int p2), .val (.int p3), .val (.int p4), .val (.int (if (p4 &&& (1 : Int32)) = (0 : Int32) then (0 : Int32) else (1 : Int32))), .val (.int (if (p4 &&& (2 : Int32)) = (0 : Int32) then (0 : Int32) else (1 : Int32))), .val (.int nL), .val (.int nE), .val (.int zl0), .val (.int zl1), .val (.int ze0), .val (.int ze1), .val (.ref b10), .unset, .unset, .unset, .unset, .unset, .unset, .unset] [(.int ze1), (.int ze0), (.int nE)])) _
    refine st12.trans ?_
    show Steps p.tables e below (T12.setTop (mkF m 100 #[.val (.int p0), .val (.int p1), .val (.int p2), .val (.int p3), .val (.int p4), .val (.int (if (p4 &&& (1 : Int32)) = (0 : Int32) then (0 : Int32) else (1 : Int32))), .val (.int (if (p4 &&& (2 : Int32)) = (0 : Int32) then (0 : Int32) else (1 : Int32))), .val (.int nL), .val (.int nE), .val (.int zl0), .val (.int zl1), .val (.int ze0), .val (.int ze1), .val (.ref b10), .unset, .unset, .unset, .unset, .unset, .unset, .unset] [(.ref b12)])) _
    refine XS.astore X12.here hx rfl (hb hby at_100) rfl rfl (l' := #[.val (.int p0), .val (.int p1), .val (.int p2), .val (.int p3), .val (.int p4), .val (.int (if (p4 &&& (1 : Int32)) = (0 : Int32) then (0 : Int32) else (1 : Int32))), .val (.int (if (p4 &&& (2 : Int32)) = (0 : Int32) then (0 : Int32) else (1 : Int32))), .val (.int nL), .val (.int nE), .val (.int zl0), .val (.int zl1), .val (.int ze0), .val (.int ze1), .val (.ref b10), .val (.ref b12), .unset, .unset, .unset, .unset, .unset, .unset]) rfl ?_
    show Steps p.tables e below (T12.setTop (mkF m 102 #[.val (.int p0), .val (.int p1), .val (.int p2), .val (.int p3), .val (.int p4), .val (.int (if (p4 &&& (1 : Int32)) = (0 : Int32) then (0 : Int32) else (1 : Int32))), .val (.int (if (p4 &&& (2 : Int32)) = (0 : Int32) then (0 : Int32) else (1 : Int32))), .val (.int nL), .val (.int nE), .val (.int zl0), .val (.int zl1), .val (.int ze0), .val (.int ze1), .val (.ref b10), .val (.ref b12), .unset, .unset, .unset, .unset, .unset, .unset] [])) _
    refine XS.iload X12.here hx rfl (hb hby at_102) rfl ?_
    exact k
  by_cases hc104_3 : (if (p4 &&& (1 : Int32)) = (0 : Int32) then (0 : Int32) else (1 : Int32)) = (0 : Int32)
  · obtain ⟨_, _, ⟨T15, L15, k15_, n15⟩, -, X15, ⟨Lc15, hQ15, l15, y15, z15⟩, st15⟩ := Jvm.LawKit.callS X12 hx (y := (⟨"java/util/Optional", "empty", "()Ljava/util/Optional;"⟩ : MethodName)) hown (mvT hZ (hw _ (List.mem_of_getElem? (i := 26) rfl))) (mvT hZ (hw _ (List.mem_of_getElem? (i := 27) rfl))) (mvT hZ (hw _ (List.mem_of_getElem? (i := 28) rfl))) (mvT hZ (hw _ (List.mem_of_getElem? (i := 29) rfl))) (by decide) (backOf (W := 0) (rm5 l Z a0 hw [] w_CS w_E w_F T12.heap n0 hG O0) hZ (hw _ (List.mem_of_getElem? (i := 29) rfl)) (hw _ (List.mem_of_getElem? (i := 28) rfl)) (by decide) (by decide)) (g := (mkF m 117 #[.val (.int p0), .val (.int p1), .val (.int p2), .val (.int p3), .val (.int p4), .val (.int (if (p4 &&& (1 : Int32)) = (0 : Int32) then (0 : Int32) else (1 : Int32))), .val (.int (if (p4 &&& (2 : Int32)) = (0 : Int32) then (0 : Int32) else (1 : Int32))), .val (.int nL), .val (.int nE), .val (.int zl0), .val (.int zl1), .val (.int ze0), .val (.int ze1), .val (.ref b10), .val (.ref b12), .unset, .unset, .unset, .unset, .unset, .unset] [])) rfl (by rw [hml]; rfl) (argsL := []) (rest := []) (lenOf pd_20 rfl) rfl (by show 2 * 0 + _ ≤ _; exact Nat.le_of_eq rfl) (hb hby at_117) (fun _ _ => ⟨rfl, rfl, (by decide : 16 + 0 ≤ _), (by decide : 48 + 0 ≤ _)⟩)
    dsimp only [Pt.U, Pt.locs, Pt.cells, Pt.slots] at X15 l15 y15 z15 st15 hQ15
    subst l15 y15 z15
    obtain ⟨rfl, Nq15, e15⟩ := hQ15
    have N15 := Fr.app N12 Nq15
    have k16 : ∀ t, Steps p.tables e below (T15.setTop (mkF m 124 #[.val (.int p0), .val (.int p1), .val (.int p2), .val (.int p3), .val (.int p4), .val (.int (if (p4 &&& (1 : Int32)) = (0 : Int32) then (0 : Int32) else (1 : Int32))), .val (.int (if (p4 &&& (2 : Int32)) = (0 : Int32) then (0 : Int32) else (1 : Int32))), .val (.int nL), .val (.int nE), .val (.int zl0), .val (.int zl1), .val (.int ze0), .val (.int ze1), .val (.ref b10), .val (.ref b12), .val (.ref w_E), .unset, .unset, .unset, .unset, .unset] [(.int (if (p4 &&& (2 : Int32)) = (0 : Int32) then (0 : Int32) else (1 : Int32)))])) t → Steps p.tables e below (s₁.setTop (entryFrame m #[(.int p0), (.int p1), (.int p2), (.int p3), (.int p4)] maxLocals)) t := by
      intro t k
      refine k14 _ ?_
      show Steps p.tables e below (T12.setTop (mkF m 104 #[.val (.int p0), .val (.int p1), .val (.int p2), .val (.int p3), .val (.int p4), .val (.int (if (p4 &&& (1 : Int32)) = (0 : Int32) then (0 : Int32) else (1 : Int32))), .val (.int (if (p4 &&& (2 : Int32)) = (0 : Int32) then (0 : Int32) else (1 : Int32))), .val (.int nL), .val (.int nE), .val (.int zl0), .val (.int zl1), .val (.int ze0), .val (.int ze1), .val (.ref b10), .val (.ref b12), .unset, .unset, .unset, .unset, .unset, .unset] [(.int (if (p4 &&& (1 : Int32)) = (0 : Int32) then (0 : Int32) else (1 : Int32)))])) _
      refine XS.ifYes X12.here hx rfl (pc0 := 104) (pc' := 117) rfl (hb hby at_104) rfl ((if0 _ _).trans (teq hc104_3).1) (by decide) (by decide) ?_
      show Steps p.tables e below (T12.setTop (mkF m 117 #[.val (.int p0), .val (.int p1), .val (.int p2), .val (.int p3), .val (.int p4), .val (.int (if (p4 &&& (1 : Int32)) = (0 : Int32) then (0 : Int32) else (1 : Int32))), .val (.int (if (p4 &&& (2 : Int32)) = (0 : Int32) then (0 : Int32) else (1 : Int32))), .val (.int nL), .val (.int nE), .val (.int zl0), .val (.int zl1), .val (.int ze0), .val (.int ze1), .val (.ref b10), .val (.ref b12), .unset, .unset, .unset, .unset, .unset, .unset] [])) _
      refine st15 _ ?_
      show Steps p.tables e below (T15.setTop (mkF m 120 #[.val (.int p0), .val (.int p1), .val (.int p2), .val (.int p3), .val (.int p4), .val (.int (if (p4 &&& (1 : Int32)) = (0 : Int32) then (0 : Int32) else (1 : Int32))), .val (.int (if (p4 &&& (2 : Int32)) = (0 : Int32) then (0 : Int32) else (1 : Int32))), .val (.int nL), .val (.int nE), .val (.int zl0), .val (.int zl1), .val (.int ze0), .val (.int ze1), .val (.ref b10), .val (.ref b12), .unset, .unset, .unset, .unset, .unset, .unset] [(.ref w_E)])) _
      refine XS.astore X15.here hx rfl (hb hby at_120) rfl rfl (l' := #[.val (.int p0), .val (.int p1), .val (.int p2), .val (.int p3), .val (.int p4), .val (.int (if (p4 &&& (1 : Int32)) = (0 : Int32) then (0 : Int32) else (1 : Int32))), .val (.int (if (p4 &&& (2 : Int32)) = (0 : Int32) then (0 : Int32) else (1 : Int32))), .val (.int nL), .val (.int nE), .val (.int zl0), .val (.int zl1), .val (.int ze0), .val (.int ze1), .val (.ref b10), .val (.ref b12), .val (.ref w_E), .unset, .unset, .unset, .unset, .unset]) rfl ?_
      show Steps p.tables e below (T15.setTop (mkF m 122 #[.val (.int p0), .val (.int p1), .val (.int p2), .val (.int p3), .val (.int p4), .val (.int (if (p4 &&& (1 : Int32)) = (0 : Int32) then (0 : Int32) else (1 : Int32))), .val (.int (if (p4 &&& (2 : Int32)) = (0 : Int32) then (0 : Int32) else (1 : Int32))), .val (.int nL), .val (.int nE), .val (.int zl0), .val (.int zl1), .val (.int ze0), .val (.int ze1), .val (.ref b10), .val (.ref b12), .val (.ref w_E), .unset, .unset, .unset, .unset, .unset] [])) _
      refine XS.iload X15.here hx rfl (hb hby at_122) rfl ?_
      exact k
    by_cases hc124_4 : (if (p4 &&& (2 : Int32)) = (0 : Int32) then (0 : Int32) else (1 : Int32)) = (0 : Int32)
    · obtain ⟨_, _, ⟨T17, L17, k17_, n17⟩, -, X17, ⟨Lc17, hQ17, l17, y17, z17⟩, st17⟩ := Jvm.LawKit.callS X15 hx (y := (⟨"java/util/Optional", "empty", "()Ljava/util/Optional;"⟩ : MethodName)) hown (mvT hZ (hw _ (List.mem_of_getElem? (i := 26) rfl))) (mvT hZ (hw _ (List.mem_of_getElem? (i := 27) rfl))) (mvT hZ (hw _ (List.mem_of_getElem? (i := 28) rfl))) (mvT hZ (hw _ (List.mem_of_getElem? (i := 29) rfl))) (by decide) (backOf (W := 0) (rm5 l Z a0 hw [] w_CS w_E w_F T12.heap n0 hG O0) hZ (hw _ (List.mem_of_getElem? (i := 29) rfl)) (hw _ (List.mem_of_getElem? (i := 28) rfl)) (by decide) (by decide)) (g := (mkF m 137 #[.val (.int p0), .val (.int p1), .val (.int p2), .val (.int p3), .val (.int p4), .val (.int (if (p4 &&& (1 : Int32)) = (0 : Int32) then (0 : Int32) else (1 : Int32))), .val (.int (if (p4 &&& (2 : Int32)) = (0 : Int32) then (0 : Int32) else (1 : Int32))), .val (.int nL), .val (.int nE), .val (.int zl0), .val (.int zl1), .val (.int ze0), .val (.int ze1), .val (.ref b10), .val (.ref b12), .val (.ref w_E), .unset, .unset, .unset, .unset, .unset] [])) rfl (by rw [hml]; rfl) (argsL := []) (rest := []) (lenOf pd_20 rfl) rfl (by show 2 * 0 + _ ≤ _; exact Nat.le_of_eq rfl) (hb hby at_137) (fun _ _ => ⟨rfl, e15, (by decide : 16 + 0 ≤ _), (by decide : 48 + 0 ≤ _)⟩)
      dsimp only [Pt.U, Pt.locs, Pt.cells, Pt.slots] at X17 l17 y17 z17 st17 hQ17
      subst l17 y17 z17
      obtain ⟨rfl, Nq17, e17⟩ := hQ17
      have N17 := Fr.app N15 Nq17
      obtain ⟨T18, h18, X18, e18, E18, A18, D18, -, st18⟩ := newO X17 hx hZ hown (hw _ (List.mem_of_getElem? (i := 31) rfl)) (hw _ (List.mem_of_getElem? (i := 32) rfl)) (hw _ (List.mem_of_getElem? (i := 33) rfl)) e17 (g := (mkF m 142 #[.val (.int p0), .val (.int p1), .val (.int p2), .val (.int p3), .val (.int p4), .val (.int (if (p4 &&& (1 : Int32)) = (0 : Int32) then (0 : Int32) else (1 : Int32))), .val (.int (if (p4 &&& (2 : Int32)) = (0 : Int32) then (0 : Int32) else (1 : Int32))), .val (.int nL), .val (.int nE), .val (.int zl0), .val (.int zl1), .val (.int ze0), .val (.int ze1), .val (.ref b10), .val (.ref b12), .val (.ref w_E), .val (.ref w_E), .unset, .unset, .unset, .unset] [])) rfl (hb hby at_142) (by decide) (by decide)
      obtain ⟨b18, g18⟩ : ∃ z, z = T12.heap.size := ⟨_, rfl⟩
      rw [← g18] at A18 D18 st18
      have ne_b10_b18 : b10 ≠ b18 := Nat.ne_of_lt (Nat.lt_of_lt_of_le Eq10.lt (Nat.le_of_eq g18.symm))
      have ne_rv10_b18 : rv10 ≠ b18 := Nat.ne_of_lt (Nat.lt_of_lt_of_le Vq10.lt (Nat.le_of_eq g18.symm))
      have ne_b12_b18 : b12 ≠ b18 := Nat.ne_of_lt (Nat.lt_of_lt_of_le Eq12.lt (Nat.le_of_eq g18.symm))
      have ne_rv12_b18 : rv12 ≠ b18 := Nat.ne_of_lt (Nat.lt_of_lt_of_le Vq12.lt (Nat.le_of_eq g18.symm))
      have gn_b18 : n0 ≤ b18 := Nat.le_trans (O0.1 ▸ O0.2.1) (Nat.le_of_eq g18.symm)
      replace Eq10 := Eq10.ext E18
      replace Fq10 := Fq10.ext E18
      replace Gq10 := Gq10.ext E18
      replace Vq10 := Vq10.ext E18
      replace Eq12 := Eq12.ext E18
      replace Fq12 := Fq12.ext E18
      replace Gq12 := Gq12.ext E18
      replace Vq12 := Vq12.ext E18
      replace O0 := O0.ext E18
      replace hk := Nat.le_trans hk E18.1
      replace HC := HC.trans (CHr.ext E18 HC.1)
      have E_b18 := A18
      have F_lastModified_b18 : Fld Z h18 b18 "com/example/indelible_crawl/indeliblecrawl/fetch/Validators" "lastModified" "Ljava/util/Optional;" .null := D18 (Or.inr (hw _ (List.mem_of_getElem? (i := 64) rfl))) (ty := (.object "java/util/Optional")) (by decide)
      have F_etag_b18 : Fld Z h18 b18 "com/example/indelible_crawl/indeliblecrawl/fetch/Validators" "etag" "Ljava/util/Optional;" .null := D18 (Or.inr (hw _ (List.mem_of_getElem? (i := 66) rfl))) (ty := (.object "java/util/Optional")) (by decide)
      obtain ⟨_, _, ⟨T19, L19, k19_, n19⟩, -, X19, ⟨Lc19, hQ19, l19, y19, z19⟩, st19⟩ := X18.specialBack hx (y := (⟨"com/example/indelible_crawl/indeliblecrawl/fetch/Validators", "<init>", "(Ljava/util/Optional;Ljava/util/Optional;)V"⟩ : MethodName)) rfl hown (mvT hZ (hw _ (List.mem_of_getElem? (i := 34) rfl))) (mvT hZ (hw _ (List.mem_of_getElem? (i := 35) rfl))) (mvT hZ (hw _ (List.mem_of_getElem? (i := 36) rfl))) (by decide) (backOf (W := 1) (rmVI_0_0 l Z a0 hw [] b18 w_E w_E w_CS w_E w_F h18 n0 hG O0 gn_b18 E_b18 F_lastModified_b18 F_etag_b18 (E_E.ext O0.2) (F_E.ext O0.2) (E_E.ext O0.2) (F_E.ext O0.2)) hZ (hw _ (List.mem_of_getElem? (i := 36) rfl)) (hw _ (List.mem_of_getElem? (i := 33) rfl)) (by decide) (by decide)) (g := (mkF m 150 #[.val (.int p0), .val (.int p1), .val (.int p2), .val (.int p3), .val (.int p4), .val (.int (if (p4 &&& (1 : Int32)) = (0 : Int32) then (0 : Int32) else (1 : Int32))), .val (.int (if (p4 &&& (2 : Int32)) = (0 : Int32) then (0 : Int32) else (1 : Int32))), .val (.int nL), .val (.int nE), .val (.int zl0), .val (.int zl1), .val (.int ze0), .val (.int ze1), .val (.ref b10), .val (.ref b12), .val (.ref w_E), .val (.ref w_E), .unset, .unset, .unset, .unset] [(.ref w_E), (.ref w_E), (.ref b18), (.ref b18)])) rfl (by rw [hml]; rfl) (Steps.refl _) (a := b18) (argsL := [(.ref w_E), (.ref w_E)]) (rest := [(.ref b18)]) (lenOf pd_24 rfl) rfl (by show 2 * 0 + _ ≤ _; exact Nat.le_of_eq rfl) (hb hby at_150) (fun _ _ => ⟨rfl, e18, (by decide : 17 + 0 ≤ _), (by decide : 50 + 0 ≤ _)⟩)
      dsimp only [Pt.U, Pt.locs, Pt.cells, Pt.slots] at X19 l19 y19 z19 st19 hQ19
      subst l19 y19 z19
      obtain ⟨rfl, Nq19, Kq19, Eq19, Fa19, Fb19⟩ := hQ19
      have N19 := Fr.app N17 Nq19
      have So : Safe Z own_EL T12.vm h18 b18 := (Safe.exa hZ.alike E_b18 (by decide) (by decide))
      replace HC := HC.trans (CHr.keep Kq19 (fun x hx => by cases List.mem_singleton.mp hx; exact So) HC.1)
      replace Eq10 := Eq10.keep Kq19
      replace Fq10 := Fq10.keep Kq19 (fun q => ne_b10_b18 (List.mem_singleton.mp q))
      replace Gq10 := Gq10.keep Kq19 (fun q => ne_b10_b18 (List.mem_singleton.mp q))
      replace Vq10 := Vq10.keep Kq19 (fun q => ne_rv10_b18 (List.mem_singleton.mp q))
      replace Eq12 := Eq12.keep Kq19
      replace Fq12 := Fq12.keep Kq19 (fun q => ne_b12_b18 (List.mem_singleton.mp q))
      replace Gq12 := Gq12.keep Kq19 (fun q => ne_b12_b18 (List.mem_singleton.mp q))
      replace Vq12 := Vq12.keep Kq19 (fun q => ne_rv12_b18 (List.mem_singleton.mp q))
      replace E_b18 := E_b18.keep Kq19
      replace O0 := O0.keep Kq19 (fun x hx => by cases List.mem_singleton.mp hx; exact gn_b18)
      replace hk := Nat.le_trans hk Kq19.1
      obtain ⟨cq20, kq20, q20a, q20b, q20c⟩ := isOf hZ rfl E_b18
      obtain ⟨_, _, ⟨T20, L20, k20_, n20⟩, -, X20, ⟨Lc20, hQ20, l20, y20, z20⟩, st20⟩ := X19.virtualBack hx (y := (⟨"com/example/indelible_crawl/indeliblecrawl/fetch/Validators", "isEmpty", "()Z"⟩ : MethodName)) (z := (⟨"com/example/indelible_crawl/indeliblecrawl/fetch/Validators", "isEmpty", "()Z"⟩ : MethodName)) hown (mvT hZ (hw _ (List.mem_of_getElem? (i := 67) rfl))) (mvT hZ (hw _ (List.mem_of_getElem? (i := 68) rfl))) (notFace_of_selects (args := #[]) (mvT hZ (hw _ (List.mem_of_getElem? (i := 70) rfl)))) (mvT hZ (hw _ (List.mem_of_getElem? (i := 70) rfl))) (mvT hZ (hw _ (List.mem_of_getElem? (i := 69) rfl))) (by decide) (backOf (W := 0) (rmVE_0_0 l Z a0 hw [] b18 w_E w_E  T19.heap n0 Fa19 Fb19 (E_E.ext O0.2) (F_E.ext O0.2) (E_E.ext O0.2) (F_E.ext O0.2)) hZ (hw _ (List.mem_of_getElem? (i := 71) rfl)) (hw _ (List.mem_of_getElem? (i := 33) rfl)) (by decide) (by decide)) q20a q20c (g := (mkF m 222 #[.val (.int p0), .val (.int p1), .val (.int p2), .val (.int p3), .val (.int p4), .val (.int (if (p4 &&& (1 : Int32)) = (0 : Int32) then (0 : Int32) else (1 : Int32))), .val (.int (if (p4 &&& (2 : Int32)) = (0 : Int32) then (0 : Int32) else (1 : Int32))), .val (.int nL), .val (.int nE), .val (.int zl0), .val (.int zl1), .val (.int ze0), .val (.int ze1), .val (.ref b10), .val (.ref b12), .val (.ref w_E), .val (.ref w_E), .val (.ref b18), .val (.int (0 : Int32)), .val (.int (0 : Int32)), .val (.int (1 : Int32))] [(.ref b18)])) rfl (by rw [hml]; rfl) (Steps.refl _) (argsL := []) (rest := []) (lenOf pd_13 rfl) rfl (by show 2 * 0 + _ ≤ _; exact Nat.le_of_eq rfl) (hb hby at_222) (fun _ _ => ⟨rfl, rfl, (by decide : 17 + 0 ≤ _), (by decide : 50 + 0 ≤ _)⟩)
      dsimp only [Pt.U, Pt.locs, Pt.cells, Pt.slots] at X20 l20 y20 z20 st20 hQ20
      subst l20 y20 z20
      obtain ⟨rfl, Nq20, e20⟩ := hQ20
      have N20 := Fr.app N19 Nq20
      have k21 : ∀ t, Steps p.tables e below (T20.setTop (mkF m 235 #[.val (.int p0), .val (.int p1), .val (.int p2), .val (.int p3), .val (.int p4), .val (.int (if (p4 &&& (1 : Int32)) = (0 : Int32) then (0 : Int32) else (1 : Int32))), .val (.int (if (p4 &&& (2 : Int32)) = (0 : Int32) then (0 : Int32) else (1 : Int32))), .val (.int nL), .val (.int nE), .val (.int zl0), .val (.int zl1), .val (.int ze0), .val (.int ze1), .val (.ref b10), .val (.ref b12), .val (.ref w_E), .val (.ref w_E), .val (.ref b18), .val (.int (0 : Int32)), .val (.int (0 : Int32)), .val (.int (1 : Int32))] [(.int (1 : Int32))])) t → Steps p.tables e below (s₁.setTop (entryFrame m #[(.int p0), (.int p1), (.int p2), (.int p3), (.int p4)] maxLocals)) t := by
        intro t k
        refine k16 _ ?_
        show Steps p.tables e below (T15.setTop (mkF m 124 #[.val (.int p0), .val (.int p1), .val (.int p2), .val (.int p3), .val (.int p4), .val (.int (if (p4 &&& (1 : Int32)) = (0 : Int32) then (0 : Int32) else (1 : Int32))), .val (.int (if (p4 &&& (2 : Int32)) = (0 : Int32) then (0 : Int32) else (1 : Int32))), .val (.int nL), .val (.int nE), .val (.int zl0), .val (.int zl1), .val (.int ze0), .val (.int ze1), .val (.ref b10), .val (.ref b12), .val (.ref w_E), .unset, .unset, .unset, .unset, .unset] [(.int (if (p4 &&& (2 : Int32)) = (0 : Int32) then (0 : Int32) else (1 : Int32)))])) _
        refine XS.ifYes X15.here hx rfl (pc0 := 124) (pc' := 137) rfl (hb hby at_124) rfl ((if0 _ _).trans (teq hc124_4).1) (by decide) (by decide) ?_
        show Steps p.tables e below (T15.setTop (mkF m 137 #[.val (.int p0), .val (.int p1), .val (.int p2), .val (.int p3), .val (.int p4), .val (.int (if (p4 &&& (1 : Int32)) = (0 : Int32) then (0 : Int32) else (1 : Int32))), .val (.int (if (p4 &&& (2 : Int32)) = (0 : Int32) then (0 : Int32) else (1 : Int32))), .val (.int nL), .val (.int nE), .val (.int zl0), .val (.int zl1), .val (.int ze0), .val (.int ze1), .val (.ref b10), .val (.ref b12), .val (.ref w_E), .unset, .unset, .unset, .unset, .unset] [])) _
        refine st17 _ ?_
        show Steps p.tables e below (T17.setTop (mkF m 140 #[.val (.int p0), .val (.int p1), .val (.int p2), .val (.int p3), .val (.int p4), .val (.int (if (p4 &&& (1 : Int32)) = (0 : Int32) then (0 : Int32) else (1 : Int32))), .val (.int (if (p4 &&& (2 : Int32)) = (0 : Int32) then (0 : Int32) else (1 : Int32))), .val (.int nL), .val (.int nE), .val (.int zl0), .val (.int zl1), .val (.int ze0), .val (.int ze1), .val (.ref b10), .val (.ref b12), .val (.ref w_E), .unset, .unset, .unset, .unset, .unset] [(.ref w_E)])) _
        refine XS.astore X17.here hx rfl (hb hby at_140) rfl rfl (l' := #[.val (.int p0), .val (.int p1), .val (.int p2), .val (.int p3), .val (.int p4), .val (.int (if (p4 &&& (1 : Int32)) = (0 : Int32) then (0 : Int32) else (1 : Int32))), .val (.int (if (p4 &&& (2 : Int32)) = (0 : Int32) then (0 : Int32) else (1 : Int32))), .val (.int nL), .val (.int nE), .val (.int zl0), .val (.int zl1), .val (.int ze0), .val (.int ze1), .val (.ref b10), .val (.ref b12), .val (.ref w_E), .val (.ref w_E), .unset, .unset, .unset, .unset]) rfl ?_
        show Steps p.tables e below (T17.setTop (mkF m 142 #[.val (.int p0), .val (.int p1), .val (.int p2), .val (.int p3), .val (.int p4), .val (.int (if (p4 &&& (1 : Int32)) = (0 : Int32) then (0 : Int32) else (1 : Int32))), .val (.int (if (p4 &&& (2 : Int32)) = (0 : Int32) then (0 : Int32) else (1 : Int32))), .val (.int nL), .val (.int nE), .val (.int zl0), .val (.int zl1), .val (.int ze0), .val (.int ze1), .val (.ref b10), .val (.ref b12), .val (.ref w_E), .val (.ref w_E), .unset, .unset, .unset, .unset] [])) _
        refine st18 _ ?_
        show Steps p.tables e below (T18.setTop (mkF m 145 #[.val (.int p0), .val (.int p1), .val (.int p2), .val (.int p3), .val (.int p4), .val (.int (if (p4 &&& (1 : Int32)) = (0 : Int32) then (0 : Int32) else (1 : Int32))), .val (.int (if (p4 &&& (2 : Int32)) = (0 : Int32) then (0 : Int32) else (1 : Int32))), .val (.int nL), .val (.int nE), .val (.int zl0), .val (.int zl1), .val (.int ze0), .val (.int ze1), .val (.ref b10), .val (.ref b12), .val (.ref w_E), .val (.ref w_E), .unset, .unset, .unset, .unset] [(.ref b18)])) _
        refine XS.dup X18.here hx rfl (hb hby at_145) rfl rfl ?_
        show Steps p.tables e below (T18.setTop (mkF m 146 #[.val (.int p0), .val (.int p1), .val (.int p2), .val (.int p3), .val (.int p4), .val (.int (if (p4 &&& (1 : Int32)) = (0 : Int32) then (0 : Int32) else (1 : Int32))), .val (.int (if (p4 &&& (2 : Int32)) = (0 : Int32) then (0 : Int32) else (1 : Int32))), .val (.int nL), .val (.int nE), .val (.int zl0), .val (.int zl1), .val (.int ze0), .val (.int ze1), .val (.ref b10), .val (.ref b12), .val (.ref w_E), .val (.ref w_E), .unset, .unset, .unset, .unset] [(.ref b18), (.ref b18)])) _
        refine XS.aload X18.here hx rfl (hb hby at_146) rfl rfl ?_
        show Steps p.tables e below (T18.setTop (mkF m 148 #[.val (.int p0), .val (.int p1), .val (.int p2), .val (.int p3), .val (.int p4), .val (.int (if (p4 &&& (1 : Int32)) = (0 : Int32) then (0 : Int32) else (1 : Int32))), .val (.int (if (p4 &&& (2 : Int32)) = (0 : Int32) then (0 : Int32) else (1 : Int32))), .val (.int nL), .val (.int nE), .val (.int zl0), .val (.int zl1), .val (.int ze0), .val (.int ze1), .val (.ref b10), .val (.ref b12), .val (.ref w_E), .val (.ref w_E), .unset, .unset, .unset, .unset] [(.ref w_E), (.ref b18), (.ref b18)])) _
        refine XS.aload X18.here hx rfl (hb hby at_148) rfl rfl ?_
        show Steps p.tables e below (T18.setTop (mkF m 150 #[.val (.int p0), .val (.int p1), .val (.int p2), .val (.int p3), .val (.int p4), .val (.int (if (p4 &&& (1 : Int32)) = (0 : Int32) then (0 : Int32) else (1 : Int32))), .val (.int (if (p4 &&& (2 : Int32)) = (0 : Int32) then (0 : Int32) else (1 : Int32))), .val (.int nL), .val (.int nE), .val (.int zl0), .val (.int zl1), .val (.int ze0), .val (.int ze1), .val (.ref b10), .val (.ref b12), .val (.ref w_E), .val (.ref w_E), .unset, .unset, .unset, .unset] [(.ref w_E), (.ref w_E), (.ref b18), (.ref b18)])) _
        refine st19.trans ?_
        show Steps p.tables e below (T19.setTop (mkF m 153 #[.val (.int p0), .val (.int p1), .val (.int p2), .val (.int p3), .val (.int p4), .val (.int (if (p4 &&& (1 : Int32)) = (0 : Int32) then (0 : Int32) else (1 : Int32))), .val (.int (if (p4 &&& (2 : Int32)) = (0 : Int32) then (0 : Int32) else (1 : Int32))), .val (.int nL), .val (.int nE), .val (.int zl0), .val (.int zl1), .val (.int ze0), .val (.int ze1), .val (.ref b10), .val (.ref b12), .val (.ref w_E), .val (.ref w_E), .unset, .unset, .unset, .unset] [(.ref b18)])) _
        refine XS.astore X19.here hx rfl (hb hby at_153) rfl rfl (l' := #[.val (.int p0), .val (.int p1), .val (.int p2), .val (.int p3), .val (.int p4), .val (.int (if (p4 &&& (1 : Int32)) = (0 : Int32) then (0 : Int32) else (1 : Int32))), .val (.int (if (p4 &&& (2 : Int32)) = (0 : Int32) then (0 : Int32) else (1 : Int32))), .val (.int nL), .val (.int nE), .val (.int zl0), .val (.int zl1), .val (.int ze0), .val (.int ze1), .val (.ref b10), .val (.ref b12), .val (.ref w_E), .val (.ref w_E), .val (.ref b18), .unset, .unset, .unset]) rfl ?_
        show Steps p.tables e below (T19.setTop (mkF m 155 #[.val (.int p0), .val (.int p1), .val (.int p2), .val (.int p3), .val (.int p4), .val (.int (if (p4 &&& (1 : Int32)) = (0 : Int32) then (0 : Int32) else (1 : Int32))), .val (.int (if (p4 &&& (2 : Int32)) = (0 : Int32) then (0 : Int32) else (1 : Int32))), .val (.int nL), .val (.int nE), .val (.int zl0), .val (.int zl1), .val (.int ze0), .val (.int ze1), .val (.ref b10), .val (.ref b12), .val (.ref w_E), .val (.ref w_E), .val (.ref b18), .unset, .unset, .unset] [])) _
        refine XS.iload X19.here hx rfl (hb hby at_155) rfl ?_
        show Steps p.tables e below (T19.setTop (mkF m 157 #[.val (.int p0), .val (.int p1), .val (.int p2), .val (.int p3), .val (.int p4), .val (.int (if (p4 &&& (1 : Int32)) = (0 : Int32) then (0 : Int32) else (1 : Int32))), .val (.int (if (p4 &&& (2 : Int32)) = (0 : Int32) then (0 : Int32) else (1 : Int32))), .val (.int nL), .val (.int nE), .val (.int zl0), .val (.int zl1), .val (.int ze0), .val (.int ze1), .val (.ref b10), .val (.ref b12), .val (.ref w_E), .val (.ref w_E), .val (.ref b18), .unset, .unset, .unset] [(.int (if (p4 &&& (1 : Int32)) = (0 : Int32) then (0 : Int32) else (1 : Int32)))])) _
        refine XS.ifYes X19.here hx rfl (pc0 := 157) (pc' := 176) rfl (hb hby at_157) rfl ((if0 _ _).trans (teq hc104_3).1) (by decide) (by decide) ?_
        show Steps p.tables e below (T19.setTop (mkF m 176 #[.val (.int p0), .val (.int p1), .val (.int p2), .val (.int p3), .val (.int p4), .val (.int (if (p4 &&& (1 : Int32)) = (0 : Int32) then (0 : Int32) else (1 : Int32))), .val (.int (if (p4 &&& (2 : Int32)) = (0 : Int32) then (0 : Int32) else (1 : Int32))), .val (.int nL), .val (.int nE), .val (.int zl0), .val (.int zl1), .val (.int ze0), .val (.int ze1), .val (.ref b10), .val (.ref b12), .val (.ref w_E), .val (.ref w_E), .val (.ref b18), .unset, .unset, .unset] [])) _
        refine XS.iconst X19.here hx rfl (hb hby at_176) ?_
        show Steps p.tables e below (T19.setTop (mkF m 177 #[.val (.int p0), .val (.int p1), .val (.int p2), .val (.int p3), .val (.int p4), .val (.int (if (p4 &&& (1 : Int32)) = (0 : Int32) then (0 : Int32) else (1 : Int32))), .val (.int (if (p4 &&& (2 : Int32)) = (0 : Int32) then (0 : Int32) else (1 : Int32))), .val (.int nL), .val (.int nE), .val (.int zl0), .val (.int zl1), .val (.int ze0), .val (.int ze1), .val (.ref b10), .val (.ref b12), .val (.ref w_E), .val (.ref w_E), .val (.ref b18), .unset, .unset, .unset] [(.int (0 : Int32))])) _
        refine XS.istore X19.here hx rfl (hb hby at_177) rfl (l' := #[.val (.int p0), .val (.int p1), .val (.int p2), .val (.int p3), .val (.int p4), .val (.int (if (p4 &&& (1 : Int32)) = (0 : Int32) then (0 : Int32) else (1 : Int32))), .val (.int (if (p4 &&& (2 : Int32)) = (0 : Int32) then (0 : Int32) else (1 : Int32))), .val (.int nL), .val (.int nE), .val (.int zl0), .val (.int zl1), .val (.int ze0), .val (.int ze1), .val (.ref b10), .val (.ref b12), .val (.ref w_E), .val (.ref w_E), .val (.ref b18), .val (.int (0 : Int32)), .unset, .unset]) rfl ?_
        show Steps p.tables e below (T19.setTop (mkF m 179 #[.val (.int p0), .val (.int p1), .val (.int p2), .val (.int p3), .val (.int p4), .val (.int (if (p4 &&& (1 : Int32)) = (0 : Int32) then (0 : Int32) else (1 : Int32))), .val (.int (if (p4 &&& (2 : Int32)) = (0 : Int32) then (0 : Int32) else (1 : Int32))), .val (.int nL), .val (.int nE), .val (.int zl0), .val (.int zl1), .val (.int ze0), .val (.int ze1), .val (.ref b10), .val (.ref b12), .val (.ref w_E), .val (.ref w_E), .val (.ref b18), .val (.int (0 : Int32)), .unset, .unset] [])) _
        refine XS.iload X19.here hx rfl (hb hby at_179) rfl ?_
        show Steps p.tables e below (T19.setTop (mkF m 181 #[.val (.int p0), .val (.int p1), .val (.int p2), .val (.int p3), .val (.int p4), .val (.int (if (p4 &&& (1 : Int32)) = (0 : Int32) then (0 : Int32) else (1 : Int32))), .val (.int (if (p4 &&& (2 : Int32)) = (0 : Int32) then (0 : Int32) else (1 : Int32))), .val (.int nL), .val (.int nE), .val (.int zl0), .val (.int zl1), .val (.int ze0), .val (.int ze1), .val (.ref b10), .val (.ref b12), .val (.ref w_E), .val (.ref w_E), .val (.ref b18), .val (.int (0 : Int32)), .unset, .unset] [(.int (if (p4 &&& (2 : Int32)) = (0 : Int32) then (0 : Int32) else (1 : Int32)))])) _
        refine XS.ifYes X19.here hx rfl (pc0 := 181) (pc' := 200) rfl (hb hby at_181) rfl ((if0 _ _).trans (teq hc124_4).1) (by decide) (by decide) ?_
        show Steps p.tables e below (T19.setTop (mkF m 200 #[.val (.int p0), .val (.int p1), .val (.int p2), .val (.int p3), .val (.int p4), .val (.int (if (p4 &&& (1 : Int32)) = (0 : Int32) then (0 : Int32) else (1 : Int32))), .val (.int (if (p4 &&& (2 : Int32)) = (0 : Int32) then (0 : Int32) else (1 : Int32))), .val (.int nL), .val (.int nE), .val (.int zl0), .val (.int zl1), .val (.int ze0), .val (.int ze1), .val (.ref b10), .val (.ref b12), .val (.ref w_E), .val (.ref w_E), .val (.ref b18), .val (.int (0 : Int32)), .unset, .unset] [])) _
        refine XS.iconst X19.here hx rfl (hb hby at_200) ?_
        show Steps p.tables e below (T19.setTop (mkF m 201 #[.val (.int p0), .val (.int p1), .val (.int p2), .val (.int p3), .val (.int p4), .val (.int (if (p4 &&& (1 : Int32)) = (0 : Int32) then (0 : Int32) else (1 : Int32))), .val (.int (if (p4 &&& (2 : Int32)) = (0 : Int32) then (0 : Int32) else (1 : Int32))), .val (.int nL), .val (.int nE), .val (.int zl0), .val (.int zl1), .val (.int ze0), .val (.int ze1), .val (.ref b10), .val (.ref b12), .val (.ref w_E), .val (.ref w_E), .val (.ref b18), .val (.int (0 : Int32)), .unset, .unset] [(.int (0 : Int32))])) _
        refine XS.istore X19.here hx rfl (hb hby at_201) rfl (l' := #[.val (.int p0), .val (.int p1), .val (.int p2), .val (.int p3), .val (.int p4), .val (.int (if (p4 &&& (1 : Int32)) = (0 : Int32) then (0 : Int32) else (1 : Int32))), .val (.int (if (p4 &&& (2 : Int32)) = (0 : Int32) then (0 : Int32) else (1 : Int32))), .val (.int nL), .val (.int nE), .val (.int zl0), .val (.int zl1), .val (.int ze0), .val (.int ze1), .val (.ref b10), .val (.ref b12), .val (.ref w_E), .val (.ref w_E), .val (.ref b18), .val (.int (0 : Int32)), .val (.int (0 : Int32)), .unset]) rfl ?_
        show Steps p.tables e below (T19.setTop (mkF m 203 #[.val (.int p0), .val (.int p1), .val (.int p2), .val (.int p3), .val (.int p4), .val (.int (if (p4 &&& (1 : Int32)) = (0 : Int32) then (0 : Int32) else (1 : Int32))), .val (.int (if (p4 &&& (2 : Int32)) = (0 : Int32) then (0 : Int32) else (1 : Int32))), .val (.int nL), .val (.int nE), .val (.int zl0), .val (.int zl1), .val (.int ze0), .val (.int ze1), .val (.ref b10), .val (.ref b12), .val (.ref w_E), .val (.ref w_E), .val (.ref b18), .val (.int (0 : Int32)), .val (.int (0 : Int32)), .unset] [])) _
        refine XS.iload X19.here hx rfl (hb hby at_203) rfl ?_
        show Steps p.tables e below (T19.setTop (mkF m 205 #[.val (.int p0), .val (.int p1), .val (.int p2), .val (.int p3), .val (.int p4), .val (.int (if (p4 &&& (1 : Int32)) = (0 : Int32) then (0 : Int32) else (1 : Int32))), .val (.int (if (p4 &&& (2 : Int32)) = (0 : Int32) then (0 : Int32) else (1 : Int32))), .val (.int nL), .val (.int nE), .val (.int zl0), .val (.int zl1), .val (.int ze0), .val (.int ze1), .val (.ref b10), .val (.ref b12), .val (.ref w_E), .val (.ref w_E), .val (.ref b18), .val (.int (0 : Int32)), .val (.int (0 : Int32)), .unset] [(.int (0 : Int32))])) _
        refine XS.ifNo X19.here hx rfl (hb hby at_205) rfl ((if0 _ _).trans (teq (by decide)).2) ?_
        show Steps p.tables e below (T19.setTop (mkF m 208 #[.val (.int p0), .val (.int p1), .val (.int p2), .val (.int p3), .val (.int p4), .val (.int (if (p4 &&& (1 : Int32)) = (0 : Int32) then (0 : Int32) else (1 : Int32))), .val (.int (if (p4 &&& (2 : Int32)) = (0 : Int32) then (0 : Int32) else (1 : Int32))), .val (.int nL), .val (.int nE), .val (.int zl0), .val (.int zl1), .val (.int ze0), .val (.int ze1), .val (.ref b10), .val (.ref b12), .val (.ref w_E), .val (.ref w_E), .val (.ref b18), .val (.int (0 : Int32)), .val (.int (0 : Int32)), .unset] [])) _
        refine XS.iload X19.here hx rfl (hb hby at_208) rfl ?_
        show Steps p.tables e below (T19.setTop (mkF m 210 #[.val (.int p0), .val (.int p1), .val (.int p2), .val (.int p3), .val (.int p4), .val (.int (if (p4 &&& (1 : Int32)) = (0 : Int32) then (0 : Int32) else (1 : Int32))), .val (.int (if (p4 &&& (2 : Int32)) = (0 : Int32) then (0 : Int32) else (1 : Int32))), .val (.int nL), .val (.int nE), .val (.int zl0), .val (.int zl1), .val (.int ze0), .val (.int ze1), .val (.ref b10), .val (.ref b12), .val (.ref w_E), .val (.ref w_E), .val (.ref b18), .val (.int (0 : Int32)), .val (.int (0 : Int32)), .unset] [(.int (0 : Int32))])) _
        refine XS.ifNo X19.here hx rfl (hb hby at_210) rfl ((if0 _ _).trans (teq (by decide)).2) ?_
        show Steps p.tables e below (T19.setTop (mkF m 213 #[.val (.int p0), .val (.int p1), .val (.int p2), .val (.int p3), .val (.int p4), .val (.int (if (p4 &&& (1 : Int32)) = (0 : Int32) then (0 : Int32) else (1 : Int32))), .val (.int (if (p4 &&& (2 : Int32)) = (0 : Int32) then (0 : Int32) else (1 : Int32))), .val (.int nL), .val (.int nE), .val (.int zl0), .val (.int zl1), .val (.int ze0), .val (.int ze1), .val (.ref b10), .val (.ref b12), .val (.ref w_E), .val (.ref w_E), .val (.ref b18), .val (.int (0 : Int32)), .val (.int (0 : Int32)), .unset] [])) _
        refine XS.iconst X19.here hx rfl (hb hby at_213) ?_
        show Steps p.tables e below (T19.setTop (mkF m 214 #[.val (.int p0), .val (.int p1), .val (.int p2), .val (.int p3), .val (.int p4), .val (.int (if (p4 &&& (1 : Int32)) = (0 : Int32) then (0 : Int32) else (1 : Int32))), .val (.int (if (p4 &&& (2 : Int32)) = (0 : Int32) then (0 : Int32) else (1 : Int32))), .val (.int nL), .val (.int nE), .val (.int zl0), .val (.int zl1), .val (.int ze0), .val (.int ze1), .val (.ref b10), .val (.ref b12), .val (.ref w_E), .val (.ref w_E), .val (.ref b18), .val (.int (0 : Int32)), .val (.int (0 : Int32)), .unset] [(.int (1 : Int32))])) _
        refine XS.goto X19.here hx rfl (pc0 := 214) (pc' := 218) rfl (hb hby at_214) (by decide) (by decide) ?_
        show Steps p.tables e below (T19.setTop (mkF m 218 #[.val (.int p0), .val (.int p1), .val (.int p2), .val (.int p3), .val (.int p4), .val (.int (if (p4 &&& (1 : Int32)) = (0 : Int32) then (0 : Int32) else (1 : Int32))), .val (.int (if (p4 &&& (2 : Int32)) = (0 : Int32) then (0 : Int32) else (1 : Int32))), .val (.int nL), .val (.int nE), .val (.int zl0), .val (.int zl1), .val (.int ze0), .val (.int ze1), .val (.ref b10), .val (.ref b12), .val (.ref w_E), .val (.ref w_E), .val (.ref b18), .val (.int (0 : Int32)), .val (.int (0 : Int32)), .unset] [(.int (1 : Int32))])) _
        refine XS.istore X19.here hx rfl (hb hby at_218) rfl (l' := #[.val (.int p0), .val (.int p1), .val (.int p2), .val (.int p3), .val (.int p4), .val (.int (if (p4 &&& (1 : Int32)) = (0 : Int32) then (0 : Int32) else (1 : Int32))), .val (.int (if (p4 &&& (2 : Int32)) = (0 : Int32) then (0 : Int32) else (1 : Int32))), .val (.int nL), .val (.int nE), .val (.int zl0), .val (.int zl1), .val (.int ze0), .val (.int ze1), .val (.ref b10), .val (.ref b12), .val (.ref w_E), .val (.ref w_E), .val (.ref b18), .val (.int (0 : Int32)), .val (.int (0 : Int32)), .val (.int (1 : Int32))]) rfl ?_
        show Steps p.tables e below (T19.setTop (mkF m 220 #[.val (.int p0), .val (.int p1), .val (.int p2), .val (.int p3), .val (.int p4), .val (.int (if (p4 &&& (1 : Int32)) = (0 : Int32) then (0 : Int32) else (1 : Int32))), .val (.int (if (p4 &&& (2 : Int32)) = (0 : Int32) then (0 : Int32) else (1 : Int32))), .val (.int nL), .val (.int nE), .val (.int zl0), .val (.int zl1), .val (.int ze0), .val (.int ze1), .val (.ref b10), .val (.ref b12), .val (.ref w_E), .val (.ref w_E), .val (.ref b18), .val (.int (0 : Int32)), .val (.int (0 : Int32)), .val (.int (1 : Int32))] [])) _
        refine XS.aload X19.here hx rfl (hb hby at_220) rfl rfl ?_
        show Steps p.tables e below (T19.setTop (mkF m 222 #[.val (.int p0), .val (.int p1), .val (.int p2), .val (.int p3), .val (.int p4), .val (.int (if (p4 &&& (1 : Int32)) = (0 : Int32) then (0 : Int32) else (1 : Int32))), .val (.int (if (p4 &&& (2 : Int32)) = (0 : Int32) then (0 : Int32) else (1 : Int32))), .val (.int nL), .val (.int nE), .val (.int zl0), .val (.int zl1), .val (.int ze0), .val (.int ze1), .val (.ref b10), .val (.ref b12), .val (.ref w_E), .val (.ref w_E), .val (.ref b18), .val (.int (0 : Int32)), .val (.int (0 : Int32)), .val (.int (1 : Int32))] [(.ref b18)])) _
        refine st20.trans ?_
        show Steps p.tables e below (T20.setTop (mkF m 225 #[.val (.int p0), .val (.int p1), .val (.int p2), .val (.int p3), .val (.int p4), .val (.int (if (p4 &&& (1 : Int32)) = (0 : Int32) then (0 : Int32) else (1 : Int32))), .val (.int (if (p4 &&& (2 : Int32)) = (0 : Int32) then (0 : Int32) else (1 : Int32))), .val (.int nL), .val (.int nE), .val (.int zl0), .val (.int zl1), .val (.int ze0), .val (.int ze1), .val (.ref b10), .val (.ref b12), .val (.ref w_E), .val (.ref w_E), .val (.ref b18), .val (.int (0 : Int32)), .val (.int (0 : Int32)), .val (.int (1 : Int32))] [(.int (1 : Int32))])) _
        refine XS.iload X20.here hx rfl (hb hby at_225) rfl ?_
        show Steps p.tables e below (T20.setTop (mkF m 227 #[.val (.int p0), .val (.int p1), .val (.int p2), .val (.int p3), .val (.int p4), .val (.int (if (p4 &&& (1 : Int32)) = (0 : Int32) then (0 : Int32) else (1 : Int32))), .val (.int (if (p4 &&& (2 : Int32)) = (0 : Int32) then (0 : Int32) else (1 : Int32))), .val (.int nL), .val (.int nE), .val (.int zl0), .val (.int zl1), .val (.int ze0), .val (.int ze1), .val (.ref b10), .val (.ref b12), .val (.ref w_E), .val (.ref w_E), .val (.ref b18), .val (.int (0 : Int32)), .val (.int (0 : Int32)), .val (.int (1 : Int32))] [(.int (1 : Int32)), (.int (1 : Int32))])) _
        refine XS.icmpNo X20.here hx rfl (hb hby at_227) rfl (teq (by decide)).2 ?_
        show Steps p.tables e below (T20.setTop (mkF m 230 #[.val (.int p0), .val (.int p1), .val (.int p2), .val (.int p3), .val (.int p4), .val (.int (if (p4 &&& (1 : Int32)) = (0 : Int32) then (0 : Int32) else (1 : Int32))), .val (.int (if (p4 &&& (2 : Int32)) = (0 : Int32) then (0 : Int32) else (1 : Int32))), .val (.int nL), .val (.int nE), .val (.int zl0), .val (.int zl1), .val (.int ze0), .val (.int ze1), .val (.ref b10), .val (.ref b12), .val (.ref w_E), .val (.ref w_E), .val (.ref b18), .val (.int (0 : Int32)), .val (.int (0 : Int32)), .val (.int (1 : Int32))] [])) _
        refine XS.iconst X20.here hx rfl (hb hby at_230) ?_
        show Steps p.tables e below (T20.setTop (mkF m 231 #[.val (.int p0), .val (.int p1), .val (.int p2), .val (.int p3), .val (.int p4), .val (.int (if (p4 &&& (1 : Int32)) = (0 : Int32) then (0 : Int32) else (1 : Int32))), .val (.int (if (p4 &&& (2 : Int32)) = (0 : Int32) then (0 : Int32) else (1 : Int32))), .val (.int nL), .val (.int nE), .val (.int zl0), .val (.int zl1), .val (.int ze0), .val (.int ze1), .val (.ref b10), .val (.ref b12), .val (.ref w_E), .val (.ref w_E), .val (.ref b18), .val (.int (0 : Int32)), .val (.int (0 : Int32)), .val (.int (1 : Int32))] [(.int (1 : Int32))])) _
        refine XS.goto X20.here hx rfl (pc0 := 231) (pc' := 235) rfl (hb hby at_231) (by decide) (by decide) ?_
        exact k
      obtain ⟨fs, hr, hrun, hended, hEW⟩ := X20.leaveW hS (by rw [e20]; exact hk) (v := some (.int (1 : Int32))) (fun h => by rw [Bd.returns] at h; cases h)
      refine ⟨_, _, k21 _ ?_, hrun, hended, _, _, rfl, ?_, hEW.1, hEW.2.1, hEW.2.2.1, hEW.2.2.2.mono (by decide) (by decide)⟩
      · exact retN X20 hx (t := .boolean) Bd.returns (by simp) (hb hby at_235) hr
      · show own_R (some (.int 1)) n0 _ T20.heap _
        rw [e20]
        exact ⟨rfl, N20⟩
    · obtain ⟨_, _, ⟨T22, L22, k22_, n22⟩, -, X22, ⟨Lc22, hQ22, l22, y22, z22⟩, st22⟩ := Jvm.LawKit.callS X15 hx (y := (⟨"java/util/Optional", "of", "(Ljava/lang/Object;)Ljava/util/Optional;"⟩ : MethodName)) hown (mvT hZ (hw _ (List.mem_of_getElem? (i := 88) rfl))) (mvT hZ (hw _ (List.mem_of_getElem? (i := 89) rfl))) (mvT hZ (hw _ (List.mem_of_getElem? (i := 28) rfl))) (mvT hZ (hw _ (List.mem_of_getElem? (i := 90) rfl))) (by decide) (backOf (W := 0) (rm16 l Z a0 hw [] b12 T12.heap n0 (O0.1 ▸ O0.2.1)) hZ (hw _ (List.mem_of_getElem? (i := 90) rfl)) (hw _ (List.mem_of_getElem? (i := 28) rfl)) (by decide) (by decide)) (g := (mkF m 129 #[.val (.int p0), .val (.int p1), .val (.int p2), .val (.int p3), .val (.int p4), .val (.int (if (p4 &&& (1 : Int32)) = (0 : Int32) then (0 : Int32) else (1 : Int32))), .val (.int (if (p4 &&& (2 : Int32)) = (0 : Int32) then (0 : Int32) else (1 : Int32))), .val (.int nL), .val (.int nE), .val (.int zl0), .val (.int zl1), .val (.int ze0), .val (.int ze1), .val (.ref b10), .val (.ref b12), .val (.ref w_E), .unset, .unset, .unset, .unset, .unset] [(.ref b12)])) rfl (by rw [hml]; rfl) (argsL := [(.ref b12)]) (rest := []) (lenOf pd_25 rfl) rfl (by show 2 * 0 + _ ≤ _; exact Nat.le_of_eq rfl) (hb hby at_129) (fun _ _ => ⟨rfl, e15, (by decide : 16 + 1 ≤ _), (by decide : 48 + 1 ≤ _)⟩)
      dsimp only [Pt.U, Pt.locs, Pt.cells, Pt.slots] at X22 l22 y22 z22 st22 hQ22
      subst l22 y22 z22
      obtain ⟨b22, rfl, Nq22, Kq22, Eo22, Fo22⟩ := hQ22
      have N22 := Fr.app N15 Nq22
      replace HC := HC.trans (CHr.keep Kq22 (fun x hx => nomatch hx) HC.1)
      replace Eq10 := Eq10.keep Kq22
      replace Fq10 := Fq10.keep Kq22 List.not_mem_nil
      replace Gq10 := Gq10.keep Kq22 List.not_mem_nil
      replace Vq10 := Vq10.keep Kq22 List.not_mem_nil
      replace Eq12 := Eq12.keep Kq22
      replace Fq12 := Fq12.keep Kq22 List.not_mem_nil
      replace Gq12 := Gq12.keep Kq22 List.not_mem_nil
      replace Vq12 := Vq12.keep Kq22 List.not_mem_nil
      replace O0 := O0.keep Kq22 (fun x hx => nomatch hx)
      replace hk := Nat.le_trans hk Kq22.1
      obtain ⟨T23, h23, X23, e23, E23, A23, D23, -, st23⟩ := newO X22 hx hZ hown (hw _ (List.mem_of_getElem? (i := 31) rfl)) (hw _ (List.mem_of_getElem? (i := 32) rfl)) (hw _ (List.mem_of_getElem? (i := 33) rfl)) rfl (g := (mkF m 142 #[.val (.int p0), .val (.int p1), .val (.int p2), .val (.int p3), .val (.int p4), .val (.int (if (p4 &&& (1 : Int32)) = (0 : Int32) then (0 : Int32) else (1 : Int32))), .val (.int (if (p4 &&& (2 : Int32)) = (0 : Int32) then (0 : Int32) else (1 : Int32))), .val (.int nL), .val (.int nE), .val (.int zl0), .val (.int zl1), .val (.int ze0), .val (.int ze1), .val (.ref b10), .val (.ref b12), .val (.ref w_E), .val (.ref b22), .unset, .unset, .unset, .unset] [])) rfl (hb hby at_142) (by decide) (by decide)
      obtain ⟨b23, g23⟩ : ∃ z, z = T22.heap.size := ⟨_, rfl⟩
      rw [← g23] at A23 D23 st23
      have ne_b10_b23 : b10 ≠ b23 := Nat.ne_of_lt (Nat.lt_of_lt_of_le Eq10.lt (Nat.le_of_eq g23.symm))
      have ne_rv10_b23 : rv10 ≠ b23 := Nat.ne_of_lt (Nat.lt_of_lt_of_le Vq10.lt (Nat.le_of_eq g23.symm))
      have ne_b12_b23 : b12 ≠ b23 := Nat.ne_of_lt (Nat.lt_of_lt_of_le Eq12.lt (Nat.le_of_eq g23.symm))
      have ne_rv12_b23 : rv12 ≠ b23 := Nat.ne_of_lt (Nat.lt_of_lt_of_le Vq12.lt (Nat.le_of_eq g23.symm))
      have ne_b22_b23 : b22 ≠ b23 := Nat.ne_of_lt (Nat.lt_of_lt_of_le Eo22.lt (Nat.le_of_eq g23.symm))
      have gn_b23 : n0 ≤ b23 := Nat.le_trans (O0.1 ▸ O0.2.1) (Nat.le_of_eq g23.symm)
      replace Eq10 := Eq10.ext E23
      replace Fq10 := Fq10.ext E23
      replace Gq10 := Gq10.ext E23
      replace Vq10 := Vq10.ext E23
      replace Eq12 := Eq12.ext E23
      replace Fq12 := Fq12.ext E23
      replace Gq12 := Gq12.ext E23
      replace Vq12 := Vq12.ext E23
      replace Eo22 := Eo22.ext E23
      replace Fo22 := Fo22.ext E23
      replace O0 := O0.ext E23
      replace hk := Nat.le_trans hk E23.1
      replace HC := HC.trans (CHr.ext E23 HC.1)
      have E_b23 := A23
      have F_lastModified_b23 : Fld Z h23 b23 "com/example/indelible_crawl/indeliblecrawl/fetch/Validators" "lastModified" "Ljava/util/Optional;" .null := D23 (Or.inr (hw _ (List.mem_of_getElem? (i := 64) rfl))) (ty := (.object "java/util/Optional")) (by decide)
      have F_etag_b23 : Fld Z h23 b23 "com/example/indelible_crawl/indeliblecrawl/fetch/Validators" "etag" "Ljava/util/Optional;" .null := D23 (Or.inr (hw _ (List.mem_of_getElem? (i := 66) rfl))) (ty := (.object "java/util/Optional")) (by decide)
      obtain ⟨_, _, ⟨T24, L24, k24_, n24⟩, -, X24, ⟨Lc24, hQ24, l24, y24, z24⟩, st24⟩ := X23.specialBack hx (y := (⟨"com/example/indelible_crawl/indeliblecrawl/fetch/Validators", "<init>", "(Ljava/util/Optional;Ljava/util/Optional;)V"⟩ : MethodName)) rfl hown (mvT hZ (hw _ (List.mem_of_getElem? (i := 34) rfl))) (mvT hZ (hw _ (List.mem_of_getElem? (i := 35) rfl))) (mvT hZ (hw _ (List.mem_of_getElem? (i := 36) rfl))) (by decide) (backOf (W := 1) (rmVI_0_1 l Z a0 hw [] b23 w_E b22 b12 rv12 kq12 nE ze0 ze1 ln12 vs12 w_CS w_E w_F h23 n0 hG O0 gn_b23 E_b23 F_lastModified_b23 F_etag_b23 (E_E.ext O0.2) (F_E.ext O0.2) Eo22 Fo22 he0 he1 Eq12 Fq12 Gq12 Vq12 hdl1) hZ (hw _ (List.mem_of_getElem? (i := 36) rfl)) (hw _ (List.mem_of_getElem? (i := 33) rfl)) (by decide) (by decide)) (g := (mkF m 150 #[.val (.int p0), .val (.int p1), .val (.int p2), .val (.int p3), .val (.int p4), .val (.int (if (p4 &&& (1 : Int32)) = (0 : Int32) then (0 : Int32) else (1 : Int32))), .val (.int (if (p4 &&& (2 : Int32)) = (0 : Int32) then (0 : Int32) else (1 : Int32))), .val (.int nL), .val (.int nE), .val (.int zl0), .val (.int zl1), .val (.int ze0), .val (.int ze1), .val (.ref b10), .val (.ref b12), .val (.ref w_E), .val (.ref b22), .unset, .unset, .unset, .unset] [(.ref b22), (.ref w_E), (.ref b23), (.ref b23)])) rfl (by rw [hml]; rfl) (Steps.refl _) (a := b23) (argsL := [(.ref w_E), (.ref b22)]) (rest := [(.ref b23)]) (lenOf pd_24 rfl) rfl (by show 2 * 0 + _ ≤ _; exact Nat.le_of_eq rfl) (hb hby at_150) (fun _ _ => ⟨rfl, e23, (by decide : 18 + 0 ≤ _), (by decide : 51 + 0 ≤ _)⟩)
      dsimp only [Pt.U, Pt.locs, Pt.cells, Pt.slots] at X24 l24 y24 z24 st24 hQ24
      subst l24 y24 z24
      obtain ⟨rfl, Nq24, Kq24, Eq24, Fa24, Fb24⟩ := hQ24
      have N24 := Fr.app N22 Nq24
      have So : Safe Z own_EL T12.vm h23 b23 := (Safe.exa hZ.alike E_b23 (by decide) (by decide))
      replace HC := HC.trans (CHr.keep Kq24 (fun x hx => by cases List.mem_singleton.mp hx; exact So) HC.1)
      replace Eq10 := Eq10.keep Kq24
      replace Fq10 := Fq10.keep Kq24 (fun q => ne_b10_b23 (List.mem_singleton.mp q))
      replace Gq10 := Gq10.keep Kq24 (fun q => ne_b10_b23 (List.mem_singleton.mp q))
      replace Vq10 := Vq10.keep Kq24 (fun q => ne_rv10_b23 (List.mem_singleton.mp q))
      replace Eq12 := Eq12.keep Kq24
      replace Fq12 := Fq12.keep Kq24 (fun q => ne_b12_b23 (List.mem_singleton.mp q))
      replace Gq12 := Gq12.keep Kq24 (fun q => ne_b12_b23 (List.mem_singleton.mp q))
      replace Vq12 := Vq12.keep Kq24 (fun q => ne_rv12_b23 (List.mem_singleton.mp q))
      replace Eo22 := Eo22.keep Kq24
      replace Fo22 := Fo22.keep Kq24 (fun q => ne_b22_b23 (List.mem_singleton.mp q))
      replace E_b23 := E_b23.keep Kq24
      replace O0 := O0.keep Kq24 (fun x hx => by cases List.mem_singleton.mp hx; exact gn_b23)
      replace hk := Nat.le_trans hk Kq24.1
      obtain ⟨_, _, ⟨T25, L25, k25_, n25⟩, -, X25, ⟨Lc25, hQ25, l25, y25, z25⟩, st25⟩ := Jvm.LawKit.callS X24 hx (y := (⟨"com/example/indelible_crawl/indeliblecrawl/fetch/ValidatorsIsEmptyPinLaw", "sendable", "(ICC)Z"⟩ : MethodName)) hown (mvT hZ (hw _ (List.mem_of_getElem? (i := 135) rfl))) (mvT hZ (hw _ (List.mem_of_getElem? (i := 136) rfl))) (mvT hZ (hw _ (List.mem_of_getElem? (i := 2) rfl))) (mvT hZ (hw _ (List.mem_of_getElem? (i := 137) rfl))) (by decide) (backOf (W := 0) (rm26 l Z a0 hw [] nE ze0 ze1 T24.heap n0 ) hZ (hw _ (List.mem_of_getElem? (i := 137) rfl)) (hw _ (List.mem_of_getElem? (i := 2) rfl)) (by decide) (by decide)) (g := (mkF m 190 #[.val (.int p0), .val (.int p1), .val (.int p2), .val (.int p3), .val (.int p4), .val (.int (if (p4 &&& (1 : Int32)) = (0 : Int32) then (0 : Int32) else (1 : Int32))), .val (.int (if (p4 &&& (2 : Int32)) = (0 : Int32) then (0 : Int32) else (1 : Int32))), .val (.int nL), .val (.int nE), .val (.int zl0), .val (.int zl1), .val (.int ze0), .val (.int ze1), .val (.ref b10), .val (.ref b12), .val (.ref w_E), .val (.ref b22), .val (.ref b23), .val (.int (0 : Int32)), .unset, .unset] [(.int ze1), (.int ze0), (.int nE)])) rfl (by rw [hml]; rfl) (argsL := [(.int nE), (.int ze0), (.int ze1)]) (rest := []) (lenOf pd_26 rfl) rfl (by show 2 * 0 + _ ≤ _; exact Nat.le_of_eq rfl) (hb hby at_190) (fun _ _ => ⟨rfl, rfl, (by decide : 18 + 0 ≤ _), (by decide : 51 + 0 ≤ _)⟩)
      dsimp only [Pt.U, Pt.locs, Pt.cells, Pt.slots] at X25 l25 y25 z25 st25 hQ25
      subst l25 y25 z25
      obtain ⟨rfl, Nq25, e25⟩ := hQ25
      have N25 := Fr.app N24 Nq25
      have k26 : ∀ t, Steps p.tables e below (T25.setTop (mkF m 193 #[.val (.int p0), .val (.int p1), .val (.int p2), .val (.int p3), .val (.int p4), .val (.int (if (p4 &&& (1 : Int32)) = (0 : Int32) then (0 : Int32) else (1 : Int32))), .val (.int (if (p4 &&& (2 : Int32)) = (0 : Int32) then (0 : Int32) else (1 : Int32))), .val (.int nL), .val (.int nE), .val (.int zl0), .val (.int zl1), .val (.int ze0), .val (.int ze1), .val (.ref b10), .val (.ref b12), .val (.ref w_E), .val (.ref b22), .val (.ref b23), .val (.int (0 : Int32)), .unset, .unset] [(.int (own_f26 nE ze0 ze1 ))])) t → Steps p.tables e below (s₁.setTop (entryFrame m #[(.int p0), (.int p1), (.int p2), (.int p3), (.int p4)] maxLocals)) t := by
        intro t k
        refine k16 _ ?_
        show Steps p.tables e below (T15.setTop (mkF m 124 #[.val (.int p0), .val (.int p1), .val (.int p2), .val (.int p3), .val (.int p4), .val (.int (if (p4 &&& (1 : Int32)) = (0 : Int32) then (0 : Int32) else (1 : Int32))), .val (.int (if (p4 &&& (2 : Int32)) = (0 : Int32) then (0 : Int32) else (1 : Int32))), .val (.int nL), .val (.int nE), .val (.int zl0), .val (.int zl1), .val (.int ze0), .val (.int ze1), .val (.ref b10), .val (.ref b12), .val (.ref w_E), .unset, .unset, .unset, .unset, .unset] [(.int (if (p4 &&& (2 : Int32)) = (0 : Int32) then (0 : Int32) else (1 : Int32)))])) _
        refine XS.ifNo X15.here hx rfl (hb hby at_124) rfl ((if0 _ _).trans (feq hc124_4).1) ?_
        show Steps p.tables e below (T15.setTop (mkF m 127 #[.val (.int p0), .val (.int p1), .val (.int p2), .val (.int p3), .val (.int p4), .val (.int (if (p4 &&& (1 : Int32)) = (0 : Int32) then (0 : Int32) else (1 : Int32))), .val (.int (if (p4 &&& (2 : Int32)) = (0 : Int32) then (0 : Int32) else (1 : Int32))), .val (.int nL), .val (.int nE), .val (.int zl0), .val (.int zl1), .val (.int ze0), .val (.int ze1), .val (.ref b10), .val (.ref b12), .val (.ref w_E), .unset, .unset, .unset, .unset, .unset] [])) _
        refine XS.aload X15.here hx rfl (hb hby at_127) rfl rfl ?_
        show Steps p.tables e below (T15.setTop (mkF m 129 #[.val (.int p0), .val (.int p1), .val (.int p2), .val (.int p3), .val (.int p4), .val (.int (if (p4 &&& (1 : Int32)) = (0 : Int32) then (0 : Int32) else (1 : Int32))), .val (.int (if (p4 &&& (2 : Int32)) = (0 : Int32) then (0 : Int32) else (1 : Int32))), .val (.int nL), .val (.int nE), .val (.int zl0), .val (.int zl1), .val (.int ze0), .val (.int ze1), .val (.ref b10), .val (.ref b12), .val (.ref w_E), .unset, .unset, .unset, .unset, .unset] [(.ref b12)])) _
        refine st22 _ ?_
        show Steps p.tables e below (T22.setTop (mkF m 132 #[.val (.int p0), .val (.int p1), .val (.int p2), .val (.int p3), .val (.int p4), .val (.int (if (p4 &&& (1 : Int32)) = (0 : Int32) then (0 : Int32) else (1 : Int32))), .val (.int (if (p4 &&& (2 : Int32)) = (0 : Int32) then (0 : Int32) else (1 : Int32))), .val (.int nL), .val (.int nE), .val (.int zl0), .val (.int zl1), .val (.int ze0), .val (.int ze1), .val (.ref b10), .val (.ref b12), .val (.ref w_E), .unset, .unset, .unset, .unset, .unset] [(.ref b22)])) _
        refine XS.astore X22.here hx rfl (hb hby at_132) rfl rfl (l' := #[.val (.int p0), .val (.int p1), .val (.int p2), .val (.int p3), .val (.int p4), .val (.int (if (p4 &&& (1 : Int32)) = (0 : Int32) then (0 : Int32) else (1 : Int32))), .val (.int (if (p4 &&& (2 : Int32)) = (0 : Int32) then (0 : Int32) else (1 : Int32))), .val (.int nL), .val (.int nE), .val (.int zl0), .val (.int zl1), .val (.int ze0), .val (.int ze1), .val (.ref b10), .val (.ref b12), .val (.ref w_E), .val (.ref b22), .unset, .unset, .unset, .unset]) rfl ?_
        show Steps p.tables e below (T22.setTop (mkF m 134 #[.val (.int p0), .val (.int p1), .val (.int p2), .val (.int p3), .val (.int p4), .val (.int (if (p4 &&& (1 : Int32)) = (0 : Int32) then (0 : Int32) else (1 : Int32))), .val (.int (if (p4 &&& (2 : Int32)) = (0 : Int32) then (0 : Int32) else (1 : Int32))), .val (.int nL), .val (.int nE), .val (.int zl0), .val (.int zl1), .val (.int ze0), .val (.int ze1), .val (.ref b10), .val (.ref b12), .val (.ref w_E), .val (.ref b22), .unset, .unset, .unset, .unset] [])) _
        refine XS.goto X22.here hx rfl (pc0 := 134) (pc' := 142) rfl (hb hby at_134) (by decide) (by decide) ?_
        show Steps p.tables e below (T22.setTop (mkF m 142 #[.val (.int p0), .val (.int p1), .val (.int p2), .val (.int p3), .val (.int p4), .val (.int (if (p4 &&& (1 : Int32)) = (0 : Int32) then (0 : Int32) else (1 : Int32))), .val (.int (if (p4 &&& (2 : Int32)) = (0 : Int32) then (0 : Int32) else (1 : Int32))), .val (.int nL), .val (.int nE), .val (.int zl0), .val (.int zl1), .val (.int ze0), .val (.int ze1), .val (.ref b10), .val (.ref b12), .val (.ref w_E), .val (.ref b22), .unset, .unset, .unset, .unset] [])) _
        refine st23 _ ?_
        show Steps p.tables e below (T23.setTop (mkF m 145 #[.val (.int p0), .val (.int p1), .val (.int p2), .val (.int p3), .val (.int p4), .val (.int (if (p4 &&& (1 : Int32)) = (0 : Int32) then (0 : Int32) else (1 : Int32))), .val (.int (if (p4 &&& (2 : Int32)) = (0 : Int32) then (0 : Int32) else (1 : Int32))), .val (.int nL), .val (.int nE), .val (.int zl0), .val (.int zl1), .val (.int ze0), .val (.int ze1), .val (.ref b10), .val (.ref b12), .val (.ref w_E), .val (.ref b22), .unset, .unset, .unset, .unset] [(.ref b23)])) _
        refine XS.dup X23.here hx rfl (hb hby at_145) rfl rfl ?_
        show Steps p.tables e below (T23.setTop (mkF m 146 #[.val (.int p0), .val (.int p1), .val (.int p2), .val (.int p3), .val (.int p4), .val (.int (if (p4 &&& (1 : Int32)) = (0 : Int32) then (0 : Int32) else (1 : Int32))), .val (.int (if (p4 &&& (2 : Int32)) = (0 : Int32) then (0 : Int32) else (1 : Int32))), .val (.int nL), .val (.int nE), .val (.int zl0), .val (.int zl1), .val (.int ze0), .val (.int ze1), .val (.ref b10), .val (.ref b12), .val (.ref w_E), .val (.ref b22), .unset, .unset, .unset, .unset] [(.ref b23), (.ref b23)])) _
        refine XS.aload X23.here hx rfl (hb hby at_146) rfl rfl ?_
        show Steps p.tables e below (T23.setTop (mkF m 148 #[.val (.int p0), .val (.int p1), .val (.int p2), .val (.int p3), .val (.int p4), .val (.int (if (p4 &&& (1 : Int32)) = (0 : Int32) then (0 : Int32) else (1 : Int32))), .val (.int (if (p4 &&& (2 : Int32)) = (0 : Int32) then (0 : Int32) else (1 : Int32))), .val (.int nL), .val (.int nE), .val (.int zl0), .val (.int zl1), .val (.int ze0), .val (.int ze1), .val (.ref b10), .val (.ref b12), .val (.ref w_E), .val (.ref b22), .unset, .unset, .unset, .unset] [(.ref w_E), (.ref b23), (.ref b23)])) _
        refine XS.aload X23.here hx rfl (hb hby at_148) rfl rfl ?_
        show Steps p.tables e below (T23.setTop (mkF m 150 #[.val (.int p0), .val (.int p1), .val (.int p2), .val (.int p3), .val (.int p4), .val (.int (if (p4 &&& (1 : Int32)) = (0 : Int32) then (0 : Int32) else (1 : Int32))), .val (.int (if (p4 &&& (2 : Int32)) = (0 : Int32) then (0 : Int32) else (1 : Int32))), .val (.int nL), .val (.int nE), .val (.int zl0), .val (.int zl1), .val (.int ze0), .val (.int ze1), .val (.ref b10), .val (.ref b12), .val (.ref w_E), .val (.ref b22), .unset, .unset, .unset, .unset] [(.ref b22), (.ref w_E), (.ref b23), (.ref b23)])) _
        refine st24.trans ?_
        show Steps p.tables e below (T24.setTop (mkF m 153 #[.val (.int p0), .val (.int p1), .val (.int p2), .val (.int p3), .val (.int p4), .val (.int (if (p4 &&& (1 : Int32)) = (0 : Int32) then (0 : Int32) else (1 : Int32))), .val (.int (if (p4 &&& (2 : Int32)) = (0 : Int32) then (0 : Int32) else (1 : Int32))), .val (.int nL), .val (.int nE), .val (.int zl0), .val (.int zl1), .val (.int ze0), .val (.int ze1), .val (.ref b10), .val (.ref b12), .val (.ref w_E), .val (.ref b22), .unset, .unset, .unset, .unset] [(.ref b23)])) _
        refine XS.astore X24.here hx rfl (hb hby at_153) rfl rfl (l' := #[.val (.int p0), .val (.int p1), .val (.int p2), .val (.int p3), .val (.int p4), .val (.int (if (p4 &&& (1 : Int32)) = (0 : Int32) then (0 : Int32) else (1 : Int32))), .val (.int (if (p4 &&& (2 : Int32)) = (0 : Int32) then (0 : Int32) else (1 : Int32))), .val (.int nL), .val (.int nE), .val (.int zl0), .val (.int zl1), .val (.int ze0), .val (.int ze1), .val (.ref b10), .val (.ref b12), .val (.ref w_E), .val (.ref b22), .val (.ref b23), .unset, .unset, .unset]) rfl ?_
        show Steps p.tables e below (T24.setTop (mkF m 155 #[.val (.int p0), .val (.int p1), .val (.int p2), .val (.int p3), .val (.int p4), .val (.int (if (p4 &&& (1 : Int32)) = (0 : Int32) then (0 : Int32) else (1 : Int32))), .val (.int (if (p4 &&& (2 : Int32)) = (0 : Int32) then (0 : Int32) else (1 : Int32))), .val (.int nL), .val (.int nE), .val (.int zl0), .val (.int zl1), .val (.int ze0), .val (.int ze1), .val (.ref b10), .val (.ref b12), .val (.ref w_E), .val (.ref b22), .val (.ref b23), .unset, .unset, .unset] [])) _
        refine XS.iload X24.here hx rfl (hb hby at_155) rfl ?_
        show Steps p.tables e below (T24.setTop (mkF m 157 #[.val (.int p0), .val (.int p1), .val (.int p2), .val (.int p3), .val (.int p4), .val (.int (if (p4 &&& (1 : Int32)) = (0 : Int32) then (0 : Int32) else (1 : Int32))), .val (.int (if (p4 &&& (2 : Int32)) = (0 : Int32) then (0 : Int32) else (1 : Int32))), .val (.int nL), .val (.int nE), .val (.int zl0), .val (.int zl1), .val (.int ze0), .val (.int ze1), .val (.ref b10), .val (.ref b12), .val (.ref w_E), .val (.ref b22), .val (.ref b23), .unset, .unset, .unset] [(.int (if (p4 &&& (1 : Int32)) = (0 : Int32) then (0 : Int32) else (1 : Int32)))])) _
        refine XS.ifYes X24.here hx rfl (pc0 := 157) (pc' := 176) rfl (hb hby at_157) rfl ((if0 _ _).trans (teq hc104_3).1) (by decide) (by decide) ?_
        show Steps p.tables e below (T24.setTop (mkF m 176 #[.val (.int p0), .val (.int p1), .val (.int p2), .val (.int p3), .val (.int p4), .val (.int (if (p4 &&& (1 : Int32)) = (0 : Int32) then (0 : Int32) else (1 : Int32))), .val (.int (if (p4 &&& (2 : Int32)) = (0 : Int32) then (0 : Int32) else (1 : Int32))), .val (.int nL), .val (.int nE), .val (.int zl0), .val (.int zl1), .val (.int ze0), .val (.int ze1), .val (.ref b10), .val (.ref b12), .val (.ref w_E), .val (.ref b22), .val (.ref b23), .unset, .unset, .unset] [])) _
        refine XS.iconst X24.here hx rfl (hb hby at_176) ?_
        show Steps p.tables e below (T24.setTop (mkF m 177 #[.val (.int p0), .val (.int p1), .val (.int p2), .val (.int p3), .val (.int p4), .val (.int (if (p4 &&& (1 : Int32)) = (0 : Int32) then (0 : Int32) else (1 : Int32))), .val (.int (if (p4 &&& (2 : Int32)) = (0 : Int32) then (0 : Int32) else (1 : Int32))), .val (.int nL), .val (.int nE), .val (.int zl0), .val (.int zl1), .val (.int ze0), .val (.int ze1), .val (.ref b10), .val (.ref b12), .val (.ref w_E), .val (.ref b22), .val (.ref b23), .unset, .unset, .unset] [(.int (0 : Int32))])) _
        refine XS.istore X24.here hx rfl (hb hby at_177) rfl (l' := #[.val (.int p0), .val (.int p1), .val (.int p2), .val (.int p3), .val (.int p4), .val (.int (if (p4 &&& (1 : Int32)) = (0 : Int32) then (0 : Int32) else (1 : Int32))), .val (.int (if (p4 &&& (2 : Int32)) = (0 : Int32) then (0 : Int32) else (1 : Int32))), .val (.int nL), .val (.int nE), .val (.int zl0), .val (.int zl1), .val (.int ze0), .val (.int ze1), .val (.ref b10), .val (.ref b12), .val (.ref w_E), .val (.ref b22), .val (.ref b23), .val (.int (0 : Int32)), .unset, .unset]) rfl ?_
        show Steps p.tables e below (T24.setTop (mkF m 179 #[.val (.int p0), .val (.int p1), .val (.int p2), .val (.int p3), .val (.int p4), .val (.int (if (p4 &&& (1 : Int32)) = (0 : Int32) then (0 : Int32) else (1 : Int32))), .val (.int (if (p4 &&& (2 : Int32)) = (0 : Int32) then (0 : Int32) else (1 : Int32))), .val (.int nL), .val (.int nE), .val (.int zl0), .val (.int zl1), .val (.int ze0), .val (.int ze1), .val (.ref b10), .val (.ref b12), .val (.ref w_E), .val (.ref b22), .val (.ref b23), .val (.int (0 : Int32)), .unset, .unset] [])) _
        refine XS.iload X24.here hx rfl (hb hby at_179) rfl ?_
        show Steps p.tables e below (T24.setTop (mkF m 181 #[.val (.int p0), .val (.int p1), .val (.int p2), .val (.int p3), .val (.int p4), .val (.int (if (p4 &&& (1 : Int32)) = (0 : Int32) then (0 : Int32) else (1 : Int32))), .val (.int (if (p4 &&& (2 : Int32)) = (0 : Int32) then (0 : Int32) else (1 : Int32))), .val (.int nL), .val (.int nE), .val (.int zl0), .val (.int zl1), .val (.int ze0), .val (.int ze1), .val (.ref b10), .val (.ref b12), .val (.ref w_E), .val (.ref b22), .val (.ref b23), .val (.int (0 : Int32)), .unset, .unset] [(.int (if (p4 &&& (2 : Int32)) = (0 : Int32) then (0 : Int32) else (1 : Int32)))])) _
        refine XS.ifNo X24.here hx rfl (hb hby at_181) rfl ((if0 _ _).trans (feq hc124_4).1) ?_
        show Steps p.tables e below (T24.setTop (mkF m 184 #[.val (.int p0), .val (.int p1), .val (.int p2), .val (.int p3), .val (.int p4), .val (.int (if (p4 &&& (1 : Int32)) = (0 : Int32) then (0 : Int32) else (1 : Int32))), .val (.int (if (p4 &&& (2 : Int32)) = (0 : Int32) then (0 : Int32) else (1 : Int32))), .val (.int nL), .val (.int nE), .val (.int zl0), .val (.int zl1), .val (.int ze0), .val (.int ze1), .val (.ref b10), .val (.ref b12), .val (.ref w_E), .val (.ref b22), .val (.ref b23), .val (.int (0 : Int32)), .unset, .unset] [])) _
        refine XS.iload X24.here hx rfl (hb hby at_184) rfl ?_
        show Steps p.tables e below (T24.setTop (mkF m 186 #[.val (.int p0), .val (.int p1), .val (.int p2), .val (.int p3), .val (.int p4), .val (.int (if (p4 &&& (1 : Int32)) = (0 : Int32) then (0 : Int32) else (1 : Int32))), .val (.int (if (p4 &&& (2 : Int32)) = (0 : Int32) then (0 : Int32) else (1 : Int32))), .val (.int nL), .val (.int nE), .val (.int zl0), .val (.int zl1), .val (.int ze0), .val (.int ze1), .val (.ref b10), .val (.ref b12), .val (.ref w_E), .val (.ref b22), .val (.ref b23), .val (.int (0 : Int32)), .unset, .unset] [(.int nE)])) _
        refine XS.iload X24.here hx rfl (hb hby at_186) rfl ?_
        show Steps p.tables e below (T24.setTop (mkF m 188 #[.val (.int p0), .val (.int p1), .val (.int p2), .val (.int p3), .val (.int p4), .val (.int (if (p4 &&& (1 : Int32)) = (0 : Int32) then (0 : Int32) else (1 : Int32))), .val (.int (if (p4 &&& (2 : Int32)) = (0 : Int32) then (0 : Int32) else (1 : Int32))), .val (.int nL), .val (.int nE), .val (.int zl0), .val (.int zl1), .val (.int ze0), .val (.int ze1), .val (.ref b10), .val (.ref b12), .val (.ref w_E), .val (.ref b22), .val (.ref b23), .val (.int (0 : Int32)), .unset, .unset] [(.int ze0), (.int nE)])) _
        refine XS.iload X24.here hx rfl (hb hby at_188) rfl ?_
        show Steps p.tables e below (T24.setTop (mkF m 190 #[.val (.int p0), .val (.int p1), .val (.int p2), .val (.int p3), .val (.int p4), .val (.int (if (p4 &&& (1 : Int32)) = (0 : Int32) then (0 : Int32) else (1 : Int32))), .val (.int (if (p4 &&& (2 : Int32)) = (0 : Int32) then (0 : Int32) else (1 : Int32))), .val (.int nL), .val (.int nE), .val (.int zl0), .val (.int zl1), .val (.int ze0), .val (.int ze1), .val (.ref b10), .val (.ref b12), .val (.ref w_E), .val (.ref b22), .val (.ref b23), .val (.int (0 : Int32)), .unset, .unset] [(.int ze1), (.int ze0), (.int nE)])) _
        refine st25 _ ?_
        exact k
      by_cases hc193_5 : (own_f26 nE ze0 ze1 ) = (0 : Int32)
      · rw [if_pos hc193_5] at Fb24
        obtain ⟨cq27, kq27, q27a, q27b, q27c⟩ := isOf hZ e25 E_b23
        obtain ⟨_, _, ⟨T27, L27, k27_, n27⟩, -, X27, ⟨Lc27, hQ27, l27, y27, z27⟩, st27⟩ := X25.virtualBack hx (y := (⟨"com/example/indelible_crawl/indeliblecrawl/fetch/Validators", "isEmpty", "()Z"⟩ : MethodName)) (z := (⟨"com/example/indelible_crawl/indeliblecrawl/fetch/Validators", "isEmpty", "()Z"⟩ : MethodName)) hown (mvT hZ (hw _ (List.mem_of_getElem? (i := 67) rfl))) (mvT hZ (hw _ (List.mem_of_getElem? (i := 68) rfl))) (notFace_of_selects (args := #[]) (mvT hZ (hw _ (List.mem_of_getElem? (i := 70) rfl)))) (mvT hZ (hw _ (List.mem_of_getElem? (i := 70) rfl))) (mvT hZ (hw _ (List.mem_of_getElem? (i := 69) rfl))) (by decide) (backOf (W := 0) (rmVE_0_0 l Z a0 hw [] b23 w_E w_E  T24.heap n0 Fa24 Fb24 (E_E.ext O0.2) (F_E.ext O0.2) (E_E.ext O0.2) (F_E.ext O0.2)) hZ (hw _ (List.mem_of_getElem? (i := 71) rfl)) (hw _ (List.mem_of_getElem? (i := 33) rfl)) (by decide) (by decide)) q27a q27c (g := (mkF m 222 #[.val (.int p0), .val (.int p1), .val (.int p2), .val (.int p3), .val (.int p4), .val (.int (if (p4 &&& (1 : Int32)) = (0 : Int32) then (0 : Int32) else (1 : Int32))), .val (.int (if (p4 &&& (2 : Int32)) = (0 : Int32) then (0 : Int32) else (1 : Int32))), .val (.int nL), .val (.int nE), .val (.int zl0), .val (.int zl1), .val (.int ze0), .val (.int ze1), .val (.ref b10), .val (.ref b12), .val (.ref w_E), .val (.ref b22), .val (.ref b23), .val (.int (0 : Int32)), .val (.int (0 : Int32)), .val (.int (1 : Int32))] [(.ref b23)])) rfl (by rw [hml]; rfl) (Steps.refl _) (argsL := []) (rest := []) (lenOf pd_13 rfl) rfl (by show 2 * 0 + _ ≤ _; exact Nat.le_of_eq rfl) (hb hby at_222) (fun _ _ => ⟨rfl, e25, (by decide : 18 + 0 ≤ _), (by decide : 51 + 0 ≤ _)⟩)
        dsimp only [Pt.U, Pt.locs, Pt.cells, Pt.slots] at X27 l27 y27 z27 st27 hQ27
        subst l27 y27 z27
        obtain ⟨rfl, Nq27, e27⟩ := hQ27
        have N27 := Fr.app N25 Nq27
        have k28 : ∀ t, Steps p.tables e below (T27.setTop (mkF m 235 #[.val (.int p0), .val (.int p1), .val (.int p2), .val (.int p3), .val (.int p4), .val (.int (if (p4 &&& (1 : Int32)) = (0 : Int32) then (0 : Int32) else (1 : Int32))), .val (.int (if (p4 &&& (2 : Int32)) = (0 : Int32) then (0 : Int32) else (1 : Int32))), .val (.int nL), .val (.int nE), .val (.int zl0), .val (.int zl1), .val (.int ze0), .val (.int ze1), .val (.ref b10), .val (.ref b12), .val (.ref w_E), .val (.ref b22), .val (.ref b23), .val (.int (0 : Int32)), .val (.int (0 : Int32)), .val (.int (1 : Int32))] [(.int (1 : Int32))])) t → Steps p.tables e below (s₁.setTop (entryFrame m #[(.int p0), (.int p1), (.int p2), (.int p3), (.int p4)] maxLocals)) t := by
          intro t k
          refine k26 _ ?_
          show Steps p.tables e below (T25.setTop (mkF m 193 #[.val (.int p0), .val (.int p1), .val (.int p2), .val (.int p3), .val (.int p4), .val (.int (if (p4 &&& (1 : Int32)) = (0 : Int32) then (0 : Int32) else (1 : Int32))), .val (.int (if (p4 &&& (2 : Int32)) = (0 : Int32) then (0 : Int32) else (1 : Int32))), .val (.int nL), .val (.int nE), .val (.int zl0), .val (.int zl1), .val (.int ze0), .val (.int ze1), .val (.ref b10), .val (.ref b12), .val (.ref w_E), .val (.ref b22), .val (.ref b23), .val (.int (0 : Int32)), .unset, .unset] [(.int (own_f26 nE ze0 ze1 ))])) _
          refine XS.ifYes X25.here hx rfl (pc0 := 193) (pc' := 200) rfl (hb hby at_193) rfl ((if0 _ _).trans (teq hc193_5).1) (by decide) (by decide) ?_
          show Steps p.tables e below (T25.setTop (mkF m 200 #[.val (.int p0), .val (.int p1), .val (.int p2), .val (.int p3), .val (.int p4), .val (.int (if (p4 &&& (1 : Int32)) = (0 : Int32) then (0 : Int32) else (1 : Int32))), .val (.int (if (p4 &&& (2 : Int32)) = (0 : Int32) then (0 : Int32) else (1 : Int32))), .val (.int nL), .val (.int nE), .val (.int zl0), .val (.int zl1), .val (.int ze0), .val (.int ze1), .val (.ref b10), .val (.ref b12), .val (.ref w_E), .val (.ref b22), .val (.ref b23), .val (.int (0 : Int32)), .unset, .unset] [])) _
          refine XS.iconst X25.here hx rfl (hb hby at_200) ?_
          show Steps p.tables e below (T25.setTop (mkF m 201 #[.val (.int p0), .val (.int p1), .val (.int p2), .val (.int p3), .val (.int p4), .val (.int (if (p4 &&& (1 : Int32)) = (0 : Int32) then (0 : Int32) else (1 : Int32))), .val (.int (if (p4 &&& (2 : Int32)) = (0 : Int32) then (0 : Int32) else (1 : Int32))), .val (.int nL), .val (.int nE), .val (.int zl0), .val (.int zl1), .val (.int ze0), .val (.int ze1), .val (.ref b10), .val (.ref b12), .val (.ref w_E), .val (.ref b22), .val (.ref b23), .val (.int (0 : Int32)), .unset, .unset] [(.int (0 : Int32))])) _
          refine XS.istore X25.here hx rfl (hb hby at_201) rfl (l' := #[.val (.int p0), .val (.int p1), .val (.int p2), .val (.int p3), .val (.int p4), .val (.int (if (p4 &&& (1 : Int32)) = (0 : Int32) then (0 : Int32) else (1 : Int32))), .val (.int (if (p4 &&& (2 : Int32)) = (0 : Int32) then (0 : Int32) else (1 : Int32))), .val (.int nL), .val (.int nE), .val (.int zl0), .val (.int zl1), .val (.int ze0), .val (.int ze1), .val (.ref b10), .val (.ref b12), .val (.ref w_E), .val (.ref b22), .val (.ref b23), .val (.int (0 : Int32)), .val (.int (0 : Int32)), .unset]) rfl ?_
          show Steps p.tables e below (T25.setTop (mkF m 203 #[.val (.int p0), .val (.int p1), .val (.int p2), .val (.int p3), .val (.int p4), .val (.int (if (p4 &&& (1 : Int32)) = (0 : Int32) then (0 : Int32) else (1 : Int32))), .val (.int (if (p4 &&& (2 : Int32)) = (0 : Int32) then (0 : Int32) else (1 : Int32))), .val (.int nL), .val (.int nE), .val (.int zl0), .val (.int zl1), .val (.int ze0), .val (.int ze1), .val (.ref b10), .val (.ref b12), .val (.ref w_E), .val (.ref b22), .val (.ref b23), .val (.int (0 : Int32)), .val (.int (0 : Int32)), .unset] [])) _
          refine XS.iload X25.here hx rfl (hb hby at_203) rfl ?_
          show Steps p.tables e below (T25.setTop (mkF m 205 #[.val (.int p0), .val (.int p1), .val (.int p2), .val (.int p3), .val (.int p4), .val (.int (if (p4 &&& (1 : Int32)) = (0 : Int32) then (0 : Int32) else (1 : Int32))), .val (.int (if (p4 &&& (2 : Int32)) = (0 : Int32) then (0 : Int32) else (1 : Int32))), .val (.int nL), .val (.int nE), .val (.int zl0), .val (.int zl1), .val (.int ze0), .val (.int ze1), .val (.ref b10), .val (.ref b12), .val (.ref w_E), .val (.ref b22), .val (.ref b23), .val (.int (0 : Int32)), .val (.int (0 : Int32)), .unset] [(.int (0 : Int32))])) _
          refine XS.ifNo X25.here hx rfl (hb hby at_205) rfl ((if0 _ _).trans (teq (by decide)).2) ?_
          show Steps p.tables e below (T25.setTop (mkF m 208 #[.val (.int p0), .val (.int p1), .val (.int p2), .val (.int p3), .val (.int p4), .val (.int (if (p4 &&& (1 : Int32)) = (0 : Int32) then (0 : Int32) else (1 : Int32))), .val (.int (if (p4 &&& (2 : Int32)) = (0 : Int32) then (0 : Int32) else (1 : Int32))), .val (.int nL), .val (.int nE), .val (.int zl0), .val (.int zl1), .val (.int ze0), .val (.int ze1), .val (.ref b10), .val (.ref b12), .val (.ref w_E), .val (.ref b22), .val (.ref b23), .val (.int (0 : Int32)), .val (.int (0 : Int32)), .unset] [])) _
          refine XS.iload X25.here hx rfl (hb hby at_208) rfl ?_
          show Steps p.tables e below (T25.setTop (mkF m 210 #[.val (.int p0), .val (.int p1), .val (.int p2), .val (.int p3), .val (.int p4), .val (.int (if (p4 &&& (1 : Int32)) = (0 : Int32) then (0 : Int32) else (1 : Int32))), .val (.int (if (p4 &&& (2 : Int32)) = (0 : Int32) then (0 : Int32) else (1 : Int32))), .val (.int nL), .val (.int nE), .val (.int zl0), .val (.int zl1), .val (.int ze0), .val (.int ze1), .val (.ref b10), .val (.ref b12), .val (.ref w_E), .val (.ref b22), .val (.ref b23), .val (.int (0 : Int32)), .val (.int (0 : Int32)), .unset] [(.int (0 : Int32))])) _
          refine XS.ifNo X25.here hx rfl (hb hby at_210) rfl ((if0 _ _).trans (teq (by decide)).2) ?_
          show Steps p.tables e below (T25.setTop (mkF m 213 #[.val (.int p0), .val (.int p1), .val (.int p2), .val (.int p3), .val (.int p4), .val (.int (if (p4 &&& (1 : Int32)) = (0 : Int32) then (0 : Int32) else (1 : Int32))), .val (.int (if (p4 &&& (2 : Int32)) = (0 : Int32) then (0 : Int32) else (1 : Int32))), .val (.int nL), .val (.int nE), .val (.int zl0), .val (.int zl1), .val (.int ze0), .val (.int ze1), .val (.ref b10), .val (.ref b12), .val (.ref w_E), .val (.ref b22), .val (.ref b23), .val (.int (0 : Int32)), .val (.int (0 : Int32)), .unset] [])) _
          refine XS.iconst X25.here hx rfl (hb hby at_213) ?_
          show Steps p.tables e below (T25.setTop (mkF m 214 #[.val (.int p0), .val (.int p1), .val (.int p2), .val (.int p3), .val (.int p4), .val (.int (if (p4 &&& (1 : Int32)) = (0 : Int32) then (0 : Int32) else (1 : Int32))), .val (.int (if (p4 &&& (2 : Int32)) = (0 : Int32) then (0 : Int32) else (1 : Int32))), .val (.int nL), .val (.int nE), .val (.int zl0), .val (.int zl1), .val (.int ze0), .val (.int ze1), .val (.ref b10), .val (.ref b12), .val (.ref w_E), .val (.ref b22), .val (.ref b23), .val (.int (0 : Int32)), .val (.int (0 : Int32)), .unset] [(.int (1 : Int32))])) _
          refine XS.goto X25.here hx rfl (pc0 := 214) (pc' := 218) rfl (hb hby at_214) (by decide) (by decide) ?_
          show Steps p.tables e below (T25.setTop (mkF m 218 #[.val (.int p0), .val (.int p1), .val (.int p2), .val (.int p3), .val (.int p4), .val (.int (if (p4 &&& (1 : Int32)) = (0 : Int32) then (0 : Int32) else (1 : Int32))), .val (.int (if (p4 &&& (2 : Int32)) = (0 : Int32) then (0 : Int32) else (1 : Int32))), .val (.int nL), .val (.int nE), .val (.int zl0), .val (.int zl1), .val (.int ze0), .val (.int ze1), .val (.ref b10), .val (.ref b12), .val (.ref w_E), .val (.ref b22), .val (.ref b23), .val (.int (0 : Int32)), .val (.int (0 : Int32)), .unset] [(.int (1 : Int32))])) _
          refine XS.istore X25.here hx rfl (hb hby at_218) rfl (l' := #[.val (.int p0), .val (.int p1), .val (.int p2), .val (.int p3), .val (.int p4), .val (.int (if (p4 &&& (1 : Int32)) = (0 : Int32) then (0 : Int32) else (1 : Int32))), .val (.int (if (p4 &&& (2 : Int32)) = (0 : Int32) then (0 : Int32) else (1 : Int32))), .val (.int nL), .val (.int nE), .val (.int zl0), .val (.int zl1), .val (.int ze0), .val (.int ze1), .val (.ref b10), .val (.ref b12), .val (.ref w_E), .val (.ref b22), .val (.ref b23), .val (.int (0 : Int32)), .val (.int (0 : Int32)), .val (.int (1 : Int32))]) rfl ?_
          show Steps p.tables e below (T25.setTop (mkF m 220 #[.val (.int p0), .val (.int p1), .val (.int p2), .val (.int p3), .val (.int p4), .val (.int (if (p4 &&& (1 : Int32)) = (0 : Int32) then (0 : Int32) else (1 : Int32))), .val (.int (if (p4 &&& (2 : Int32)) = (0 : Int32) then (0 : Int32) else (1 : Int32))), .val (.int nL), .val (.int nE), .val (.int zl0), .val (.int zl1), .val (.int ze0), .val (.int ze1), .val (.ref b10), .val (.ref b12), .val (.ref w_E), .val (.ref b22), .val (.ref b23), .val (.int (0 : Int32)), .val (.int (0 : Int32)), .val (.int (1 : Int32))] [])) _
          refine XS.aload X25.here hx rfl (hb hby at_220) rfl rfl ?_
          show Steps p.tables e below (T25.setTop (mkF m 222 #[.val (.int p0), .val (.int p1), .val (.int p2), .val (.int p3), .val (.int p4), .val (.int (if (p4 &&& (1 : Int32)) = (0 : Int32) then (0 : Int32) else (1 : Int32))), .val (.int (if (p4 &&& (2 : Int32)) = (0 : Int32) then (0 : Int32) else (1 : Int32))), .val (.int nL), .val (.int nE), .val (.int zl0), .val (.int zl1), .val (.int ze0), .val (.int ze1), .val (.ref b10), .val (.ref b12), .val (.ref w_E), .val (.ref b22), .val (.ref b23), .val (.int (0 : Int32)), .val (.int (0 : Int32)), .val (.int (1 : Int32))] [(.ref b23)])) _
          refine st27.trans ?_
          show Steps p.tables e below (T27.setTop (mkF m 225 #[.val (.int p0), .val (.int p1), .val (.int p2), .val (.int p3), .val (.int p4), .val (.int (if (p4 &&& (1 : Int32)) = (0 : Int32) then (0 : Int32) else (1 : Int32))), .val (.int (if (p4 &&& (2 : Int32)) = (0 : Int32) then (0 : Int32) else (1 : Int32))), .val (.int nL), .val (.int nE), .val (.int zl0), .val (.int zl1), .val (.int ze0), .val (.int ze1), .val (.ref b10), .val (.ref b12), .val (.ref w_E), .val (.ref b22), .val (.ref b23), .val (.int (0 : Int32)), .val (.int (0 : Int32)), .val (.int (1 : Int32))] [(.int (1 : Int32))])) _
          refine XS.iload X27.here hx rfl (hb hby at_225) rfl ?_
          show Steps p.tables e below (T27.setTop (mkF m 227 #[.val (.int p0), .val (.int p1), .val (.int p2), .val (.int p3), .val (.int p4), .val (.int (if (p4 &&& (1 : Int32)) = (0 : Int32) then (0 : Int32) else (1 : Int32))), .val (.int (if (p4 &&& (2 : Int32)) = (0 : Int32) then (0 : Int32) else (1 : Int32))), .val (.int nL), .val (.int nE), .val (.int zl0), .val (.int zl1), .val (.int ze0), .val (.int ze1), .val (.ref b10), .val (.ref b12), .val (.ref w_E), .val (.ref b22), .val (.ref b23), .val (.int (0 : Int32)), .val (.int (0 : Int32)), .val (.int (1 : Int32))] [(.int (1 : Int32)), (.int (1 : Int32))])) _
          refine XS.icmpNo X27.here hx rfl (hb hby at_227) rfl (teq (by decide)).2 ?_
          show Steps p.tables e below (T27.setTop (mkF m 230 #[.val (.int p0), .val (.int p1), .val (.int p2), .val (.int p3), .val (.int p4), .val (.int (if (p4 &&& (1 : Int32)) = (0 : Int32) then (0 : Int32) else (1 : Int32))), .val (.int (if (p4 &&& (2 : Int32)) = (0 : Int32) then (0 : Int32) else (1 : Int32))), .val (.int nL), .val (.int nE), .val (.int zl0), .val (.int zl1), .val (.int ze0), .val (.int ze1), .val (.ref b10), .val (.ref b12), .val (.ref w_E), .val (.ref b22), .val (.ref b23), .val (.int (0 : Int32)), .val (.int (0 : Int32)), .val (.int (1 : Int32))] [])) _
          refine XS.iconst X27.here hx rfl (hb hby at_230) ?_
          show Steps p.tables e below (T27.setTop (mkF m 231 #[.val (.int p0), .val (.int p1), .val (.int p2), .val (.int p3), .val (.int p4), .val (.int (if (p4 &&& (1 : Int32)) = (0 : Int32) then (0 : Int32) else (1 : Int32))), .val (.int (if (p4 &&& (2 : Int32)) = (0 : Int32) then (0 : Int32) else (1 : Int32))), .val (.int nL), .val (.int nE), .val (.int zl0), .val (.int zl1), .val (.int ze0), .val (.int ze1), .val (.ref b10), .val (.ref b12), .val (.ref w_E), .val (.ref b22), .val (.ref b23), .val (.int (0 : Int32)), .val (.int (0 : Int32)), .val (.int (1 : Int32))] [(.int (1 : Int32))])) _
          refine XS.goto X27.here hx rfl (pc0 := 231) (pc' := 235) rfl (hb hby at_231) (by decide) (by decide) ?_
          exact k
        obtain ⟨fs, hr, hrun, hended, hEW⟩ := X27.leaveW hS (by rw [e27]; exact hk) (v := some (.int (1 : Int32))) (fun h => by rw [Bd.returns] at h; cases h)
        refine ⟨_, _, k28 _ ?_, hrun, hended, _, _, rfl, ?_, hEW.1, hEW.2.1, hEW.2.2.1, hEW.2.2.2.mono (by decide) (by decide)⟩
        · exact retN X27 hx (t := .boolean) Bd.returns (by simp) (hb hby at_235) hr
        · show own_R (some (.int 1)) n0 _ T27.heap _
          rw [e27]
          exact ⟨rfl, N27⟩
      · rw [if_neg hc193_5] at Fb24
        obtain ⟨cq29, kq29, q29a, q29b, q29c⟩ := isOf hZ e25 E_b23
        obtain ⟨_, _, ⟨T29, L29, k29_, n29⟩, -, X29, ⟨Lc29, hQ29, l29, y29, z29⟩, st29⟩ := X25.virtualBack hx (y := (⟨"com/example/indelible_crawl/indeliblecrawl/fetch/Validators", "isEmpty", "()Z"⟩ : MethodName)) (z := (⟨"com/example/indelible_crawl/indeliblecrawl/fetch/Validators", "isEmpty", "()Z"⟩ : MethodName)) hown (mvT hZ (hw _ (List.mem_of_getElem? (i := 67) rfl))) (mvT hZ (hw _ (List.mem_of_getElem? (i := 68) rfl))) (notFace_of_selects (args := #[]) (mvT hZ (hw _ (List.mem_of_getElem? (i := 70) rfl)))) (mvT hZ (hw _ (List.mem_of_getElem? (i := 70) rfl))) (mvT hZ (hw _ (List.mem_of_getElem? (i := 69) rfl))) (by decide) (backOf (W := 0) (rmVE_0_1 l Z a0 hw [] b23 w_E b22 b12 T24.heap n0 Fa24 Fb24 (E_E.ext O0.2) (F_E.ext O0.2) Eo22 Fo22) hZ (hw _ (List.mem_of_getElem? (i := 71) rfl)) (hw _ (List.mem_of_getElem? (i := 33) rfl)) (by decide) (by decide)) q29a q29c (g := (mkF m 222 #[.val (.int p0), .val (.int p1), .val (.int p2), .val (.int p3), .val (.int p4), .val (.int (if (p4 &&& (1 : Int32)) = (0 : Int32) then (0 : Int32) else (1 : Int32))), .val (.int (if (p4 &&& (2 : Int32)) = (0 : Int32) then (0 : Int32) else (1 : Int32))), .val (.int nL), .val (.int nE), .val (.int zl0), .val (.int zl1), .val (.int ze0), .val (.int ze1), .val (.ref b10), .val (.ref b12), .val (.ref w_E), .val (.ref b22), .val (.ref b23), .val (.int (0 : Int32)), .val (.int (1 : Int32)), .val (.int (0 : Int32))] [(.ref b23)])) rfl (by rw [hml]; rfl) (Steps.refl _) (argsL := []) (rest := []) (lenOf pd_13 rfl) rfl (by show 2 * 0 + _ ≤ _; exact Nat.le_of_eq rfl) (hb hby at_222) (fun _ _ => ⟨rfl, e25, (by decide : 18 + 0 ≤ _), (by decide : 51 + 0 ≤ _)⟩)
        dsimp only [Pt.U, Pt.locs, Pt.cells, Pt.slots] at X29 l29 y29 z29 st29 hQ29
        subst l29 y29 z29
        obtain ⟨rfl, Nq29, e29⟩ := hQ29
        have N29 := Fr.app N25 Nq29
        have k30 : ∀ t, Steps p.tables e below (T29.setTop (mkF m 235 #[.val (.int p0), .val (.int p1), .val (.int p2), .val (.int p3), .val (.int p4), .val (.int (if (p4 &&& (1 : Int32)) = (0 : Int32) then (0 : Int32) else (1 : Int32))), .val (.int (if (p4 &&& (2 : Int32)) = (0 : Int32) then (0 : Int32) else (1 : Int32))), .val (.int nL), .val (.int nE), .val (.int zl0), .val (.int zl1), .val (.int ze0), .val (.int ze1), .val (.ref b10), .val (.ref b12), .val (.ref w_E), .val (.ref b22), .val (.ref b23), .val (.int (0 : Int32)), .val (.int (1 : Int32)), .val (.int (0 : Int32))] [(.int (1 : Int32))])) t → Steps p.tables e below (s₁.setTop (entryFrame m #[(.int p0), (.int p1), (.int p2), (.int p3), (.int p4)] maxLocals)) t := by
          intro t k
          refine k26 _ ?_
          show Steps p.tables e below (T25.setTop (mkF m 193 #[.val (.int p0), .val (.int p1), .val (.int p2), .val (.int p3), .val (.int p4), .val (.int (if (p4 &&& (1 : Int32)) = (0 : Int32) then (0 : Int32) else (1 : Int32))), .val (.int (if (p4 &&& (2 : Int32)) = (0 : Int32) then (0 : Int32) else (1 : Int32))), .val (.int nL), .val (.int nE), .val (.int zl0), .val (.int zl1), .val (.int ze0), .val (.int ze1), .val (.ref b10), .val (.ref b12), .val (.ref w_E), .val (.ref b22), .val (.ref b23), .val (.int (0 : Int32)), .unset, .unset] [(.int (own_f26 nE ze0 ze1 ))])) _
          refine XS.ifNo X25.here hx rfl (hb hby at_193) rfl ((if0 _ _).trans (feq hc193_5).1) ?_
          show Steps p.tables e below (T25.setTop (mkF m 196 #[.val (.int p0), .val (.int p1), .val (.int p2), .val (.int p3), .val (.int p4), .val (.int (if (p4 &&& (1 : Int32)) = (0 : Int32) then (0 : Int32) else (1 : Int32))), .val (.int (if (p4 &&& (2 : Int32)) = (0 : Int32) then (0 : Int32) else (1 : Int32))), .val (.int nL), .val (.int nE), .val (.int zl0), .val (.int zl1), .val (.int ze0), .val (.int ze1), .val (.ref b10), .val (.ref b12), .val (.ref w_E), .val (.ref b22), .val (.ref b23), .val (.int (0 : Int32)), .unset, .unset] [])) _
          refine XS.iconst X25.here hx rfl (hb hby at_196) ?_
          show Steps p.tables e below (T25.setTop (mkF m 197 #[.val (.int p0), .val (.int p1), .val (.int p2), .val (.int p3), .val (.int p4), .val (.int (if (p4 &&& (1 : Int32)) = (0 : Int32) then (0 : Int32) else (1 : Int32))), .val (.int (if (p4 &&& (2 : Int32)) = (0 : Int32) then (0 : Int32) else (1 : Int32))), .val (.int nL), .val (.int nE), .val (.int zl0), .val (.int zl1), .val (.int ze0), .val (.int ze1), .val (.ref b10), .val (.ref b12), .val (.ref w_E), .val (.ref b22), .val (.ref b23), .val (.int (0 : Int32)), .unset, .unset] [(.int (1 : Int32))])) _
          refine XS.goto X25.here hx rfl (pc0 := 197) (pc' := 201) rfl (hb hby at_197) (by decide) (by decide) ?_
          show Steps p.tables e below (T25.setTop (mkF m 201 #[.val (.int p0), .val (.int p1), .val (.int p2), .val (.int p3), .val (.int p4), .val (.int (if (p4 &&& (1 : Int32)) = (0 : Int32) then (0 : Int32) else (1 : Int32))), .val (.int (if (p4 &&& (2 : Int32)) = (0 : Int32) then (0 : Int32) else (1 : Int32))), .val (.int nL), .val (.int nE), .val (.int zl0), .val (.int zl1), .val (.int ze0), .val (.int ze1), .val (.ref b10), .val (.ref b12), .val (.ref w_E), .val (.ref b22), .val (.ref b23), .val (.int (0 : Int32)), .unset, .unset] [(.int (1 : Int32))])) _
          refine XS.istore X25.here hx rfl (hb hby at_201) rfl (l' := #[.val (.int p0), .val (.int p1), .val (.int p2), .val (.int p3), .val (.int p4), .val (.int (if (p4 &&& (1 : Int32)) = (0 : Int32) then (0 : Int32) else (1 : Int32))), .val (.int (if (p4 &&& (2 : Int32)) = (0 : Int32) then (0 : Int32) else (1 : Int32))), .val (.int nL), .val (.int nE), .val (.int zl0), .val (.int zl1), .val (.int ze0), .val (.int ze1), .val (.ref b10), .val (.ref b12), .val (.ref w_E), .val (.ref b22), .val (.ref b23), .val (.int (0 : Int32)), .val (.int (1 : Int32)), .unset]) rfl ?_
          show Steps p.tables e below (T25.setTop (mkF m 203 #[.val (.int p0), .val (.int p1), .val (.int p2), .val (.int p3), .val (.int p4), .val (.int (if (p4 &&& (1 : Int32)) = (0 : Int32) then (0 : Int32) else (1 : Int32))), .val (.int (if (p4 &&& (2 : Int32)) = (0 : Int32) then (0 : Int32) else (1 : Int32))), .val (.int nL), .val (.int nE), .val (.int zl0), .val (.int zl1), .val (.int ze0), .val (.int ze1), .val (.ref b10), .val (.ref b12), .val (.ref w_E), .val (.ref b22), .val (.ref b23), .val (.int (0 : Int32)), .val (.int (1 : Int32)), .unset] [])) _
          refine XS.iload X25.here hx rfl (hb hby at_203) rfl ?_
          show Steps p.tables e below (T25.setTop (mkF m 205 #[.val (.int p0), .val (.int p1), .val (.int p2), .val (.int p3), .val (.int p4), .val (.int (if (p4 &&& (1 : Int32)) = (0 : Int32) then (0 : Int32) else (1 : Int32))), .val (.int (if (p4 &&& (2 : Int32)) = (0 : Int32) then (0 : Int32) else (1 : Int32))), .val (.int nL), .val (.int nE), .val (.int zl0), .val (.int zl1), .val (.int ze0), .val (.int ze1), .val (.ref b10), .val (.ref b12), .val (.ref w_E), .val (.ref b22), .val (.ref b23), .val (.int (0 : Int32)), .val (.int (1 : Int32)), .unset] [(.int (0 : Int32))])) _
          refine XS.ifNo X25.here hx rfl (hb hby at_205) rfl ((if0 _ _).trans (teq (by decide)).2) ?_
          show Steps p.tables e below (T25.setTop (mkF m 208 #[.val (.int p0), .val (.int p1), .val (.int p2), .val (.int p3), .val (.int p4), .val (.int (if (p4 &&& (1 : Int32)) = (0 : Int32) then (0 : Int32) else (1 : Int32))), .val (.int (if (p4 &&& (2 : Int32)) = (0 : Int32) then (0 : Int32) else (1 : Int32))), .val (.int nL), .val (.int nE), .val (.int zl0), .val (.int zl1), .val (.int ze0), .val (.int ze1), .val (.ref b10), .val (.ref b12), .val (.ref w_E), .val (.ref b22), .val (.ref b23), .val (.int (0 : Int32)), .val (.int (1 : Int32)), .unset] [])) _
          refine XS.iload X25.here hx rfl (hb hby at_208) rfl ?_
          show Steps p.tables e below (T25.setTop (mkF m 210 #[.val (.int p0), .val (.int p1), .val (.int p2), .val (.int p3), .val (.int p4), .val (.int (if (p4 &&& (1 : Int32)) = (0 : Int32) then (0 : Int32) else (1 : Int32))), .val (.int (if (p4 &&& (2 : Int32)) = (0 : Int32) then (0 : Int32) else (1 : Int32))), .val (.int nL), .val (.int nE), .val (.int zl0), .val (.int zl1), .val (.int ze0), .val (.int ze1), .val (.ref b10), .val (.ref b12), .val (.ref w_E), .val (.ref b22), .val (.ref b23), .val (.int (0 : Int32)), .val (.int (1 : Int32)), .unset] [(.int (1 : Int32))])) _
          refine XS.ifYes X25.here hx rfl (pc0 := 210) (pc' := 217) rfl (hb hby at_210) rfl ((if0 _ _).trans (feq (by decide)).2) (by decide) (by decide) ?_
          show Steps p.tables e below (T25.setTop (mkF m 217 #[.val (.int p0), .val (.int p1), .val (.int p2), .val (.int p3), .val (.int p4), .val (.int (if (p4 &&& (1 : Int32)) = (0 : Int32) then (0 : Int32) else (1 : Int32))), .val (.int (if (p4 &&& (2 : Int32)) = (0 : Int32) then (0 : Int32) else (1 : Int32))), .val (.int nL), .val (.int nE), .val (.int zl0), .val (.int zl1), .val (.int ze0), .val (.int ze1), .val (.ref b10), .val (.ref b12), .val (.ref w_E), .val (.ref b22), .val (.ref b23), .val (.int (0 : Int32)), .val (.int (1 : Int32)), .unset] [])) _
          refine XS.iconst X25.here hx rfl (hb hby at_217) ?_
          show Steps p.tables e below (T25.setTop (mkF m 218 #[.val (.int p0), .val (.int p1), .val (.int p2), .val (.int p3), .val (.int p4), .val (.int (if (p4 &&& (1 : Int32)) = (0 : Int32) then (0 : Int32) else (1 : Int32))), .val (.int (if (p4 &&& (2 : Int32)) = (0 : Int32) then (0 : Int32) else (1 : Int32))), .val (.int nL), .val (.int nE), .val (.int zl0), .val (.int zl1), .val (.int ze0), .val (.int ze1), .val (.ref b10), .val (.ref b12), .val (.ref w_E), .val (.ref b22), .val (.ref b23), .val (.int (0 : Int32)), .val (.int (1 : Int32)), .unset] [(.int (0 : Int32))])) _
          refine XS.istore X25.here hx rfl (hb hby at_218) rfl (l' := #[.val (.int p0), .val (.int p1), .val (.int p2), .val (.int p3), .val (.int p4), .val (.int (if (p4 &&& (1 : Int32)) = (0 : Int32) then (0 : Int32) else (1 : Int32))), .val (.int (if (p4 &&& (2 : Int32)) = (0 : Int32) then (0 : Int32) else (1 : Int32))), .val (.int nL), .val (.int nE), .val (.int zl0), .val (.int zl1), .val (.int ze0), .val (.int ze1), .val (.ref b10), .val (.ref b12), .val (.ref w_E), .val (.ref b22), .val (.ref b23), .val (.int (0 : Int32)), .val (.int (1 : Int32)), .val (.int (0 : Int32))]) rfl ?_
          show Steps p.tables e below (T25.setTop (mkF m 220 #[.val (.int p0), .val (.int p1), .val (.int p2), .val (.int p3), .val (.int p4), .val (.int (if (p4 &&& (1 : Int32)) = (0 : Int32) then (0 : Int32) else (1 : Int32))), .val (.int (if (p4 &&& (2 : Int32)) = (0 : Int32) then (0 : Int32) else (1 : Int32))), .val (.int nL), .val (.int nE), .val (.int zl0), .val (.int zl1), .val (.int ze0), .val (.int ze1), .val (.ref b10), .val (.ref b12), .val (.ref w_E), .val (.ref b22), .val (.ref b23), .val (.int (0 : Int32)), .val (.int (1 : Int32)), .val (.int (0 : Int32))] [])) _
          refine XS.aload X25.here hx rfl (hb hby at_220) rfl rfl ?_
          show Steps p.tables e below (T25.setTop (mkF m 222 #[.val (.int p0), .val (.int p1), .val (.int p2), .val (.int p3), .val (.int p4), .val (.int (if (p4 &&& (1 : Int32)) = (0 : Int32) then (0 : Int32) else (1 : Int32))), .val (.int (if (p4 &&& (2 : Int32)) = (0 : Int32) then (0 : Int32) else (1 : Int32))), .val (.int nL), .val (.int nE), .val (.int zl0), .val (.int zl1), .val (.int ze0), .val (.int ze1), .val (.ref b10), .val (.ref b12), .val (.ref w_E), .val (.ref b22), .val (.ref b23), .val (.int (0 : Int32)), .val (.int (1 : Int32)), .val (.int (0 : Int32))] [(.ref b23)])) _
          refine st29.trans ?_
          show Steps p.tables e below (T29.setTop (mkF m 225 #[.val (.int p0), .val (.int p1), .val (.int p2), .val (.int p3), .val (.int p4), .val (.int (if (p4 &&& (1 : Int32)) = (0 : Int32) then (0 : Int32) else (1 : Int32))), .val (.int (if (p4 &&& (2 : Int32)) = (0 : Int32) then (0 : Int32) else (1 : Int32))), .val (.int nL), .val (.int nE), .val (.int zl0), .val (.int zl1), .val (.int ze0), .val (.int ze1), .val (.ref b10), .val (.ref b12), .val (.ref w_E), .val (.ref b22), .val (.ref b23), .val (.int (0 : Int32)), .val (.int (1 : Int32)), .val (.int (0 : Int32))] [(.int (0 : Int32))])) _
          refine XS.iload X29.here hx rfl (hb hby at_225) rfl ?_
          show Steps p.tables e below (T29.setTop (mkF m 227 #[.val (.int p0), .val (.int p1), .val (.int p2), .val (.int p3), .val (.int p4), .val (.int (if (p4 &&& (1 : Int32)) = (0 : Int32) then (0 : Int32) else (1 : Int32))), .val (.int (if (p4 &&& (2 : Int32)) = (0 : Int32) then (0 : Int32) else (1 : Int32))), .val (.int nL), .val (.int nE), .val (.int zl0), .val (.int zl1), .val (.int ze0), .val (.int ze1), .val (.ref b10), .val (.ref b12), .val (.ref w_E), .val (.ref b22), .val (.ref b23), .val (.int (0 : Int32)), .val (.int (1 : Int32)), .val (.int (0 : Int32))] [(.int (0 : Int32)), (.int (0 : Int32))])) _
          refine XS.icmpNo X29.here hx rfl (hb hby at_227) rfl (teq (by decide)).2 ?_
          show Steps p.tables e below (T29.setTop (mkF m 230 #[.val (.int p0), .val (.int p1), .val (.int p2), .val (.int p3), .val (.int p4), .val (.int (if (p4 &&& (1 : Int32)) = (0 : Int32) then (0 : Int32) else (1 : Int32))), .val (.int (if (p4 &&& (2 : Int32)) = (0 : Int32) then (0 : Int32) else (1 : Int32))), .val (.int nL), .val (.int nE), .val (.int zl0), .val (.int zl1), .val (.int ze0), .val (.int ze1), .val (.ref b10), .val (.ref b12), .val (.ref w_E), .val (.ref b22), .val (.ref b23), .val (.int (0 : Int32)), .val (.int (1 : Int32)), .val (.int (0 : Int32))] [])) _
          refine XS.iconst X29.here hx rfl (hb hby at_230) ?_
          show Steps p.tables e below (T29.setTop (mkF m 231 #[.val (.int p0), .val (.int p1), .val (.int p2), .val (.int p3), .val (.int p4), .val (.int (if (p4 &&& (1 : Int32)) = (0 : Int32) then (0 : Int32) else (1 : Int32))), .val (.int (if (p4 &&& (2 : Int32)) = (0 : Int32) then (0 : Int32) else (1 : Int32))), .val (.int nL), .val (.int nE), .val (.int zl0), .val (.int zl1), .val (.int ze0), .val (.int ze1), .val (.ref b10), .val (.ref b12), .val (.ref w_E), .val (.ref b22), .val (.ref b23), .val (.int (0 : Int32)), .val (.int (1 : Int32)), .val (.int (0 : Int32))] [(.int (1 : Int32))])) _
          refine XS.goto X29.here hx rfl (pc0 := 231) (pc' := 235) rfl (hb hby at_231) (by decide) (by decide) ?_
          exact k
        obtain ⟨fs, hr, hrun, hended, hEW⟩ := X29.leaveW hS (by rw [e29]; exact hk) (v := some (.int (1 : Int32))) (fun h => by rw [Bd.returns] at h; cases h)
        refine ⟨_, _, k30 _ ?_, hrun, hended, _, _, rfl, ?_, hEW.1, hEW.2.1, hEW.2.2.1, hEW.2.2.2.mono (by decide) (by decide)⟩
        · exact retN X29 hx (t := .boolean) Bd.returns (by simp) (hb hby at_235) hr
        · show own_R (some (.int 1)) n0 _ T29.heap _
          rw [e29]
          exact ⟨rfl, N29⟩
  · obtain ⟨_, _, ⟨T31, L31, k31_, n31⟩, -, X31, ⟨Lc31, hQ31, l31, y31, z31⟩, st31⟩ := Jvm.LawKit.callS X12 hx (y := (⟨"java/util/Optional", "of", "(Ljava/lang/Object;)Ljava/util/Optional;"⟩ : MethodName)) hown (mvT hZ (hw _ (List.mem_of_getElem? (i := 88) rfl))) (mvT hZ (hw _ (List.mem_of_getElem? (i := 89) rfl))) (mvT hZ (hw _ (List.mem_of_getElem? (i := 28) rfl))) (mvT hZ (hw _ (List.mem_of_getElem? (i := 90) rfl))) (by decide) (backOf (W := 0) (rm16 l Z a0 hw [] b10 T12.heap n0 (O0.1 ▸ O0.2.1)) hZ (hw _ (List.mem_of_getElem? (i := 90) rfl)) (hw _ (List.mem_of_getElem? (i := 28) rfl)) (by decide) (by decide)) (g := (mkF m 109 #[.val (.int p0), .val (.int p1), .val (.int p2), .val (.int p3), .val (.int p4), .val (.int (if (p4 &&& (1 : Int32)) = (0 : Int32) then (0 : Int32) else (1 : Int32))), .val (.int (if (p4 &&& (2 : Int32)) = (0 : Int32) then (0 : Int32) else (1 : Int32))), .val (.int nL), .val (.int nE), .val (.int zl0), .val (.int zl1), .val (.int ze0), .val (.int ze1), .val (.ref b10), .val (.ref b12), .unset, .unset, .unset, .unset, .unset, .unset] [(.ref b10)])) rfl (by rw [hml]; rfl) (argsL := [(.ref b10)]) (rest := []) (lenOf pd_25 rfl) rfl (by show 2 * 0 + _ ≤ _; exact Nat.le_of_eq rfl) (hb hby at_109) (fun _ _ => ⟨rfl, rfl, (by decide : 16 + 1 ≤ _), (by decide : 48 + 1 ≤ _)⟩)
    dsimp only [Pt.U, Pt.locs, Pt.cells, Pt.slots] at X31 l31 y31 z31 st31 hQ31
    subst l31 y31 z31
    obtain ⟨b31, rfl, Nq31, Kq31, Eo31, Fo31⟩ := hQ31
    have N31 := Fr.app N12 Nq31
    replace HC := HC.trans (CHr.keep Kq31 (fun x hx => nomatch hx) HC.1)
    replace Eq10 := Eq10.keep Kq31
    replace Fq10 := Fq10.keep Kq31 List.not_mem_nil
    replace Gq10 := Gq10.keep Kq31 List.not_mem_nil
    replace Vq10 := Vq10.keep Kq31 List.not_mem_nil
    replace Eq12 := Eq12.keep Kq31
    replace Fq12 := Fq12.keep Kq31 List.not_mem_nil
    replace Gq12 := Gq12.keep Kq31 List.not_mem_nil
    replace Vq12 := Vq12.keep Kq31 List.not_mem_nil
    replace O0 := O0.keep Kq31 (fun x hx => nomatch hx)
    replace hk := Nat.le_trans hk Kq31.1
    have k32 : ∀ t, Steps p.tables e below (T31.setTop (mkF m 124 #[.val (.int p0), .val (.int p1), .val (.int p2), .val (.int p3), .val (.int p4), .val (.int (if (p4 &&& (1 : Int32)) = (0 : Int32) then (0 : Int32) else (1 : Int32))), .val (.int (if (p4 &&& (2 : Int32)) = (0 : Int32) then (0 : Int32) else (1 : Int32))), .val (.int nL), .val (.int nE), .val (.int zl0), .val (.int zl1), .val (.int ze0), .val (.int ze1), .val (.ref b10), .val (.ref b12), .val (.ref b31), .unset, .unset, .unset, .unset, .unset] [(.int (if (p4 &&& (2 : Int32)) = (0 : Int32) then (0 : Int32) else (1 : Int32)))])) t → Steps p.tables e below (s₁.setTop (entryFrame m #[(.int p0), (.int p1), (.int p2), (.int p3), (.int p4)] maxLocals)) t := by
      intro t k
      refine k14 _ ?_
      show Steps p.tables e below (T12.setTop (mkF m 104 #[.val (.int p0), .val (.int p1), .val (.int p2), .val (.int p3), .val (.int p4), .val (.int (if (p4 &&& (1 : Int32)) = (0 : Int32) then (0 : Int32) else (1 : Int32))), .val (.int (if (p4 &&& (2 : Int32)) = (0 : Int32) then (0 : Int32) else (1 : Int32))), .val (.int nL), .val (.int nE), .val (.int zl0), .val (.int zl1), .val (.int ze0), .val (.int ze1), .val (.ref b10), .val (.ref b12), .unset, .unset, .unset, .unset, .unset, .unset] [(.int (if (p4 &&& (1 : Int32)) = (0 : Int32) then (0 : Int32) else (1 : Int32)))])) _
      refine XS.ifNo X12.here hx rfl (hb hby at_104) rfl ((if0 _ _).trans (feq hc104_3).1) ?_
      show Steps p.tables e below (T12.setTop (mkF m 107 #[.val (.int p0), .val (.int p1), .val (.int p2), .val (.int p3), .val (.int p4), .val (.int (if (p4 &&& (1 : Int32)) = (0 : Int32) then (0 : Int32) else (1 : Int32))), .val (.int (if (p4 &&& (2 : Int32)) = (0 : Int32) then (0 : Int32) else (1 : Int32))), .val (.int nL), .val (.int nE), .val (.int zl0), .val (.int zl1), .val (.int ze0), .val (.int ze1), .val (.ref b10), .val (.ref b12), .unset, .unset, .unset, .unset, .unset, .unset] [])) _
      refine XS.aload X12.here hx rfl (hb hby at_107) rfl rfl ?_
      show Steps p.tables e below (T12.setTop (mkF m 109 #[.val (.int p0), .val (.int p1), .val (.int p2), .val (.int p3), .val (.int p4), .val (.int (if (p4 &&& (1 : Int32)) = (0 : Int32) then (0 : Int32) else (1 : Int32))), .val (.int (if (p4 &&& (2 : Int32)) = (0 : Int32) then (0 : Int32) else (1 : Int32))), .val (.int nL), .val (.int nE), .val (.int zl0), .val (.int zl1), .val (.int ze0), .val (.int ze1), .val (.ref b10), .val (.ref b12), .unset, .unset, .unset, .unset, .unset, .unset] [(.ref b10)])) _
      refine st31 _ ?_
      show Steps p.tables e below (T31.setTop (mkF m 112 #[.val (.int p0), .val (.int p1), .val (.int p2), .val (.int p3), .val (.int p4), .val (.int (if (p4 &&& (1 : Int32)) = (0 : Int32) then (0 : Int32) else (1 : Int32))), .val (.int (if (p4 &&& (2 : Int32)) = (0 : Int32) then (0 : Int32) else (1 : Int32))), .val (.int nL), .val (.int nE), .val (.int zl0), .val (.int zl1), .val (.int ze0), .val (.int ze1), .val (.ref b10), .val (.ref b12), .unset, .unset, .unset, .unset, .unset, .unset] [(.ref b31)])) _
      refine XS.astore X31.here hx rfl (hb hby at_112) rfl rfl (l' := #[.val (.int p0), .val (.int p1), .val (.int p2), .val (.int p3), .val (.int p4), .val (.int (if (p4 &&& (1 : Int32)) = (0 : Int32) then (0 : Int32) else (1 : Int32))), .val (.int (if (p4 &&& (2 : Int32)) = (0 : Int32) then (0 : Int32) else (1 : Int32))), .val (.int nL), .val (.int nE), .val (.int zl0), .val (.int zl1), .val (.int ze0), .val (.int ze1), .val (.ref b10), .val (.ref b12), .val (.ref b31), .unset, .unset, .unset, .unset, .unset]) rfl ?_
      show Steps p.tables e below (T31.setTop (mkF m 114 #[.val (.int p0), .val (.int p1), .val (.int p2), .val (.int p3), .val (.int p4), .val (.int (if (p4 &&& (1 : Int32)) = (0 : Int32) then (0 : Int32) else (1 : Int32))), .val (.int (if (p4 &&& (2 : Int32)) = (0 : Int32) then (0 : Int32) else (1 : Int32))), .val (.int nL), .val (.int nE), .val (.int zl0), .val (.int zl1), .val (.int ze0), .val (.int ze1), .val (.ref b10), .val (.ref b12), .val (.ref b31), .unset, .unset, .unset, .unset, .unset] [])) _
      refine XS.goto X31.here hx rfl (pc0 := 114) (pc' := 122) rfl (hb hby at_114) (by decide) (by decide) ?_
      show Steps p.tables e below (T31.setTop (mkF m 122 #[.val (.int p0), .val (.int p1), .val (.int p2), .val (.int p3), .val (.int p4), .val (.int (if (p4 &&& (1 : Int32)) = (0 : Int32) then (0 : Int32) else (1 : Int32))), .val (.int (if (p4 &&& (2 : Int32)) = (0 : Int32) then (0 : Int32) else (1 : Int32))), .val (.int nL), .val (.int nE), .val (.int zl0), .val (.int zl1), .val (.int ze0), .val (.int ze1), .val (.ref b10), .val (.ref b12), .val (.ref b31), .unset, .unset, .unset, .unset, .unset] [])) _
      refine XS.iload X31.here hx rfl (hb hby at_122) rfl ?_
      exact k
    by_cases hc124_6 : (if (p4 &&& (2 : Int32)) = (0 : Int32) then (0 : Int32) else (1 : Int32)) = (0 : Int32)
    · obtain ⟨_, _, ⟨T33, L33, k33_, n33⟩, -, X33, ⟨Lc33, hQ33, l33, y33, z33⟩, st33⟩ := Jvm.LawKit.callS X31 hx (y := (⟨"java/util/Optional", "empty", "()Ljava/util/Optional;"⟩ : MethodName)) hown (mvT hZ (hw _ (List.mem_of_getElem? (i := 26) rfl))) (mvT hZ (hw _ (List.mem_of_getElem? (i := 27) rfl))) (mvT hZ (hw _ (List.mem_of_getElem? (i := 28) rfl))) (mvT hZ (hw _ (List.mem_of_getElem? (i := 29) rfl))) (by decide) (backOf (W := 0) (rm5 l Z a0 hw [] w_CS w_E w_F T31.heap n0 hG O0) hZ (hw _ (List.mem_of_getElem? (i := 29) rfl)) (hw _ (List.mem_of_getElem? (i := 28) rfl)) (by decide) (by decide)) (g := (mkF m 137 #[.val (.int p0), .val (.int p1), .val (.int p2), .val (.int p3), .val (.int p4), .val (.int (if (p4 &&& (1 : Int32)) = (0 : Int32) then (0 : Int32) else (1 : Int32))), .val (.int (if (p4 &&& (2 : Int32)) = (0 : Int32) then (0 : Int32) else (1 : Int32))), .val (.int nL), .val (.int nE), .val (.int zl0), .val (.int zl1), .val (.int ze0), .val (.int ze1), .val (.ref b10), .val (.ref b12), .val (.ref b31), .unset, .unset, .unset, .unset, .unset] [])) rfl (by rw [hml]; rfl) (argsL := []) (rest := []) (lenOf pd_20 rfl) rfl (by show 2 * 0 + _ ≤ _; exact Nat.le_of_eq rfl) (hb hby at_137) (fun _ _ => ⟨rfl, rfl, (by decide : 17 + 0 ≤ _), (by decide : 49 + 0 ≤ _)⟩)
      dsimp only [Pt.U, Pt.locs, Pt.cells, Pt.slots] at X33 l33 y33 z33 st33 hQ33
      subst l33 y33 z33
      obtain ⟨rfl, Nq33, e33⟩ := hQ33
      have N33 := Fr.app N31 Nq33
      obtain ⟨T34, h34, X34, e34, E34, A34, D34, -, st34⟩ := newO X33 hx hZ hown (hw _ (List.mem_of_getElem? (i := 31) rfl)) (hw _ (List.mem_of_getElem? (i := 32) rfl)) (hw _ (List.mem_of_getElem? (i := 33) rfl)) e33 (g := (mkF m 142 #[.val (.int p0), .val (.int p1), .val (.int p2), .val (.int p3), .val (.int p4), .val (.int (if (p4 &&& (1 : Int32)) = (0 : Int32) then (0 : Int32) else (1 : Int32))), .val (.int (if (p4 &&& (2 : Int32)) = (0 : Int32) then (0 : Int32) else (1 : Int32))), .val (.int nL), .val (.int nE), .val (.int zl0), .val (.int zl1), .val (.int ze0), .val (.int ze1), .val (.ref b10), .val (.ref b12), .val (.ref b31), .val (.ref w_E), .unset, .unset, .unset, .unset] [])) rfl (hb hby at_142) (by decide) (by decide)
      obtain ⟨b34, g34⟩ : ∃ z, z = T31.heap.size := ⟨_, rfl⟩
      rw [← g34] at A34 D34 st34
      have ne_b10_b34 : b10 ≠ b34 := Nat.ne_of_lt (Nat.lt_of_lt_of_le Eq10.lt (Nat.le_of_eq g34.symm))
      have ne_rv10_b34 : rv10 ≠ b34 := Nat.ne_of_lt (Nat.lt_of_lt_of_le Vq10.lt (Nat.le_of_eq g34.symm))
      have ne_b12_b34 : b12 ≠ b34 := Nat.ne_of_lt (Nat.lt_of_lt_of_le Eq12.lt (Nat.le_of_eq g34.symm))
      have ne_rv12_b34 : rv12 ≠ b34 := Nat.ne_of_lt (Nat.lt_of_lt_of_le Vq12.lt (Nat.le_of_eq g34.symm))
      have ne_b31_b34 : b31 ≠ b34 := Nat.ne_of_lt (Nat.lt_of_lt_of_le Eo31.lt (Nat.le_of_eq g34.symm))
      have gn_b34 : n0 ≤ b34 := Nat.le_trans (O0.1 ▸ O0.2.1) (Nat.le_of_eq g34.symm)
      replace Eq10 := Eq10.ext E34
      replace Fq10 := Fq10.ext E34
      replace Gq10 := Gq10.ext E34
      replace Vq10 := Vq10.ext E34
      replace Eq12 := Eq12.ext E34
      replace Fq12 := Fq12.ext E34
      replace Gq12 := Gq12.ext E34
      replace Vq12 := Vq12.ext E34
      replace Eo31 := Eo31.ext E34
      replace Fo31 := Fo31.ext E34
      replace O0 := O0.ext E34
      replace hk := Nat.le_trans hk E34.1
      replace HC := HC.trans (CHr.ext E34 HC.1)
      have E_b34 := A34
      have F_lastModified_b34 : Fld Z h34 b34 "com/example/indelible_crawl/indeliblecrawl/fetch/Validators" "lastModified" "Ljava/util/Optional;" .null := D34 (Or.inr (hw _ (List.mem_of_getElem? (i := 64) rfl))) (ty := (.object "java/util/Optional")) (by decide)
      have F_etag_b34 : Fld Z h34 b34 "com/example/indelible_crawl/indeliblecrawl/fetch/Validators" "etag" "Ljava/util/Optional;" .null := D34 (Or.inr (hw _ (List.mem_of_getElem? (i := 66) rfl))) (ty := (.object "java/util/Optional")) (by decide)
      obtain ⟨_, _, ⟨T35, L35, k35_, n35⟩, -, X35, ⟨Lc35, hQ35, l35, y35, z35⟩, st35⟩ := X34.specialBack hx (y := (⟨"com/example/indelible_crawl/indeliblecrawl/fetch/Validators", "<init>", "(Ljava/util/Optional;Ljava/util/Optional;)V"⟩ : MethodName)) rfl hown (mvT hZ (hw _ (List.mem_of_getElem? (i := 34) rfl))) (mvT hZ (hw _ (List.mem_of_getElem? (i := 35) rfl))) (mvT hZ (hw _ (List.mem_of_getElem? (i := 36) rfl))) (by decide) (backOf (W := 1) (rmVI_1_0 l Z a0 hw [] b34 b31 w_E b10 rv10 kq10 nL zl0 zl1 ln10 vs10 w_CS w_E w_F h34 n0 hG O0 gn_b34 E_b34 F_lastModified_b34 F_etag_b34 Eo31 Fo31 hl0 hl1 Eq10 Fq10 Gq10 Vq10 hdl0 (E_E.ext O0.2) (F_E.ext O0.2)) hZ (hw _ (List.mem_of_getElem? (i := 36) rfl)) (hw _ (List.mem_of_getElem? (i := 33) rfl)) (by decide) (by decide)) (g := (mkF m 150 #[.val (.int p0), .val (.int p1), .val (.int p2), .val (.int p3), .val (.int p4), .val (.int (if (p4 &&& (1 : Int32)) = (0 : Int32) then (0 : Int32) else (1 : Int32))), .val (.int (if (p4 &&& (2 : Int32)) = (0 : Int32) then (0 : Int32) else (1 : Int32))), .val (.int nL), .val (.int nE), .val (.int zl0), .val (.int zl1), .val (.int ze0), .val (.int ze1), .val (.ref b10), .val (.ref b12), .val (.ref b31), .val (.ref w_E), .unset, .unset, .unset, .unset] [(.ref w_E), (.ref b31), (.ref b34), (.ref b34)])) rfl (by rw [hml]; rfl) (Steps.refl _) (a := b34) (argsL := [(.ref b31), (.ref w_E)]) (rest := [(.ref b34)]) (lenOf pd_24 rfl) rfl (by show 2 * 0 + _ ≤ _; exact Nat.le_of_eq rfl) (hb hby at_150) (fun _ _ => ⟨rfl, e34, (by decide : 18 + 0 ≤ _), (by decide : 51 + 0 ≤ _)⟩)
      dsimp only [Pt.U, Pt.locs, Pt.cells, Pt.slots] at X35 l35 y35 z35 st35 hQ35
      subst l35 y35 z35
      obtain ⟨rfl, Nq35, Kq35, Eq35, Fa35, Fb35⟩ := hQ35
      have N35 := Fr.app N33 Nq35
      have So : Safe Z own_EL T12.vm h34 b34 := (Safe.exa hZ.alike E_b34 (by decide) (by decide))
      replace HC := HC.trans (CHr.keep Kq35 (fun x hx => by cases List.mem_singleton.mp hx; exact So) HC.1)
      replace Eq10 := Eq10.keep Kq35
      replace Fq10 := Fq10.keep Kq35 (fun q => ne_b10_b34 (List.mem_singleton.mp q))
      replace Gq10 := Gq10.keep Kq35 (fun q => ne_b10_b34 (List.mem_singleton.mp q))
      replace Vq10 := Vq10.keep Kq35 (fun q => ne_rv10_b34 (List.mem_singleton.mp q))
      replace Eq12 := Eq12.keep Kq35
      replace Fq12 := Fq12.keep Kq35 (fun q => ne_b12_b34 (List.mem_singleton.mp q))
      replace Gq12 := Gq12.keep Kq35 (fun q => ne_b12_b34 (List.mem_singleton.mp q))
      replace Vq12 := Vq12.keep Kq35 (fun q => ne_rv12_b34 (List.mem_singleton.mp q))
      replace Eo31 := Eo31.keep Kq35
      replace Fo31 := Fo31.keep Kq35 (fun q => ne_b31_b34 (List.mem_singleton.mp q))
      replace E_b34 := E_b34.keep Kq35
      replace O0 := O0.keep Kq35 (fun x hx => by cases List.mem_singleton.mp hx; exact gn_b34)
      replace hk := Nat.le_trans hk Kq35.1
      obtain ⟨_, _, ⟨T36, L36, k36_, n36⟩, -, X36, ⟨Lc36, hQ36, l36, y36, z36⟩, st36⟩ := Jvm.LawKit.callS X35 hx (y := (⟨"com/example/indelible_crawl/indeliblecrawl/fetch/ValidatorsIsEmptyPinLaw", "sendable", "(ICC)Z"⟩ : MethodName)) hown (mvT hZ (hw _ (List.mem_of_getElem? (i := 135) rfl))) (mvT hZ (hw _ (List.mem_of_getElem? (i := 136) rfl))) (mvT hZ (hw _ (List.mem_of_getElem? (i := 2) rfl))) (mvT hZ (hw _ (List.mem_of_getElem? (i := 137) rfl))) (by decide) (backOf (W := 0) (rm26 l Z a0 hw [] nL zl0 zl1 T35.heap n0 ) hZ (hw _ (List.mem_of_getElem? (i := 137) rfl)) (hw _ (List.mem_of_getElem? (i := 2) rfl)) (by decide) (by decide)) (g := (mkF m 166 #[.val (.int p0), .val (.int p1), .val (.int p2), .val (.int p3), .val (.int p4), .val (.int (if (p4 &&& (1 : Int32)) = (0 : Int32) then (0 : Int32) else (1 : Int32))), .val (.int (if (p4 &&& (2 : Int32)) = (0 : Int32) then (0 : Int32) else (1 : Int32))), .val (.int nL), .val (.int nE), .val (.int zl0), .val (.int zl1), .val (.int ze0), .val (.int ze1), .val (.ref b10), .val (.ref b12), .val (.ref b31), .val (.ref w_E), .val (.ref b34), .unset, .unset, .unset] [(.int zl1), (.int zl0), (.int nL)])) rfl (by rw [hml]; rfl) (argsL := [(.int nL), (.int zl0), (.int zl1)]) (rest := []) (lenOf pd_26 rfl) rfl (by show 2 * 0 + _ ≤ _; exact Nat.le_of_eq rfl) (hb hby at_166) (fun _ _ => ⟨rfl, rfl, (by decide : 18 + 0 ≤ _), (by decide : 51 + 0 ≤ _)⟩)
      dsimp only [Pt.U, Pt.locs, Pt.cells, Pt.slots] at X36 l36 y36 z36 st36 hQ36
      subst l36 y36 z36
      obtain ⟨rfl, Nq36, e36⟩ := hQ36
      have N36 := Fr.app N35 Nq36
      have k37 : ∀ t, Steps p.tables e below (T36.setTop (mkF m 169 #[.val (.int p0), .val (.int p1), .val (.int p2), .val (.int p3), .val (.int p4), .val (.int (if (p4 &&& (1 : Int32)) = (0 : Int32) then (0 : Int32) else (1 : Int32))), .val (.int (if (p4 &&& (2 : Int32)) = (0 : Int32) then (0 : Int32) else (1 : Int32))), .val (.int nL), .val (.int nE), .val (.int zl0), .val (.int zl1), .val (.int ze0), .val (.int ze1), .val (.ref b10), .val (.ref b12), .val (.ref b31), .val (.ref w_E), .val (.ref b34), .unset, .unset, .unset] [(.int (own_f26 nL zl0 zl1 ))])) t → Steps p.tables e below (s₁.setTop (entryFrame m #[(.int p0), (.int p1), (.int p2), (.int p3), (.int p4)] maxLocals)) t := by
        intro t k
        refine k32 _ ?_
        show Steps p.tables e below (T31.setTop (mkF m 124 #[.val (.int p0), .val (.int p1), .val (.int p2), .val (.int p3), .val (.int p4), .val (.int (if (p4 &&& (1 : Int32)) = (0 : Int32) then (0 : Int32) else (1 : Int32))), .val (.int (if (p4 &&& (2 : Int32)) = (0 : Int32) then (0 : Int32) else (1 : Int32))), .val (.int nL), .val (.int nE), .val (.int zl0), .val (.int zl1), .val (.int ze0), .val (.int ze1), .val (.ref b10), .val (.ref b12), .val (.ref b31), .unset, .unset, .unset, .unset, .unset] [(.int (if (p4 &&& (2 : Int32)) = (0 : Int32) then (0 : Int32) else (1 : Int32)))])) _
        refine XS.ifYes X31.here hx rfl (pc0 := 124) (pc' := 137) rfl (hb hby at_124) rfl ((if0 _ _).trans (teq hc124_6).1) (by decide) (by decide) ?_
        show Steps p.tables e below (T31.setTop (mkF m 137 #[.val (.int p0), .val (.int p1), .val (.int p2), .val (.int p3), .val (.int p4), .val (.int (if (p4 &&& (1 : Int32)) = (0 : Int32) then (0 : Int32) else (1 : Int32))), .val (.int (if (p4 &&& (2 : Int32)) = (0 : Int32) then (0 : Int32) else (1 : Int32))), .val (.int nL), .val (.int nE), .val (.int zl0), .val (.int zl1), .val (.int ze0), .val (.int ze1), .val (.ref b10), .val (.ref b12), .val (.ref b31), .unset, .unset, .unset, .unset, .unset] [])) _
        refine st33 _ ?_
        show Steps p.tables e below (T33.setTop (mkF m 140 #[.val (.int p0), .val (.int p1), .val (.int p2), .val (.int p3), .val (.int p4), .val (.int (if (p4 &&& (1 : Int32)) = (0 : Int32) then (0 : Int32) else (1 : Int32))), .val (.int (if (p4 &&& (2 : Int32)) = (0 : Int32) then (0 : Int32) else (1 : Int32))), .val (.int nL), .val (.int nE), .val (.int zl0), .val (.int zl1), .val (.int ze0), .val (.int ze1), .val (.ref b10), .val (.ref b12), .val (.ref b31), .unset, .unset, .unset, .unset, .unset] [(.ref w_E)])) _
        refine XS.astore X33.here hx rfl (hb hby at_140) rfl rfl (l' := #[.val (.int p0), .val (.int p1), .val (.int p2), .val (.int p3), .val (.int p4), .val (.int (if (p4 &&& (1 : Int32)) = (0 : Int32) then (0 : Int32) else (1 : Int32))), .val (.int (if (p4 &&& (2 : Int32)) = (0 : Int32) then (0 : Int32) else (1 : Int32))), .val (.int nL), .val (.int nE), .val (.int zl0), .val (.int zl1), .val (.int ze0), .val (.int ze1), .val (.ref b10), .val (.ref b12), .val (.ref b31), .val (.ref w_E), .unset, .unset, .unset, .unset]) rfl ?_
        show Steps p.tables e below (T33.setTop (mkF m 142 #[.val (.int p0), .val (.int p1), .val (.int p2), .val (.int p3), .val (.int p4), .val (.int (if (p4 &&& (1 : Int32)) = (0 : Int32) then (0 : Int32) else (1 : Int32))), .val (.int (if (p4 &&& (2 : Int32)) = (0 : Int32) then (0 : Int32) else (1 : Int32))), .val (.int nL), .val (.int nE), .val (.int zl0), .val (.int zl1), .val (.int ze0), .val (.int ze1), .val (.ref b10), .val (.ref b12), .val (.ref b31), .val (.ref w_E), .unset, .unset, .unset, .unset] [])) _
        refine st34 _ ?_
        show Steps p.tables e below (T34.setTop (mkF m 145 #[.val (.int p0), .val (.int p1), .val (.int p2), .val (.int p3), .val (.int p4), .val (.int (if (p4 &&& (1 : Int32)) = (0 : Int32) then (0 : Int32) else (1 : Int32))), .val (.int (if (p4 &&& (2 : Int32)) = (0 : Int32) then (0 : Int32) else (1 : Int32))), .val (.int nL), .val (.int nE), .val (.int zl0), .val (.int zl1), .val (.int ze0), .val (.int ze1), .val (.ref b10), .val (.ref b12), .val (.ref b31), .val (.ref w_E), .unset, .unset, .unset, .unset] [(.ref b34)])) _
        refine XS.dup X34.here hx rfl (hb hby at_145) rfl rfl ?_
        show Steps p.tables e below (T34.setTop (mkF m 146 #[.val (.int p0), .val (.int p1), .val (.int p2), .val (.int p3), .val (.int p4), .val (.int (if (p4 &&& (1 : Int32)) = (0 : Int32) then (0 : Int32) else (1 : Int32))), .val (.int (if (p4 &&& (2 : Int32)) = (0 : Int32) then (0 : Int32) else (1 : Int32))), .val (.int nL), .val (.int nE), .val (.int zl0), .val (.int zl1), .val (.int ze0), .val (.int ze1), .val (.ref b10), .val (.ref b12), .val (.ref b31), .val (.ref w_E), .unset, .unset, .unset, .unset] [(.ref b34), (.ref b34)])) _
        refine XS.aload X34.here hx rfl (hb hby at_146) rfl rfl ?_
        show Steps p.tables e below (T34.setTop (mkF m 148 #[.val (.int p0), .val (.int p1), .val (.int p2), .val (.int p3), .val (.int p4), .val (.int (if (p4 &&& (1 : Int32)) = (0 : Int32) then (0 : Int32) else (1 : Int32))), .val (.int (if (p4 &&& (2 : Int32)) = (0 : Int32) then (0 : Int32) else (1 : Int32))), .val (.int nL), .val (.int nE), .val (.int zl0), .val (.int zl1), .val (.int ze0), .val (.int ze1), .val (.ref b10), .val (.ref b12), .val (.ref b31), .val (.ref w_E), .unset, .unset, .unset, .unset] [(.ref b31), (.ref b34), (.ref b34)])) _
        refine XS.aload X34.here hx rfl (hb hby at_148) rfl rfl ?_
        show Steps p.tables e below (T34.setTop (mkF m 150 #[.val (.int p0), .val (.int p1), .val (.int p2), .val (.int p3), .val (.int p4), .val (.int (if (p4 &&& (1 : Int32)) = (0 : Int32) then (0 : Int32) else (1 : Int32))), .val (.int (if (p4 &&& (2 : Int32)) = (0 : Int32) then (0 : Int32) else (1 : Int32))), .val (.int nL), .val (.int nE), .val (.int zl0), .val (.int zl1), .val (.int ze0), .val (.int ze1), .val (.ref b10), .val (.ref b12), .val (.ref b31), .val (.ref w_E), .unset, .unset, .unset, .unset] [(.ref w_E), (.ref b31), (.ref b34), (.ref b34)])) _
        refine st35.trans ?_
        show Steps p.tables e below (T35.setTop (mkF m 153 #[.val (.int p0), .val (.int p1), .val (.int p2), .val (.int p3), .val (.int p4), .val (.int (if (p4 &&& (1 : Int32)) = (0 : Int32) then (0 : Int32) else (1 : Int32))), .val (.int (if (p4 &&& (2 : Int32)) = (0 : Int32) then (0 : Int32) else (1 : Int32))), .val (.int nL), .val (.int nE), .val (.int zl0), .val (.int zl1), .val (.int ze0), .val (.int ze1), .val (.ref b10), .val (.ref b12), .val (.ref b31), .val (.ref w_E), .unset, .unset, .unset, .unset] [(.ref b34)])) _
        refine XS.astore X35.here hx rfl (hb hby at_153) rfl rfl (l' := #[.val (.int p0), .val (.int p1), .val (.int p2), .val (.int p3), .val (.int p4), .val (.int (if (p4 &&& (1 : Int32)) = (0 : Int32) then (0 : Int32) else (1 : Int32))), .val (.int (if (p4 &&& (2 : Int32)) = (0 : Int32) then (0 : Int32) else (1 : Int32))), .val (.int nL), .val (.int nE), .val (.int zl0), .val (.int zl1), .val (.int ze0), .val (.int ze1), .val (.ref b10), .val (.ref b12), .val (.ref b31), .val (.ref w_E), .val (.ref b34), .unset, .unset, .unset]) rfl ?_
        show Steps p.tables e below (T35.setTop (mkF m 155 #[.val (.int p0), .val (.int p1), .val (.int p2), .val (.int p3), .val (.int p4), .val (.int (if (p4 &&& (1 : Int32)) = (0 : Int32) then (0 : Int32) else (1 : Int32))), .val (.int (if (p4 &&& (2 : Int32)) = (0 : Int32) then (0 : Int32) else (1 : Int32))), .val (.int nL), .val (.int nE), .val (.int zl0), .val (.int zl1), .val (.int ze0), .val (.int ze1), .val (.ref b10), .val (.ref b12), .val (.ref b31), .val (.ref w_E), .val (.ref b34), .unset, .unset, .unset] [])) _
        refine XS.iload X35.here hx rfl (hb hby at_155) rfl ?_
        show Steps p.tables e below (T35.setTop (mkF m 157 #[.val (.int p0), .val (.int p1), .val (.int p2), .val (.int p3), .val (.int p4), .val (.int (if (p4 &&& (1 : Int32)) = (0 : Int32) then (0 : Int32) else (1 : Int32))), .val (.int (if (p4 &&& (2 : Int32)) = (0 : Int32) then (0 : Int32) else (1 : Int32))), .val (.int nL), .val (.int nE), .val (.int zl0), .val (.int zl1), .val (.int ze0), .val (.int ze1), .val (.ref b10), .val (.ref b12), .val (.ref b31), .val (.ref w_E), .val (.ref b34), .unset, .unset, .unset] [(.int (if (p4 &&& (1 : Int32)) = (0 : Int32) then (0 : Int32) else (1 : Int32)))])) _
        refine XS.ifNo X35.here hx rfl (hb hby at_157) rfl ((if0 _ _).trans (feq hc104_3).1) ?_
        show Steps p.tables e below (T35.setTop (mkF m 160 #[.val (.int p0), .val (.int p1), .val (.int p2), .val (.int p3), .val (.int p4), .val (.int (if (p4 &&& (1 : Int32)) = (0 : Int32) then (0 : Int32) else (1 : Int32))), .val (.int (if (p4 &&& (2 : Int32)) = (0 : Int32) then (0 : Int32) else (1 : Int32))), .val (.int nL), .val (.int nE), .val (.int zl0), .val (.int zl1), .val (.int ze0), .val (.int ze1), .val (.ref b10), .val (.ref b12), .val (.ref b31), .val (.ref w_E), .val (.ref b34), .unset, .unset, .unset] [])) _
        refine XS.iload X35.here hx rfl (hb hby at_160) rfl ?_
        show Steps p.tables e below (T35.setTop (mkF m 162 #[.val (.int p0), .val (.int p1), .val (.int p2), .val (.int p3), .val (.int p4), .val (.int (if (p4 &&& (1 : Int32)) = (0 : Int32) then (0 : Int32) else (1 : Int32))), .val (.int (if (p4 &&& (2 : Int32)) = (0 : Int32) then (0 : Int32) else (1 : Int32))), .val (.int nL), .val (.int nE), .val (.int zl0), .val (.int zl1), .val (.int ze0), .val (.int ze1), .val (.ref b10), .val (.ref b12), .val (.ref b31), .val (.ref w_E), .val (.ref b34), .unset, .unset, .unset] [(.int nL)])) _
        refine XS.iload X35.here hx rfl (hb hby at_162) rfl ?_
        show Steps p.tables e below (T35.setTop (mkF m 164 #[.val (.int p0), .val (.int p1), .val (.int p2), .val (.int p3), .val (.int p4), .val (.int (if (p4 &&& (1 : Int32)) = (0 : Int32) then (0 : Int32) else (1 : Int32))), .val (.int (if (p4 &&& (2 : Int32)) = (0 : Int32) then (0 : Int32) else (1 : Int32))), .val (.int nL), .val (.int nE), .val (.int zl0), .val (.int zl1), .val (.int ze0), .val (.int ze1), .val (.ref b10), .val (.ref b12), .val (.ref b31), .val (.ref w_E), .val (.ref b34), .unset, .unset, .unset] [(.int zl0), (.int nL)])) _
        refine XS.iload X35.here hx rfl (hb hby at_164) rfl ?_
        show Steps p.tables e below (T35.setTop (mkF m 166 #[.val (.int p0), .val (.int p1), .val (.int p2), .val (.int p3), .val (.int p4), .val (.int (if (p4 &&& (1 : Int32)) = (0 : Int32) then (0 : Int32) else (1 : Int32))), .val (.int (if (p4 &&& (2 : Int32)) = (0 : Int32) then (0 : Int32) else (1 : Int32))), .val (.int nL), .val (.int nE), .val (.int zl0), .val (.int zl1), .val (.int ze0), .val (.int ze1), .val (.ref b10), .val (.ref b12), .val (.ref b31), .val (.ref w_E), .val (.ref b34), .unset, .unset, .unset] [(.int zl1), (.int zl0), (.int nL)])) _
        refine st36 _ ?_
        exact k
      by_cases hc169_7 : (own_f26 nL zl0 zl1 ) = (0 : Int32)
      · rw [if_pos hc169_7] at Fa35
        obtain ⟨cq38, kq38, q38a, q38b, q38c⟩ := isOf hZ e36 E_b34
        obtain ⟨_, _, ⟨T38, L38, k38_, n38⟩, -, X38, ⟨Lc38, hQ38, l38, y38, z38⟩, st38⟩ := X36.virtualBack hx (y := (⟨"com/example/indelible_crawl/indeliblecrawl/fetch/Validators", "isEmpty", "()Z"⟩ : MethodName)) (z := (⟨"com/example/indelible_crawl/indeliblecrawl/fetch/Validators", "isEmpty", "()Z"⟩ : MethodName)) hown (mvT hZ (hw _ (List.mem_of_getElem? (i := 67) rfl))) (mvT hZ (hw _ (List.mem_of_getElem? (i := 68) rfl))) (notFace_of_selects (args := #[]) (mvT hZ (hw _ (List.mem_of_getElem? (i := 70) rfl)))) (mvT hZ (hw _ (List.mem_of_getElem? (i := 70) rfl))) (mvT hZ (hw _ (List.mem_of_getElem? (i := 69) rfl))) (by decide) (backOf (W := 0) (rmVE_0_0 l Z a0 hw [] b34 w_E w_E  T35.heap n0 Fa35 Fb35 (E_E.ext O0.2) (F_E.ext O0.2) (E_E.ext O0.2) (F_E.ext O0.2)) hZ (hw _ (List.mem_of_getElem? (i := 71) rfl)) (hw _ (List.mem_of_getElem? (i := 33) rfl)) (by decide) (by decide)) q38a q38c (g := (mkF m 222 #[.val (.int p0), .val (.int p1), .val (.int p2), .val (.int p3), .val (.int p4), .val (.int (if (p4 &&& (1 : Int32)) = (0 : Int32) then (0 : Int32) else (1 : Int32))), .val (.int (if (p4 &&& (2 : Int32)) = (0 : Int32) then (0 : Int32) else (1 : Int32))), .val (.int nL), .val (.int nE), .val (.int zl0), .val (.int zl1), .val (.int ze0), .val (.int ze1), .val (.ref b10), .val (.ref b12), .val (.ref b31), .val (.ref w_E), .val (.ref b34), .val (.int (0 : Int32)), .val (.int (0 : Int32)), .val (.int (1 : Int32))] [(.ref b34)])) rfl (by rw [hml]; rfl) (Steps.refl _) (argsL := []) (rest := []) (lenOf pd_13 rfl) rfl (by show 2 * 0 + _ ≤ _; exact Nat.le_of_eq rfl) (hb hby at_222) (fun _ _ => ⟨rfl, e36, (by decide : 18 + 0 ≤ _), (by decide : 51 + 0 ≤ _)⟩)
        dsimp only [Pt.U, Pt.locs, Pt.cells, Pt.slots] at X38 l38 y38 z38 st38 hQ38
        subst l38 y38 z38
        obtain ⟨rfl, Nq38, e38⟩ := hQ38
        have N38 := Fr.app N36 Nq38
        have k39 : ∀ t, Steps p.tables e below (T38.setTop (mkF m 235 #[.val (.int p0), .val (.int p1), .val (.int p2), .val (.int p3), .val (.int p4), .val (.int (if (p4 &&& (1 : Int32)) = (0 : Int32) then (0 : Int32) else (1 : Int32))), .val (.int (if (p4 &&& (2 : Int32)) = (0 : Int32) then (0 : Int32) else (1 : Int32))), .val (.int nL), .val (.int nE), .val (.int zl0), .val (.int zl1), .val (.int ze0), .val (.int ze1), .val (.ref b10), .val (.ref b12), .val (.ref b31), .val (.ref w_E), .val (.ref b34), .val (.int (0 : Int32)), .val (.int (0 : Int32)), .val (.int (1 : Int32))] [(.int (1 : Int32))])) t → Steps p.tables e below (s₁.setTop (entryFrame m #[(.int p0), (.int p1), (.int p2), (.int p3), (.int p4)] maxLocals)) t := by
          intro t k
          refine k37 _ ?_
          show Steps p.tables e below (T36.setTop (mkF m 169 #[.val (.int p0), .val (.int p1), .val (.int p2), .val (.int p3), .val (.int p4), .val (.int (if (p4 &&& (1 : Int32)) = (0 : Int32) then (0 : Int32) else (1 : Int32))), .val (.int (if (p4 &&& (2 : Int32)) = (0 : Int32) then (0 : Int32) else (1 : Int32))), .val (.int nL), .val (.int nE), .val (.int zl0), .val (.int zl1), .val (.int ze0), .val (.int ze1), .val (.ref b10), .val (.ref b12), .val (.ref b31), .val (.ref w_E), .val (.ref b34), .unset, .unset, .unset] [(.int (own_f26 nL zl0 zl1 ))])) _
          refine XS.ifYes X36.here hx rfl (pc0 := 169) (pc' := 176) rfl (hb hby at_169) rfl ((if0 _ _).trans (teq hc169_7).1) (by decide) (by decide) ?_
          show Steps p.tables e below (T36.setTop (mkF m 176 #[.val (.int p0), .val (.int p1), .val (.int p2), .val (.int p3), .val (.int p4), .val (.int (if (p4 &&& (1 : Int32)) = (0 : Int32) then (0 : Int32) else (1 : Int32))), .val (.int (if (p4 &&& (2 : Int32)) = (0 : Int32) then (0 : Int32) else (1 : Int32))), .val (.int nL), .val (.int nE), .val (.int zl0), .val (.int zl1), .val (.int ze0), .val (.int ze1), .val (.ref b10), .val (.ref b12), .val (.ref b31), .val (.ref w_E), .val (.ref b34), .unset, .unset, .unset] [])) _
          refine XS.iconst X36.here hx rfl (hb hby at_176) ?_
          show Steps p.tables e below (T36.setTop (mkF m 177 #[.val (.int p0), .val (.int p1), .val (.int p2), .val (.int p3), .val (.int p4), .val (.int (if (p4 &&& (1 : Int32)) = (0 : Int32) then (0 : Int32) else (1 : Int32))), .val (.int (if (p4 &&& (2 : Int32)) = (0 : Int32) then (0 : Int32) else (1 : Int32))), .val (.int nL), .val (.int nE), .val (.int zl0), .val (.int zl1), .val (.int ze0), .val (.int ze1), .val (.ref b10), .val (.ref b12), .val (.ref b31), .val (.ref w_E), .val (.ref b34), .unset, .unset, .unset] [(.int (0 : Int32))])) _
          refine XS.istore X36.here hx rfl (hb hby at_177) rfl (l' := #[.val (.int p0), .val (.int p1), .val (.int p2), .val (.int p3), .val (.int p4), .val (.int (if (p4 &&& (1 : Int32)) = (0 : Int32) then (0 : Int32) else (1 : Int32))), .val (.int (if (p4 &&& (2 : Int32)) = (0 : Int32) then (0 : Int32) else (1 : Int32))), .val (.int nL), .val (.int nE), .val (.int zl0), .val (.int zl1), .val (.int ze0), .val (.int ze1), .val (.ref b10), .val (.ref b12), .val (.ref b31), .val (.ref w_E), .val (.ref b34), .val (.int (0 : Int32)), .unset, .unset]) rfl ?_
          show Steps p.tables e below (T36.setTop (mkF m 179 #[.val (.int p0), .val (.int p1), .val (.int p2), .val (.int p3), .val (.int p4), .val (.int (if (p4 &&& (1 : Int32)) = (0 : Int32) then (0 : Int32) else (1 : Int32))), .val (.int (if (p4 &&& (2 : Int32)) = (0 : Int32) then (0 : Int32) else (1 : Int32))), .val (.int nL), .val (.int nE), .val (.int zl0), .val (.int zl1), .val (.int ze0), .val (.int ze1), .val (.ref b10), .val (.ref b12), .val (.ref b31), .val (.ref w_E), .val (.ref b34), .val (.int (0 : Int32)), .unset, .unset] [])) _
          refine XS.iload X36.here hx rfl (hb hby at_179) rfl ?_
          show Steps p.tables e below (T36.setTop (mkF m 181 #[.val (.int p0), .val (.int p1), .val (.int p2), .val (.int p3), .val (.int p4), .val (.int (if (p4 &&& (1 : Int32)) = (0 : Int32) then (0 : Int32) else (1 : Int32))), .val (.int (if (p4 &&& (2 : Int32)) = (0 : Int32) then (0 : Int32) else (1 : Int32))), .val (.int nL), .val (.int nE), .val (.int zl0), .val (.int zl1), .val (.int ze0), .val (.int ze1), .val (.ref b10), .val (.ref b12), .val (.ref b31), .val (.ref w_E), .val (.ref b34), .val (.int (0 : Int32)), .unset, .unset] [(.int (if (p4 &&& (2 : Int32)) = (0 : Int32) then (0 : Int32) else (1 : Int32)))])) _
          refine XS.ifYes X36.here hx rfl (pc0 := 181) (pc' := 200) rfl (hb hby at_181) rfl ((if0 _ _).trans (teq hc124_6).1) (by decide) (by decide) ?_
          show Steps p.tables e below (T36.setTop (mkF m 200 #[.val (.int p0), .val (.int p1), .val (.int p2), .val (.int p3), .val (.int p4), .val (.int (if (p4 &&& (1 : Int32)) = (0 : Int32) then (0 : Int32) else (1 : Int32))), .val (.int (if (p4 &&& (2 : Int32)) = (0 : Int32) then (0 : Int32) else (1 : Int32))), .val (.int nL), .val (.int nE), .val (.int zl0), .val (.int zl1), .val (.int ze0), .val (.int ze1), .val (.ref b10), .val (.ref b12), .val (.ref b31), .val (.ref w_E), .val (.ref b34), .val (.int (0 : Int32)), .unset, .unset] [])) _
          refine XS.iconst X36.here hx rfl (hb hby at_200) ?_
          show Steps p.tables e below (T36.setTop (mkF m 201 #[.val (.int p0), .val (.int p1), .val (.int p2), .val (.int p3), .val (.int p4), .val (.int (if (p4 &&& (1 : Int32)) = (0 : Int32) then (0 : Int32) else (1 : Int32))), .val (.int (if (p4 &&& (2 : Int32)) = (0 : Int32) then (0 : Int32) else (1 : Int32))), .val (.int nL), .val (.int nE), .val (.int zl0), .val (.int zl1), .val (.int ze0), .val (.int ze1), .val (.ref b10), .val (.ref b12), .val (.ref b31), .val (.ref w_E), .val (.ref b34), .val (.int (0 : Int32)), .unset, .unset] [(.int (0 : Int32))])) _
          refine XS.istore X36.here hx rfl (hb hby at_201) rfl (l' := #[.val (.int p0), .val (.int p1), .val (.int p2), .val (.int p3), .val (.int p4), .val (.int (if (p4 &&& (1 : Int32)) = (0 : Int32) then (0 : Int32) else (1 : Int32))), .val (.int (if (p4 &&& (2 : Int32)) = (0 : Int32) then (0 : Int32) else (1 : Int32))), .val (.int nL), .val (.int nE), .val (.int zl0), .val (.int zl1), .val (.int ze0), .val (.int ze1), .val (.ref b10), .val (.ref b12), .val (.ref b31), .val (.ref w_E), .val (.ref b34), .val (.int (0 : Int32)), .val (.int (0 : Int32)), .unset]) rfl ?_
          show Steps p.tables e below (T36.setTop (mkF m 203 #[.val (.int p0), .val (.int p1), .val (.int p2), .val (.int p3), .val (.int p4), .val (.int (if (p4 &&& (1 : Int32)) = (0 : Int32) then (0 : Int32) else (1 : Int32))), .val (.int (if (p4 &&& (2 : Int32)) = (0 : Int32) then (0 : Int32) else (1 : Int32))), .val (.int nL), .val (.int nE), .val (.int zl0), .val (.int zl1), .val (.int ze0), .val (.int ze1), .val (.ref b10), .val (.ref b12), .val (.ref b31), .val (.ref w_E), .val (.ref b34), .val (.int (0 : Int32)), .val (.int (0 : Int32)), .unset] [])) _
          refine XS.iload X36.here hx rfl (hb hby at_203) rfl ?_
          show Steps p.tables e below (T36.setTop (mkF m 205 #[.val (.int p0), .val (.int p1), .val (.int p2), .val (.int p3), .val (.int p4), .val (.int (if (p4 &&& (1 : Int32)) = (0 : Int32) then (0 : Int32) else (1 : Int32))), .val (.int (if (p4 &&& (2 : Int32)) = (0 : Int32) then (0 : Int32) else (1 : Int32))), .val (.int nL), .val (.int nE), .val (.int zl0), .val (.int zl1), .val (.int ze0), .val (.int ze1), .val (.ref b10), .val (.ref b12), .val (.ref b31), .val (.ref w_E), .val (.ref b34), .val (.int (0 : Int32)), .val (.int (0 : Int32)), .unset] [(.int (0 : Int32))])) _
          refine XS.ifNo X36.here hx rfl (hb hby at_205) rfl ((if0 _ _).trans (teq (by decide)).2) ?_
          show Steps p.tables e below (T36.setTop (mkF m 208 #[.val (.int p0), .val (.int p1), .val (.int p2), .val (.int p3), .val (.int p4), .val (.int (if (p4 &&& (1 : Int32)) = (0 : Int32) then (0 : Int32) else (1 : Int32))), .val (.int (if (p4 &&& (2 : Int32)) = (0 : Int32) then (0 : Int32) else (1 : Int32))), .val (.int nL), .val (.int nE), .val (.int zl0), .val (.int zl1), .val (.int ze0), .val (.int ze1), .val (.ref b10), .val (.ref b12), .val (.ref b31), .val (.ref w_E), .val (.ref b34), .val (.int (0 : Int32)), .val (.int (0 : Int32)), .unset] [])) _
          refine XS.iload X36.here hx rfl (hb hby at_208) rfl ?_
          show Steps p.tables e below (T36.setTop (mkF m 210 #[.val (.int p0), .val (.int p1), .val (.int p2), .val (.int p3), .val (.int p4), .val (.int (if (p4 &&& (1 : Int32)) = (0 : Int32) then (0 : Int32) else (1 : Int32))), .val (.int (if (p4 &&& (2 : Int32)) = (0 : Int32) then (0 : Int32) else (1 : Int32))), .val (.int nL), .val (.int nE), .val (.int zl0), .val (.int zl1), .val (.int ze0), .val (.int ze1), .val (.ref b10), .val (.ref b12), .val (.ref b31), .val (.ref w_E), .val (.ref b34), .val (.int (0 : Int32)), .val (.int (0 : Int32)), .unset] [(.int (0 : Int32))])) _
          refine XS.ifNo X36.here hx rfl (hb hby at_210) rfl ((if0 _ _).trans (teq (by decide)).2) ?_
          show Steps p.tables e below (T36.setTop (mkF m 213 #[.val (.int p0), .val (.int p1), .val (.int p2), .val (.int p3), .val (.int p4), .val (.int (if (p4 &&& (1 : Int32)) = (0 : Int32) then (0 : Int32) else (1 : Int32))), .val (.int (if (p4 &&& (2 : Int32)) = (0 : Int32) then (0 : Int32) else (1 : Int32))), .val (.int nL), .val (.int nE), .val (.int zl0), .val (.int zl1), .val (.int ze0), .val (.int ze1), .val (.ref b10), .val (.ref b12), .val (.ref b31), .val (.ref w_E), .val (.ref b34), .val (.int (0 : Int32)), .val (.int (0 : Int32)), .unset] [])) _
          refine XS.iconst X36.here hx rfl (hb hby at_213) ?_
          show Steps p.tables e below (T36.setTop (mkF m 214 #[.val (.int p0), .val (.int p1), .val (.int p2), .val (.int p3), .val (.int p4), .val (.int (if (p4 &&& (1 : Int32)) = (0 : Int32) then (0 : Int32) else (1 : Int32))), .val (.int (if (p4 &&& (2 : Int32)) = (0 : Int32) then (0 : Int32) else (1 : Int32))), .val (.int nL), .val (.int nE), .val (.int zl0), .val (.int zl1), .val (.int ze0), .val (.int ze1), .val (.ref b10), .val (.ref b12), .val (.ref b31), .val (.ref w_E), .val (.ref b34), .val (.int (0 : Int32)), .val (.int (0 : Int32)), .unset] [(.int (1 : Int32))])) _
          refine XS.goto X36.here hx rfl (pc0 := 214) (pc' := 218) rfl (hb hby at_214) (by decide) (by decide) ?_
          show Steps p.tables e below (T36.setTop (mkF m 218 #[.val (.int p0), .val (.int p1), .val (.int p2), .val (.int p3), .val (.int p4), .val (.int (if (p4 &&& (1 : Int32)) = (0 : Int32) then (0 : Int32) else (1 : Int32))), .val (.int (if (p4 &&& (2 : Int32)) = (0 : Int32) then (0 : Int32) else (1 : Int32))), .val (.int nL), .val (.int nE), .val (.int zl0), .val (.int zl1), .val (.int ze0), .val (.int ze1), .val (.ref b10), .val (.ref b12), .val (.ref b31), .val (.ref w_E), .val (.ref b34), .val (.int (0 : Int32)), .val (.int (0 : Int32)), .unset] [(.int (1 : Int32))])) _
          refine XS.istore X36.here hx rfl (hb hby at_218) rfl (l' := #[.val (.int p0), .val (.int p1), .val (.int p2), .val (.int p3), .val (.int p4), .val (.int (if (p4 &&& (1 : Int32)) = (0 : Int32) then (0 : Int32) else (1 : Int32))), .val (.int (if (p4 &&& (2 : Int32)) = (0 : Int32) then (0 : Int32) else (1 : Int32))), .val (.int nL), .val (.int nE), .val (.int zl0), .val (.int zl1), .val (.int ze0), .val (.int ze1), .val (.ref b10), .val (.ref b12), .val (.ref b31), .val (.ref w_E), .val (.ref b34), .val (.int (0 : Int32)), .val (.int (0 : Int32)), .val (.int (1 : Int32))]) rfl ?_
          show Steps p.tables e below (T36.setTop (mkF m 220 #[.val (.int p0), .val (.int p1), .val (.int p2), .val (.int p3), .val (.int p4), .val (.int (if (p4 &&& (1 : Int32)) = (0 : Int32) then (0 : Int32) else (1 : Int32))), .val (.int (if (p4 &&& (2 : Int32)) = (0 : Int32) then (0 : Int32) else (1 : Int32))), .val (.int nL), .val (.int nE), .val (.int zl0), .val (.int zl1), .val (.int ze0), .val (.int ze1), .val (.ref b10), .val (.ref b12), .val (.ref b31), .val (.ref w_E), .val (.ref b34), .val (.int (0 : Int32)), .val (.int (0 : Int32)), .val (.int (1 : Int32))] [])) _
          refine XS.aload X36.here hx rfl (hb hby at_220) rfl rfl ?_
          show Steps p.tables e below (T36.setTop (mkF m 222 #[.val (.int p0), .val (.int p1), .val (.int p2), .val (.int p3), .val (.int p4), .val (.int (if (p4 &&& (1 : Int32)) = (0 : Int32) then (0 : Int32) else (1 : Int32))), .val (.int (if (p4 &&& (2 : Int32)) = (0 : Int32) then (0 : Int32) else (1 : Int32))), .val (.int nL), .val (.int nE), .val (.int zl0), .val (.int zl1), .val (.int ze0), .val (.int ze1), .val (.ref b10), .val (.ref b12), .val (.ref b31), .val (.ref w_E), .val (.ref b34), .val (.int (0 : Int32)), .val (.int (0 : Int32)), .val (.int (1 : Int32))] [(.ref b34)])) _
          refine st38.trans ?_
          show Steps p.tables e below (T38.setTop (mkF m 225 #[.val (.int p0), .val (.int p1), .val (.int p2), .val (.int p3), .val (.int p4), .val (.int (if (p4 &&& (1 : Int32)) = (0 : Int32) then (0 : Int32) else (1 : Int32))), .val (.int (if (p4 &&& (2 : Int32)) = (0 : Int32) then (0 : Int32) else (1 : Int32))), .val (.int nL), .val (.int nE), .val (.int zl0), .val (.int zl1), .val (.int ze0), .val (.int ze1), .val (.ref b10), .val (.ref b12), .val (.ref b31), .val (.ref w_E), .val (.ref b34), .val (.int (0 : Int32)), .val (.int (0 : Int32)), .val (.int (1 : Int32))] [(.int (1 : Int32))])) _
          refine XS.iload X38.here hx rfl (hb hby at_225) rfl ?_
          show Steps p.tables e below (T38.setTop (mkF m 227 #[.val (.int p0), .val (.int p1), .val (.int p2), .val (.int p3), .val (.int p4), .val (.int (if (p4 &&& (1 : Int32)) = (0 : Int32) then (0 : Int32) else (1 : Int32))), .val (.int (if (p4 &&& (2 : Int32)) = (0 : Int32) then (0 : Int32) else (1 : Int32))), .val (.int nL), .val (.int nE), .val (.int zl0), .val (.int zl1), .val (.int ze0), .val (.int ze1), .val (.ref b10), .val (.ref b12), .val (.ref b31), .val (.ref w_E), .val (.ref b34), .val (.int (0 : Int32)), .val (.int (0 : Int32)), .val (.int (1 : Int32))] [(.int (1 : Int32)), (.int (1 : Int32))])) _
          refine XS.icmpNo X38.here hx rfl (hb hby at_227) rfl (teq (by decide)).2 ?_
          show Steps p.tables e below (T38.setTop (mkF m 230 #[.val (.int p0), .val (.int p1), .val (.int p2), .val (.int p3), .val (.int p4), .val (.int (if (p4 &&& (1 : Int32)) = (0 : Int32) then (0 : Int32) else (1 : Int32))), .val (.int (if (p4 &&& (2 : Int32)) = (0 : Int32) then (0 : Int32) else (1 : Int32))), .val (.int nL), .val (.int nE), .val (.int zl0), .val (.int zl1), .val (.int ze0), .val (.int ze1), .val (.ref b10), .val (.ref b12), .val (.ref b31), .val (.ref w_E), .val (.ref b34), .val (.int (0 : Int32)), .val (.int (0 : Int32)), .val (.int (1 : Int32))] [])) _
          refine XS.iconst X38.here hx rfl (hb hby at_230) ?_
          show Steps p.tables e below (T38.setTop (mkF m 231 #[.val (.int p0), .val (.int p1), .val (.int p2), .val (.int p3), .val (.int p4), .val (.int (if (p4 &&& (1 : Int32)) = (0 : Int32) then (0 : Int32) else (1 : Int32))), .val (.int (if (p4 &&& (2 : Int32)) = (0 : Int32) then (0 : Int32) else (1 : Int32))), .val (.int nL), .val (.int nE), .val (.int zl0), .val (.int zl1), .val (.int ze0), .val (.int ze1), .val (.ref b10), .val (.ref b12), .val (.ref b31), .val (.ref w_E), .val (.ref b34), .val (.int (0 : Int32)), .val (.int (0 : Int32)), .val (.int (1 : Int32))] [(.int (1 : Int32))])) _
          refine XS.goto X38.here hx rfl (pc0 := 231) (pc' := 235) rfl (hb hby at_231) (by decide) (by decide) ?_
          exact k
        obtain ⟨fs, hr, hrun, hended, hEW⟩ := X38.leaveW hS (by rw [e38]; exact hk) (v := some (.int (1 : Int32))) (fun h => by rw [Bd.returns] at h; cases h)
        refine ⟨_, _, k39 _ ?_, hrun, hended, _, _, rfl, ?_, hEW.1, hEW.2.1, hEW.2.2.1, hEW.2.2.2.mono (by decide) (by decide)⟩
        · exact retN X38 hx (t := .boolean) Bd.returns (by simp) (hb hby at_235) hr
        · show own_R (some (.int 1)) n0 _ T38.heap _
          rw [e38]
          exact ⟨rfl, N38⟩
      · rw [if_neg hc169_7] at Fa35
        obtain ⟨cq40, kq40, q40a, q40b, q40c⟩ := isOf hZ e36 E_b34
        obtain ⟨_, _, ⟨T40, L40, k40_, n40⟩, -, X40, ⟨Lc40, hQ40, l40, y40, z40⟩, st40⟩ := X36.virtualBack hx (y := (⟨"com/example/indelible_crawl/indeliblecrawl/fetch/Validators", "isEmpty", "()Z"⟩ : MethodName)) (z := (⟨"com/example/indelible_crawl/indeliblecrawl/fetch/Validators", "isEmpty", "()Z"⟩ : MethodName)) hown (mvT hZ (hw _ (List.mem_of_getElem? (i := 67) rfl))) (mvT hZ (hw _ (List.mem_of_getElem? (i := 68) rfl))) (notFace_of_selects (args := #[]) (mvT hZ (hw _ (List.mem_of_getElem? (i := 70) rfl)))) (mvT hZ (hw _ (List.mem_of_getElem? (i := 70) rfl))) (mvT hZ (hw _ (List.mem_of_getElem? (i := 69) rfl))) (by decide) (backOf (W := 0) (rmVE_1_0 l Z a0 hw [] b34 b31 w_E b10 T35.heap n0 Fa35 Fb35 Eo31 Fo31 (E_E.ext O0.2) (F_E.ext O0.2)) hZ (hw _ (List.mem_of_getElem? (i := 71) rfl)) (hw _ (List.mem_of_getElem? (i := 33) rfl)) (by decide) (by decide)) q40a q40c (g := (mkF m 222 #[.val (.int p0), .val (.int p1), .val (.int p2), .val (.int p3), .val (.int p4), .val (.int (if (p4 &&& (1 : Int32)) = (0 : Int32) then (0 : Int32) else (1 : Int32))), .val (.int (if (p4 &&& (2 : Int32)) = (0 : Int32) then (0 : Int32) else (1 : Int32))), .val (.int nL), .val (.int nE), .val (.int zl0), .val (.int zl1), .val (.int ze0), .val (.int ze1), .val (.ref b10), .val (.ref b12), .val (.ref b31), .val (.ref w_E), .val (.ref b34), .val (.int (1 : Int32)), .val (.int (0 : Int32)), .val (.int (0 : Int32))] [(.ref b34)])) rfl (by rw [hml]; rfl) (Steps.refl _) (argsL := []) (rest := []) (lenOf pd_13 rfl) rfl (by show 2 * 0 + _ ≤ _; exact Nat.le_of_eq rfl) (hb hby at_222) (fun _ _ => ⟨rfl, e36, (by decide : 18 + 0 ≤ _), (by decide : 51 + 0 ≤ _)⟩)
        dsimp only [Pt.U, Pt.locs, Pt.cells, Pt.slots] at X40 l40 y40 z40 st40 hQ40
        subst l40 y40 z40
        obtain ⟨rfl, Nq40, e40⟩ := hQ40
        have N40 := Fr.app N36 Nq40
        have k41 : ∀ t, Steps p.tables e below (T40.setTop (mkF m 235 #[.val (.int p0), .val (.int p1), .val (.int p2), .val (.int p3), .val (.int p4), .val (.int (if (p4 &&& (1 : Int32)) = (0 : Int32) then (0 : Int32) else (1 : Int32))), .val (.int (if (p4 &&& (2 : Int32)) = (0 : Int32) then (0 : Int32) else (1 : Int32))), .val (.int nL), .val (.int nE), .val (.int zl0), .val (.int zl1), .val (.int ze0), .val (.int ze1), .val (.ref b10), .val (.ref b12), .val (.ref b31), .val (.ref w_E), .val (.ref b34), .val (.int (1 : Int32)), .val (.int (0 : Int32)), .val (.int (0 : Int32))] [(.int (1 : Int32))])) t → Steps p.tables e below (s₁.setTop (entryFrame m #[(.int p0), (.int p1), (.int p2), (.int p3), (.int p4)] maxLocals)) t := by
          intro t k
          refine k37 _ ?_
          show Steps p.tables e below (T36.setTop (mkF m 169 #[.val (.int p0), .val (.int p1), .val (.int p2), .val (.int p3), .val (.int p4), .val (.int (if (p4 &&& (1 : Int32)) = (0 : Int32) then (0 : Int32) else (1 : Int32))), .val (.int (if (p4 &&& (2 : Int32)) = (0 : Int32) then (0 : Int32) else (1 : Int32))), .val (.int nL), .val (.int nE), .val (.int zl0), .val (.int zl1), .val (.int ze0), .val (.int ze1), .val (.ref b10), .val (.ref b12), .val (.ref b31), .val (.ref w_E), .val (.ref b34), .unset, .unset, .unset] [(.int (own_f26 nL zl0 zl1 ))])) _
          refine XS.ifNo X36.here hx rfl (hb hby at_169) rfl ((if0 _ _).trans (feq hc169_7).1) ?_
          show Steps p.tables e below (T36.setTop (mkF m 172 #[.val (.int p0), .val (.int p1), .val (.int p2), .val (.int p3), .val (.int p4), .val (.int (if (p4 &&& (1 : Int32)) = (0 : Int32) then (0 : Int32) else (1 : Int32))), .val (.int (if (p4 &&& (2 : Int32)) = (0 : Int32) then (0 : Int32) else (1 : Int32))), .val (.int nL), .val (.int nE), .val (.int zl0), .val (.int zl1), .val (.int ze0), .val (.int ze1), .val (.ref b10), .val (.ref b12), .val (.ref b31), .val (.ref w_E), .val (.ref b34), .unset, .unset, .unset] [])) _
          refine XS.iconst X36.here hx rfl (hb hby at_172) ?_
          show Steps p.tables e below (T36.setTop (mkF m 173 #[.val (.int p0), .val (.int p1), .val (.int p2), .val (.int p3), .val (.int p4), .val (.int (if (p4 &&& (1 : Int32)) = (0 : Int32) then (0 : Int32) else (1 : Int32))), .val (.int (if (p4 &&& (2 : Int32)) = (0 : Int32) then (0 : Int32) else (1 : Int32))), .val (.int nL), .val (.int nE), .val (.int zl0), .val (.int zl1), .val (.int ze0), .val (.int ze1), .val (.ref b10), .val (.ref b12), .val (.ref b31), .val (.ref w_E), .val (.ref b34), .unset, .unset, .unset] [(.int (1 : Int32))])) _
          refine XS.goto X36.here hx rfl (pc0 := 173) (pc' := 177) rfl (hb hby at_173) (by decide) (by decide) ?_
          show Steps p.tables e below (T36.setTop (mkF m 177 #[.val (.int p0), .val (.int p1), .val (.int p2), .val (.int p3), .val (.int p4), .val (.int (if (p4 &&& (1 : Int32)) = (0 : Int32) then (0 : Int32) else (1 : Int32))), .val (.int (if (p4 &&& (2 : Int32)) = (0 : Int32) then (0 : Int32) else (1 : Int32))), .val (.int nL), .val (.int nE), .val (.int zl0), .val (.int zl1), .val (.int ze0), .val (.int ze1), .val (.ref b10), .val (.ref b12), .val (.ref b31), .val (.ref w_E), .val (.ref b34), .unset, .unset, .unset] [(.int (1 : Int32))])) _
          refine XS.istore X36.here hx rfl (hb hby at_177) rfl (l' := #[.val (.int p0), .val (.int p1), .val (.int p2), .val (.int p3), .val (.int p4), .val (.int (if (p4 &&& (1 : Int32)) = (0 : Int32) then (0 : Int32) else (1 : Int32))), .val (.int (if (p4 &&& (2 : Int32)) = (0 : Int32) then (0 : Int32) else (1 : Int32))), .val (.int nL), .val (.int nE), .val (.int zl0), .val (.int zl1), .val (.int ze0), .val (.int ze1), .val (.ref b10), .val (.ref b12), .val (.ref b31), .val (.ref w_E), .val (.ref b34), .val (.int (1 : Int32)), .unset, .unset]) rfl ?_
          show Steps p.tables e below (T36.setTop (mkF m 179 #[.val (.int p0), .val (.int p1), .val (.int p2), .val (.int p3), .val (.int p4), .val (.int (if (p4 &&& (1 : Int32)) = (0 : Int32) then (0 : Int32) else (1 : Int32))), .val (.int (if (p4 &&& (2 : Int32)) = (0 : Int32) then (0 : Int32) else (1 : Int32))), .val (.int nL), .val (.int nE), .val (.int zl0), .val (.int zl1), .val (.int ze0), .val (.int ze1), .val (.ref b10), .val (.ref b12), .val (.ref b31), .val (.ref w_E), .val (.ref b34), .val (.int (1 : Int32)), .unset, .unset] [])) _
          refine XS.iload X36.here hx rfl (hb hby at_179) rfl ?_
          show Steps p.tables e below (T36.setTop (mkF m 181 #[.val (.int p0), .val (.int p1), .val (.int p2), .val (.int p3), .val (.int p4), .val (.int (if (p4 &&& (1 : Int32)) = (0 : Int32) then (0 : Int32) else (1 : Int32))), .val (.int (if (p4 &&& (2 : Int32)) = (0 : Int32) then (0 : Int32) else (1 : Int32))), .val (.int nL), .val (.int nE), .val (.int zl0), .val (.int zl1), .val (.int ze0), .val (.int ze1), .val (.ref b10), .val (.ref b12), .val (.ref b31), .val (.ref w_E), .val (.ref b34), .val (.int (1 : Int32)), .unset, .unset] [(.int (if (p4 &&& (2 : Int32)) = (0 : Int32) then (0 : Int32) else (1 : Int32)))])) _
          refine XS.ifYes X36.here hx rfl (pc0 := 181) (pc' := 200) rfl (hb hby at_181) rfl ((if0 _ _).trans (teq hc124_6).1) (by decide) (by decide) ?_
          show Steps p.tables e below (T36.setTop (mkF m 200 #[.val (.int p0), .val (.int p1), .val (.int p2), .val (.int p3), .val (.int p4), .val (.int (if (p4 &&& (1 : Int32)) = (0 : Int32) then (0 : Int32) else (1 : Int32))), .val (.int (if (p4 &&& (2 : Int32)) = (0 : Int32) then (0 : Int32) else (1 : Int32))), .val (.int nL), .val (.int nE), .val (.int zl0), .val (.int zl1), .val (.int ze0), .val (.int ze1), .val (.ref b10), .val (.ref b12), .val (.ref b31), .val (.ref w_E), .val (.ref b34), .val (.int (1 : Int32)), .unset, .unset] [])) _
          refine XS.iconst X36.here hx rfl (hb hby at_200) ?_
          show Steps p.tables e below (T36.setTop (mkF m 201 #[.val (.int p0), .val (.int p1), .val (.int p2), .val (.int p3), .val (.int p4), .val (.int (if (p4 &&& (1 : Int32)) = (0 : Int32) then (0 : Int32) else (1 : Int32))), .val (.int (if (p4 &&& (2 : Int32)) = (0 : Int32) then (0 : Int32) else (1 : Int32))), .val (.int nL), .val (.int nE), .val (.int zl0), .val (.int zl1), .val (.int ze0), .val (.int ze1), .val (.ref b10), .val (.ref b12), .val (.ref b31), .val (.ref w_E), .val (.ref b34), .val (.int (1 : Int32)), .unset, .unset] [(.int (0 : Int32))])) _
          refine XS.istore X36.here hx rfl (hb hby at_201) rfl (l' := #[.val (.int p0), .val (.int p1), .val (.int p2), .val (.int p3), .val (.int p4), .val (.int (if (p4 &&& (1 : Int32)) = (0 : Int32) then (0 : Int32) else (1 : Int32))), .val (.int (if (p4 &&& (2 : Int32)) = (0 : Int32) then (0 : Int32) else (1 : Int32))), .val (.int nL), .val (.int nE), .val (.int zl0), .val (.int zl1), .val (.int ze0), .val (.int ze1), .val (.ref b10), .val (.ref b12), .val (.ref b31), .val (.ref w_E), .val (.ref b34), .val (.int (1 : Int32)), .val (.int (0 : Int32)), .unset]) rfl ?_
          show Steps p.tables e below (T36.setTop (mkF m 203 #[.val (.int p0), .val (.int p1), .val (.int p2), .val (.int p3), .val (.int p4), .val (.int (if (p4 &&& (1 : Int32)) = (0 : Int32) then (0 : Int32) else (1 : Int32))), .val (.int (if (p4 &&& (2 : Int32)) = (0 : Int32) then (0 : Int32) else (1 : Int32))), .val (.int nL), .val (.int nE), .val (.int zl0), .val (.int zl1), .val (.int ze0), .val (.int ze1), .val (.ref b10), .val (.ref b12), .val (.ref b31), .val (.ref w_E), .val (.ref b34), .val (.int (1 : Int32)), .val (.int (0 : Int32)), .unset] [])) _
          refine XS.iload X36.here hx rfl (hb hby at_203) rfl ?_
          show Steps p.tables e below (T36.setTop (mkF m 205 #[.val (.int p0), .val (.int p1), .val (.int p2), .val (.int p3), .val (.int p4), .val (.int (if (p4 &&& (1 : Int32)) = (0 : Int32) then (0 : Int32) else (1 : Int32))), .val (.int (if (p4 &&& (2 : Int32)) = (0 : Int32) then (0 : Int32) else (1 : Int32))), .val (.int nL), .val (.int nE), .val (.int zl0), .val (.int zl1), .val (.int ze0), .val (.int ze1), .val (.ref b10), .val (.ref b12), .val (.ref b31), .val (.ref w_E), .val (.ref b34), .val (.int (1 : Int32)), .val (.int (0 : Int32)), .unset] [(.int (1 : Int32))])) _
          refine XS.ifYes X36.here hx rfl (pc0 := 205) (pc' := 217) rfl (hb hby at_205) rfl ((if0 _ _).trans (feq (by decide)).2) (by decide) (by decide) ?_
          show Steps p.tables e below (T36.setTop (mkF m 217 #[.val (.int p0), .val (.int p1), .val (.int p2), .val (.int p3), .val (.int p4), .val (.int (if (p4 &&& (1 : Int32)) = (0 : Int32) then (0 : Int32) else (1 : Int32))), .val (.int (if (p4 &&& (2 : Int32)) = (0 : Int32) then (0 : Int32) else (1 : Int32))), .val (.int nL), .val (.int nE), .val (.int zl0), .val (.int zl1), .val (.int ze0), .val (.int ze1), .val (.ref b10), .val (.ref b12), .val (.ref b31), .val (.ref w_E), .val (.ref b34), .val (.int (1 : Int32)), .val (.int (0 : Int32)), .unset] [])) _
          refine XS.iconst X36.here hx rfl (hb hby at_217) ?_
          show Steps p.tables e below (T36.setTop (mkF m 218 #[.val (.int p0), .val (.int p1), .val (.int p2), .val (.int p3), .val (.int p4), .val (.int (if (p4 &&& (1 : Int32)) = (0 : Int32) then (0 : Int32) else (1 : Int32))), .val (.int (if (p4 &&& (2 : Int32)) = (0 : Int32) then (0 : Int32) else (1 : Int32))), .val (.int nL), .val (.int nE), .val (.int zl0), .val (.int zl1), .val (.int ze0), .val (.int ze1), .val (.ref b10), .val (.ref b12), .val (.ref b31), .val (.ref w_E), .val (.ref b34), .val (.int (1 : Int32)), .val (.int (0 : Int32)), .unset] [(.int (0 : Int32))])) _
          refine XS.istore X36.here hx rfl (hb hby at_218) rfl (l' := #[.val (.int p0), .val (.int p1), .val (.int p2), .val (.int p3), .val (.int p4), .val (.int (if (p4 &&& (1 : Int32)) = (0 : Int32) then (0 : Int32) else (1 : Int32))), .val (.int (if (p4 &&& (2 : Int32)) = (0 : Int32) then (0 : Int32) else (1 : Int32))), .val (.int nL), .val (.int nE), .val (.int zl0), .val (.int zl1), .val (.int ze0), .val (.int ze1), .val (.ref b10), .val (.ref b12), .val (.ref b31), .val (.ref w_E), .val (.ref b34), .val (.int (1 : Int32)), .val (.int (0 : Int32)), .val (.int (0 : Int32))]) rfl ?_
          show Steps p.tables e below (T36.setTop (mkF m 220 #[.val (.int p0), .val (.int p1), .val (.int p2), .val (.int p3), .val (.int p4), .val (.int (if (p4 &&& (1 : Int32)) = (0 : Int32) then (0 : Int32) else (1 : Int32))), .val (.int (if (p4 &&& (2 : Int32)) = (0 : Int32) then (0 : Int32) else (1 : Int32))), .val (.int nL), .val (.int nE), .val (.int zl0), .val (.int zl1), .val (.int ze0), .val (.int ze1), .val (.ref b10), .val (.ref b12), .val (.ref b31), .val (.ref w_E), .val (.ref b34), .val (.int (1 : Int32)), .val (.int (0 : Int32)), .val (.int (0 : Int32))] [])) _
          refine XS.aload X36.here hx rfl (hb hby at_220) rfl rfl ?_
          show Steps p.tables e below (T36.setTop (mkF m 222 #[.val (.int p0), .val (.int p1), .val (.int p2), .val (.int p3), .val (.int p4), .val (.int (if (p4 &&& (1 : Int32)) = (0 : Int32) then (0 : Int32) else (1 : Int32))), .val (.int (if (p4 &&& (2 : Int32)) = (0 : Int32) then (0 : Int32) else (1 : Int32))), .val (.int nL), .val (.int nE), .val (.int zl0), .val (.int zl1), .val (.int ze0), .val (.int ze1), .val (.ref b10), .val (.ref b12), .val (.ref b31), .val (.ref w_E), .val (.ref b34), .val (.int (1 : Int32)), .val (.int (0 : Int32)), .val (.int (0 : Int32))] [(.ref b34)])) _
          refine st40.trans ?_
          show Steps p.tables e below (T40.setTop (mkF m 225 #[.val (.int p0), .val (.int p1), .val (.int p2), .val (.int p3), .val (.int p4), .val (.int (if (p4 &&& (1 : Int32)) = (0 : Int32) then (0 : Int32) else (1 : Int32))), .val (.int (if (p4 &&& (2 : Int32)) = (0 : Int32) then (0 : Int32) else (1 : Int32))), .val (.int nL), .val (.int nE), .val (.int zl0), .val (.int zl1), .val (.int ze0), .val (.int ze1), .val (.ref b10), .val (.ref b12), .val (.ref b31), .val (.ref w_E), .val (.ref b34), .val (.int (1 : Int32)), .val (.int (0 : Int32)), .val (.int (0 : Int32))] [(.int (0 : Int32))])) _
          refine XS.iload X40.here hx rfl (hb hby at_225) rfl ?_
          show Steps p.tables e below (T40.setTop (mkF m 227 #[.val (.int p0), .val (.int p1), .val (.int p2), .val (.int p3), .val (.int p4), .val (.int (if (p4 &&& (1 : Int32)) = (0 : Int32) then (0 : Int32) else (1 : Int32))), .val (.int (if (p4 &&& (2 : Int32)) = (0 : Int32) then (0 : Int32) else (1 : Int32))), .val (.int nL), .val (.int nE), .val (.int zl0), .val (.int zl1), .val (.int ze0), .val (.int ze1), .val (.ref b10), .val (.ref b12), .val (.ref b31), .val (.ref w_E), .val (.ref b34), .val (.int (1 : Int32)), .val (.int (0 : Int32)), .val (.int (0 : Int32))] [(.int (0 : Int32)), (.int (0 : Int32))])) _
          refine XS.icmpNo X40.here hx rfl (hb hby at_227) rfl (teq (by decide)).2 ?_
          show Steps p.tables e below (T40.setTop (mkF m 230 #[.val (.int p0), .val (.int p1), .val (.int p2), .val (.int p3), .val (.int p4), .val (.int (if (p4 &&& (1 : Int32)) = (0 : Int32) then (0 : Int32) else (1 : Int32))), .val (.int (if (p4 &&& (2 : Int32)) = (0 : Int32) then (0 : Int32) else (1 : Int32))), .val (.int nL), .val (.int nE), .val (.int zl0), .val (.int zl1), .val (.int ze0), .val (.int ze1), .val (.ref b10), .val (.ref b12), .val (.ref b31), .val (.ref w_E), .val (.ref b34), .val (.int (1 : Int32)), .val (.int (0 : Int32)), .val (.int (0 : Int32))] [])) _
          refine XS.iconst X40.here hx rfl (hb hby at_230) ?_
          show Steps p.tables e below (T40.setTop (mkF m 231 #[.val (.int p0), .val (.int p1), .val (.int p2), .val (.int p3), .val (.int p4), .val (.int (if (p4 &&& (1 : Int32)) = (0 : Int32) then (0 : Int32) else (1 : Int32))), .val (.int (if (p4 &&& (2 : Int32)) = (0 : Int32) then (0 : Int32) else (1 : Int32))), .val (.int nL), .val (.int nE), .val (.int zl0), .val (.int zl1), .val (.int ze0), .val (.int ze1), .val (.ref b10), .val (.ref b12), .val (.ref b31), .val (.ref w_E), .val (.ref b34), .val (.int (1 : Int32)), .val (.int (0 : Int32)), .val (.int (0 : Int32))] [(.int (1 : Int32))])) _
          refine XS.goto X40.here hx rfl (pc0 := 231) (pc' := 235) rfl (hb hby at_231) (by decide) (by decide) ?_
          exact k
        obtain ⟨fs, hr, hrun, hended, hEW⟩ := X40.leaveW hS (by rw [e40]; exact hk) (v := some (.int (1 : Int32))) (fun h => by rw [Bd.returns] at h; cases h)
        refine ⟨_, _, k41 _ ?_, hrun, hended, _, _, rfl, ?_, hEW.1, hEW.2.1, hEW.2.2.1, hEW.2.2.2.mono (by decide) (by decide)⟩
        · exact retN X40 hx (t := .boolean) Bd.returns (by simp) (hb hby at_235) hr
        · show own_R (some (.int 1)) n0 _ T40.heap _
          rw [e40]
          exact ⟨rfl, N40⟩
    · obtain ⟨_, _, ⟨T42, L42, k42_, n42⟩, -, X42, ⟨Lc42, hQ42, l42, y42, z42⟩, st42⟩ := Jvm.LawKit.callS X31 hx (y := (⟨"java/util/Optional", "of", "(Ljava/lang/Object;)Ljava/util/Optional;"⟩ : MethodName)) hown (mvT hZ (hw _ (List.mem_of_getElem? (i := 88) rfl))) (mvT hZ (hw _ (List.mem_of_getElem? (i := 89) rfl))) (mvT hZ (hw _ (List.mem_of_getElem? (i := 28) rfl))) (mvT hZ (hw _ (List.mem_of_getElem? (i := 90) rfl))) (by decide) (backOf (W := 0) (rm16 l Z a0 hw [] b12 T31.heap n0 (O0.1 ▸ O0.2.1)) hZ (hw _ (List.mem_of_getElem? (i := 90) rfl)) (hw _ (List.mem_of_getElem? (i := 28) rfl)) (by decide) (by decide)) (g := (mkF m 129 #[.val (.int p0), .val (.int p1), .val (.int p2), .val (.int p3), .val (.int p4), .val (.int (if (p4 &&& (1 : Int32)) = (0 : Int32) then (0 : Int32) else (1 : Int32))), .val (.int (if (p4 &&& (2 : Int32)) = (0 : Int32) then (0 : Int32) else (1 : Int32))), .val (.int nL), .val (.int nE), .val (.int zl0), .val (.int zl1), .val (.int ze0), .val (.int ze1), .val (.ref b10), .val (.ref b12), .val (.ref b31), .unset, .unset, .unset, .unset, .unset] [(.ref b12)])) rfl (by rw [hml]; rfl) (argsL := [(.ref b12)]) (rest := []) (lenOf pd_25 rfl) rfl (by show 2 * 0 + _ ≤ _; exact Nat.le_of_eq rfl) (hb hby at_129) (fun _ _ => ⟨rfl, rfl, (by decide : 17 + 1 ≤ _), (by decide : 49 + 1 ≤ _)⟩)
      dsimp only [Pt.U, Pt.locs, Pt.cells, Pt.slots] at X42 l42 y42 z42 st42 hQ42
      subst l42 y42 z42
      obtain ⟨b42, rfl, Nq42, Kq42, Eo42, Fo42⟩ := hQ42
      have N42 := Fr.app N31 Nq42
      replace HC := HC.trans (CHr.keep Kq42 (fun x hx => nomatch hx) HC.1)
      replace Eq10 := Eq10.keep Kq42
      replace Fq10 := Fq10.keep Kq42 List.not_mem_nil
      replace Gq10 := Gq10.keep Kq42 List.not_mem_nil
      replace Vq10 := Vq10.keep Kq42 List.not_mem_nil
      replace Eq12 := Eq12.keep Kq42
      replace Fq12 := Fq12.keep Kq42 List.not_mem_nil
      replace Gq12 := Gq12.keep Kq42 List.not_mem_nil
      replace Vq12 := Vq12.keep Kq42 List.not_mem_nil
      replace Eo31 := Eo31.keep Kq42
      replace Fo31 := Fo31.keep Kq42 List.not_mem_nil
      replace O0 := O0.keep Kq42 (fun x hx => nomatch hx)
      replace hk := Nat.le_trans hk Kq42.1
      obtain ⟨T43, h43, X43, e43, E43, A43, D43, -, st43⟩ := newO X42 hx hZ hown (hw _ (List.mem_of_getElem? (i := 31) rfl)) (hw _ (List.mem_of_getElem? (i := 32) rfl)) (hw _ (List.mem_of_getElem? (i := 33) rfl)) rfl (g := (mkF m 142 #[.val (.int p0), .val (.int p1), .val (.int p2), .val (.int p3), .val (.int p4), .val (.int (if (p4 &&& (1 : Int32)) = (0 : Int32) then (0 : Int32) else (1 : Int32))), .val (.int (if (p4 &&& (2 : Int32)) = (0 : Int32) then (0 : Int32) else (1 : Int32))), .val (.int nL), .val (.int nE), .val (.int zl0), .val (.int zl1), .val (.int ze0), .val (.int ze1), .val (.ref b10), .val (.ref b12), .val (.ref b31), .val (.ref b42), .unset, .unset, .unset, .unset] [])) rfl (hb hby at_142) (by decide) (by decide)
      obtain ⟨b43, g43⟩ : ∃ z, z = T42.heap.size := ⟨_, rfl⟩
      rw [← g43] at A43 D43 st43
      have ne_b10_b43 : b10 ≠ b43 := Nat.ne_of_lt (Nat.lt_of_lt_of_le Eq10.lt (Nat.le_of_eq g43.symm))
      have ne_rv10_b43 : rv10 ≠ b43 := Nat.ne_of_lt (Nat.lt_of_lt_of_le Vq10.lt (Nat.le_of_eq g43.symm))
      have ne_b12_b43 : b12 ≠ b43 := Nat.ne_of_lt (Nat.lt_of_lt_of_le Eq12.lt (Nat.le_of_eq g43.symm))
      have ne_rv12_b43 : rv12 ≠ b43 := Nat.ne_of_lt (Nat.lt_of_lt_of_le Vq12.lt (Nat.le_of_eq g43.symm))
      have ne_b31_b43 : b31 ≠ b43 := Nat.ne_of_lt (Nat.lt_of_lt_of_le Eo31.lt (Nat.le_of_eq g43.symm))
      have ne_b42_b43 : b42 ≠ b43 := Nat.ne_of_lt (Nat.lt_of_lt_of_le Eo42.lt (Nat.le_of_eq g43.symm))
      have gn_b43 : n0 ≤ b43 := Nat.le_trans (O0.1 ▸ O0.2.1) (Nat.le_of_eq g43.symm)
      replace Eq10 := Eq10.ext E43
      replace Fq10 := Fq10.ext E43
      replace Gq10 := Gq10.ext E43
      replace Vq10 := Vq10.ext E43
      replace Eq12 := Eq12.ext E43
      replace Fq12 := Fq12.ext E43
      replace Gq12 := Gq12.ext E43
      replace Vq12 := Vq12.ext E43
      replace Eo31 := Eo31.ext E43
      replace Fo31 := Fo31.ext E43
      replace Eo42 := Eo42.ext E43
      replace Fo42 := Fo42.ext E43
      replace O0 := O0.ext E43
      replace hk := Nat.le_trans hk E43.1
      replace HC := HC.trans (CHr.ext E43 HC.1)
      have E_b43 := A43
      have F_lastModified_b43 : Fld Z h43 b43 "com/example/indelible_crawl/indeliblecrawl/fetch/Validators" "lastModified" "Ljava/util/Optional;" .null := D43 (Or.inr (hw _ (List.mem_of_getElem? (i := 64) rfl))) (ty := (.object "java/util/Optional")) (by decide)
      have F_etag_b43 : Fld Z h43 b43 "com/example/indelible_crawl/indeliblecrawl/fetch/Validators" "etag" "Ljava/util/Optional;" .null := D43 (Or.inr (hw _ (List.mem_of_getElem? (i := 66) rfl))) (ty := (.object "java/util/Optional")) (by decide)
      obtain ⟨_, _, ⟨T44, L44, k44_, n44⟩, -, X44, ⟨Lc44, hQ44, l44, y44, z44⟩, st44⟩ := X43.specialBack hx (y := (⟨"com/example/indelible_crawl/indeliblecrawl/fetch/Validators", "<init>", "(Ljava/util/Optional;Ljava/util/Optional;)V"⟩ : MethodName)) rfl hown (mvT hZ (hw _ (List.mem_of_getElem? (i := 34) rfl))) (mvT hZ (hw _ (List.mem_of_getElem? (i := 35) rfl))) (mvT hZ (hw _ (List.mem_of_getElem? (i := 36) rfl))) (by decide) (backOf (W := 1) (rmVI_1_1 l Z a0 hw [] b43 b31 b42 b10 rv10 kq10 nL zl0 zl1 ln10 vs10 b12 rv12 kq12 nE ze0 ze1 ln12 vs12 w_CS w_E w_F h43 n0 hG O0 gn_b43 E_b43 F_lastModified_b43 F_etag_b43 Eo31 Fo31 hl0 hl1 Eq10 Fq10 Gq10 Vq10 hdl0 Eo42 Fo42 he0 he1 Eq12 Fq12 Gq12 Vq12 hdl1) hZ (hw _ (List.mem_of_getElem? (i := 36) rfl)) (hw _ (List.mem_of_getElem? (i := 33) rfl)) (by decide) (by decide)) (g := (mkF m 150 #[.val (.int p0), .val (.int p1), .val (.int p2), .val (.int p3), .val (.int p4), .val (.int (if (p4 &&& (1 : Int32)) = (0 : Int32) then (0 : Int32) else (1 : Int32))), .val (.int (if (p4 &&& (2 : Int32)) = (0 : Int32) then (0 : Int32) else (1 : Int32))), .val (.int nL), .val (.int nE), .val (.int zl0), .val (.int zl1), .val (.int ze0), .val (.int ze1), .val (.ref b10), .val (.ref b12), .val (.ref b31), .val (.ref b42), .unset, .unset, .unset, .unset] [(.ref b42), (.ref b31), (.ref b43), (.ref b43)])) rfl (by rw [hml]; rfl) (Steps.refl _) (a := b43) (argsL := [(.ref b31), (.ref b42)]) (rest := [(.ref b43)]) (lenOf pd_24 rfl) rfl (by show 2 * 0 + _ ≤ _; exact Nat.le_of_eq rfl) (hb hby at_150) (fun _ _ => ⟨rfl, e43, (by decide : 19 + 0 ≤ _), (by decide : 52 + 0 ≤ _)⟩)
      dsimp only [Pt.U, Pt.locs, Pt.cells, Pt.slots] at X44 l44 y44 z44 st44 hQ44
      subst l44 y44 z44
      obtain ⟨rfl, Nq44, Kq44, Eq44, Fa44, Fb44⟩ := hQ44
      have N44 := Fr.app N42 Nq44
      have So : Safe Z own_EL T12.vm h43 b43 := (Safe.exa hZ.alike E_b43 (by decide) (by decide))
      replace HC := HC.trans (CHr.keep Kq44 (fun x hx => by cases List.mem_singleton.mp hx; exact So) HC.1)
      replace Eq10 := Eq10.keep Kq44
      replace Fq10 := Fq10.keep Kq44 (fun q => ne_b10_b43 (List.mem_singleton.mp q))
      replace Gq10 := Gq10.keep Kq44 (fun q => ne_b10_b43 (List.mem_singleton.mp q))
      replace Vq10 := Vq10.keep Kq44 (fun q => ne_rv10_b43 (List.mem_singleton.mp q))
      replace Eq12 := Eq12.keep Kq44
      replace Fq12 := Fq12.keep Kq44 (fun q => ne_b12_b43 (List.mem_singleton.mp q))
      replace Gq12 := Gq12.keep Kq44 (fun q => ne_b12_b43 (List.mem_singleton.mp q))
      replace Vq12 := Vq12.keep Kq44 (fun q => ne_rv12_b43 (List.mem_singleton.mp q))
      replace Eo31 := Eo31.keep Kq44
      replace Fo31 := Fo31.keep Kq44 (fun q => ne_b31_b43 (List.mem_singleton.mp q))
      replace Eo42 := Eo42.keep Kq44
      replace Fo42 := Fo42.keep Kq44 (fun q => ne_b42_b43 (List.mem_singleton.mp q))
      replace E_b43 := E_b43.keep Kq44
      replace O0 := O0.keep Kq44 (fun x hx => by cases List.mem_singleton.mp hx; exact gn_b43)
      replace hk := Nat.le_trans hk Kq44.1
      obtain ⟨_, _, ⟨T45, L45, k45_, n45⟩, -, X45, ⟨Lc45, hQ45, l45, y45, z45⟩, st45⟩ := Jvm.LawKit.callS X44 hx (y := (⟨"com/example/indelible_crawl/indeliblecrawl/fetch/ValidatorsIsEmptyPinLaw", "sendable", "(ICC)Z"⟩ : MethodName)) hown (mvT hZ (hw _ (List.mem_of_getElem? (i := 135) rfl))) (mvT hZ (hw _ (List.mem_of_getElem? (i := 136) rfl))) (mvT hZ (hw _ (List.mem_of_getElem? (i := 2) rfl))) (mvT hZ (hw _ (List.mem_of_getElem? (i := 137) rfl))) (by decide) (backOf (W := 0) (rm26 l Z a0 hw [] nL zl0 zl1 T44.heap n0 ) hZ (hw _ (List.mem_of_getElem? (i := 137) rfl)) (hw _ (List.mem_of_getElem? (i := 2) rfl)) (by decide) (by decide)) (g := (mkF m 166 #[.val (.int p0), .val (.int p1), .val (.int p2), .val (.int p3), .val (.int p4), .val (.int (if (p4 &&& (1 : Int32)) = (0 : Int32) then (0 : Int32) else (1 : Int32))), .val (.int (if (p4 &&& (2 : Int32)) = (0 : Int32) then (0 : Int32) else (1 : Int32))), .val (.int nL), .val (.int nE), .val (.int zl0), .val (.int zl1), .val (.int ze0), .val (.int ze1), .val (.ref b10), .val (.ref b12), .val (.ref b31), .val (.ref b42), .val (.ref b43), .unset, .unset, .unset] [(.int zl1), (.int zl0), (.int nL)])) rfl (by rw [hml]; rfl) (argsL := [(.int nL), (.int zl0), (.int zl1)]) (rest := []) (lenOf pd_26 rfl) rfl (by show 2 * 0 + _ ≤ _; exact Nat.le_of_eq rfl) (hb hby at_166) (fun _ _ => ⟨rfl, rfl, (by decide : 19 + 0 ≤ _), (by decide : 52 + 0 ≤ _)⟩)
      dsimp only [Pt.U, Pt.locs, Pt.cells, Pt.slots] at X45 l45 y45 z45 st45 hQ45
      subst l45 y45 z45
      obtain ⟨rfl, Nq45, e45⟩ := hQ45
      have N45 := Fr.app N44 Nq45
      have k46 : ∀ t, Steps p.tables e below (T45.setTop (mkF m 169 #[.val (.int p0), .val (.int p1), .val (.int p2), .val (.int p3), .val (.int p4), .val (.int (if (p4 &&& (1 : Int32)) = (0 : Int32) then (0 : Int32) else (1 : Int32))), .val (.int (if (p4 &&& (2 : Int32)) = (0 : Int32) then (0 : Int32) else (1 : Int32))), .val (.int nL), .val (.int nE), .val (.int zl0), .val (.int zl1), .val (.int ze0), .val (.int ze1), .val (.ref b10), .val (.ref b12), .val (.ref b31), .val (.ref b42), .val (.ref b43), .unset, .unset, .unset] [(.int (own_f26 nL zl0 zl1 ))])) t → Steps p.tables e below (s₁.setTop (entryFrame m #[(.int p0), (.int p1), (.int p2), (.int p3), (.int p4)] maxLocals)) t := by
        intro t k
        refine k32 _ ?_
        show Steps p.tables e below (T31.setTop (mkF m 124 #[.val (.int p0), .val (.int p1), .val (.int p2), .val (.int p3), .val (.int p4), .val (.int (if (p4 &&& (1 : Int32)) = (0 : Int32) then (0 : Int32) else (1 : Int32))), .val (.int (if (p4 &&& (2 : Int32)) = (0 : Int32) then (0 : Int32) else (1 : Int32))), .val (.int nL), .val (.int nE), .val (.int zl0), .val (.int zl1), .val (.int ze0), .val (.int ze1), .val (.ref b10), .val (.ref b12), .val (.ref b31), .unset, .unset, .unset, .unset, .unset] [(.int (if (p4 &&& (2 : Int32)) = (0 : Int32) then (0 : Int32) else (1 : Int32)))])) _
        refine XS.ifNo X31.here hx rfl (hb hby at_124) rfl ((if0 _ _).trans (feq hc124_6).1) ?_
        show Steps p.tables e below (T31.setTop (mkF m 127 #[.val (.int p0), .val (.int p1), .val (.int p2), .val (.int p3), .val (.int p4), .val (.int (if (p4 &&& (1 : Int32)) = (0 : Int32) then (0 : Int32) else (1 : Int32))), .val (.int (if (p4 &&& (2 : Int32)) = (0 : Int32) then (0 : Int32) else (1 : Int32))), .val (.int nL), .val (.int nE), .val (.int zl0), .val (.int zl1), .val (.int ze0), .val (.int ze1), .val (.ref b10), .val (.ref b12), .val (.ref b31), .unset, .unset, .unset, .unset, .unset] [])) _
        refine XS.aload X31.here hx rfl (hb hby at_127) rfl rfl ?_
        show Steps p.tables e below (T31.setTop (mkF m 129 #[.val (.int p0), .val (.int p1), .val (.int p2), .val (.int p3), .val (.int p4), .val (.int (if (p4 &&& (1 : Int32)) = (0 : Int32) then (0 : Int32) else (1 : Int32))), .val (.int (if (p4 &&& (2 : Int32)) = (0 : Int32) then (0 : Int32) else (1 : Int32))), .val (.int nL), .val (.int nE), .val (.int zl0), .val (.int zl1), .val (.int ze0), .val (.int ze1), .val (.ref b10), .val (.ref b12), .val (.ref b31), .unset, .unset, .unset, .unset, .unset] [(.ref b12)])) _
        refine st42 _ ?_
        show Steps p.tables e below (T42.setTop (mkF m 132 #[.val (.int p0), .val (.int p1), .val (.int p2), .val (.int p3), .val (.int p4), .val (.int (if (p4 &&& (1 : Int32)) = (0 : Int32) then (0 : Int32) else (1 : Int32))), .val (.int (if (p4 &&& (2 : Int32)) = (0 : Int32) then (0 : Int32) else (1 : Int32))), .val (.int nL), .val (.int nE), .val (.int zl0), .val (.int zl1), .val (.int ze0), .val (.int ze1), .val (.ref b10), .val (.ref b12), .val (.ref b31), .unset, .unset, .unset, .unset, .unset] [(.ref b42)])) _
        refine XS.astore X42.here hx rfl (hb hby at_132) rfl rfl (l' := #[.val (.int p0), .val (.int p1), .val (.int p2), .val (.int p3), .val (.int p4), .val (.int (if (p4 &&& (1 : Int32)) = (0 : Int32) then (0 : Int32) else (1 : Int32))), .val (.int (if (p4 &&& (2 : Int32)) = (0 : Int32) then (0 : Int32) else (1 : Int32))), .val (.int nL), .val (.int nE), .val (.int zl0), .val (.int zl1), .val (.int ze0), .val (.int ze1), .val (.ref b10), .val (.ref b12), .val (.ref b31), .val (.ref b42), .unset, .unset, .unset, .unset]) rfl ?_
        show Steps p.tables e below (T42.setTop (mkF m 134 #[.val (.int p0), .val (.int p1), .val (.int p2), .val (.int p3), .val (.int p4), .val (.int (if (p4 &&& (1 : Int32)) = (0 : Int32) then (0 : Int32) else (1 : Int32))), .val (.int (if (p4 &&& (2 : Int32)) = (0 : Int32) then (0 : Int32) else (1 : Int32))), .val (.int nL), .val (.int nE), .val (.int zl0), .val (.int zl1), .val (.int ze0), .val (.int ze1), .val (.ref b10), .val (.ref b12), .val (.ref b31), .val (.ref b42), .unset, .unset, .unset, .unset] [])) _
        refine XS.goto X42.here hx rfl (pc0 := 134) (pc' := 142) rfl (hb hby at_134) (by decide) (by decide) ?_
        show Steps p.tables e below (T42.setTop (mkF m 142 #[.val (.int p0), .val (.int p1), .val (.int p2), .val (.int p3), .val (.int p4), .val (.int (if (p4 &&& (1 : Int32)) = (0 : Int32) then (0 : Int32) else (1 : Int32))), .val (.int (if (p4 &&& (2 : Int32)) = (0 : Int32) then (0 : Int32) else (1 : Int32))), .val (.int nL), .val (.int nE), .val (.int zl0), .val (.int zl1), .val (.int ze0), .val (.int ze1), .val (.ref b10), .val (.ref b12), .val (.ref b31), .val (.ref b42), .unset, .unset, .unset, .unset] [])) _
        refine st43 _ ?_
        show Steps p.tables e below (T43.setTop (mkF m 145 #[.val (.int p0), .val (.int p1), .val (.int p2), .val (.int p3), .val (.int p4), .val (.int (if (p4 &&& (1 : Int32)) = (0 : Int32) then (0 : Int32) else (1 : Int32))), .val (.int (if (p4 &&& (2 : Int32)) = (0 : Int32) then (0 : Int32) else (1 : Int32))), .val (.int nL), .val (.int nE), .val (.int zl0), .val (.int zl1), .val (.int ze0), .val (.int ze1), .val (.ref b10), .val (.ref b12), .val (.ref b31), .val (.ref b42), .unset, .unset, .unset, .unset] [(.ref b43)])) _
        refine XS.dup X43.here hx rfl (hb hby at_145) rfl rfl ?_
        show Steps p.tables e below (T43.setTop (mkF m 146 #[.val (.int p0), .val (.int p1), .val (.int p2), .val (.int p3), .val (.int p4), .val (.int (if (p4 &&& (1 : Int32)) = (0 : Int32) then (0 : Int32) else (1 : Int32))), .val (.int (if (p4 &&& (2 : Int32)) = (0 : Int32) then (0 : Int32) else (1 : Int32))), .val (.int nL), .val (.int nE), .val (.int zl0), .val (.int zl1), .val (.int ze0), .val (.int ze1), .val (.ref b10), .val (.ref b12), .val (.ref b31), .val (.ref b42), .unset, .unset, .unset, .unset] [(.ref b43), (.ref b43)])) _
        refine XS.aload X43.here hx rfl (hb hby at_146) rfl rfl ?_
        show Steps p.tables e below (T43.setTop (mkF m 148 #[.val (.int p0), .val (.int p1), .val (.int p2), .val (.int p3), .val (.int p4), .val (.int (if (p4 &&& (1 : Int32)) = (0 : Int32) then (0 : Int32) else (1 : Int32))), .val (.int (if (p4 &&& (2 : Int32)) = (0 : Int32) then (0 : Int32) else (1 : Int32))), .val (.int nL), .val (.int nE), .val (.int zl0), .val (.int zl1), .val (.int ze0), .val (.int ze1), .val (.ref b10), .val (.ref b12), .val (.ref b31), .val (.ref b42), .unset, .unset, .unset, .unset] [(.ref b31), (.ref b43), (.ref b43)])) _
        refine XS.aload X43.here hx rfl (hb hby at_148) rfl rfl ?_
        show Steps p.tables e below (T43.setTop (mkF m 150 #[.val (.int p0), .val (.int p1), .val (.int p2), .val (.int p3), .val (.int p4), .val (.int (if (p4 &&& (1 : Int32)) = (0 : Int32) then (0 : Int32) else (1 : Int32))), .val (.int (if (p4 &&& (2 : Int32)) = (0 : Int32) then (0 : Int32) else (1 : Int32))), .val (.int nL), .val (.int nE), .val (.int zl0), .val (.int zl1), .val (.int ze0), .val (.int ze1), .val (.ref b10), .val (.ref b12), .val (.ref b31), .val (.ref b42), .unset, .unset, .unset, .unset] [(.ref b42), (.ref b31), (.ref b43), (.ref b43)])) _
        refine st44.trans ?_
        show Steps p.tables e below (T44.setTop (mkF m 153 #[.val (.int p0), .val (.int p1), .val (.int p2), .val (.int p3), .val (.int p4), .val (.int (if (p4 &&& (1 : Int32)) = (0 : Int32) then (0 : Int32) else (1 : Int32))), .val (.int (if (p4 &&& (2 : Int32)) = (0 : Int32) then (0 : Int32) else (1 : Int32))), .val (.int nL), .val (.int nE), .val (.int zl0), .val (.int zl1), .val (.int ze0), .val (.int ze1), .val (.ref b10), .val (.ref b12), .val (.ref b31), .val (.ref b42), .unset, .unset, .unset, .unset] [(.ref b43)])) _
        refine XS.astore X44.here hx rfl (hb hby at_153) rfl rfl (l' := #[.val (.int p0), .val (.int p1), .val (.int p2), .val (.int p3), .val (.int p4), .val (.int (if (p4 &&& (1 : Int32)) = (0 : Int32) then (0 : Int32) else (1 : Int32))), .val (.int (if (p4 &&& (2 : Int32)) = (0 : Int32) then (0 : Int32) else (1 : Int32))), .val (.int nL), .val (.int nE), .val (.int zl0), .val (.int zl1), .val (.int ze0), .val (.int ze1), .val (.ref b10), .val (.ref b12), .val (.ref b31), .val (.ref b42), .val (.ref b43), .unset, .unset, .unset]) rfl ?_
        show Steps p.tables e below (T44.setTop (mkF m 155 #[.val (.int p0), .val (.int p1), .val (.int p2), .val (.int p3), .val (.int p4), .val (.int (if (p4 &&& (1 : Int32)) = (0 : Int32) then (0 : Int32) else (1 : Int32))), .val (.int (if (p4 &&& (2 : Int32)) = (0 : Int32) then (0 : Int32) else (1 : Int32))), .val (.int nL), .val (.int nE), .val (.int zl0), .val (.int zl1), .val (.int ze0), .val (.int ze1), .val (.ref b10), .val (.ref b12), .val (.ref b31), .val (.ref b42), .val (.ref b43), .unset, .unset, .unset] [])) _
        refine XS.iload X44.here hx rfl (hb hby at_155) rfl ?_
        show Steps p.tables e below (T44.setTop (mkF m 157 #[.val (.int p0), .val (.int p1), .val (.int p2), .val (.int p3), .val (.int p4), .val (.int (if (p4 &&& (1 : Int32)) = (0 : Int32) then (0 : Int32) else (1 : Int32))), .val (.int (if (p4 &&& (2 : Int32)) = (0 : Int32) then (0 : Int32) else (1 : Int32))), .val (.int nL), .val (.int nE), .val (.int zl0), .val (.int zl1), .val (.int ze0), .val (.int ze1), .val (.ref b10), .val (.ref b12), .val (.ref b31), .val (.ref b42), .val (.ref b43), .unset, .unset, .unset] [(.int (if (p4 &&& (1 : Int32)) = (0 : Int32) then (0 : Int32) else (1 : Int32)))])) _
        refine XS.ifNo X44.here hx rfl (hb hby at_157) rfl ((if0 _ _).trans (feq hc104_3).1) ?_
        show Steps p.tables e below (T44.setTop (mkF m 160 #[.val (.int p0), .val (.int p1), .val (.int p2), .val (.int p3), .val (.int p4), .val (.int (if (p4 &&& (1 : Int32)) = (0 : Int32) then (0 : Int32) else (1 : Int32))), .val (.int (if (p4 &&& (2 : Int32)) = (0 : Int32) then (0 : Int32) else (1 : Int32))), .val (.int nL), .val (.int nE), .val (.int zl0), .val (.int zl1), .val (.int ze0), .val (.int ze1), .val (.ref b10), .val (.ref b12), .val (.ref b31), .val (.ref b42), .val (.ref b43), .unset, .unset, .unset] [])) _
        refine XS.iload X44.here hx rfl (hb hby at_160) rfl ?_
        show Steps p.tables e below (T44.setTop (mkF m 162 #[.val (.int p0), .val (.int p1), .val (.int p2), .val (.int p3), .val (.int p4), .val (.int (if (p4 &&& (1 : Int32)) = (0 : Int32) then (0 : Int32) else (1 : Int32))), .val (.int (if (p4 &&& (2 : Int32)) = (0 : Int32) then (0 : Int32) else (1 : Int32))), .val (.int nL), .val (.int nE), .val (.int zl0), .val (.int zl1), .val (.int ze0), .val (.int ze1), .val (.ref b10), .val (.ref b12), .val (.ref b31), .val (.ref b42), .val (.ref b43), .unset, .unset, .unset] [(.int nL)])) _
        refine XS.iload X44.here hx rfl (hb hby at_162) rfl ?_
        show Steps p.tables e below (T44.setTop (mkF m 164 #[.val (.int p0), .val (.int p1), .val (.int p2), .val (.int p3), .val (.int p4), .val (.int (if (p4 &&& (1 : Int32)) = (0 : Int32) then (0 : Int32) else (1 : Int32))), .val (.int (if (p4 &&& (2 : Int32)) = (0 : Int32) then (0 : Int32) else (1 : Int32))), .val (.int nL), .val (.int nE), .val (.int zl0), .val (.int zl1), .val (.int ze0), .val (.int ze1), .val (.ref b10), .val (.ref b12), .val (.ref b31), .val (.ref b42), .val (.ref b43), .unset, .unset, .unset] [(.int zl0), (.int nL)])) _
        refine XS.iload X44.here hx rfl (hb hby at_164) rfl ?_
        show Steps p.tables e below (T44.setTop (mkF m 166 #[.val (.int p0), .val (.int p1), .val (.int p2), .val (.int p3), .val (.int p4), .val (.int (if (p4 &&& (1 : Int32)) = (0 : Int32) then (0 : Int32) else (1 : Int32))), .val (.int (if (p4 &&& (2 : Int32)) = (0 : Int32) then (0 : Int32) else (1 : Int32))), .val (.int nL), .val (.int nE), .val (.int zl0), .val (.int zl1), .val (.int ze0), .val (.int ze1), .val (.ref b10), .val (.ref b12), .val (.ref b31), .val (.ref b42), .val (.ref b43), .unset, .unset, .unset] [(.int zl1), (.int zl0), (.int nL)])) _
        refine st45 _ ?_
        exact k
      by_cases hc169_8 : (own_f26 nL zl0 zl1 ) = (0 : Int32)
      · obtain ⟨_, _, ⟨T47, L47, k47_, n47⟩, -, X47, ⟨Lc47, hQ47, l47, y47, z47⟩, st47⟩ := Jvm.LawKit.callS X45 hx (y := (⟨"com/example/indelible_crawl/indeliblecrawl/fetch/ValidatorsIsEmptyPinLaw", "sendable", "(ICC)Z"⟩ : MethodName)) hown (mvT hZ (hw _ (List.mem_of_getElem? (i := 135) rfl))) (mvT hZ (hw _ (List.mem_of_getElem? (i := 136) rfl))) (mvT hZ (hw _ (List.mem_of_getElem? (i := 2) rfl))) (mvT hZ (hw _ (List.mem_of_getElem? (i := 137) rfl))) (by decide) (backOf (W := 0) (rm26 l Z a0 hw [] nE ze0 ze1 T44.heap n0 ) hZ (hw _ (List.mem_of_getElem? (i := 137) rfl)) (hw _ (List.mem_of_getElem? (i := 2) rfl)) (by decide) (by decide)) (g := (mkF m 190 #[.val (.int p0), .val (.int p1), .val (.int p2), .val (.int p3), .val (.int p4), .val (.int (if (p4 &&& (1 : Int32)) = (0 : Int32) then (0 : Int32) else (1 : Int32))), .val (.int (if (p4 &&& (2 : Int32)) = (0 : Int32) then (0 : Int32) else (1 : Int32))), .val (.int nL), .val (.int nE), .val (.int zl0), .val (.int zl1), .val (.int ze0), .val (.int ze1), .val (.ref b10), .val (.ref b12), .val (.ref b31), .val (.ref b42), .val (.ref b43), .val (.int (0 : Int32)), .unset, .unset] [(.int ze1), (.int ze0), (.int nE)])) rfl (by rw [hml]; rfl) (argsL := [(.int nE), (.int ze0), (.int ze1)]) (rest := []) (lenOf pd_26 rfl) rfl (by show 2 * 0 + _ ≤ _; exact Nat.le_of_eq rfl) (hb hby at_190) (fun _ _ => ⟨rfl, e45, (by decide : 19 + 0 ≤ _), (by decide : 52 + 0 ≤ _)⟩)
        dsimp only [Pt.U, Pt.locs, Pt.cells, Pt.slots] at X47 l47 y47 z47 st47 hQ47
        subst l47 y47 z47
        obtain ⟨rfl, Nq47, e47⟩ := hQ47
        have N47 := Fr.app N45 Nq47
        have k48 : ∀ t, Steps p.tables e below (T47.setTop (mkF m 193 #[.val (.int p0), .val (.int p1), .val (.int p2), .val (.int p3), .val (.int p4), .val (.int (if (p4 &&& (1 : Int32)) = (0 : Int32) then (0 : Int32) else (1 : Int32))), .val (.int (if (p4 &&& (2 : Int32)) = (0 : Int32) then (0 : Int32) else (1 : Int32))), .val (.int nL), .val (.int nE), .val (.int zl0), .val (.int zl1), .val (.int ze0), .val (.int ze1), .val (.ref b10), .val (.ref b12), .val (.ref b31), .val (.ref b42), .val (.ref b43), .val (.int (0 : Int32)), .unset, .unset] [(.int (own_f26 nE ze0 ze1 ))])) t → Steps p.tables e below (s₁.setTop (entryFrame m #[(.int p0), (.int p1), (.int p2), (.int p3), (.int p4)] maxLocals)) t := by
          intro t k
          refine k46 _ ?_
          show Steps p.tables e below (T45.setTop (mkF m 169 #[.val (.int p0), .val (.int p1), .val (.int p2), .val (.int p3), .val (.int p4), .val (.int (if (p4 &&& (1 : Int32)) = (0 : Int32) then (0 : Int32) else (1 : Int32))), .val (.int (if (p4 &&& (2 : Int32)) = (0 : Int32) then (0 : Int32) else (1 : Int32))), .val (.int nL), .val (.int nE), .val (.int zl0), .val (.int zl1), .val (.int ze0), .val (.int ze1), .val (.ref b10), .val (.ref b12), .val (.ref b31), .val (.ref b42), .val (.ref b43), .unset, .unset, .unset] [(.int (own_f26 nL zl0 zl1 ))])) _
          refine XS.ifYes X45.here hx rfl (pc0 := 169) (pc' := 176) rfl (hb hby at_169) rfl ((if0 _ _).trans (teq hc169_8).1) (by decide) (by decide) ?_
          show Steps p.tables e below (T45.setTop (mkF m 176 #[.val (.int p0), .val (.int p1), .val (.int p2), .val (.int p3), .val (.int p4), .val (.int (if (p4 &&& (1 : Int32)) = (0 : Int32) then (0 : Int32) else (1 : Int32))), .val (.int (if (p4 &&& (2 : Int32)) = (0 : Int32) then (0 : Int32) else (1 : Int32))), .val (.int nL), .val (.int nE), .val (.int zl0), .val (.int zl1), .val (.int ze0), .val (.int ze1), .val (.ref b10), .val (.ref b12), .val (.ref b31), .val (.ref b42), .val (.ref b43), .unset, .unset, .unset] [])) _
          refine XS.iconst X45.here hx rfl (hb hby at_176) ?_
          show Steps p.tables e below (T45.setTop (mkF m 177 #[.val (.int p0), .val (.int p1), .val (.int p2), .val (.int p3), .val (.int p4), .val (.int (if (p4 &&& (1 : Int32)) = (0 : Int32) then (0 : Int32) else (1 : Int32))), .val (.int (if (p4 &&& (2 : Int32)) = (0 : Int32) then (0 : Int32) else (1 : Int32))), .val (.int nL), .val (.int nE), .val (.int zl0), .val (.int zl1), .val (.int ze0), .val (.int ze1), .val (.ref b10), .val (.ref b12), .val (.ref b31), .val (.ref b42), .val (.ref b43), .unset, .unset, .unset] [(.int (0 : Int32))])) _
          refine XS.istore X45.here hx rfl (hb hby at_177) rfl (l' := #[.val (.int p0), .val (.int p1), .val (.int p2), .val (.int p3), .val (.int p4), .val (.int (if (p4 &&& (1 : Int32)) = (0 : Int32) then (0 : Int32) else (1 : Int32))), .val (.int (if (p4 &&& (2 : Int32)) = (0 : Int32) then (0 : Int32) else (1 : Int32))), .val (.int nL), .val (.int nE), .val (.int zl0), .val (.int zl1), .val (.int ze0), .val (.int ze1), .val (.ref b10), .val (.ref b12), .val (.ref b31), .val (.ref b42), .val (.ref b43), .val (.int (0 : Int32)), .unset, .unset]) rfl ?_
          show Steps p.tables e below (T45.setTop (mkF m 179 #[.val (.int p0), .val (.int p1), .val (.int p2), .val (.int p3), .val (.int p4), .val (.int (if (p4 &&& (1 : Int32)) = (0 : Int32) then (0 : Int32) else (1 : Int32))), .val (.int (if (p4 &&& (2 : Int32)) = (0 : Int32) then (0 : Int32) else (1 : Int32))), .val (.int nL), .val (.int nE), .val (.int zl0), .val (.int zl1), .val (.int ze0), .val (.int ze1), .val (.ref b10), .val (.ref b12), .val (.ref b31), .val (.ref b42), .val (.ref b43), .val (.int (0 : Int32)), .unset, .unset] [])) _
          refine XS.iload X45.here hx rfl (hb hby at_179) rfl ?_
          show Steps p.tables e below (T45.setTop (mkF m 181 #[.val (.int p0), .val (.int p1), .val (.int p2), .val (.int p3), .val (.int p4), .val (.int (if (p4 &&& (1 : Int32)) = (0 : Int32) then (0 : Int32) else (1 : Int32))), .val (.int (if (p4 &&& (2 : Int32)) = (0 : Int32) then (0 : Int32) else (1 : Int32))), .val (.int nL), .val (.int nE), .val (.int zl0), .val (.int zl1), .val (.int ze0), .val (.int ze1), .val (.ref b10), .val (.ref b12), .val (.ref b31), .val (.ref b42), .val (.ref b43), .val (.int (0 : Int32)), .unset, .unset] [(.int (if (p4 &&& (2 : Int32)) = (0 : Int32) then (0 : Int32) else (1 : Int32)))])) _
          refine XS.ifNo X45.here hx rfl (hb hby at_181) rfl ((if0 _ _).trans (feq hc124_6).1) ?_
          show Steps p.tables e below (T45.setTop (mkF m 184 #[.val (.int p0), .val (.int p1), .val (.int p2), .val (.int p3), .val (.int p4), .val (.int (if (p4 &&& (1 : Int32)) = (0 : Int32) then (0 : Int32) else (1 : Int32))), .val (.int (if (p4 &&& (2 : Int32)) = (0 : Int32) then (0 : Int32) else (1 : Int32))), .val (.int nL), .val (.int nE), .val (.int zl0), .val (.int zl1), .val (.int ze0), .val (.int ze1), .val (.ref b10), .val (.ref b12), .val (.ref b31), .val (.ref b42), .val (.ref b43), .val (.int (0 : Int32)), .unset, .unset] [])) _
          refine XS.iload X45.here hx rfl (hb hby at_184) rfl ?_
          show Steps p.tables e below (T45.setTop (mkF m 186 #[.val (.int p0), .val (.int p1), .val (.int p2), .val (.int p3), .val (.int p4), .val (.int (if (p4 &&& (1 : Int32)) = (0 : Int32) then (0 : Int32) else (1 : Int32))), .val (.int (if (p4 &&& (2 : Int32)) = (0 : Int32) then (0 : Int32) else (1 : Int32))), .val (.int nL), .val (.int nE), .val (.int zl0), .val (.int zl1), .val (.int ze0), .val (.int ze1), .val (.ref b10), .val (.ref b12), .val (.ref b31), .val (.ref b42), .val (.ref b43), .val (.int (0 : Int32)), .unset, .unset] [(.int nE)])) _
          refine XS.iload X45.here hx rfl (hb hby at_186) rfl ?_
          show Steps p.tables e below (T45.setTop (mkF m 188 #[.val (.int p0), .val (.int p1), .val (.int p2), .val (.int p3), .val (.int p4), .val (.int (if (p4 &&& (1 : Int32)) = (0 : Int32) then (0 : Int32) else (1 : Int32))), .val (.int (if (p4 &&& (2 : Int32)) = (0 : Int32) then (0 : Int32) else (1 : Int32))), .val (.int nL), .val (.int nE), .val (.int zl0), .val (.int zl1), .val (.int ze0), .val (.int ze1), .val (.ref b10), .val (.ref b12), .val (.ref b31), .val (.ref b42), .val (.ref b43), .val (.int (0 : Int32)), .unset, .unset] [(.int ze0), (.int nE)])) _
          refine XS.iload X45.here hx rfl (hb hby at_188) rfl ?_
          show Steps p.tables e below (T45.setTop (mkF m 190 #[.val (.int p0), .val (.int p1), .val (.int p2), .val (.int p3), .val (.int p4), .val (.int (if (p4 &&& (1 : Int32)) = (0 : Int32) then (0 : Int32) else (1 : Int32))), .val (.int (if (p4 &&& (2 : Int32)) = (0 : Int32) then (0 : Int32) else (1 : Int32))), .val (.int nL), .val (.int nE), .val (.int zl0), .val (.int zl1), .val (.int ze0), .val (.int ze1), .val (.ref b10), .val (.ref b12), .val (.ref b31), .val (.ref b42), .val (.ref b43), .val (.int (0 : Int32)), .unset, .unset] [(.int ze1), (.int ze0), (.int nE)])) _
          refine st47 _ ?_
          exact k
        by_cases hc193_9 : (own_f26 nE ze0 ze1 ) = (0 : Int32)
        · rw [if_pos hc169_8] at Fa44
          rw [if_pos hc193_9] at Fb44
          obtain ⟨cq49, kq49, q49a, q49b, q49c⟩ := isOf hZ e47 E_b43
          obtain ⟨_, _, ⟨T49, L49, k49_, n49⟩, -, X49, ⟨Lc49, hQ49, l49, y49, z49⟩, st49⟩ := X47.virtualBack hx (y := (⟨"com/example/indelible_crawl/indeliblecrawl/fetch/Validators", "isEmpty", "()Z"⟩ : MethodName)) (z := (⟨"com/example/indelible_crawl/indeliblecrawl/fetch/Validators", "isEmpty", "()Z"⟩ : MethodName)) hown (mvT hZ (hw _ (List.mem_of_getElem? (i := 67) rfl))) (mvT hZ (hw _ (List.mem_of_getElem? (i := 68) rfl))) (notFace_of_selects (args := #[]) (mvT hZ (hw _ (List.mem_of_getElem? (i := 70) rfl)))) (mvT hZ (hw _ (List.mem_of_getElem? (i := 70) rfl))) (mvT hZ (hw _ (List.mem_of_getElem? (i := 69) rfl))) (by decide) (backOf (W := 0) (rmVE_0_0 l Z a0 hw [] b43 w_E w_E  T44.heap n0 Fa44 Fb44 (E_E.ext O0.2) (F_E.ext O0.2) (E_E.ext O0.2) (F_E.ext O0.2)) hZ (hw _ (List.mem_of_getElem? (i := 71) rfl)) (hw _ (List.mem_of_getElem? (i := 33) rfl)) (by decide) (by decide)) q49a q49c (g := (mkF m 222 #[.val (.int p0), .val (.int p1), .val (.int p2), .val (.int p3), .val (.int p4), .val (.int (if (p4 &&& (1 : Int32)) = (0 : Int32) then (0 : Int32) else (1 : Int32))), .val (.int (if (p4 &&& (2 : Int32)) = (0 : Int32) then (0 : Int32) else (1 : Int32))), .val (.int nL), .val (.int nE), .val (.int zl0), .val (.int zl1), .val (.int ze0), .val (.int ze1), .val (.ref b10), .val (.ref b12), .val (.ref b31), .val (.ref b42), .val (.ref b43), .val (.int (0 : Int32)), .val (.int (0 : Int32)), .val (.int (1 : Int32))] [(.ref b43)])) rfl (by rw [hml]; rfl) (Steps.refl _) (argsL := []) (rest := []) (lenOf pd_13 rfl) rfl (by show 2 * 0 + _ ≤ _; exact Nat.le_of_eq rfl) (hb hby at_222) (fun _ _ => ⟨rfl, e47, (by decide : 19 + 0 ≤ _), (by decide : 52 + 0 ≤ _)⟩)
          dsimp only [Pt.U, Pt.locs, Pt.cells, Pt.slots] at X49 l49 y49 z49 st49 hQ49
          subst l49 y49 z49
          obtain ⟨rfl, Nq49, e49⟩ := hQ49
          have N49 := Fr.app N47 Nq49
          have k50 : ∀ t, Steps p.tables e below (T49.setTop (mkF m 235 #[.val (.int p0), .val (.int p1), .val (.int p2), .val (.int p3), .val (.int p4), .val (.int (if (p4 &&& (1 : Int32)) = (0 : Int32) then (0 : Int32) else (1 : Int32))), .val (.int (if (p4 &&& (2 : Int32)) = (0 : Int32) then (0 : Int32) else (1 : Int32))), .val (.int nL), .val (.int nE), .val (.int zl0), .val (.int zl1), .val (.int ze0), .val (.int ze1), .val (.ref b10), .val (.ref b12), .val (.ref b31), .val (.ref b42), .val (.ref b43), .val (.int (0 : Int32)), .val (.int (0 : Int32)), .val (.int (1 : Int32))] [(.int (1 : Int32))])) t → Steps p.tables e below (s₁.setTop (entryFrame m #[(.int p0), (.int p1), (.int p2), (.int p3), (.int p4)] maxLocals)) t := by
            intro t k
            refine k48 _ ?_
            show Steps p.tables e below (T47.setTop (mkF m 193 #[.val (.int p0), .val (.int p1), .val (.int p2), .val (.int p3), .val (.int p4), .val (.int (if (p4 &&& (1 : Int32)) = (0 : Int32) then (0 : Int32) else (1 : Int32))), .val (.int (if (p4 &&& (2 : Int32)) = (0 : Int32) then (0 : Int32) else (1 : Int32))), .val (.int nL), .val (.int nE), .val (.int zl0), .val (.int zl1), .val (.int ze0), .val (.int ze1), .val (.ref b10), .val (.ref b12), .val (.ref b31), .val (.ref b42), .val (.ref b43), .val (.int (0 : Int32)), .unset, .unset] [(.int (own_f26 nE ze0 ze1 ))])) _
            refine XS.ifYes X47.here hx rfl (pc0 := 193) (pc' := 200) rfl (hb hby at_193) rfl ((if0 _ _).trans (teq hc193_9).1) (by decide) (by decide) ?_
            show Steps p.tables e below (T47.setTop (mkF m 200 #[.val (.int p0), .val (.int p1), .val (.int p2), .val (.int p3), .val (.int p4), .val (.int (if (p4 &&& (1 : Int32)) = (0 : Int32) then (0 : Int32) else (1 : Int32))), .val (.int (if (p4 &&& (2 : Int32)) = (0 : Int32) then (0 : Int32) else (1 : Int32))), .val (.int nL), .val (.int nE), .val (.int zl0), .val (.int zl1), .val (.int ze0), .val (.int ze1), .val (.ref b10), .val (.ref b12), .val (.ref b31), .val (.ref b42), .val (.ref b43), .val (.int (0 : Int32)), .unset, .unset] [])) _
            refine XS.iconst X47.here hx rfl (hb hby at_200) ?_
            show Steps p.tables e below (T47.setTop (mkF m 201 #[.val (.int p0), .val (.int p1), .val (.int p2), .val (.int p3), .val (.int p4), .val (.int (if (p4 &&& (1 : Int32)) = (0 : Int32) then (0 : Int32) else (1 : Int32))), .val (.int (if (p4 &&& (2 : Int32)) = (0 : Int32) then (0 : Int32) else (1 : Int32))), .val (.int nL), .val (.int nE), .val (.int zl0), .val (.int zl1), .val (.int ze0), .val (.int ze1), .val (.ref b10), .val (.ref b12), .val (.ref b31), .val (.ref b42), .val (.ref b43), .val (.int (0 : Int32)), .unset, .unset] [(.int (0 : Int32))])) _
            refine XS.istore X47.here hx rfl (hb hby at_201) rfl (l' := #[.val (.int p0), .val (.int p1), .val (.int p2), .val (.int p3), .val (.int p4), .val (.int (if (p4 &&& (1 : Int32)) = (0 : Int32) then (0 : Int32) else (1 : Int32))), .val (.int (if (p4 &&& (2 : Int32)) = (0 : Int32) then (0 : Int32) else (1 : Int32))), .val (.int nL), .val (.int nE), .val (.int zl0), .val (.int zl1), .val (.int ze0), .val (.int ze1), .val (.ref b10), .val (.ref b12), .val (.ref b31), .val (.ref b42), .val (.ref b43), .val (.int (0 : Int32)), .val (.int (0 : Int32)), .unset]) rfl ?_
            show Steps p.tables e below (T47.setTop (mkF m 203 #[.val (.int p0), .val (.int p1), .val (.int p2), .val (.int p3), .val (.int p4), .val (.int (if (p4 &&& (1 : Int32)) = (0 : Int32) then (0 : Int32) else (1 : Int32))), .val (.int (if (p4 &&& (2 : Int32)) = (0 : Int32) then (0 : Int32) else (1 : Int32))), .val (.int nL), .val (.int nE), .val (.int zl0), .val (.int zl1), .val (.int ze0), .val (.int ze1), .val (.ref b10), .val (.ref b12), .val (.ref b31), .val (.ref b42), .val (.ref b43), .val (.int (0 : Int32)), .val (.int (0 : Int32)), .unset] [])) _
            refine XS.iload X47.here hx rfl (hb hby at_203) rfl ?_
            show Steps p.tables e below (T47.setTop (mkF m 205 #[.val (.int p0), .val (.int p1), .val (.int p2), .val (.int p3), .val (.int p4), .val (.int (if (p4 &&& (1 : Int32)) = (0 : Int32) then (0 : Int32) else (1 : Int32))), .val (.int (if (p4 &&& (2 : Int32)) = (0 : Int32) then (0 : Int32) else (1 : Int32))), .val (.int nL), .val (.int nE), .val (.int zl0), .val (.int zl1), .val (.int ze0), .val (.int ze1), .val (.ref b10), .val (.ref b12), .val (.ref b31), .val (.ref b42), .val (.ref b43), .val (.int (0 : Int32)), .val (.int (0 : Int32)), .unset] [(.int (0 : Int32))])) _
            refine XS.ifNo X47.here hx rfl (hb hby at_205) rfl ((if0 _ _).trans (teq (by decide)).2) ?_
            show Steps p.tables e below (T47.setTop (mkF m 208 #[.val (.int p0), .val (.int p1), .val (.int p2), .val (.int p3), .val (.int p4), .val (.int (if (p4 &&& (1 : Int32)) = (0 : Int32) then (0 : Int32) else (1 : Int32))), .val (.int (if (p4 &&& (2 : Int32)) = (0 : Int32) then (0 : Int32) else (1 : Int32))), .val (.int nL), .val (.int nE), .val (.int zl0), .val (.int zl1), .val (.int ze0), .val (.int ze1), .val (.ref b10), .val (.ref b12), .val (.ref b31), .val (.ref b42), .val (.ref b43), .val (.int (0 : Int32)), .val (.int (0 : Int32)), .unset] [])) _
            refine XS.iload X47.here hx rfl (hb hby at_208) rfl ?_
            show Steps p.tables e below (T47.setTop (mkF m 210 #[.val (.int p0), .val (.int p1), .val (.int p2), .val (.int p3), .val (.int p4), .val (.int (if (p4 &&& (1 : Int32)) = (0 : Int32) then (0 : Int32) else (1 : Int32))), .val (.int (if (p4 &&& (2 : Int32)) = (0 : Int32) then (0 : Int32) else (1 : Int32))), .val (.int nL), .val (.int nE), .val (.int zl0), .val (.int zl1), .val (.int ze0), .val (.int ze1), .val (.ref b10), .val (.ref b12), .val (.ref b31), .val (.ref b42), .val (.ref b43), .val (.int (0 : Int32)), .val (.int (0 : Int32)), .unset] [(.int (0 : Int32))])) _
            refine XS.ifNo X47.here hx rfl (hb hby at_210) rfl ((if0 _ _).trans (teq (by decide)).2) ?_
            show Steps p.tables e below (T47.setTop (mkF m 213 #[.val (.int p0), .val (.int p1), .val (.int p2), .val (.int p3), .val (.int p4), .val (.int (if (p4 &&& (1 : Int32)) = (0 : Int32) then (0 : Int32) else (1 : Int32))), .val (.int (if (p4 &&& (2 : Int32)) = (0 : Int32) then (0 : Int32) else (1 : Int32))), .val (.int nL), .val (.int nE), .val (.int zl0), .val (.int zl1), .val (.int ze0), .val (.int ze1), .val (.ref b10), .val (.ref b12), .val (.ref b31), .val (.ref b42), .val (.ref b43), .val (.int (0 : Int32)), .val (.int (0 : Int32)), .unset] [])) _
            refine XS.iconst X47.here hx rfl (hb hby at_213) ?_
            show Steps p.tables e below (T47.setTop (mkF m 214 #[.val (.int p0), .val (.int p1), .val (.int p2), .val (.int p3), .val (.int p4), .val (.int (if (p4 &&& (1 : Int32)) = (0 : Int32) then (0 : Int32) else (1 : Int32))), .val (.int (if (p4 &&& (2 : Int32)) = (0 : Int32) then (0 : Int32) else (1 : Int32))), .val (.int nL), .val (.int nE), .val (.int zl0), .val (.int zl1), .val (.int ze0), .val (.int ze1), .val (.ref b10), .val (.ref b12), .val (.ref b31), .val (.ref b42), .val (.ref b43), .val (.int (0 : Int32)), .val (.int (0 : Int32)), .unset] [(.int (1 : Int32))])) _
            refine XS.goto X47.here hx rfl (pc0 := 214) (pc' := 218) rfl (hb hby at_214) (by decide) (by decide) ?_
            show Steps p.tables e below (T47.setTop (mkF m 218 #[.val (.int p0), .val (.int p1), .val (.int p2), .val (.int p3), .val (.int p4), .val (.int (if (p4 &&& (1 : Int32)) = (0 : Int32) then (0 : Int32) else (1 : Int32))), .val (.int (if (p4 &&& (2 : Int32)) = (0 : Int32) then (0 : Int32) else (1 : Int32))), .val (.int nL), .val (.int nE), .val (.int zl0), .val (.int zl1), .val (.int ze0), .val (.int ze1), .val (.ref b10), .val (.ref b12), .val (.ref b31), .val (.ref b42), .val (.ref b43), .val (.int (0 : Int32)), .val (.int (0 : Int32)), .unset] [(.int (1 : Int32))])) _
            refine XS.istore X47.here hx rfl (hb hby at_218) rfl (l' := #[.val (.int p0), .val (.int p1), .val (.int p2), .val (.int p3), .val (.int p4), .val (.int (if (p4 &&& (1 : Int32)) = (0 : Int32) then (0 : Int32) else (1 : Int32))), .val (.int (if (p4 &&& (2 : Int32)) = (0 : Int32) then (0 : Int32) else (1 : Int32))), .val (.int nL), .val (.int nE), .val (.int zl0), .val (.int zl1), .val (.int ze0), .val (.int ze1), .val (.ref b10), .val (.ref b12), .val (.ref b31), .val (.ref b42), .val (.ref b43), .val (.int (0 : Int32)), .val (.int (0 : Int32)), .val (.int (1 : Int32))]) rfl ?_
            show Steps p.tables e below (T47.setTop (mkF m 220 #[.val (.int p0), .val (.int p1), .val (.int p2), .val (.int p3), .val (.int p4), .val (.int (if (p4 &&& (1 : Int32)) = (0 : Int32) then (0 : Int32) else (1 : Int32))), .val (.int (if (p4 &&& (2 : Int32)) = (0 : Int32) then (0 : Int32) else (1 : Int32))), .val (.int nL), .val (.int nE), .val (.int zl0), .val (.int zl1), .val (.int ze0), .val (.int ze1), .val (.ref b10), .val (.ref b12), .val (.ref b31), .val (.ref b42), .val (.ref b43), .val (.int (0 : Int32)), .val (.int (0 : Int32)), .val (.int (1 : Int32))] [])) _
            refine XS.aload X47.here hx rfl (hb hby at_220) rfl rfl ?_
            show Steps p.tables e below (T47.setTop (mkF m 222 #[.val (.int p0), .val (.int p1), .val (.int p2), .val (.int p3), .val (.int p4), .val (.int (if (p4 &&& (1 : Int32)) = (0 : Int32) then (0 : Int32) else (1 : Int32))), .val (.int (if (p4 &&& (2 : Int32)) = (0 : Int32) then (0 : Int32) else (1 : Int32))), .val (.int nL), .val (.int nE), .val (.int zl0), .val (.int zl1), .val (.int ze0), .val (.int ze1), .val (.ref b10), .val (.ref b12), .val (.ref b31), .val (.ref b42), .val (.ref b43), .val (.int (0 : Int32)), .val (.int (0 : Int32)), .val (.int (1 : Int32))] [(.ref b43)])) _
            refine st49.trans ?_
            show Steps p.tables e below (T49.setTop (mkF m 225 #[.val (.int p0), .val (.int p1), .val (.int p2), .val (.int p3), .val (.int p4), .val (.int (if (p4 &&& (1 : Int32)) = (0 : Int32) then (0 : Int32) else (1 : Int32))), .val (.int (if (p4 &&& (2 : Int32)) = (0 : Int32) then (0 : Int32) else (1 : Int32))), .val (.int nL), .val (.int nE), .val (.int zl0), .val (.int zl1), .val (.int ze0), .val (.int ze1), .val (.ref b10), .val (.ref b12), .val (.ref b31), .val (.ref b42), .val (.ref b43), .val (.int (0 : Int32)), .val (.int (0 : Int32)), .val (.int (1 : Int32))] [(.int (1 : Int32))])) _
            refine XS.iload X49.here hx rfl (hb hby at_225) rfl ?_
            show Steps p.tables e below (T49.setTop (mkF m 227 #[.val (.int p0), .val (.int p1), .val (.int p2), .val (.int p3), .val (.int p4), .val (.int (if (p4 &&& (1 : Int32)) = (0 : Int32) then (0 : Int32) else (1 : Int32))), .val (.int (if (p4 &&& (2 : Int32)) = (0 : Int32) then (0 : Int32) else (1 : Int32))), .val (.int nL), .val (.int nE), .val (.int zl0), .val (.int zl1), .val (.int ze0), .val (.int ze1), .val (.ref b10), .val (.ref b12), .val (.ref b31), .val (.ref b42), .val (.ref b43), .val (.int (0 : Int32)), .val (.int (0 : Int32)), .val (.int (1 : Int32))] [(.int (1 : Int32)), (.int (1 : Int32))])) _
            refine XS.icmpNo X49.here hx rfl (hb hby at_227) rfl (teq (by decide)).2 ?_
            show Steps p.tables e below (T49.setTop (mkF m 230 #[.val (.int p0), .val (.int p1), .val (.int p2), .val (.int p3), .val (.int p4), .val (.int (if (p4 &&& (1 : Int32)) = (0 : Int32) then (0 : Int32) else (1 : Int32))), .val (.int (if (p4 &&& (2 : Int32)) = (0 : Int32) then (0 : Int32) else (1 : Int32))), .val (.int nL), .val (.int nE), .val (.int zl0), .val (.int zl1), .val (.int ze0), .val (.int ze1), .val (.ref b10), .val (.ref b12), .val (.ref b31), .val (.ref b42), .val (.ref b43), .val (.int (0 : Int32)), .val (.int (0 : Int32)), .val (.int (1 : Int32))] [])) _
            refine XS.iconst X49.here hx rfl (hb hby at_230) ?_
            show Steps p.tables e below (T49.setTop (mkF m 231 #[.val (.int p0), .val (.int p1), .val (.int p2), .val (.int p3), .val (.int p4), .val (.int (if (p4 &&& (1 : Int32)) = (0 : Int32) then (0 : Int32) else (1 : Int32))), .val (.int (if (p4 &&& (2 : Int32)) = (0 : Int32) then (0 : Int32) else (1 : Int32))), .val (.int nL), .val (.int nE), .val (.int zl0), .val (.int zl1), .val (.int ze0), .val (.int ze1), .val (.ref b10), .val (.ref b12), .val (.ref b31), .val (.ref b42), .val (.ref b43), .val (.int (0 : Int32)), .val (.int (0 : Int32)), .val (.int (1 : Int32))] [(.int (1 : Int32))])) _
            refine XS.goto X49.here hx rfl (pc0 := 231) (pc' := 235) rfl (hb hby at_231) (by decide) (by decide) ?_
            exact k
          obtain ⟨fs, hr, hrun, hended, hEW⟩ := X49.leaveW hS (by rw [e49]; exact hk) (v := some (.int (1 : Int32))) (fun h => by rw [Bd.returns] at h; cases h)
          refine ⟨_, _, k50 _ ?_, hrun, hended, _, _, rfl, ?_, hEW.1, hEW.2.1, hEW.2.2.1, hEW.2.2.2.mono (by decide) (by decide)⟩
          · exact retN X49 hx (t := .boolean) Bd.returns (by simp) (hb hby at_235) hr
          · show own_R (some (.int 1)) n0 _ T49.heap _
            rw [e49]
            exact ⟨rfl, N49⟩
        · rw [if_pos hc169_8] at Fa44
          rw [if_neg hc193_9] at Fb44
          obtain ⟨cq51, kq51, q51a, q51b, q51c⟩ := isOf hZ e47 E_b43
          obtain ⟨_, _, ⟨T51, L51, k51_, n51⟩, -, X51, ⟨Lc51, hQ51, l51, y51, z51⟩, st51⟩ := X47.virtualBack hx (y := (⟨"com/example/indelible_crawl/indeliblecrawl/fetch/Validators", "isEmpty", "()Z"⟩ : MethodName)) (z := (⟨"com/example/indelible_crawl/indeliblecrawl/fetch/Validators", "isEmpty", "()Z"⟩ : MethodName)) hown (mvT hZ (hw _ (List.mem_of_getElem? (i := 67) rfl))) (mvT hZ (hw _ (List.mem_of_getElem? (i := 68) rfl))) (notFace_of_selects (args := #[]) (mvT hZ (hw _ (List.mem_of_getElem? (i := 70) rfl)))) (mvT hZ (hw _ (List.mem_of_getElem? (i := 70) rfl))) (mvT hZ (hw _ (List.mem_of_getElem? (i := 69) rfl))) (by decide) (backOf (W := 0) (rmVE_0_1 l Z a0 hw [] b43 w_E b42 b12 T44.heap n0 Fa44 Fb44 (E_E.ext O0.2) (F_E.ext O0.2) Eo42 Fo42) hZ (hw _ (List.mem_of_getElem? (i := 71) rfl)) (hw _ (List.mem_of_getElem? (i := 33) rfl)) (by decide) (by decide)) q51a q51c (g := (mkF m 222 #[.val (.int p0), .val (.int p1), .val (.int p2), .val (.int p3), .val (.int p4), .val (.int (if (p4 &&& (1 : Int32)) = (0 : Int32) then (0 : Int32) else (1 : Int32))), .val (.int (if (p4 &&& (2 : Int32)) = (0 : Int32) then (0 : Int32) else (1 : Int32))), .val (.int nL), .val (.int nE), .val (.int zl0), .val (.int zl1), .val (.int ze0), .val (.int ze1), .val (.ref b10), .val (.ref b12), .val (.ref b31), .val (.ref b42), .val (.ref b43), .val (.int (0 : Int32)), .val (.int (1 : Int32)), .val (.int (0 : Int32))] [(.ref b43)])) rfl (by rw [hml]; rfl) (Steps.refl _) (argsL := []) (rest := []) (lenOf pd_13 rfl) rfl (by show 2 * 0 + _ ≤ _; exact Nat.le_of_eq rfl) (hb hby at_222) (fun _ _ => ⟨rfl, e47, (by decide : 19 + 0 ≤ _), (by decide : 52 + 0 ≤ _)⟩)
          dsimp only [Pt.U, Pt.locs, Pt.cells, Pt.slots] at X51 l51 y51 z51 st51 hQ51
          subst l51 y51 z51
          obtain ⟨rfl, Nq51, e51⟩ := hQ51
          have N51 := Fr.app N47 Nq51
          have k52 : ∀ t, Steps p.tables e below (T51.setTop (mkF m 235 #[.val (.int p0), .val (.int p1), .val (.int p2), .val (.int p3), .val (.int p4), .val (.int (if (p4 &&& (1 : Int32)) = (0 : Int32) then (0 : Int32) else (1 : Int32))), .val (.int (if (p4 &&& (2 : Int32)) = (0 : Int32) then (0 : Int32) else (1 : Int32))), .val (.int nL), .val (.int nE), .val (.int zl0), .val (.int zl1), .val (.int ze0), .val (.int ze1), .val (.ref b10), .val (.ref b12), .val (.ref b31), .val (.ref b42), .val (.ref b43), .val (.int (0 : Int32)), .val (.int (1 : Int32)), .val (.int (0 : Int32))] [(.int (1 : Int32))])) t → Steps p.tables e below (s₁.setTop (entryFrame m #[(.int p0), (.int p1), (.int p2), (.int p3), (.int p4)] maxLocals)) t := by
            intro t k
            refine k48 _ ?_
            show Steps p.tables e below (T47.setTop (mkF m 193 #[.val (.int p0), .val (.int p1), .val (.int p2), .val (.int p3), .val (.int p4), .val (.int (if (p4 &&& (1 : Int32)) = (0 : Int32) then (0 : Int32) else (1 : Int32))), .val (.int (if (p4 &&& (2 : Int32)) = (0 : Int32) then (0 : Int32) else (1 : Int32))), .val (.int nL), .val (.int nE), .val (.int zl0), .val (.int zl1), .val (.int ze0), .val (.int ze1), .val (.ref b10), .val (.ref b12), .val (.ref b31), .val (.ref b42), .val (.ref b43), .val (.int (0 : Int32)), .unset, .unset] [(.int (own_f26 nE ze0 ze1 ))])) _
            refine XS.ifNo X47.here hx rfl (hb hby at_193) rfl ((if0 _ _).trans (feq hc193_9).1) ?_
            show Steps p.tables e below (T47.setTop (mkF m 196 #[.val (.int p0), .val (.int p1), .val (.int p2), .val (.int p3), .val (.int p4), .val (.int (if (p4 &&& (1 : Int32)) = (0 : Int32) then (0 : Int32) else (1 : Int32))), .val (.int (if (p4 &&& (2 : Int32)) = (0 : Int32) then (0 : Int32) else (1 : Int32))), .val (.int nL), .val (.int nE), .val (.int zl0), .val (.int zl1), .val (.int ze0), .val (.int ze1), .val (.ref b10), .val (.ref b12), .val (.ref b31), .val (.ref b42), .val (.ref b43), .val (.int (0 : Int32)), .unset, .unset] [])) _
            refine XS.iconst X47.here hx rfl (hb hby at_196) ?_
            show Steps p.tables e below (T47.setTop (mkF m 197 #[.val (.int p0), .val (.int p1), .val (.int p2), .val (.int p3), .val (.int p4), .val (.int (if (p4 &&& (1 : Int32)) = (0 : Int32) then (0 : Int32) else (1 : Int32))), .val (.int (if (p4 &&& (2 : Int32)) = (0 : Int32) then (0 : Int32) else (1 : Int32))), .val (.int nL), .val (.int nE), .val (.int zl0), .val (.int zl1), .val (.int ze0), .val (.int ze1), .val (.ref b10), .val (.ref b12), .val (.ref b31), .val (.ref b42), .val (.ref b43), .val (.int (0 : Int32)), .unset, .unset] [(.int (1 : Int32))])) _
            refine XS.goto X47.here hx rfl (pc0 := 197) (pc' := 201) rfl (hb hby at_197) (by decide) (by decide) ?_
            show Steps p.tables e below (T47.setTop (mkF m 201 #[.val (.int p0), .val (.int p1), .val (.int p2), .val (.int p3), .val (.int p4), .val (.int (if (p4 &&& (1 : Int32)) = (0 : Int32) then (0 : Int32) else (1 : Int32))), .val (.int (if (p4 &&& (2 : Int32)) = (0 : Int32) then (0 : Int32) else (1 : Int32))), .val (.int nL), .val (.int nE), .val (.int zl0), .val (.int zl1), .val (.int ze0), .val (.int ze1), .val (.ref b10), .val (.ref b12), .val (.ref b31), .val (.ref b42), .val (.ref b43), .val (.int (0 : Int32)), .unset, .unset] [(.int (1 : Int32))])) _
            refine XS.istore X47.here hx rfl (hb hby at_201) rfl (l' := #[.val (.int p0), .val (.int p1), .val (.int p2), .val (.int p3), .val (.int p4), .val (.int (if (p4 &&& (1 : Int32)) = (0 : Int32) then (0 : Int32) else (1 : Int32))), .val (.int (if (p4 &&& (2 : Int32)) = (0 : Int32) then (0 : Int32) else (1 : Int32))), .val (.int nL), .val (.int nE), .val (.int zl0), .val (.int zl1), .val (.int ze0), .val (.int ze1), .val (.ref b10), .val (.ref b12), .val (.ref b31), .val (.ref b42), .val (.ref b43), .val (.int (0 : Int32)), .val (.int (1 : Int32)), .unset]) rfl ?_
            show Steps p.tables e below (T47.setTop (mkF m 203 #[.val (.int p0), .val (.int p1), .val (.int p2), .val (.int p3), .val (.int p4), .val (.int (if (p4 &&& (1 : Int32)) = (0 : Int32) then (0 : Int32) else (1 : Int32))), .val (.int (if (p4 &&& (2 : Int32)) = (0 : Int32) then (0 : Int32) else (1 : Int32))), .val (.int nL), .val (.int nE), .val (.int zl0), .val (.int zl1), .val (.int ze0), .val (.int ze1), .val (.ref b10), .val (.ref b12), .val (.ref b31), .val (.ref b42), .val (.ref b43), .val (.int (0 : Int32)), .val (.int (1 : Int32)), .unset] [])) _
            refine XS.iload X47.here hx rfl (hb hby at_203) rfl ?_
            show Steps p.tables e below (T47.setTop (mkF m 205 #[.val (.int p0), .val (.int p1), .val (.int p2), .val (.int p3), .val (.int p4), .val (.int (if (p4 &&& (1 : Int32)) = (0 : Int32) then (0 : Int32) else (1 : Int32))), .val (.int (if (p4 &&& (2 : Int32)) = (0 : Int32) then (0 : Int32) else (1 : Int32))), .val (.int nL), .val (.int nE), .val (.int zl0), .val (.int zl1), .val (.int ze0), .val (.int ze1), .val (.ref b10), .val (.ref b12), .val (.ref b31), .val (.ref b42), .val (.ref b43), .val (.int (0 : Int32)), .val (.int (1 : Int32)), .unset] [(.int (0 : Int32))])) _
            refine XS.ifNo X47.here hx rfl (hb hby at_205) rfl ((if0 _ _).trans (teq (by decide)).2) ?_
            show Steps p.tables e below (T47.setTop (mkF m 208 #[.val (.int p0), .val (.int p1), .val (.int p2), .val (.int p3), .val (.int p4), .val (.int (if (p4 &&& (1 : Int32)) = (0 : Int32) then (0 : Int32) else (1 : Int32))), .val (.int (if (p4 &&& (2 : Int32)) = (0 : Int32) then (0 : Int32) else (1 : Int32))), .val (.int nL), .val (.int nE), .val (.int zl0), .val (.int zl1), .val (.int ze0), .val (.int ze1), .val (.ref b10), .val (.ref b12), .val (.ref b31), .val (.ref b42), .val (.ref b43), .val (.int (0 : Int32)), .val (.int (1 : Int32)), .unset] [])) _
            refine XS.iload X47.here hx rfl (hb hby at_208) rfl ?_
            show Steps p.tables e below (T47.setTop (mkF m 210 #[.val (.int p0), .val (.int p1), .val (.int p2), .val (.int p3), .val (.int p4), .val (.int (if (p4 &&& (1 : Int32)) = (0 : Int32) then (0 : Int32) else (1 : Int32))), .val (.int (if (p4 &&& (2 : Int32)) = (0 : Int32) then (0 : Int32) else (1 : Int32))), .val (.int nL), .val (.int nE), .val (.int zl0), .val (.int zl1), .val (.int ze0), .val (.int ze1), .val (.ref b10), .val (.ref b12), .val (.ref b31), .val (.ref b42), .val (.ref b43), .val (.int (0 : Int32)), .val (.int (1 : Int32)), .unset] [(.int (1 : Int32))])) _
            refine XS.ifYes X47.here hx rfl (pc0 := 210) (pc' := 217) rfl (hb hby at_210) rfl ((if0 _ _).trans (feq (by decide)).2) (by decide) (by decide) ?_
            show Steps p.tables e below (T47.setTop (mkF m 217 #[.val (.int p0), .val (.int p1), .val (.int p2), .val (.int p3), .val (.int p4), .val (.int (if (p4 &&& (1 : Int32)) = (0 : Int32) then (0 : Int32) else (1 : Int32))), .val (.int (if (p4 &&& (2 : Int32)) = (0 : Int32) then (0 : Int32) else (1 : Int32))), .val (.int nL), .val (.int nE), .val (.int zl0), .val (.int zl1), .val (.int ze0), .val (.int ze1), .val (.ref b10), .val (.ref b12), .val (.ref b31), .val (.ref b42), .val (.ref b43), .val (.int (0 : Int32)), .val (.int (1 : Int32)), .unset] [])) _
            refine XS.iconst X47.here hx rfl (hb hby at_217) ?_
            show Steps p.tables e below (T47.setTop (mkF m 218 #[.val (.int p0), .val (.int p1), .val (.int p2), .val (.int p3), .val (.int p4), .val (.int (if (p4 &&& (1 : Int32)) = (0 : Int32) then (0 : Int32) else (1 : Int32))), .val (.int (if (p4 &&& (2 : Int32)) = (0 : Int32) then (0 : Int32) else (1 : Int32))), .val (.int nL), .val (.int nE), .val (.int zl0), .val (.int zl1), .val (.int ze0), .val (.int ze1), .val (.ref b10), .val (.ref b12), .val (.ref b31), .val (.ref b42), .val (.ref b43), .val (.int (0 : Int32)), .val (.int (1 : Int32)), .unset] [(.int (0 : Int32))])) _
            refine XS.istore X47.here hx rfl (hb hby at_218) rfl (l' := #[.val (.int p0), .val (.int p1), .val (.int p2), .val (.int p3), .val (.int p4), .val (.int (if (p4 &&& (1 : Int32)) = (0 : Int32) then (0 : Int32) else (1 : Int32))), .val (.int (if (p4 &&& (2 : Int32)) = (0 : Int32) then (0 : Int32) else (1 : Int32))), .val (.int nL), .val (.int nE), .val (.int zl0), .val (.int zl1), .val (.int ze0), .val (.int ze1), .val (.ref b10), .val (.ref b12), .val (.ref b31), .val (.ref b42), .val (.ref b43), .val (.int (0 : Int32)), .val (.int (1 : Int32)), .val (.int (0 : Int32))]) rfl ?_
            show Steps p.tables e below (T47.setTop (mkF m 220 #[.val (.int p0), .val (.int p1), .val (.int p2), .val (.int p3), .val (.int p4), .val (.int (if (p4 &&& (1 : Int32)) = (0 : Int32) then (0 : Int32) else (1 : Int32))), .val (.int (if (p4 &&& (2 : Int32)) = (0 : Int32) then (0 : Int32) else (1 : Int32))), .val (.int nL), .val (.int nE), .val (.int zl0), .val (.int zl1), .val (.int ze0), .val (.int ze1), .val (.ref b10), .val (.ref b12), .val (.ref b31), .val (.ref b42), .val (.ref b43), .val (.int (0 : Int32)), .val (.int (1 : Int32)), .val (.int (0 : Int32))] [])) _
            refine XS.aload X47.here hx rfl (hb hby at_220) rfl rfl ?_
            show Steps p.tables e below (T47.setTop (mkF m 222 #[.val (.int p0), .val (.int p1), .val (.int p2), .val (.int p3), .val (.int p4), .val (.int (if (p4 &&& (1 : Int32)) = (0 : Int32) then (0 : Int32) else (1 : Int32))), .val (.int (if (p4 &&& (2 : Int32)) = (0 : Int32) then (0 : Int32) else (1 : Int32))), .val (.int nL), .val (.int nE), .val (.int zl0), .val (.int zl1), .val (.int ze0), .val (.int ze1), .val (.ref b10), .val (.ref b12), .val (.ref b31), .val (.ref b42), .val (.ref b43), .val (.int (0 : Int32)), .val (.int (1 : Int32)), .val (.int (0 : Int32))] [(.ref b43)])) _
            refine st51.trans ?_
            show Steps p.tables e below (T51.setTop (mkF m 225 #[.val (.int p0), .val (.int p1), .val (.int p2), .val (.int p3), .val (.int p4), .val (.int (if (p4 &&& (1 : Int32)) = (0 : Int32) then (0 : Int32) else (1 : Int32))), .val (.int (if (p4 &&& (2 : Int32)) = (0 : Int32) then (0 : Int32) else (1 : Int32))), .val (.int nL), .val (.int nE), .val (.int zl0), .val (.int zl1), .val (.int ze0), .val (.int ze1), .val (.ref b10), .val (.ref b12), .val (.ref b31), .val (.ref b42), .val (.ref b43), .val (.int (0 : Int32)), .val (.int (1 : Int32)), .val (.int (0 : Int32))] [(.int (0 : Int32))])) _
            refine XS.iload X51.here hx rfl (hb hby at_225) rfl ?_
            show Steps p.tables e below (T51.setTop (mkF m 227 #[.val (.int p0), .val (.int p1), .val (.int p2), .val (.int p3), .val (.int p4), .val (.int (if (p4 &&& (1 : Int32)) = (0 : Int32) then (0 : Int32) else (1 : Int32))), .val (.int (if (p4 &&& (2 : Int32)) = (0 : Int32) then (0 : Int32) else (1 : Int32))), .val (.int nL), .val (.int nE), .val (.int zl0), .val (.int zl1), .val (.int ze0), .val (.int ze1), .val (.ref b10), .val (.ref b12), .val (.ref b31), .val (.ref b42), .val (.ref b43), .val (.int (0 : Int32)), .val (.int (1 : Int32)), .val (.int (0 : Int32))] [(.int (0 : Int32)), (.int (0 : Int32))])) _
            refine XS.icmpNo X51.here hx rfl (hb hby at_227) rfl (teq (by decide)).2 ?_
            show Steps p.tables e below (T51.setTop (mkF m 230 #[.val (.int p0), .val (.int p1), .val (.int p2), .val (.int p3), .val (.int p4), .val (.int (if (p4 &&& (1 : Int32)) = (0 : Int32) then (0 : Int32) else (1 : Int32))), .val (.int (if (p4 &&& (2 : Int32)) = (0 : Int32) then (0 : Int32) else (1 : Int32))), .val (.int nL), .val (.int nE), .val (.int zl0), .val (.int zl1), .val (.int ze0), .val (.int ze1), .val (.ref b10), .val (.ref b12), .val (.ref b31), .val (.ref b42), .val (.ref b43), .val (.int (0 : Int32)), .val (.int (1 : Int32)), .val (.int (0 : Int32))] [])) _
            refine XS.iconst X51.here hx rfl (hb hby at_230) ?_
            show Steps p.tables e below (T51.setTop (mkF m 231 #[.val (.int p0), .val (.int p1), .val (.int p2), .val (.int p3), .val (.int p4), .val (.int (if (p4 &&& (1 : Int32)) = (0 : Int32) then (0 : Int32) else (1 : Int32))), .val (.int (if (p4 &&& (2 : Int32)) = (0 : Int32) then (0 : Int32) else (1 : Int32))), .val (.int nL), .val (.int nE), .val (.int zl0), .val (.int zl1), .val (.int ze0), .val (.int ze1), .val (.ref b10), .val (.ref b12), .val (.ref b31), .val (.ref b42), .val (.ref b43), .val (.int (0 : Int32)), .val (.int (1 : Int32)), .val (.int (0 : Int32))] [(.int (1 : Int32))])) _
            refine XS.goto X51.here hx rfl (pc0 := 231) (pc' := 235) rfl (hb hby at_231) (by decide) (by decide) ?_
            exact k
          obtain ⟨fs, hr, hrun, hended, hEW⟩ := X51.leaveW hS (by rw [e51]; exact hk) (v := some (.int (1 : Int32))) (fun h => by rw [Bd.returns] at h; cases h)
          refine ⟨_, _, k52 _ ?_, hrun, hended, _, _, rfl, ?_, hEW.1, hEW.2.1, hEW.2.2.1, hEW.2.2.2.mono (by decide) (by decide)⟩
          · exact retN X51 hx (t := .boolean) Bd.returns (by simp) (hb hby at_235) hr
          · show own_R (some (.int 1)) n0 _ T51.heap _
            rw [e51]
            exact ⟨rfl, N51⟩
      · obtain ⟨_, _, ⟨T53, L53, k53_, n53⟩, -, X53, ⟨Lc53, hQ53, l53, y53, z53⟩, st53⟩ := Jvm.LawKit.callS X45 hx (y := (⟨"com/example/indelible_crawl/indeliblecrawl/fetch/ValidatorsIsEmptyPinLaw", "sendable", "(ICC)Z"⟩ : MethodName)) hown (mvT hZ (hw _ (List.mem_of_getElem? (i := 135) rfl))) (mvT hZ (hw _ (List.mem_of_getElem? (i := 136) rfl))) (mvT hZ (hw _ (List.mem_of_getElem? (i := 2) rfl))) (mvT hZ (hw _ (List.mem_of_getElem? (i := 137) rfl))) (by decide) (backOf (W := 0) (rm26 l Z a0 hw [] nE ze0 ze1 T44.heap n0 ) hZ (hw _ (List.mem_of_getElem? (i := 137) rfl)) (hw _ (List.mem_of_getElem? (i := 2) rfl)) (by decide) (by decide)) (g := (mkF m 190 #[.val (.int p0), .val (.int p1), .val (.int p2), .val (.int p3), .val (.int p4), .val (.int (if (p4 &&& (1 : Int32)) = (0 : Int32) then (0 : Int32) else (1 : Int32))), .val (.int (if (p4 &&& (2 : Int32)) = (0 : Int32) then (0 : Int32) else (1 : Int32))), .val (.int nL), .val (.int nE), .val (.int zl0), .val (.int zl1), .val (.int ze0), .val (.int ze1), .val (.ref b10), .val (.ref b12), .val (.ref b31), .val (.ref b42), .val (.ref b43), .val (.int (1 : Int32)), .unset, .unset] [(.int ze1), (.int ze0), (.int nE)])) rfl (by rw [hml]; rfl) (argsL := [(.int nE), (.int ze0), (.int ze1)]) (rest := []) (lenOf pd_26 rfl) rfl (by show 2 * 0 + _ ≤ _; exact Nat.le_of_eq rfl) (hb hby at_190) (fun _ _ => ⟨rfl, e45, (by decide : 19 + 0 ≤ _), (by decide : 52 + 0 ≤ _)⟩)
        dsimp only [Pt.U, Pt.locs, Pt.cells, Pt.slots] at X53 l53 y53 z53 st53 hQ53
        subst l53 y53 z53
        obtain ⟨rfl, Nq53, e53⟩ := hQ53
        have N53 := Fr.app N45 Nq53
        have k54 : ∀ t, Steps p.tables e below (T53.setTop (mkF m 193 #[.val (.int p0), .val (.int p1), .val (.int p2), .val (.int p3), .val (.int p4), .val (.int (if (p4 &&& (1 : Int32)) = (0 : Int32) then (0 : Int32) else (1 : Int32))), .val (.int (if (p4 &&& (2 : Int32)) = (0 : Int32) then (0 : Int32) else (1 : Int32))), .val (.int nL), .val (.int nE), .val (.int zl0), .val (.int zl1), .val (.int ze0), .val (.int ze1), .val (.ref b10), .val (.ref b12), .val (.ref b31), .val (.ref b42), .val (.ref b43), .val (.int (1 : Int32)), .unset, .unset] [(.int (own_f26 nE ze0 ze1 ))])) t → Steps p.tables e below (s₁.setTop (entryFrame m #[(.int p0), (.int p1), (.int p2), (.int p3), (.int p4)] maxLocals)) t := by
          intro t k
          refine k46 _ ?_
          show Steps p.tables e below (T45.setTop (mkF m 169 #[.val (.int p0), .val (.int p1), .val (.int p2), .val (.int p3), .val (.int p4), .val (.int (if (p4 &&& (1 : Int32)) = (0 : Int32) then (0 : Int32) else (1 : Int32))), .val (.int (if (p4 &&& (2 : Int32)) = (0 : Int32) then (0 : Int32) else (1 : Int32))), .val (.int nL), .val (.int nE), .val (.int zl0), .val (.int zl1), .val (.int ze0), .val (.int ze1), .val (.ref b10), .val (.ref b12), .val (.ref b31), .val (.ref b42), .val (.ref b43), .unset, .unset, .unset] [(.int (own_f26 nL zl0 zl1 ))])) _
          refine XS.ifNo X45.here hx rfl (hb hby at_169) rfl ((if0 _ _).trans (feq hc169_8).1) ?_
          show Steps p.tables e below (T45.setTop (mkF m 172 #[.val (.int p0), .val (.int p1), .val (.int p2), .val (.int p3), .val (.int p4), .val (.int (if (p4 &&& (1 : Int32)) = (0 : Int32) then (0 : Int32) else (1 : Int32))), .val (.int (if (p4 &&& (2 : Int32)) = (0 : Int32) then (0 : Int32) else (1 : Int32))), .val (.int nL), .val (.int nE), .val (.int zl0), .val (.int zl1), .val (.int ze0), .val (.int ze1), .val (.ref b10), .val (.ref b12), .val (.ref b31), .val (.ref b42), .val (.ref b43), .unset, .unset, .unset] [])) _
          refine XS.iconst X45.here hx rfl (hb hby at_172) ?_
          show Steps p.tables e below (T45.setTop (mkF m 173 #[.val (.int p0), .val (.int p1), .val (.int p2), .val (.int p3), .val (.int p4), .val (.int (if (p4 &&& (1 : Int32)) = (0 : Int32) then (0 : Int32) else (1 : Int32))), .val (.int (if (p4 &&& (2 : Int32)) = (0 : Int32) then (0 : Int32) else (1 : Int32))), .val (.int nL), .val (.int nE), .val (.int zl0), .val (.int zl1), .val (.int ze0), .val (.int ze1), .val (.ref b10), .val (.ref b12), .val (.ref b31), .val (.ref b42), .val (.ref b43), .unset, .unset, .unset] [(.int (1 : Int32))])) _
          refine XS.goto X45.here hx rfl (pc0 := 173) (pc' := 177) rfl (hb hby at_173) (by decide) (by decide) ?_
          show Steps p.tables e below (T45.setTop (mkF m 177 #[.val (.int p0), .val (.int p1), .val (.int p2), .val (.int p3), .val (.int p4), .val (.int (if (p4 &&& (1 : Int32)) = (0 : Int32) then (0 : Int32) else (1 : Int32))), .val (.int (if (p4 &&& (2 : Int32)) = (0 : Int32) then (0 : Int32) else (1 : Int32))), .val (.int nL), .val (.int nE), .val (.int zl0), .val (.int zl1), .val (.int ze0), .val (.int ze1), .val (.ref b10), .val (.ref b12), .val (.ref b31), .val (.ref b42), .val (.ref b43), .unset, .unset, .unset] [(.int (1 : Int32))])) _
          refine XS.istore X45.here hx rfl (hb hby at_177) rfl (l' := #[.val (.int p0), .val (.int p1), .val (.int p2), .val (.int p3), .val (.int p4), .val (.int (if (p4 &&& (1 : Int32)) = (0 : Int32) then (0 : Int32) else (1 : Int32))), .val (.int (if (p4 &&& (2 : Int32)) = (0 : Int32) then (0 : Int32) else (1 : Int32))), .val (.int nL), .val (.int nE), .val (.int zl0), .val (.int zl1), .val (.int ze0), .val (.int ze1), .val (.ref b10), .val (.ref b12), .val (.ref b31), .val (.ref b42), .val (.ref b43), .val (.int (1 : Int32)), .unset, .unset]) rfl ?_
          show Steps p.tables e below (T45.setTop (mkF m 179 #[.val (.int p0), .val (.int p1), .val (.int p2), .val (.int p3), .val (.int p4), .val (.int (if (p4 &&& (1 : Int32)) = (0 : Int32) then (0 : Int32) else (1 : Int32))), .val (.int (if (p4 &&& (2 : Int32)) = (0 : Int32) then (0 : Int32) else (1 : Int32))), .val (.int nL), .val (.int nE), .val (.int zl0), .val (.int zl1), .val (.int ze0), .val (.int ze1), .val (.ref b10), .val (.ref b12), .val (.ref b31), .val (.ref b42), .val (.ref b43), .val (.int (1 : Int32)), .unset, .unset] [])) _
          refine XS.iload X45.here hx rfl (hb hby at_179) rfl ?_
          show Steps p.tables e below (T45.setTop (mkF m 181 #[.val (.int p0), .val (.int p1), .val (.int p2), .val (.int p3), .val (.int p4), .val (.int (if (p4 &&& (1 : Int32)) = (0 : Int32) then (0 : Int32) else (1 : Int32))), .val (.int (if (p4 &&& (2 : Int32)) = (0 : Int32) then (0 : Int32) else (1 : Int32))), .val (.int nL), .val (.int nE), .val (.int zl0), .val (.int zl1), .val (.int ze0), .val (.int ze1), .val (.ref b10), .val (.ref b12), .val (.ref b31), .val (.ref b42), .val (.ref b43), .val (.int (1 : Int32)), .unset, .unset] [(.int (if (p4 &&& (2 : Int32)) = (0 : Int32) then (0 : Int32) else (1 : Int32)))])) _
          refine XS.ifNo X45.here hx rfl (hb hby at_181) rfl ((if0 _ _).trans (feq hc124_6).1) ?_
          show Steps p.tables e below (T45.setTop (mkF m 184 #[.val (.int p0), .val (.int p1), .val (.int p2), .val (.int p3), .val (.int p4), .val (.int (if (p4 &&& (1 : Int32)) = (0 : Int32) then (0 : Int32) else (1 : Int32))), .val (.int (if (p4 &&& (2 : Int32)) = (0 : Int32) then (0 : Int32) else (1 : Int32))), .val (.int nL), .val (.int nE), .val (.int zl0), .val (.int zl1), .val (.int ze0), .val (.int ze1), .val (.ref b10), .val (.ref b12), .val (.ref b31), .val (.ref b42), .val (.ref b43), .val (.int (1 : Int32)), .unset, .unset] [])) _
          refine XS.iload X45.here hx rfl (hb hby at_184) rfl ?_
          show Steps p.tables e below (T45.setTop (mkF m 186 #[.val (.int p0), .val (.int p1), .val (.int p2), .val (.int p3), .val (.int p4), .val (.int (if (p4 &&& (1 : Int32)) = (0 : Int32) then (0 : Int32) else (1 : Int32))), .val (.int (if (p4 &&& (2 : Int32)) = (0 : Int32) then (0 : Int32) else (1 : Int32))), .val (.int nL), .val (.int nE), .val (.int zl0), .val (.int zl1), .val (.int ze0), .val (.int ze1), .val (.ref b10), .val (.ref b12), .val (.ref b31), .val (.ref b42), .val (.ref b43), .val (.int (1 : Int32)), .unset, .unset] [(.int nE)])) _
          refine XS.iload X45.here hx rfl (hb hby at_186) rfl ?_
          show Steps p.tables e below (T45.setTop (mkF m 188 #[.val (.int p0), .val (.int p1), .val (.int p2), .val (.int p3), .val (.int p4), .val (.int (if (p4 &&& (1 : Int32)) = (0 : Int32) then (0 : Int32) else (1 : Int32))), .val (.int (if (p4 &&& (2 : Int32)) = (0 : Int32) then (0 : Int32) else (1 : Int32))), .val (.int nL), .val (.int nE), .val (.int zl0), .val (.int zl1), .val (.int ze0), .val (.int ze1), .val (.ref b10), .val (.ref b12), .val (.ref b31), .val (.ref b42), .val (.ref b43), .val (.int (1 : Int32)), .unset, .unset] [(.int ze0), (.int nE)])) _
          refine XS.iload X45.here hx rfl (hb hby at_188) rfl ?_
          show Steps p.tables e below (T45.setTop (mkF m 190 #[.val (.int p0), .val (.int p1), .val (.int p2), .val (.int p3), .val (.int p4), .val (.int (if (p4 &&& (1 : Int32)) = (0 : Int32) then (0 : Int32) else (1 : Int32))), .val (.int (if (p4 &&& (2 : Int32)) = (0 : Int32) then (0 : Int32) else (1 : Int32))), .val (.int nL), .val (.int nE), .val (.int zl0), .val (.int zl1), .val (.int ze0), .val (.int ze1), .val (.ref b10), .val (.ref b12), .val (.ref b31), .val (.ref b42), .val (.ref b43), .val (.int (1 : Int32)), .unset, .unset] [(.int ze1), (.int ze0), (.int nE)])) _
          refine st53 _ ?_
          exact k
        by_cases hc193_10 : (own_f26 nE ze0 ze1 ) = (0 : Int32)
        · rw [if_neg hc169_8] at Fa44
          rw [if_pos hc193_10] at Fb44
          obtain ⟨cq55, kq55, q55a, q55b, q55c⟩ := isOf hZ e53 E_b43
          obtain ⟨_, _, ⟨T55, L55, k55_, n55⟩, -, X55, ⟨Lc55, hQ55, l55, y55, z55⟩, st55⟩ := X53.virtualBack hx (y := (⟨"com/example/indelible_crawl/indeliblecrawl/fetch/Validators", "isEmpty", "()Z"⟩ : MethodName)) (z := (⟨"com/example/indelible_crawl/indeliblecrawl/fetch/Validators", "isEmpty", "()Z"⟩ : MethodName)) hown (mvT hZ (hw _ (List.mem_of_getElem? (i := 67) rfl))) (mvT hZ (hw _ (List.mem_of_getElem? (i := 68) rfl))) (notFace_of_selects (args := #[]) (mvT hZ (hw _ (List.mem_of_getElem? (i := 70) rfl)))) (mvT hZ (hw _ (List.mem_of_getElem? (i := 70) rfl))) (mvT hZ (hw _ (List.mem_of_getElem? (i := 69) rfl))) (by decide) (backOf (W := 0) (rmVE_1_0 l Z a0 hw [] b43 b31 w_E b10 T44.heap n0 Fa44 Fb44 Eo31 Fo31 (E_E.ext O0.2) (F_E.ext O0.2)) hZ (hw _ (List.mem_of_getElem? (i := 71) rfl)) (hw _ (List.mem_of_getElem? (i := 33) rfl)) (by decide) (by decide)) q55a q55c (g := (mkF m 222 #[.val (.int p0), .val (.int p1), .val (.int p2), .val (.int p3), .val (.int p4), .val (.int (if (p4 &&& (1 : Int32)) = (0 : Int32) then (0 : Int32) else (1 : Int32))), .val (.int (if (p4 &&& (2 : Int32)) = (0 : Int32) then (0 : Int32) else (1 : Int32))), .val (.int nL), .val (.int nE), .val (.int zl0), .val (.int zl1), .val (.int ze0), .val (.int ze1), .val (.ref b10), .val (.ref b12), .val (.ref b31), .val (.ref b42), .val (.ref b43), .val (.int (1 : Int32)), .val (.int (0 : Int32)), .val (.int (0 : Int32))] [(.ref b43)])) rfl (by rw [hml]; rfl) (Steps.refl _) (argsL := []) (rest := []) (lenOf pd_13 rfl) rfl (by show 2 * 0 + _ ≤ _; exact Nat.le_of_eq rfl) (hb hby at_222) (fun _ _ => ⟨rfl, e53, (by decide : 19 + 0 ≤ _), (by decide : 52 + 0 ≤ _)⟩)
          dsimp only [Pt.U, Pt.locs, Pt.cells, Pt.slots] at X55 l55 y55 z55 st55 hQ55
          subst l55 y55 z55
          obtain ⟨rfl, Nq55, e55⟩ := hQ55
          have N55 := Fr.app N53 Nq55
          have k56 : ∀ t, Steps p.tables e below (T55.setTop (mkF m 235 #[.val (.int p0), .val (.int p1), .val (.int p2), .val (.int p3), .val (.int p4), .val (.int (if (p4 &&& (1 : Int32)) = (0 : Int32) then (0 : Int32) else (1 : Int32))), .val (.int (if (p4 &&& (2 : Int32)) = (0 : Int32) then (0 : Int32) else (1 : Int32))), .val (.int nL), .val (.int nE), .val (.int zl0), .val (.int zl1), .val (.int ze0), .val (.int ze1), .val (.ref b10), .val (.ref b12), .val (.ref b31), .val (.ref b42), .val (.ref b43), .val (.int (1 : Int32)), .val (.int (0 : Int32)), .val (.int (0 : Int32))] [(.int (1 : Int32))])) t → Steps p.tables e below (s₁.setTop (entryFrame m #[(.int p0), (.int p1), (.int p2), (.int p3), (.int p4)] maxLocals)) t := by
            intro t k
            refine k54 _ ?_
            show Steps p.tables e below (T53.setTop (mkF m 193 #[.val (.int p0), .val (.int p1), .val (.int p2), .val (.int p3), .val (.int p4), .val (.int (if (p4 &&& (1 : Int32)) = (0 : Int32) then (0 : Int32) else (1 : Int32))), .val (.int (if (p4 &&& (2 : Int32)) = (0 : Int32) then (0 : Int32) else (1 : Int32))), .val (.int nL), .val (.int nE), .val (.int zl0), .val (.int zl1), .val (.int ze0), .val (.int ze1), .val (.ref b10), .val (.ref b12), .val (.ref b31), .val (.ref b42), .val (.ref b43), .val (.int (1 : Int32)), .unset, .unset] [(.int (own_f26 nE ze0 ze1 ))])) _
            refine XS.ifYes X53.here hx rfl (pc0 := 193) (pc' := 200) rfl (hb hby at_193) rfl ((if0 _ _).trans (teq hc193_10).1) (by decide) (by decide) ?_
            show Steps p.tables e below (T53.setTop (mkF m 200 #[.val (.int p0), .val (.int p1), .val (.int p2), .val (.int p3), .val (.int p4), .val (.int (if (p4 &&& (1 : Int32)) = (0 : Int32) then (0 : Int32) else (1 : Int32))), .val (.int (if (p4 &&& (2 : Int32)) = (0 : Int32) then (0 : Int32) else (1 : Int32))), .val (.int nL), .val (.int nE), .val (.int zl0), .val (.int zl1), .val (.int ze0), .val (.int ze1), .val (.ref b10), .val (.ref b12), .val (.ref b31), .val (.ref b42), .val (.ref b43), .val (.int (1 : Int32)), .unset, .unset] [])) _
            refine XS.iconst X53.here hx rfl (hb hby at_200) ?_
            show Steps p.tables e below (T53.setTop (mkF m 201 #[.val (.int p0), .val (.int p1), .val (.int p2), .val (.int p3), .val (.int p4), .val (.int (if (p4 &&& (1 : Int32)) = (0 : Int32) then (0 : Int32) else (1 : Int32))), .val (.int (if (p4 &&& (2 : Int32)) = (0 : Int32) then (0 : Int32) else (1 : Int32))), .val (.int nL), .val (.int nE), .val (.int zl0), .val (.int zl1), .val (.int ze0), .val (.int ze1), .val (.ref b10), .val (.ref b12), .val (.ref b31), .val (.ref b42), .val (.ref b43), .val (.int (1 : Int32)), .unset, .unset] [(.int (0 : Int32))])) _
            refine XS.istore X53.here hx rfl (hb hby at_201) rfl (l' := #[.val (.int p0), .val (.int p1), .val (.int p2), .val (.int p3), .val (.int p4), .val (.int (if (p4 &&& (1 : Int32)) = (0 : Int32) then (0 : Int32) else (1 : Int32))), .val (.int (if (p4 &&& (2 : Int32)) = (0 : Int32) then (0 : Int32) else (1 : Int32))), .val (.int nL), .val (.int nE), .val (.int zl0), .val (.int zl1), .val (.int ze0), .val (.int ze1), .val (.ref b10), .val (.ref b12), .val (.ref b31), .val (.ref b42), .val (.ref b43), .val (.int (1 : Int32)), .val (.int (0 : Int32)), .unset]) rfl ?_
            show Steps p.tables e below (T53.setTop (mkF m 203 #[.val (.int p0), .val (.int p1), .val (.int p2), .val (.int p3), .val (.int p4), .val (.int (if (p4 &&& (1 : Int32)) = (0 : Int32) then (0 : Int32) else (1 : Int32))), .val (.int (if (p4 &&& (2 : Int32)) = (0 : Int32) then (0 : Int32) else (1 : Int32))), .val (.int nL), .val (.int nE), .val (.int zl0), .val (.int zl1), .val (.int ze0), .val (.int ze1), .val (.ref b10), .val (.ref b12), .val (.ref b31), .val (.ref b42), .val (.ref b43), .val (.int (1 : Int32)), .val (.int (0 : Int32)), .unset] [])) _
            refine XS.iload X53.here hx rfl (hb hby at_203) rfl ?_
            show Steps p.tables e below (T53.setTop (mkF m 205 #[.val (.int p0), .val (.int p1), .val (.int p2), .val (.int p3), .val (.int p4), .val (.int (if (p4 &&& (1 : Int32)) = (0 : Int32) then (0 : Int32) else (1 : Int32))), .val (.int (if (p4 &&& (2 : Int32)) = (0 : Int32) then (0 : Int32) else (1 : Int32))), .val (.int nL), .val (.int nE), .val (.int zl0), .val (.int zl1), .val (.int ze0), .val (.int ze1), .val (.ref b10), .val (.ref b12), .val (.ref b31), .val (.ref b42), .val (.ref b43), .val (.int (1 : Int32)), .val (.int (0 : Int32)), .unset] [(.int (1 : Int32))])) _
            refine XS.ifYes X53.here hx rfl (pc0 := 205) (pc' := 217) rfl (hb hby at_205) rfl ((if0 _ _).trans (feq (by decide)).2) (by decide) (by decide) ?_
            show Steps p.tables e below (T53.setTop (mkF m 217 #[.val (.int p0), .val (.int p1), .val (.int p2), .val (.int p3), .val (.int p4), .val (.int (if (p4 &&& (1 : Int32)) = (0 : Int32) then (0 : Int32) else (1 : Int32))), .val (.int (if (p4 &&& (2 : Int32)) = (0 : Int32) then (0 : Int32) else (1 : Int32))), .val (.int nL), .val (.int nE), .val (.int zl0), .val (.int zl1), .val (.int ze0), .val (.int ze1), .val (.ref b10), .val (.ref b12), .val (.ref b31), .val (.ref b42), .val (.ref b43), .val (.int (1 : Int32)), .val (.int (0 : Int32)), .unset] [])) _
            refine XS.iconst X53.here hx rfl (hb hby at_217) ?_
            show Steps p.tables e below (T53.setTop (mkF m 218 #[.val (.int p0), .val (.int p1), .val (.int p2), .val (.int p3), .val (.int p4), .val (.int (if (p4 &&& (1 : Int32)) = (0 : Int32) then (0 : Int32) else (1 : Int32))), .val (.int (if (p4 &&& (2 : Int32)) = (0 : Int32) then (0 : Int32) else (1 : Int32))), .val (.int nL), .val (.int nE), .val (.int zl0), .val (.int zl1), .val (.int ze0), .val (.int ze1), .val (.ref b10), .val (.ref b12), .val (.ref b31), .val (.ref b42), .val (.ref b43), .val (.int (1 : Int32)), .val (.int (0 : Int32)), .unset] [(.int (0 : Int32))])) _
            refine XS.istore X53.here hx rfl (hb hby at_218) rfl (l' := #[.val (.int p0), .val (.int p1), .val (.int p2), .val (.int p3), .val (.int p4), .val (.int (if (p4 &&& (1 : Int32)) = (0 : Int32) then (0 : Int32) else (1 : Int32))), .val (.int (if (p4 &&& (2 : Int32)) = (0 : Int32) then (0 : Int32) else (1 : Int32))), .val (.int nL), .val (.int nE), .val (.int zl0), .val (.int zl1), .val (.int ze0), .val (.int ze1), .val (.ref b10), .val (.ref b12), .val (.ref b31), .val (.ref b42), .val (.ref b43), .val (.int (1 : Int32)), .val (.int (0 : Int32)), .val (.int (0 : Int32))]) rfl ?_
            show Steps p.tables e below (T53.setTop (mkF m 220 #[.val (.int p0), .val (.int p1), .val (.int p2), .val (.int p3), .val (.int p4), .val (.int (if (p4 &&& (1 : Int32)) = (0 : Int32) then (0 : Int32) else (1 : Int32))), .val (.int (if (p4 &&& (2 : Int32)) = (0 : Int32) then (0 : Int32) else (1 : Int32))), .val (.int nL), .val (.int nE), .val (.int zl0), .val (.int zl1), .val (.int ze0), .val (.int ze1), .val (.ref b10), .val (.ref b12), .val (.ref b31), .val (.ref b42), .val (.ref b43), .val (.int (1 : Int32)), .val (.int (0 : Int32)), .val (.int (0 : Int32))] [])) _
            refine XS.aload X53.here hx rfl (hb hby at_220) rfl rfl ?_
            show Steps p.tables e below (T53.setTop (mkF m 222 #[.val (.int p0), .val (.int p1), .val (.int p2), .val (.int p3), .val (.int p4), .val (.int (if (p4 &&& (1 : Int32)) = (0 : Int32) then (0 : Int32) else (1 : Int32))), .val (.int (if (p4 &&& (2 : Int32)) = (0 : Int32) then (0 : Int32) else (1 : Int32))), .val (.int nL), .val (.int nE), .val (.int zl0), .val (.int zl1), .val (.int ze0), .val (.int ze1), .val (.ref b10), .val (.ref b12), .val (.ref b31), .val (.ref b42), .val (.ref b43), .val (.int (1 : Int32)), .val (.int (0 : Int32)), .val (.int (0 : Int32))] [(.ref b43)])) _
            refine st55.trans ?_
            show Steps p.tables e below (T55.setTop (mkF m 225 #[.val (.int p0), .val (.int p1), .val (.int p2), .val (.int p3), .val (.int p4), .val (.int (if (p4 &&& (1 : Int32)) = (0 : Int32) then (0 : Int32) else (1 : Int32))), .val (.int (if (p4 &&& (2 : Int32)) = (0 : Int32) then (0 : Int32) else (1 : Int32))), .val (.int nL), .val (.int nE), .val (.int zl0), .val (.int zl1), .val (.int ze0), .val (.int ze1), .val (.ref b10), .val (.ref b12), .val (.ref b31), .val (.ref b42), .val (.ref b43), .val (.int (1 : Int32)), .val (.int (0 : Int32)), .val (.int (0 : Int32))] [(.int (0 : Int32))])) _
            refine XS.iload X55.here hx rfl (hb hby at_225) rfl ?_
            show Steps p.tables e below (T55.setTop (mkF m 227 #[.val (.int p0), .val (.int p1), .val (.int p2), .val (.int p3), .val (.int p4), .val (.int (if (p4 &&& (1 : Int32)) = (0 : Int32) then (0 : Int32) else (1 : Int32))), .val (.int (if (p4 &&& (2 : Int32)) = (0 : Int32) then (0 : Int32) else (1 : Int32))), .val (.int nL), .val (.int nE), .val (.int zl0), .val (.int zl1), .val (.int ze0), .val (.int ze1), .val (.ref b10), .val (.ref b12), .val (.ref b31), .val (.ref b42), .val (.ref b43), .val (.int (1 : Int32)), .val (.int (0 : Int32)), .val (.int (0 : Int32))] [(.int (0 : Int32)), (.int (0 : Int32))])) _
            refine XS.icmpNo X55.here hx rfl (hb hby at_227) rfl (teq (by decide)).2 ?_
            show Steps p.tables e below (T55.setTop (mkF m 230 #[.val (.int p0), .val (.int p1), .val (.int p2), .val (.int p3), .val (.int p4), .val (.int (if (p4 &&& (1 : Int32)) = (0 : Int32) then (0 : Int32) else (1 : Int32))), .val (.int (if (p4 &&& (2 : Int32)) = (0 : Int32) then (0 : Int32) else (1 : Int32))), .val (.int nL), .val (.int nE), .val (.int zl0), .val (.int zl1), .val (.int ze0), .val (.int ze1), .val (.ref b10), .val (.ref b12), .val (.ref b31), .val (.ref b42), .val (.ref b43), .val (.int (1 : Int32)), .val (.int (0 : Int32)), .val (.int (0 : Int32))] [])) _
            refine XS.iconst X55.here hx rfl (hb hby at_230) ?_
            show Steps p.tables e below (T55.setTop (mkF m 231 #[.val (.int p0), .val (.int p1), .val (.int p2), .val (.int p3), .val (.int p4), .val (.int (if (p4 &&& (1 : Int32)) = (0 : Int32) then (0 : Int32) else (1 : Int32))), .val (.int (if (p4 &&& (2 : Int32)) = (0 : Int32) then (0 : Int32) else (1 : Int32))), .val (.int nL), .val (.int nE), .val (.int zl0), .val (.int zl1), .val (.int ze0), .val (.int ze1), .val (.ref b10), .val (.ref b12), .val (.ref b31), .val (.ref b42), .val (.ref b43), .val (.int (1 : Int32)), .val (.int (0 : Int32)), .val (.int (0 : Int32))] [(.int (1 : Int32))])) _
            refine XS.goto X55.here hx rfl (pc0 := 231) (pc' := 235) rfl (hb hby at_231) (by decide) (by decide) ?_
            exact k
          obtain ⟨fs, hr, hrun, hended, hEW⟩ := X55.leaveW hS (by rw [e55]; exact hk) (v := some (.int (1 : Int32))) (fun h => by rw [Bd.returns] at h; cases h)
          refine ⟨_, _, k56 _ ?_, hrun, hended, _, _, rfl, ?_, hEW.1, hEW.2.1, hEW.2.2.1, hEW.2.2.2.mono (by decide) (by decide)⟩
          · exact retN X55 hx (t := .boolean) Bd.returns (by simp) (hb hby at_235) hr
          · show own_R (some (.int 1)) n0 _ T55.heap _
            rw [e55]
            exact ⟨rfl, N55⟩
        · rw [if_neg hc169_8] at Fa44
          rw [if_neg hc193_10] at Fb44
          obtain ⟨cq57, kq57, q57a, q57b, q57c⟩ := isOf hZ e53 E_b43
          obtain ⟨_, _, ⟨T57, L57, k57_, n57⟩, -, X57, ⟨Lc57, hQ57, l57, y57, z57⟩, st57⟩ := X53.virtualBack hx (y := (⟨"com/example/indelible_crawl/indeliblecrawl/fetch/Validators", "isEmpty", "()Z"⟩ : MethodName)) (z := (⟨"com/example/indelible_crawl/indeliblecrawl/fetch/Validators", "isEmpty", "()Z"⟩ : MethodName)) hown (mvT hZ (hw _ (List.mem_of_getElem? (i := 67) rfl))) (mvT hZ (hw _ (List.mem_of_getElem? (i := 68) rfl))) (notFace_of_selects (args := #[]) (mvT hZ (hw _ (List.mem_of_getElem? (i := 70) rfl)))) (mvT hZ (hw _ (List.mem_of_getElem? (i := 70) rfl))) (mvT hZ (hw _ (List.mem_of_getElem? (i := 69) rfl))) (by decide) (backOf (W := 0) (rmVE_1_1 l Z a0 hw [] b43 b31 b42 b10 b12 T44.heap n0 Fa44 Fb44 Eo31 Fo31 Eo42 Fo42) hZ (hw _ (List.mem_of_getElem? (i := 71) rfl)) (hw _ (List.mem_of_getElem? (i := 33) rfl)) (by decide) (by decide)) q57a q57c (g := (mkF m 222 #[.val (.int p0), .val (.int p1), .val (.int p2), .val (.int p3), .val (.int p4), .val (.int (if (p4 &&& (1 : Int32)) = (0 : Int32) then (0 : Int32) else (1 : Int32))), .val (.int (if (p4 &&& (2 : Int32)) = (0 : Int32) then (0 : Int32) else (1 : Int32))), .val (.int nL), .val (.int nE), .val (.int zl0), .val (.int zl1), .val (.int ze0), .val (.int ze1), .val (.ref b10), .val (.ref b12), .val (.ref b31), .val (.ref b42), .val (.ref b43), .val (.int (1 : Int32)), .val (.int (1 : Int32)), .val (.int (0 : Int32))] [(.ref b43)])) rfl (by rw [hml]; rfl) (Steps.refl _) (argsL := []) (rest := []) (lenOf pd_13 rfl) rfl (by show 2 * 0 + _ ≤ _; exact Nat.le_of_eq rfl) (hb hby at_222) (fun _ _ => ⟨rfl, e53, (by decide : 19 + 0 ≤ _), (by decide : 52 + 0 ≤ _)⟩)
          dsimp only [Pt.U, Pt.locs, Pt.cells, Pt.slots] at X57 l57 y57 z57 st57 hQ57
          subst l57 y57 z57
          obtain ⟨rfl, Nq57, e57⟩ := hQ57
          have N57 := Fr.app N53 Nq57
          have k58 : ∀ t, Steps p.tables e below (T57.setTop (mkF m 235 #[.val (.int p0), .val (.int p1), .val (.int p2), .val (.int p3), .val (.int p4), .val (.int (if (p4 &&& (1 : Int32)) = (0 : Int32) then (0 : Int32) else (1 : Int32))), .val (.int (if (p4 &&& (2 : Int32)) = (0 : Int32) then (0 : Int32) else (1 : Int32))), .val (.int nL), .val (.int nE), .val (.int zl0), .val (.int zl1), .val (.int ze0), .val (.int ze1), .val (.ref b10), .val (.ref b12), .val (.ref b31), .val (.ref b42), .val (.ref b43), .val (.int (1 : Int32)), .val (.int (1 : Int32)), .val (.int (0 : Int32))] [(.int (1 : Int32))])) t → Steps p.tables e below (s₁.setTop (entryFrame m #[(.int p0), (.int p1), (.int p2), (.int p3), (.int p4)] maxLocals)) t := by
            intro t k
            refine k54 _ ?_
            show Steps p.tables e below (T53.setTop (mkF m 193 #[.val (.int p0), .val (.int p1), .val (.int p2), .val (.int p3), .val (.int p4), .val (.int (if (p4 &&& (1 : Int32)) = (0 : Int32) then (0 : Int32) else (1 : Int32))), .val (.int (if (p4 &&& (2 : Int32)) = (0 : Int32) then (0 : Int32) else (1 : Int32))), .val (.int nL), .val (.int nE), .val (.int zl0), .val (.int zl1), .val (.int ze0), .val (.int ze1), .val (.ref b10), .val (.ref b12), .val (.ref b31), .val (.ref b42), .val (.ref b43), .val (.int (1 : Int32)), .unset, .unset] [(.int (own_f26 nE ze0 ze1 ))])) _
            refine XS.ifNo X53.here hx rfl (hb hby at_193) rfl ((if0 _ _).trans (feq hc193_10).1) ?_
            show Steps p.tables e below (T53.setTop (mkF m 196 #[.val (.int p0), .val (.int p1), .val (.int p2), .val (.int p3), .val (.int p4), .val (.int (if (p4 &&& (1 : Int32)) = (0 : Int32) then (0 : Int32) else (1 : Int32))), .val (.int (if (p4 &&& (2 : Int32)) = (0 : Int32) then (0 : Int32) else (1 : Int32))), .val (.int nL), .val (.int nE), .val (.int zl0), .val (.int zl1), .val (.int ze0), .val (.int ze1), .val (.ref b10), .val (.ref b12), .val (.ref b31), .val (.ref b42), .val (.ref b43), .val (.int (1 : Int32)), .unset, .unset] [])) _
            refine XS.iconst X53.here hx rfl (hb hby at_196) ?_
            show Steps p.tables e below (T53.setTop (mkF m 197 #[.val (.int p0), .val (.int p1), .val (.int p2), .val (.int p3), .val (.int p4), .val (.int (if (p4 &&& (1 : Int32)) = (0 : Int32) then (0 : Int32) else (1 : Int32))), .val (.int (if (p4 &&& (2 : Int32)) = (0 : Int32) then (0 : Int32) else (1 : Int32))), .val (.int nL), .val (.int nE), .val (.int zl0), .val (.int zl1), .val (.int ze0), .val (.int ze1), .val (.ref b10), .val (.ref b12), .val (.ref b31), .val (.ref b42), .val (.ref b43), .val (.int (1 : Int32)), .unset, .unset] [(.int (1 : Int32))])) _
            refine XS.goto X53.here hx rfl (pc0 := 197) (pc' := 201) rfl (hb hby at_197) (by decide) (by decide) ?_
            show Steps p.tables e below (T53.setTop (mkF m 201 #[.val (.int p0), .val (.int p1), .val (.int p2), .val (.int p3), .val (.int p4), .val (.int (if (p4 &&& (1 : Int32)) = (0 : Int32) then (0 : Int32) else (1 : Int32))), .val (.int (if (p4 &&& (2 : Int32)) = (0 : Int32) then (0 : Int32) else (1 : Int32))), .val (.int nL), .val (.int nE), .val (.int zl0), .val (.int zl1), .val (.int ze0), .val (.int ze1), .val (.ref b10), .val (.ref b12), .val (.ref b31), .val (.ref b42), .val (.ref b43), .val (.int (1 : Int32)), .unset, .unset] [(.int (1 : Int32))])) _
            refine XS.istore X53.here hx rfl (hb hby at_201) rfl (l' := #[.val (.int p0), .val (.int p1), .val (.int p2), .val (.int p3), .val (.int p4), .val (.int (if (p4 &&& (1 : Int32)) = (0 : Int32) then (0 : Int32) else (1 : Int32))), .val (.int (if (p4 &&& (2 : Int32)) = (0 : Int32) then (0 : Int32) else (1 : Int32))), .val (.int nL), .val (.int nE), .val (.int zl0), .val (.int zl1), .val (.int ze0), .val (.int ze1), .val (.ref b10), .val (.ref b12), .val (.ref b31), .val (.ref b42), .val (.ref b43), .val (.int (1 : Int32)), .val (.int (1 : Int32)), .unset]) rfl ?_
            show Steps p.tables e below (T53.setTop (mkF m 203 #[.val (.int p0), .val (.int p1), .val (.int p2), .val (.int p3), .val (.int p4), .val (.int (if (p4 &&& (1 : Int32)) = (0 : Int32) then (0 : Int32) else (1 : Int32))), .val (.int (if (p4 &&& (2 : Int32)) = (0 : Int32) then (0 : Int32) else (1 : Int32))), .val (.int nL), .val (.int nE), .val (.int zl0), .val (.int zl1), .val (.int ze0), .val (.int ze1), .val (.ref b10), .val (.ref b12), .val (.ref b31), .val (.ref b42), .val (.ref b43), .val (.int (1 : Int32)), .val (.int (1 : Int32)), .unset] [])) _
            refine XS.iload X53.here hx rfl (hb hby at_203) rfl ?_
            show Steps p.tables e below (T53.setTop (mkF m 205 #[.val (.int p0), .val (.int p1), .val (.int p2), .val (.int p3), .val (.int p4), .val (.int (if (p4 &&& (1 : Int32)) = (0 : Int32) then (0 : Int32) else (1 : Int32))), .val (.int (if (p4 &&& (2 : Int32)) = (0 : Int32) then (0 : Int32) else (1 : Int32))), .val (.int nL), .val (.int nE), .val (.int zl0), .val (.int zl1), .val (.int ze0), .val (.int ze1), .val (.ref b10), .val (.ref b12), .val (.ref b31), .val (.ref b42), .val (.ref b43), .val (.int (1 : Int32)), .val (.int (1 : Int32)), .unset] [(.int (1 : Int32))])) _
            refine XS.ifYes X53.here hx rfl (pc0 := 205) (pc' := 217) rfl (hb hby at_205) rfl ((if0 _ _).trans (feq (by decide)).2) (by decide) (by decide) ?_
            show Steps p.tables e below (T53.setTop (mkF m 217 #[.val (.int p0), .val (.int p1), .val (.int p2), .val (.int p3), .val (.int p4), .val (.int (if (p4 &&& (1 : Int32)) = (0 : Int32) then (0 : Int32) else (1 : Int32))), .val (.int (if (p4 &&& (2 : Int32)) = (0 : Int32) then (0 : Int32) else (1 : Int32))), .val (.int nL), .val (.int nE), .val (.int zl0), .val (.int zl1), .val (.int ze0), .val (.int ze1), .val (.ref b10), .val (.ref b12), .val (.ref b31), .val (.ref b42), .val (.ref b43), .val (.int (1 : Int32)), .val (.int (1 : Int32)), .unset] [])) _
            refine XS.iconst X53.here hx rfl (hb hby at_217) ?_
            show Steps p.tables e below (T53.setTop (mkF m 218 #[.val (.int p0), .val (.int p1), .val (.int p2), .val (.int p3), .val (.int p4), .val (.int (if (p4 &&& (1 : Int32)) = (0 : Int32) then (0 : Int32) else (1 : Int32))), .val (.int (if (p4 &&& (2 : Int32)) = (0 : Int32) then (0 : Int32) else (1 : Int32))), .val (.int nL), .val (.int nE), .val (.int zl0), .val (.int zl1), .val (.int ze0), .val (.int ze1), .val (.ref b10), .val (.ref b12), .val (.ref b31), .val (.ref b42), .val (.ref b43), .val (.int (1 : Int32)), .val (.int (1 : Int32)), .unset] [(.int (0 : Int32))])) _
            refine XS.istore X53.here hx rfl (hb hby at_218) rfl (l' := #[.val (.int p0), .val (.int p1), .val (.int p2), .val (.int p3), .val (.int p4), .val (.int (if (p4 &&& (1 : Int32)) = (0 : Int32) then (0 : Int32) else (1 : Int32))), .val (.int (if (p4 &&& (2 : Int32)) = (0 : Int32) then (0 : Int32) else (1 : Int32))), .val (.int nL), .val (.int nE), .val (.int zl0), .val (.int zl1), .val (.int ze0), .val (.int ze1), .val (.ref b10), .val (.ref b12), .val (.ref b31), .val (.ref b42), .val (.ref b43), .val (.int (1 : Int32)), .val (.int (1 : Int32)), .val (.int (0 : Int32))]) rfl ?_
            show Steps p.tables e below (T53.setTop (mkF m 220 #[.val (.int p0), .val (.int p1), .val (.int p2), .val (.int p3), .val (.int p4), .val (.int (if (p4 &&& (1 : Int32)) = (0 : Int32) then (0 : Int32) else (1 : Int32))), .val (.int (if (p4 &&& (2 : Int32)) = (0 : Int32) then (0 : Int32) else (1 : Int32))), .val (.int nL), .val (.int nE), .val (.int zl0), .val (.int zl1), .val (.int ze0), .val (.int ze1), .val (.ref b10), .val (.ref b12), .val (.ref b31), .val (.ref b42), .val (.ref b43), .val (.int (1 : Int32)), .val (.int (1 : Int32)), .val (.int (0 : Int32))] [])) _
            refine XS.aload X53.here hx rfl (hb hby at_220) rfl rfl ?_
            show Steps p.tables e below (T53.setTop (mkF m 222 #[.val (.int p0), .val (.int p1), .val (.int p2), .val (.int p3), .val (.int p4), .val (.int (if (p4 &&& (1 : Int32)) = (0 : Int32) then (0 : Int32) else (1 : Int32))), .val (.int (if (p4 &&& (2 : Int32)) = (0 : Int32) then (0 : Int32) else (1 : Int32))), .val (.int nL), .val (.int nE), .val (.int zl0), .val (.int zl1), .val (.int ze0), .val (.int ze1), .val (.ref b10), .val (.ref b12), .val (.ref b31), .val (.ref b42), .val (.ref b43), .val (.int (1 : Int32)), .val (.int (1 : Int32)), .val (.int (0 : Int32))] [(.ref b43)])) _
            refine st57.trans ?_
            show Steps p.tables e below (T57.setTop (mkF m 225 #[.val (.int p0), .val (.int p1), .val (.int p2), .val (.int p3), .val (.int p4), .val (.int (if (p4 &&& (1 : Int32)) = (0 : Int32) then (0 : Int32) else (1 : Int32))), .val (.int (if (p4 &&& (2 : Int32)) = (0 : Int32) then (0 : Int32) else (1 : Int32))), .val (.int nL), .val (.int nE), .val (.int zl0), .val (.int zl1), .val (.int ze0), .val (.int ze1), .val (.ref b10), .val (.ref b12), .val (.ref b31), .val (.ref b42), .val (.ref b43), .val (.int (1 : Int32)), .val (.int (1 : Int32)), .val (.int (0 : Int32))] [(.int (0 : Int32))])) _
            refine XS.iload X57.here hx rfl (hb hby at_225) rfl ?_
            show Steps p.tables e below (T57.setTop (mkF m 227 #[.val (.int p0), .val (.int p1), .val (.int p2), .val (.int p3), .val (.int p4), .val (.int (if (p4 &&& (1 : Int32)) = (0 : Int32) then (0 : Int32) else (1 : Int32))), .val (.int (if (p4 &&& (2 : Int32)) = (0 : Int32) then (0 : Int32) else (1 : Int32))), .val (.int nL), .val (.int nE), .val (.int zl0), .val (.int zl1), .val (.int ze0), .val (.int ze1), .val (.ref b10), .val (.ref b12), .val (.ref b31), .val (.ref b42), .val (.ref b43), .val (.int (1 : Int32)), .val (.int (1 : Int32)), .val (.int (0 : Int32))] [(.int (0 : Int32)), (.int (0 : Int32))])) _
            refine XS.icmpNo X57.here hx rfl (hb hby at_227) rfl (teq (by decide)).2 ?_
            show Steps p.tables e below (T57.setTop (mkF m 230 #[.val (.int p0), .val (.int p1), .val (.int p2), .val (.int p3), .val (.int p4), .val (.int (if (p4 &&& (1 : Int32)) = (0 : Int32) then (0 : Int32) else (1 : Int32))), .val (.int (if (p4 &&& (2 : Int32)) = (0 : Int32) then (0 : Int32) else (1 : Int32))), .val (.int nL), .val (.int nE), .val (.int zl0), .val (.int zl1), .val (.int ze0), .val (.int ze1), .val (.ref b10), .val (.ref b12), .val (.ref b31), .val (.ref b42), .val (.ref b43), .val (.int (1 : Int32)), .val (.int (1 : Int32)), .val (.int (0 : Int32))] [])) _
            refine XS.iconst X57.here hx rfl (hb hby at_230) ?_
            show Steps p.tables e below (T57.setTop (mkF m 231 #[.val (.int p0), .val (.int p1), .val (.int p2), .val (.int p3), .val (.int p4), .val (.int (if (p4 &&& (1 : Int32)) = (0 : Int32) then (0 : Int32) else (1 : Int32))), .val (.int (if (p4 &&& (2 : Int32)) = (0 : Int32) then (0 : Int32) else (1 : Int32))), .val (.int nL), .val (.int nE), .val (.int zl0), .val (.int zl1), .val (.int ze0), .val (.int ze1), .val (.ref b10), .val (.ref b12), .val (.ref b31), .val (.ref b42), .val (.ref b43), .val (.int (1 : Int32)), .val (.int (1 : Int32)), .val (.int (0 : Int32))] [(.int (1 : Int32))])) _
            refine XS.goto X57.here hx rfl (pc0 := 231) (pc' := 235) rfl (hb hby at_231) (by decide) (by decide) ?_
            exact k
          obtain ⟨fs, hr, hrun, hended, hEW⟩ := X57.leaveW hS (by rw [e57]; exact hk) (v := some (.int (1 : Int32))) (fun h => by rw [Bd.returns] at h; cases h)
          refine ⟨_, _, k58 _ ?_, hrun, hended, _, _, rfl, ?_, hEW.1, hEW.2.1, hEW.2.2.1, hEW.2.2.2.mono (by decide) (by decide)⟩
          · exact retN X57 hx (t := .boolean) Bd.returns (by simp) (hb hby at_235) hr
          · show own_R (some (.int 1)) n0 _ T57.heap _
            rw [e57]
            exact ⟨rfl, N57⟩
set_option maxRecDepth 65536 in
set_option maxHeartbeats 40000000 in
theorem comes_1 {Post : Tables → Env → Array Value → State → Outcome → State → Prop} (hpost : ∀ tb e args s v u, (limb_1_1.after args s (.returned v) u = true ∧ limb_1_2.after args s (.returned v) u = true ∧ True) → ReturnedEndW s (.returned v) u (Jvm.fieldLocs frame_1_writes args s ++ Jvm.arrayLocs frame_1_arrays args s ++ Jvm.staticLocs frame_1_statics s) 32 1152 → Post tb e args s (.returned v) u) :
    ArmFor flags0 classFile x code maxLocals ret World_1 tables_1 room_1 Calls_1 rest_1 Pre_1 Post := by
  intro l hfl _ _ p e ha hc hk s m args below hf hA hF happ hP
  obtain ⟨hcalls, hrest, hpre⟩ := hP
  obtain ⟨-, -, -, hnamed, -, -, -, hat⟩ := (Spec.applies_iff hf).mp happ
  obtain ⟨hg, hn⟩ := and_e (Cond.before_iff.mp (show (Jvm.Cond.and given_1 narrow_1).before args s = true from hpre))
  obtain ⟨g0a, g0b⟩ := and_e hg
  obtain ⟨g1a, g1b⟩ := and_e g0b
  obtain ⟨g2a, g2b⟩ := and_e g1b
  obtain ⟨g3a, g3b⟩ := and_e g2b
  obtain ⟨g4a, g4b⟩ := and_e g3b
  obtain ⟨w0, w1, w2, w3, w4, rfl⟩ : ∃ w0 w1 w2 w3 w4 : Value, args = #[w0, w1, w2, w3, w4] := by
    have hs : args.size = 5 := by simpa [Cond.value, given_1] using g0a
    obtain ⟨L⟩ := args
    match L, hs with
    | [w0, w1, w2, w3, w4], _ => exact ⟨w0, w1, w2, w3, w4, rfl⟩
  have hw := fun d (hd : d ∈ tables_1) => atoms_spec (ws := Jvm.Cond.code x code maxLocals ret :: tables_1) hat d (List.mem_cons_of_mem _ hd)
  have hfit : Fit s := fun {y c} hc i hi => by
    obtain ⟨ha, rfl⟩ := Array.getElem?_eq_some_iff.mp hc
    have q := List.all_eq_true.mp ((Array.all_eq_true_iff_forall_mem.mp hF) _ (Array.getElem_mem ha)) i (List.mem_range.mpr hi)
    simpa [Array.getElem?_eq_getElem hi] using q
  obtain ⟨hsets, hown0⟩ := atoms_of _ (rest_1_c_eq ▸ (show rest_1_c.before _ s = true from hrest))
  obtain ⟨i0, ei0⟩ := is_v g1a
  obtain rfl : w0 = (.int i0) := Option.some.inj ei0
  obtain ⟨i1, ei1⟩ := is_v g2a
  obtain rfl : w1 = (.int i1) := Option.some.inj ei1
  obtain ⟨i2, ei2⟩ := is_v g3a
  obtain rfl : w2 = (.int i2) := Option.some.inj ei2
  obtain ⟨i3, ei3⟩ := is_v g4a
  obtain rfl : w3 = (.int i3) := Option.some.inj ei3
  obtain ⟨i4, ei4⟩ := is_v g4b
  obtain rfl : w4 = (.int i4) := Option.some.inj ei4
  obtain ⟨w_E, ee⟩ := exa_v (Cond.before_iff.mp (hsets _ (List.mem_of_getElem? (i := 2) rfl)))
  have S_E := Sta.start ee (Or.inl (hsets _ (List.mem_of_getElem? (i := 1) rfl)))
  have E_E := Exa.start ee (Cond.before_iff.mp (hsets _ (List.mem_of_getElem? (i := 2) rfl)))
  have F_E := own_fldn ee (Cond.before_iff.mp (hsets _ (List.mem_of_getElem? (i := 3) rfl)))
  obtain ⟨w_CS, ecs⟩ := is_v (Cond.before_iff.mp (hsets _ (List.mem_of_getElem? (i := 5) rfl)))
  have S_CS := Sta.start ecs (Or.inl (hsets _ (List.mem_of_getElem? (i := 4) rfl)))
  have hCS := own_ncs ecs (Cond.before_iff.mp (hsets _ (List.mem_of_getElem? (i := 6) rfl)))
  obtain ⟨w_F, ef, hF9⟩ := isR_v (Cond.before_iff.mp (hsets _ (List.mem_of_getElem? (i := 12) rfl)))
  have S_F := Sta.start ef (Or.inl (hsets _ (List.mem_of_getElem? (i := 11) rfl)))
  obtain ⟨n, o, h1, h2, h3, _, L, rfl, ⟨rfl, N⟩, hq⟩ := rm0 l s _ hw tables_1 i0 i1 i2 i3 i4 w_CS w_E w_F s.heap s.heap.size ⟨S_CS, hCS, S_E, E_E, F_E, S_F, hF9⟩ (Old.start s) p e ha hc hk s m _ below hf ((Spec.applies_iff_loose hf).mp happ).1 ⟨rfl, State.Warmed39.refl s, rfl, (CHv.start (a0 := #[.int i0, .int i1, .int i2, .int i3, .int i4]) (own_EW hw) hcalls.1 (hsets _ (List.mem_of_getElem? (i := 6) rfl)) (hw _ (List.mem_of_getElem? (i := 19) rfl)) (hw _ (List.mem_of_getElem? (i := 5) rfl))), fun _ q => nomatch q⟩ trivial
  refine ⟨n, _, h1, h2, h3, hpost _ _ _ _ _ _ ⟨Cond.after_iff.mpr rfl, Cond.after_iff.mpr (eq_i res_at (Term.int_eval (1)) rfl), trivial⟩ ⟨hq.1, hq.2.1, hq.2.2.1, (hq.2.2.2.sift fun y hy => Or.inr (N y hy)).mono (by decide) (by decide)⟩⟩
theorem main_1_1 : Claimed_1_1 := comes_1 fun _ _ _ _ _ _ h hF => ⟨h.1, hF⟩
theorem main_1_2 : Claimed_1_2 := comes_1 fun _ _ _ _ _ _ h hF => ⟨h.2.1, hF⟩
end Jvm.Pilot.@@N@@
namespace Jvm.Pilot.@@N@@
open Jvm Jvm.ClassFile Sem Op Lib Jvm.Free Jvm.Stand Jvm.Pilot.@@N@@.Jvm.D
/-! MADE BY PROGRAM (witnessworld.py) out of the Statement's table words and the real class files: 26 classes; the members and pool entries that the words name. The judged class is class 1, her method 1. -/
namespace start1
open Jvm.ClassFile
def u (s : String) : CpInfo := .utf8 (stringToUtf16 s)
/-- a pool by its gaps: so many unusable entries, then the entry; so many at the end -/
def gap : Nat → List CpInfo → List CpInfo
  | 0, r => r
  | n + 1, r => .unusable :: gap n r
def poolList (es : List (Nat × CpInfo)) (last : Nat) : List CpInfo := es.foldr (fun e r => gap e.1 (e.2 :: r)) (gap last [])
def pool (es : List (Nat × CpInfo)) (last : Nat) : Array CpInfo := ⟨poolList es last⟩
def fileOf (pool : Array CpInfo) (this : Nat) (attrs : Array Attribute := #[]) (ms : Array MethodInfo := #[]) (fl : Nat := 33) (sup : Nat := 0) (ifs : Array Nat := #[]) (fds : Array FieldInfo := #[]) : ClassFile where
  minorVersion := 0
  majorVersion := 65
  constantPool := pool
  accessFlags := fl
  thisClass := this
  superClass := sup
  interfaces := ifs
  fields := fds
  methods := ms
  attributes := attrs
def plain (name : String) (sup : Option ClassId) : Class where
  name := name
  kind := .ordinary
  loader := none
  accessFlags := 33
  super := sup
  interfaces := #[]
  cf := none
  fields := #[]
  methods := #[]
  instanceTypes := #[]
  staticTypes := #[]
  resolved := #[]
  callSites := []
  init := .initialized
  statics := none
  mirror := none

def pool0 : Array CpInfo := pool [(5, u "<init>"), (0, u "()V"), (1, .class_ 10), (1, u "java/lang/Object")] 113

def k0c0 : Code := { maxStack := 0, maxLocals := 1, code := object_method_1_code, exceptionTable := #[], attributes := #[] }
def k0m0 : Method := { name := "<init>", desc := "()V", sig := { parameters := [], returnType := none }, accessFlags := 1, code := some k0c0 }
/-- java/lang/Object -/
def k0 : Class := { plain "java/lang/Object" none with
  accessFlags := 33
  interfaces := #[]
  cf := some (fileOf pool0 8 #[] #[{ accessFlags := 1, nameIndex := 5, descriptorIndex := 6, attributes := #[] }] 33 0 #[] #[])
  fields := #[]
  methods := #[k0m0]
  instanceTypes := #[]
  staticTypes := #[]
  resolved := Array.replicate 124 none
  statics := none }

def pool1 : Array CpInfo := pool [(2, .class_ 4), (1, u "java/lang/Object"), (0, u "<init>"), (0, u "()V"), (0, .methodref 8 9), (0, .class_ 10), (0, .nameAndType 11 12), (0, u "com/example/indelible_crawl/indeliblecrawl/fetch/ValidatorsIsEmptyPinLaw"), (0, u "make"), (0, u "(ICC)Ljava/lang/String;"), (0, .methodref 14 15), (0, .class_ 16), (0, .nameAndType 17 18), (0, u "java/util/Optional"), (0, u "of"), (0, u "(Ljava/lang/Object;)Ljava/util/Optional;"), (0, .methodref 14 20), (0, .nameAndType 21 22), (0, u "empty"), (0, u "()Ljava/util/Optional;"), (0, .class_ 24), (0, u "com/example/indelible_crawl/indeliblecrawl/fetch/Validators"), (0, .methodref 23 26), (0, .nameAndType 5 27), (0, u "(Ljava/util/Optional;Ljava/util/Optional;)V"), (0, .methodref 8 29), (0, .nameAndType 30 31), (0, u "sendable"), (0, u "(ICC)Z"), (0, .methodref 23 33), (0, .nameAndType 34 35), (0, u "isEmpty"), (0, u "()Z"), (0, .class_ 37), (0, u "java/lang/String"), (0, .methodref 36 39), (0, .nameAndType 5 40), (0, u "([C)V"), (0, .methodref 36 42), (0, .nameAndType 43 44), (0, u "valueOf"), (0, u "(C)Ljava/lang/String;"), (0, .methodref 8 46), (0, .nameAndType 47 48), (0, u "ok"), (0, u "(C)Z"), (2, u "law"), (0, u "(IIIII)Z")] 3

def k1m0 : Method := { name := "<init>", desc := "()V", sig := { parameters := [], returnType := none }, accessFlags := 1, code := none }
def k1c1 : Code := { maxStack := 4, maxLocals := 21, code := code, exceptionTable := #[], attributes := #[] }
def k1m1 : Method := { name := "law", desc := "(IIIII)Z", sig := { parameters := [.int, .int, .int, .int, .int], returnType := some .boolean }, accessFlags := 9, code := some k1c1 }
def k1c2 : Code := { maxStack := 6, maxLocals := 3, code := method_3_code, exceptionTable := #[], attributes := #[] }
def k1m2 : Method := { name := "make", desc := "(ICC)Ljava/lang/String;", sig := { parameters := [.int, .char, .char], returnType := some (.object "java/lang/String") }, accessFlags := 10, code := some k1c2 }
def k1c3 : Code := { maxStack := 2, maxLocals := 1, code := method_4_code, exceptionTable := #[], attributes := #[] }
def k1m3 : Method := { name := "ok", desc := "(C)Z", sig := { parameters := [.char], returnType := some .boolean }, accessFlags := 10, code := some k1c3 }
def k1c4 : Code := { maxStack := 2, maxLocals := 3, code := method_5_code, exceptionTable := #[], attributes := #[] }
def k1m4 : Method := { name := "sendable", desc := "(ICC)Z", sig := { parameters := [.int, .char, .char], returnType := some .boolean }, accessFlags := 10, code := some k1c4 }
/-- com/example/indelible_crawl/indeliblecrawl/fetch/ValidatorsIsEmptyPinLaw -/
def k1 : Class := { plain "com/example/indelible_crawl/indeliblecrawl/fetch/ValidatorsIsEmptyPinLaw" (some 0) with
  accessFlags := 49
  interfaces := #[]
  cf := some (fileOf pool1 8 #[] #[{ accessFlags := 1, nameIndex := 5, descriptorIndex := 6, attributes := #[] }, { accessFlags := 9, nameIndex := 51, descriptorIndex := 52, attributes := #[] }, { accessFlags := 10, nameIndex := 11, descriptorIndex := 12, attributes := #[] }, { accessFlags := 10, nameIndex := 47, descriptorIndex := 48, attributes := #[] }, { accessFlags := 10, nameIndex := 30, descriptorIndex := 31, attributes := #[] }] 49 2 #[] #[])
  fields := #[]
  methods := #[k1m0, k1m1, k1m2, k1m3, k1m4]
  instanceTypes := #[]
  staticTypes := #[]
  resolved := Array.replicate 56 none
  statics := none }

def pool2 : Array CpInfo := pool [(1, .class_ 2), (0, u "java/io/Serializable"), (0, .class_ 4), (0, u "java/lang/Object")] 2

/-- java/io/Serializable -/
def k2 : Class := { plain "java/io/Serializable" (some 0) with
  accessFlags := 1537
  interfaces := #[]
  cf := some (fileOf pool2 1 #[] #[] 1537 3 #[] #[])
  fields := #[]
  methods := #[]
  instanceTypes := #[]
  staticTypes := #[]
  resolved := Array.replicate 7 none
  statics := none }

def pool3 : Array CpInfo := pool [(1, .class_ 2), (0, u "java/lang/Comparable"), (0, .class_ 4), (0, u "java/lang/Object")] 7

/-- java/lang/Comparable -/
def k3 : Class := { plain "java/lang/Comparable" (some 0) with
  accessFlags := 1537
  interfaces := #[]
  cf := some (fileOf pool3 1 #[] #[] 1537 3 #[] #[])
  fields := #[]
  methods := #[]
  instanceTypes := #[]
  staticTypes := #[]
  resolved := Array.replicate 12 none
  statics := none }

def pool4 : Array CpInfo := pool [(2, .class_ 4), (1, u "java/lang/CharSequence"), (42, .class_ 48), (0, u "java/lang/CharSequence$1CodePointIterator"), (10, .class_ 60), (0, u "java/lang/CharSequence$1CharIterator"), (5, .class_ 67), (0, u "java/lang/Object")] 63

/-- java/lang/CharSequence -/
def k4 : Class := { plain "java/lang/CharSequence" (some 0) with
  accessFlags := 1537
  interfaces := #[]
  cf := some (fileOf pool4 2 #[.nestMembers #[47, 59]] #[] 1537 66 #[] #[])
  fields := #[]
  methods := #[]
  instanceTypes := #[]
  staticTypes := #[]
  resolved := Array.replicate 131 none
  statics := none }

def pool5 : Array CpInfo := pool [(1, .class_ 2), (0, u "java/lang/constant/Constable"), (0, .class_ 4), (0, u "java/lang/Object")] 6

/-- java/lang/constant/Constable -/
def k5 : Class := { plain "java/lang/constant/Constable" (some 0) with
  accessFlags := 1537
  interfaces := #[]
  cf := some (fileOf pool5 1 #[] #[] 1537 3 #[] #[])
  fields := #[]
  methods := #[]
  instanceTypes := #[]
  staticTypes := #[]
  resolved := Array.replicate 11 none
  statics := none }

def pool6 : Array CpInfo := pool [(1, .class_ 2), (0, u "java/lang/constant/ConstantDesc"), (0, .class_ 4), (0, u "java/lang/Object")] 32

/-- java/lang/constant/ConstantDesc -/
def k6 : Class := { plain "java/lang/constant/ConstantDesc" (some 0) with
  accessFlags := 1537
  interfaces := #[]
  cf := some (fileOf pool6 1 #[] #[] 1537 3 #[] #[])
  fields := #[]
  methods := #[]
  instanceTypes := #[]
  staticTypes := #[]
  resolved := Array.replicate 37 none
  statics := none }

def pool7 : Array CpInfo := pool [(1, .methodref 2 3), (0, .class_ 4), (0, .nameAndType 5 6), (0, u "java/lang/Object"), (0, u "<init>"), (0, u "()V"), (0, .string 8), (0, u ""), (0, .fieldref 10 11), (0, .class_ 12), (0, .nameAndType 13 14), (0, u "java/lang/String"), (0, u "value"), (0, u "[B"), (0, .fieldref 10 16), (0, .nameAndType 17 18), (0, u "coder"), (0, u "B"), (2, u "hash"), (0, u "I"), (2, u "hashIsZero"), (0, u "Z"), (0, .methodref 10 28), (0, .nameAndType 5 29), (0, u "([CIILjava/lang/Void;)V"), (8, .fieldref 10 39), (0, .nameAndType 40 26), (0, u "COMPACT_STRINGS"), (1, .class_ 44), (1, u "java/lang/StringUTF16"), (0, u "compress"), (1, .methodref 42 48), (0, .nameAndType 49 50), (0, u "coderFromArrayLen"), (0, u "([BI)B"), (2, u "toBytes"), (53, .class_ 109), (1, u "java/lang/StringLatin1"), (32, u "()Z"), (34, .methodref 42 178), (0, .nameAndType 45 179), (0, u "([CII)[B"), (29, .methodref 10 210), (0, .nameAndType 5 211), (0, u "([BB)V"), (122, u "()I"), (0, .methodref 10 336), (0, .nameAndType 17 337), (0, u "()B"), (25, u "([BI)C"), (5, u "(C)Z"), (21, u "(II)V"), (35, u "(I)C"), (64, .methodref 10 493), (0, .nameAndType 494 142), (0, u "isLatin1"), (0, .methodref 107 496), (0, .nameAndType 497 363), (0, u "charAt"), (3, u "checkIndex"), (5, u "length"), (67, .class_ 576), (0, u "java/lang/CharSequence"), (22, u "CASE_INSENSITIVE_ORDER"), (0, u "Ljava/util/Comparator;"), (181, u "valueOf"), (0, u "(C)Ljava/lang/String;"), (226, u "([C)V"), (4, .methodref 107 1016), (0, .nameAndType 1017 369), (0, u "canEncode"), (0, .methodref 107 1019), (0, .nameAndType 53 1020), (0, u "(C)[B"), (32, .fieldref 1054 1055), (0, .class_ 1056), (0, .nameAndType 1057 1058), (0, u "jdk/internal/util/Preconditions"), (0, u "SIOOBE_FORMATTER"), (0, u "Ljava/util/function/BiFunction;"), (0, .methodref 1054 1060), (0, .nameAndType 501 1061), (0, u "(IILjava/util/function/BiFunction;)I"), (39, u "serialPersistentFields"), (0, u "[Ljava/io/ObjectStreamField;"), (0, .class_ 1104), (0, u "java/lang/String$CaseInsensitiveComparator"), (1, .class_ 1107), (0, u "java/io/Serializable"), (0, .class_ 1109), (0, u "java/lang/Comparable"), (0, .class_ 1111), (0, u "java/lang/constant/Constable"), (0, .class_ 1113), (0, u "java/lang/constant/ConstantDesc"), (2, u "serialVersionUID"), (0, u "J"), (3, u "REPL"), (0, u "C"), (2, u "LATIN1"), (1, u "UTF16")] 323

def k7m0 : Method := { name := "<init>", desc := "()V", sig := { parameters := [], returnType := none }, accessFlags := 1, code := none }
def k7c1 : Code := { maxStack := 5, maxLocals := 2, code := jdk_42_method_3_code, exceptionTable := #[], attributes := #[] }
def k7m1 : Method := { name := "<init>", desc := "([C)V", sig := { parameters := [(.array .char)], returnType := none }, accessFlags := 1, code := some k7c1 }
def k7c2 : Code := { maxStack := 2, maxLocals := 1, code := jdk_42_method_54_code, exceptionTable := #[], attributes := #[] }
def k7m2 : Method := { name := "length", desc := "()I", sig := { parameters := [], returnType := some .int }, accessFlags := 1, code := some k7c2 }
def k7c3 : Code := { maxStack := 2, maxLocals := 2, code := jdk_42_method_56_code, exceptionTable := #[], attributes := #[] }
def k7m3 : Method := { name := "charAt", desc := "(I)C", sig := { parameters := [.int], returnType := some .char }, accessFlags := 1, code := some k7c3 }
def k7c4 : Code := { maxStack := 4, maxLocals := 1, code := jdk_42_method_139_code, exceptionTable := #[], attributes := #[] }
def k7m4 : Method := { name := "valueOf", desc := "(C)Ljava/lang/String;", sig := { parameters := [.char], returnType := some (.object "java/lang/String") }, accessFlags := 9, code := some k7c4 }
def k7c5 : Code := { maxStack := 4, maxLocals := 6, code := jdk_42_method_149_code, exceptionTable := #[], attributes := #[] }
def k7m5 : Method := { name := "<init>", desc := "([CIILjava/lang/Void;)V", sig := { parameters := [(.array .char), .int, .int, (.object "java/lang/Void")], returnType := none }, accessFlags := 2, code := some k7c5 }
def k7c6 : Code := { maxStack := 2, maxLocals := 3, code := jdk_42_method_151_code, exceptionTable := #[], attributes := #[] }
def k7m6 : Method := { name := "<init>", desc := "([BB)V", sig := { parameters := [(.array .byte), .byte], returnType := none }, accessFlags := 0, code := some k7c6 }
def k7c7 : Code := { maxStack := 1, maxLocals := 1, code := jdk_42_method_152_code, exceptionTable := #[], attributes := #[] }
def k7m7 : Method := { name := "coder", desc := "()B", sig := { parameters := [], returnType := some .byte }, accessFlags := 0, code := some k7c7 }
def k7c8 : Code := { maxStack := 1, maxLocals := 1, code := jdk_42_method_154_code, exceptionTable := #[], attributes := #[] }
def k7m8 : Method := { name := "isLatin1", desc := "()Z", sig := { parameters := [], returnType := some .boolean }, accessFlags := 0, code := some k7c8 }
def k7c9 : Code := { maxStack := 3, maxLocals := 2, code := jdk_42_method_155_code, exceptionTable := #[], attributes := #[] }
def k7m9 : Method := { name := "checkIndex", desc := "(II)V", sig := { parameters := [.int, .int], returnType := none }, accessFlags := 8, code := some k7c9 }
/-- java/lang/String -/
def k7 : Class := { plain "java/lang/String" (some 0) with
  accessFlags := 49
  interfaces := #[2, 3, 4, 5, 6]
  cf := some (fileOf pool7 10 #[.nestMembers #[1103]] #[{ accessFlags := 1, nameIndex := 5, descriptorIndex := 6, attributes := #[] }, { accessFlags := 1, nameIndex := 5, descriptorIndex := 1010, attributes := #[] }, { accessFlags := 1, nameIndex := 507, descriptorIndex := 334, attributes := #[] }, { accessFlags := 1, nameIndex := 497, descriptorIndex := 427, attributes := #[] }, { accessFlags := 9, nameIndex := 782, descriptorIndex := 783, attributes := #[] }, { accessFlags := 2, nameIndex := 5, descriptorIndex := 29, attributes := #[] }, { accessFlags := 0, nameIndex := 5, descriptorIndex := 211, attributes := #[] }, { accessFlags := 0, nameIndex := 17, descriptorIndex := 337, attributes := #[] }, { accessFlags := 0, nameIndex := 494, descriptorIndex := 142, attributes := #[] }, { accessFlags := 8, nameIndex := 501, descriptorIndex := 391, attributes := #[] }] 49 2 #[1106, 1108, 575, 1110, 1112] #[{ accessFlags := 18, nameIndex := 13, descriptorIndex := 14, attributes := #[] }, { accessFlags := 18, nameIndex := 17, descriptorIndex := 18, attributes := #[] }, { accessFlags := 2, nameIndex := 21, descriptorIndex := 22, attributes := #[] }, { accessFlags := 2, nameIndex := 25, descriptorIndex := 26, attributes := #[] }, { accessFlags := 26, nameIndex := 1116, descriptorIndex := 1117, attributes := #[] }, { accessFlags := 24, nameIndex := 40, descriptorIndex := 26, attributes := #[] }, { accessFlags := 26, nameIndex := 1101, descriptorIndex := 1102, attributes := #[] }, { accessFlags := 26, nameIndex := 1121, descriptorIndex := 1122, attributes := #[] }, { accessFlags := 25, nameIndex := 599, descriptorIndex := 600, attributes := #[] }, { accessFlags := 24, nameIndex := 1125, descriptorIndex := 18, attributes := #[] }, { accessFlags := 24, nameIndex := 1127, descriptorIndex := 18, attributes := #[] }])
  fields := #[{ name := "value", type := (.array .byte), accessFlags := 18, slot := 0, constantValue := 0 }, { name := "coder", type := .byte, accessFlags := 18, slot := 1, constantValue := 0 }, { name := "hash", type := .int, accessFlags := 2, slot := 2, constantValue := 0 }, { name := "hashIsZero", type := .boolean, accessFlags := 2, slot := 3, constantValue := 0 }, { name := "serialVersionUID", type := .long, accessFlags := 26, slot := 0, constantValue := 0 }, { name := "COMPACT_STRINGS", type := .boolean, accessFlags := 24, slot := 1, constantValue := 0 }, { name := "serialPersistentFields", type := (.array (.object "java/io/ObjectStreamField")), accessFlags := 26, slot := 2, constantValue := 0 }, { name := "REPL", type := .char, accessFlags := 26, slot := 3, constantValue := 0 }, { name := "CASE_INSENSITIVE_ORDER", type := (.object "java/util/Comparator"), accessFlags := 25, slot := 4, constantValue := 0 }, { name := "LATIN1", type := .byte, accessFlags := 24, slot := 5, constantValue := 0 }, { name := "UTF16", type := .byte, accessFlags := 24, slot := 6, constantValue := 0 }]
  methods := #[k7m0, k7m1, k7m2, k7m3, k7m4, k7m5, k7m6, k7m7, k7m8, k7m9]
  instanceTypes := #[(.array .byte), .byte, .int, .boolean]
  staticTypes := #[.long, .boolean, (.array (.object "java/io/ObjectStreamField")), .char, (.object "java/util/Comparator"), .byte, .byte]
  resolved := Array.replicate 1451 none
  statics := some 0 }

def pool8 : Array CpInfo := pool [(1, .fieldref 2 3), (0, .class_ 4), (0, .nameAndType 5 6), (0, u "java/util/Optional"), (0, u "EMPTY"), (0, u "Ljava/util/Optional;"), (0, .methodref 8 9), (0, .class_ 10), (0, .nameAndType 11 12), (0, u "java/lang/Object"), (0, u "<init>"), (0, u "()V"), (0, .fieldref 2 14), (0, .nameAndType 15 16), (0, u "value"), (0, u "Ljava/lang/Object;"), (0, .methodref 18 19), (0, .class_ 20), (0, .nameAndType 21 22), (0, u "java/util/Objects"), (0, u "requireNonNull"), (0, u "(Ljava/lang/Object;)Ljava/lang/Object;"), (0, .methodref 2 24), (0, .nameAndType 11 25), (0, u "(Ljava/lang/Object;)V"), (17, .methodref 2 44), (0, .nameAndType 45 46), (0, u "isEmpty"), (0, u "()Z"), (0, .interfaceMethodref 48 49), (0, .class_ 50), (0, .nameAndType 51 52), (0, u "java/util/function/Predicate"), (0, u "test"), (0, u "(Ljava/lang/Object;)Z"), (0, .methodref 2 54), (0, .nameAndType 55 56), (0, u "empty"), (0, u "()Ljava/util/Optional;"), (8, u "(Ljava/lang/Object;)Ljava/util/Optional;"), (16, u "of"), (57, u "filter"), (0, u "(Ljava/util/function/Predicate;)Ljava/util/Optional;")] 45

def k8c0 : Code := { maxStack := 1, maxLocals := 1, code := jdk_32_method_1_code, exceptionTable := #[], attributes := #[] }
def k8m0 : Method := { name := "empty", desc := "()Ljava/util/Optional;", sig := { parameters := [], returnType := some (.object "java/util/Optional") }, accessFlags := 9, code := some k8c0 }
def k8c1 : Code := { maxStack := 2, maxLocals := 2, code := jdk_32_method_2_code, exceptionTable := #[], attributes := #[] }
def k8m1 : Method := { name := "<init>", desc := "(Ljava/lang/Object;)V", sig := { parameters := [(.object "java/lang/Object")], returnType := none }, accessFlags := 2, code := some k8c1 }
def k8c2 : Code := { maxStack := 3, maxLocals := 1, code := jdk_32_method_3_code, exceptionTable := #[], attributes := #[] }
def k8m2 : Method := { name := "of", desc := "(Ljava/lang/Object;)Ljava/util/Optional;", sig := { parameters := [(.object "java/lang/Object")], returnType := some (.object "java/util/Optional") }, accessFlags := 9, code := some k8c2 }
def k8c3 : Code := { maxStack := 1, maxLocals := 1, code := jdk_32_method_7_code, exceptionTable := #[], attributes := #[] }
def k8m3 : Method := { name := "isEmpty", desc := "()Z", sig := { parameters := [], returnType := some .boolean }, accessFlags := 1, code := some k8c3 }
def k8c4 : Code := { maxStack := 2, maxLocals := 2, code := jdk_32_method_10_code, exceptionTable := #[], attributes := #[] }
def k8m4 : Method := { name := "filter", desc := "(Ljava/util/function/Predicate;)Ljava/util/Optional;", sig := { parameters := [(.object "java/util/function/Predicate")], returnType := some (.object "java/util/Optional") }, accessFlags := 1, code := some k8c4 }
/-- java/util/Optional -/
def k8 : Class := { plain "java/util/Optional" (some 0) with
  accessFlags := 49
  interfaces := #[]
  cf := some (fileOf pool8 2 #[] #[{ accessFlags := 9, nameIndex := 55, descriptorIndex := 56, attributes := #[] }, { accessFlags := 2, nameIndex := 11, descriptorIndex := 25, attributes := #[] }, { accessFlags := 9, nameIndex := 82, descriptorIndex := 65, attributes := #[] }, { accessFlags := 1, nameIndex := 45, descriptorIndex := 46, attributes := #[] }, { accessFlags := 1, nameIndex := 140, descriptorIndex := 141, attributes := #[] }] 49 8 #[] #[{ accessFlags := 26, nameIndex := 5, descriptorIndex := 6, attributes := #[] }, { accessFlags := 18, nameIndex := 15, descriptorIndex := 16, attributes := #[] }])
  fields := #[{ name := "EMPTY", type := (.object "java/util/Optional"), accessFlags := 26, slot := 0, constantValue := 0 }, { name := "value", type := (.object "java/lang/Object"), accessFlags := 18, slot := 0, constantValue := 0 }]
  methods := #[k8m0, k8m1, k8m2, k8m3, k8m4]
  instanceTypes := #[(.object "java/lang/Object")]
  staticTypes := #[(.object "java/util/Optional")]
  resolved := Array.replicate 187 none
  statics := some 1 }

def pool9 : Array CpInfo := pool [(1, .methodref 2 3), (0, .class_ 4), (0, .nameAndType 5 6), (0, u "java/lang/Object"), (0, u "<init>"), (0, u "()V"), (0, .class_ 8), (0, u "java/lang/Record")] 13

def k9c0 : Code := { maxStack := 1, maxLocals := 1, code := jdk_30_method_1_code, exceptionTable := #[], attributes := #[] }
def k9m0 : Method := { name := "<init>", desc := "()V", sig := { parameters := [], returnType := none }, accessFlags := 4, code := some k9c0 }
/-- java/lang/Record -/
def k9 : Class := { plain "java/lang/Record" (some 0) with
  accessFlags := 1057
  interfaces := #[]
  cf := some (fileOf pool9 7 #[] #[{ accessFlags := 4, nameIndex := 5, descriptorIndex := 6, attributes := #[] }] 1057 2 #[] #[])
  fields := #[]
  methods := #[k9m0]
  instanceTypes := #[]
  staticTypes := #[]
  resolved := Array.replicate 22 none
  statics := none }

def pool10 : Array CpInfo := pool [(1, .methodref 2 3), (0, .class_ 4), (0, .nameAndType 5 6), (0, u "java/lang/Record"), (0, u "<init>"), (0, u "()V"), (0, .invokeDynamic 0 8), (0, .nameAndType 9 10), (0, u "test"), (0, u "()Ljava/util/function/Predicate;"), (0, .methodref 12 13), (0, .class_ 14), (0, .nameAndType 15 16), (0, u "java/util/Optional"), (0, u "filter"), (0, u "(Ljava/util/function/Predicate;)Ljava/util/Optional;"), (0, .fieldref 18 19), (0, .class_ 20), (0, .nameAndType 21 22), (0, u "com/example/indelible_crawl/indeliblecrawl/fetch/Validators"), (0, u "lastModified"), (0, u "Ljava/util/Optional;"), (0, .fieldref 18 24), (0, .nameAndType 25 22), (0, u "etag"), (0, .methodref 12 27), (0, .nameAndType 28 29), (0, u "isEmpty"), (0, u "()Z"), (0, .methodref 31 32), (0, .class_ 33), (0, .nameAndType 34 35), (0, u "java/lang/String"), (0, u "length"), (0, u "()I"), (0, .methodref 31 37), (0, .nameAndType 38 39), (0, u "charAt"), (0, u "(I)C"), (18, u "(Ljava/util/Optional;Ljava/util/Optional;)V"), (2, u "NONE"), (0, u "Lcom/example/indelible_crawl/indeliblecrawl/fetch/Validators;"), (7, u "canBeSent"), (0, u "(Ljava/lang/String;)Z"), (1, u "(Ljava/lang/Object;)Z"), (6, .methodType 73), (0, .methodHandle 6 82), (0, .methodref 18 83), (0, .nameAndType 70 71), (0, .methodType 71), (4, .methodHandle 6 90), (0, .methodref 91 92), (0, .class_ 93), (0, .nameAndType 94 95), (0, u "java/lang/invoke/LambdaMetafactory"), (0, u "metafactory"), (0, u "(Ljava/lang/invoke/MethodHandles$Lookup;Ljava/lang/String;Ljava/lang/invoke/MethodType;Ljava/lang/invoke/MethodType;Ljava/lang/invoke/MethodHandle;Ljava/lang/invoke/MethodType;)Ljava/lang/invoke/CallSite;")] 13

def k10c0 : Code := { maxStack := 2, maxLocals := 3, code := prog_47_method_1_code, exceptionTable := #[], attributes := #[] }
def k10m0 : Method := { name := "<init>", desc := "(Ljava/util/Optional;Ljava/util/Optional;)V", sig := { parameters := [(.object "java/util/Optional"), (.object "java/util/Optional")], returnType := none }, accessFlags := 1, code := some k10c0 }
def k10c1 : Code := { maxStack := 1, maxLocals := 1, code := prog_47_method_2_code, exceptionTable := #[], attributes := #[] }
def k10m1 : Method := { name := "isEmpty", desc := "()Z", sig := { parameters := [], returnType := some .boolean }, accessFlags := 1, code := some k10c1 }
def k10c2 : Code := { maxStack := 2, maxLocals := 3, code := prog_47_method_3_code, exceptionTable := #[], attributes := #[] }
def k10m2 : Method := { name := "canBeSent", desc := "(Ljava/lang/String;)Z", sig := { parameters := [(.object "java/lang/String")], returnType := some .boolean }, accessFlags := 10, code := some k10c2 }
/-- com/example/indelible_crawl/indeliblecrawl/fetch/Validators -/
def k10 : Class := { plain "com/example/indelible_crawl/indeliblecrawl/fetch/Validators" (some 9) with
  accessFlags := 49
  interfaces := #[]
  cf := some (fileOf pool10 18 #[.bootstrapMethods #[⟨89, #[80, 81, 84]⟩, ⟨0, #[]⟩]] #[{ accessFlags := 1, nameIndex := 5, descriptorIndex := 58, attributes := #[] }, { accessFlags := 1, nameIndex := 28, descriptorIndex := 29, attributes := #[] }, { accessFlags := 10, nameIndex := 70, descriptorIndex := 71, attributes := #[] }] 49 2 #[] #[{ accessFlags := 18, nameIndex := 21, descriptorIndex := 22, attributes := #[] }, { accessFlags := 18, nameIndex := 25, descriptorIndex := 22, attributes := #[] }, { accessFlags := 25, nameIndex := 61, descriptorIndex := 62, attributes := #[] }])
  fields := #[{ name := "lastModified", type := (.object "java/util/Optional"), accessFlags := 18, slot := 0, constantValue := 0 }, { name := "etag", type := (.object "java/util/Optional"), accessFlags := 18, slot := 1, constantValue := 0 }, { name := "NONE", type := (.object "com/example/indelible_crawl/indeliblecrawl/fetch/Validators"), accessFlags := 25, slot := 0, constantValue := 0 }]
  methods := #[k10m0, k10m1, k10m2]
  instanceTypes := #[(.object "java/util/Optional"), (.object "java/util/Optional")]
  staticTypes := #[(.object "com/example/indelible_crawl/indeliblecrawl/fetch/Validators")]
  resolved := Array.replicate 109 none
  callSites := [(0, 5, .constant 3), (0, 15, .constant 4)]
  statics := none }

def pool11 : Array CpInfo := pool [(9, u "test"), (12, .class_ 24), (1, u "java/util/function/Predicate"), (2, .class_ 29), (1, u "java/lang/Object"), (1, u "(Ljava/lang/Object;)Z")] 69

def k11m0 : Method := { name := "test", desc := "(Ljava/lang/Object;)Z", sig := { parameters := [(.object "java/lang/Object")], returnType := some .boolean }, accessFlags := 1025, code := none }
/-- java/util/function/Predicate -/
def k11 : Class := { plain "java/util/function/Predicate" (some 0) with
  accessFlags := 1537
  interfaces := #[]
  cf := some (fileOf pool11 22 #[] #[{ accessFlags := 1025, nameIndex := 9, descriptorIndex := 31, attributes := #[] }] 1537 27 #[] #[])
  fields := #[]
  methods := #[k11m0]
  instanceTypes := #[]
  staticTypes := #[]
  resolved := Array.replicate 101 none
  statics := none }

def pool12 : Array CpInfo := pool [(2, .class_ 4), (1, u "java/lang/Object"), (0, u "<init>"), (0, u "()V"), (35, .class_ 44), (1, u "java/util/Objects"), (0, u "requireNonNull"), (0, u "(Ljava/lang/Object;)Ljava/lang/Object;")] 137

def k12m0 : Method := { name := "<init>", desc := "()V", sig := { parameters := [], returnType := none }, accessFlags := 2, code := none }
def k12c1 : Code := { maxStack := 2, maxLocals := 1, code := jdk_31_method_10_code, exceptionTable := #[], attributes := #[] }
def k12m1 : Method := { name := "requireNonNull", desc := "(Ljava/lang/Object;)Ljava/lang/Object;", sig := { parameters := [(.object "java/lang/Object")], returnType := some (.object "java/lang/Object") }, accessFlags := 9, code := some k12c1 }
/-- java/util/Objects -/
def k12 : Class := { plain "java/util/Objects" (some 0) with
  accessFlags := 49
  interfaces := #[]
  cf := some (fileOf pool12 42 #[] #[{ accessFlags := 2, nameIndex := 5, descriptorIndex := 6, attributes := #[] }, { accessFlags := 9, nameIndex := 45, descriptorIndex := 46, attributes := #[] }] 49 2 #[] #[])
  fields := #[]
  methods := #[k12m0, k12m1]
  instanceTypes := #[]
  staticTypes := #[]
  resolved := Array.replicate 184 none
  statics := none }

def pool13 : Array CpInfo := pool [(1, .class_ 2), (0, u "java/lang/String"), (1, .class_ 6), (1, u "java/lang/Object"), (0, u "<init>"), (0, u "()V"), (0, .methodref 1 10), (0, .nameAndType 11 12), (0, u "checkIndex"), (0, u "(II)V"), (1, .class_ 16), (1, u "java/lang/StringLatin1"), (36, u "([BI)C"), (36, u "canEncode"), (14, u "(C)Z"), (15, u "$assertionsDisabled"), (0, u "Z"), (98, .class_ 223), (1, u "java/lang/StringLatin1$LinesSpliterator"), (28, u "charAt"), (127, u "toBytes"), (1, u "(C)[B"), (7, .class_ 391), (0, u "java/lang/StringLatin1$CharsSpliterator")] 3

def k13m0 : Method := { name := "<init>", desc := "()V", sig := { parameters := [], returnType := none }, accessFlags := 0, code := none }
def k13c1 : Code := { maxStack := 2, maxLocals := 2, code := jdk_43_method_2_code, exceptionTable := #[], attributes := #[] }
def k13m1 : Method := { name := "charAt", desc := "([BI)C", sig := { parameters := [(.array .byte), .int], returnType := some .char }, accessFlags := 9, code := some k13c1 }
def k13c2 : Code := { maxStack := 2, maxLocals := 1, code := jdk_43_method_3_code, exceptionTable := #[], attributes := #[] }
def k13m2 : Method := { name := "canEncode", desc := "(C)Z", sig := { parameters := [.char], returnType := some .boolean }, accessFlags := 9, code := some k13c2 }
def k13c3 : Code := { maxStack := 4, maxLocals := 1, code := jdk_43_method_46_code, exceptionTable := #[], attributes := #[] }
def k13m3 : Method := { name := "toBytes", desc := "(C)[B", sig := { parameters := [.char], returnType := some (.array .byte) }, accessFlags := 9, code := some k13c3 }
/-- java/lang/StringLatin1 -/
def k13 : Class := { plain "java/lang/StringLatin1" (some 0) with
  accessFlags := 48
  interfaces := #[]
  cf := some (fileOf pool13 14 #[.nestMembers #[390, 221]] #[{ accessFlags := 0, nameIndex := 7, descriptorIndex := 8, attributes := #[] }, { accessFlags := 9, nameIndex := 252, descriptorIndex := 53, attributes := #[] }, { accessFlags := 9, nameIndex := 90, descriptorIndex := 105, attributes := #[] }, { accessFlags := 9, nameIndex := 380, descriptorIndex := 382, attributes := #[] }] 48 4 #[] #[{ accessFlags := 4120, nameIndex := 121, descriptorIndex := 122, attributes := #[] }])
  fields := #[{ name := "$assertionsDisabled", type := .boolean, accessFlags := 4120, slot := 0, constantValue := 0 }]
  methods := #[k13m0, k13m1, k13m2, k13m3]
  instanceTypes := #[]
  staticTypes := #[.boolean]
  resolved := Array.replicate 395 none
  statics := none }

def pool14 : Array CpInfo := pool [(2, .class_ 4), (1, u "java/lang/Object"), (0, u "<init>"), (0, u "()V"), (17, .class_ 26), (1, u "jdk/internal/util/Preconditions"), (6, u "checkIndex"), (21, .class_ 56), (0, u "jdk/internal/util/Preconditions$4"), (57, .class_ 115), (0, u "jdk/internal/util/Preconditions$1"), (7, u "SIOOBE_FORMATTER"), (0, u "Ljava/util/function/BiFunction;"), (0, .class_ 126), (0, u "jdk/internal/util/Preconditions$2"), (3, u "AIOOBE_FORMATTER"), (0, .class_ 132), (0, u "jdk/internal/util/Preconditions$3"), (3, u "IOOBE_FORMATTER"), (41, u "(IILjava/util/function/BiFunction;)I")] 15

def k14m0 : Method := { name := "<init>", desc := "()V", sig := { parameters := [], returnType := none }, accessFlags := 1, code := none }
def k14c1 : Code := { maxStack := 3, maxLocals := 3, code := jdk_41_method_11_code, exceptionTable := #[], attributes := #[] }
def k14m1 : Method := { name := "checkIndex", desc := "(IILjava/util/function/BiFunction;)I", sig := { parameters := [.int, .int, (.object "java/util/function/BiFunction")], returnType := some .int }, accessFlags := 9, code := some k14c1 }
/-- jdk/internal/util/Preconditions -/
def k14 : Class := { plain "jdk/internal/util/Preconditions" (some 0) with
  accessFlags := 33
  interfaces := #[]
  cf := some (fileOf pool14 24 #[.nestMembers #[55, 131, 125, 114]] #[{ accessFlags := 1, nameIndex := 5, descriptorIndex := 6, attributes := #[] }, { accessFlags := 9, nameIndex := 33, descriptorIndex := 178, attributes := #[] }] 33 2 #[] #[{ accessFlags := 25, nameIndex := 123, descriptorIndex := 124, attributes := #[] }, { accessFlags := 25, nameIndex := 130, descriptorIndex := 124, attributes := #[] }, { accessFlags := 25, nameIndex := 136, descriptorIndex := 124, attributes := #[] }])
  fields := #[{ name := "SIOOBE_FORMATTER", type := (.object "java/util/function/BiFunction"), accessFlags := 25, slot := 0, constantValue := 0 }, { name := "AIOOBE_FORMATTER", type := (.object "java/util/function/BiFunction"), accessFlags := 25, slot := 1, constantValue := 0 }, { name := "IOOBE_FORMATTER", type := (.object "java/util/function/BiFunction"), accessFlags := 25, slot := 2, constantValue := 0 }]
  methods := #[k14m0, k14m1]
  instanceTypes := #[]
  staticTypes := #[(.object "java/util/function/BiFunction"), (.object "java/util/function/BiFunction"), (.object "java/util/function/BiFunction")]
  resolved := Array.replicate 194 none
  statics := some 2 }

def pool15 : Array CpInfo := pool [(6, .class_ 8), (1, u "java/lang/Object"), (0, u "<init>"), (0, u "()V"), (1, .class_ 14), (1, u "java/lang/StringUTF16"), (31, u "$assertionsDisabled"), (0, u "Z"), (13, u "HI_BYTE_SHIFT"), (0, u "I"), (2, u "LO_BYTE_SHIFT"), (49, .methodref 12 116), (0, .nameAndType 117 118), (0, u "compress"), (0, u "([CI[BII)I"), (3, u "([CII)[B"), (138, u "coderFromArrayLen"), (0, u "([BI)B"), (106, .class_ 371), (1, u "java/lang/StringUTF16$LinesSpliterator"), (58, u "MAX_LENGTH"), (196, .class_ 628), (0, u "java/lang/StringUTF16$CodePointsSpliterator"), (0, .class_ 630), (0, u "java/lang/StringUTF16$CharsSpliterator")] 4

def k15m0 : Method := { name := "<init>", desc := "()V", sig := { parameters := [], returnType := none }, accessFlags := 0, code := none }
def k15c1 : Code := { maxStack := 2, maxLocals := 2, code := jdk_52_method_15_code, exceptionTable := #[], attributes := #[] }
def k15m1 : Method := { name := "coderFromArrayLen", desc := "([BI)B", sig := { parameters := [(.array .byte), .int], returnType := some .byte }, accessFlags := 8, code := some k15c1 }
def k15c2 : Code := { maxStack := 5, maxLocals := 6, code := jdk_52_method_16_code, exceptionTable := #[], attributes := #[] }
def k15m2 : Method := { name := "compress", desc := "([CII)[B", sig := { parameters := [(.array .char), .int, .int], returnType := some (.array .byte) }, accessFlags := 9, code := some k15c2 }
def k15c3 : Code := { maxStack := 3, maxLocals := 7, code := jdk_52_method_21_code, exceptionTable := #[], attributes := #[] }
def k15m3 : Method := { name := "compress", desc := "([CI[BII)I", sig := { parameters := [(.array .char), .int, (.array .byte), .int, .int], returnType := some .int }, accessFlags := 9, code := some k15c3 }
/-- java/lang/StringUTF16 -/
def k15 : Class := { plain "java/lang/StringUTF16" (some 0) with
  accessFlags := 48
  interfaces := #[]
  cf := some (fileOf pool15 12 #[.nestMembers #[627, 629, 369]] #[{ accessFlags := 0, nameIndex := 9, descriptorIndex := 10, attributes := #[] }, { accessFlags := 8, nameIndex := 261, descriptorIndex := 262, attributes := #[] }, { accessFlags := 9, nameIndex := 117, descriptorIndex := 122, attributes := #[] }, { accessFlags := 9, nameIndex := 117, descriptorIndex := 118, attributes := #[] }] 48 6 #[] #[{ accessFlags := 26, nameIndex := 61, descriptorIndex := 62, attributes := #[] }, { accessFlags := 26, nameIndex := 65, descriptorIndex := 62, attributes := #[] }, { accessFlags := 24, nameIndex := 430, descriptorIndex := 62, attributes := #[] }, { accessFlags := 4120, nameIndex := 46, descriptorIndex := 47, attributes := #[] }])
  fields := #[{ name := "HI_BYTE_SHIFT", type := .int, accessFlags := 26, slot := 0, constantValue := 0 }, { name := "LO_BYTE_SHIFT", type := .int, accessFlags := 26, slot := 1, constantValue := 0 }, { name := "MAX_LENGTH", type := .int, accessFlags := 24, slot := 2, constantValue := 0 }, { name := "$assertionsDisabled", type := .boolean, accessFlags := 4120, slot := 3, constantValue := 0 }]
  methods := #[k15m0, k15m1, k15m2, k15m3]
  instanceTypes := #[]
  staticTypes := #[.int, .int, .int, .boolean]
  resolved := Array.replicate 635 none
  statics := none }

def pool16 : Array CpInfo := pool [(9, u "<init>"), (6, .class_ 18), (1, u "java/lang/Object"), (0, u "()V"), (1, .class_ 23), (1, u "jdk/internal/util/ArraysSupport"), (0, u "LOG2_ARRAY_LONG_INDEX_SCALE"), (0, u "I"), (2, u "U"), (0, u "Ljdk/internal/misc/Unsafe;"), (8, u "BIG_ENDIAN"), (0, u "Z"), (8, u "LOG2_BYTE_BIT_SIZE"), (4, u "LOG2_ARRAY_INT_INDEX_SCALE"), (54, u "JLA"), (0, u "Ljdk/internal/access/JavaLangAccess;"), (11, u "LOG2_ARRAY_BOOLEAN_INDEX_SCALE"), (9, u "LOG2_ARRAY_BYTE_INDEX_SCALE"), (5, u "LOG2_ARRAY_CHAR_INDEX_SCALE"), (5, u "LOG2_ARRAY_SHORT_INDEX_SCALE"), (18, u "LOG2_ARRAY_FLOAT_INDEX_SCALE"), (24, u "LOG2_ARRAY_DOUBLE_INDEX_SCALE"), (89, u "T_BOOLEAN"), (2, u "T_CHAR"), (1, u "T_FLOAT"), (1, u "T_DOUBLE"), (1, u "T_BYTE"), (1, u "T_SHORT"), (1, u "T_INT"), (1, u "T_LONG"), (1, u "SOFT_MAX_ARRAY_LENGTH")] 83

def k16m0 : Method := { name := "<init>", desc := "()V", sig := { parameters := [], returnType := none }, accessFlags := 2, code := none }
/-- jdk/internal/util/ArraysSupport -/
def k16 : Class := { plain "jdk/internal/util/ArraysSupport" (some 0) with
  accessFlags := 33
  interfaces := #[]
  cf := some (fileOf pool16 21 #[] #[{ accessFlags := 2, nameIndex := 9, descriptorIndex := 19, attributes := #[] }] 33 16 #[] #[{ accessFlags := 24, nameIndex := 28, descriptorIndex := 29, attributes := #[] }, { accessFlags := 26, nameIndex := 38, descriptorIndex := 39, attributes := #[] }, { accessFlags := 25, nameIndex := 121, descriptorIndex := 25, attributes := #[] }, { accessFlags := 25, nameIndex := 131, descriptorIndex := 25, attributes := #[] }, { accessFlags := 25, nameIndex := 137, descriptorIndex := 25, attributes := #[] }, { accessFlags := 25, nameIndex := 143, descriptorIndex := 25, attributes := #[] }, { accessFlags := 25, nameIndex := 53, descriptorIndex := 25, attributes := #[] }, { accessFlags := 25, nameIndex := 24, descriptorIndex := 25, attributes := #[] }, { accessFlags := 25, nameIndex := 162, descriptorIndex := 25, attributes := #[] }, { accessFlags := 25, nameIndex := 187, descriptorIndex := 25, attributes := #[] }, { accessFlags := 26, nameIndex := 48, descriptorIndex := 25, attributes := #[] }, { accessFlags := 25, nameIndex := 277, descriptorIndex := 25, attributes := #[] }, { accessFlags := 25, nameIndex := 280, descriptorIndex := 25, attributes := #[] }, { accessFlags := 25, nameIndex := 282, descriptorIndex := 25, attributes := #[] }, { accessFlags := 25, nameIndex := 284, descriptorIndex := 25, attributes := #[] }, { accessFlags := 25, nameIndex := 286, descriptorIndex := 25, attributes := #[] }, { accessFlags := 25, nameIndex := 288, descriptorIndex := 25, attributes := #[] }, { accessFlags := 25, nameIndex := 290, descriptorIndex := 25, attributes := #[] }, { accessFlags := 25, nameIndex := 292, descriptorIndex := 25, attributes := #[] }, { accessFlags := 26, nameIndex := 108, descriptorIndex := 109, attributes := #[] }, { accessFlags := 25, nameIndex := 294, descriptorIndex := 25, attributes := #[] }])
  fields := #[{ name := "U", type := (.object "jdk/internal/misc/Unsafe"), accessFlags := 24, slot := 0, constantValue := 0 }, { name := "BIG_ENDIAN", type := .boolean, accessFlags := 26, slot := 1, constantValue := 0 }, { name := "LOG2_ARRAY_BOOLEAN_INDEX_SCALE", type := .int, accessFlags := 25, slot := 2, constantValue := 0 }, { name := "LOG2_ARRAY_BYTE_INDEX_SCALE", type := .int, accessFlags := 25, slot := 3, constantValue := 0 }, { name := "LOG2_ARRAY_CHAR_INDEX_SCALE", type := .int, accessFlags := 25, slot := 4, constantValue := 0 }, { name := "LOG2_ARRAY_SHORT_INDEX_SCALE", type := .int, accessFlags := 25, slot := 5, constantValue := 0 }, { name := "LOG2_ARRAY_INT_INDEX_SCALE", type := .int, accessFlags := 25, slot := 6, constantValue := 0 }, { name := "LOG2_ARRAY_LONG_INDEX_SCALE", type := .int, accessFlags := 25, slot := 7, constantValue := 0 }, { name := "LOG2_ARRAY_FLOAT_INDEX_SCALE", type := .int, accessFlags := 25, slot := 8, constantValue := 0 }, { name := "LOG2_ARRAY_DOUBLE_INDEX_SCALE", type := .int, accessFlags := 25, slot := 9, constantValue := 0 }, { name := "LOG2_BYTE_BIT_SIZE", type := .int, accessFlags := 26, slot := 10, constantValue := 0 }, { name := "T_BOOLEAN", type := .int, accessFlags := 25, slot := 11, constantValue := 0 }, { name := "T_CHAR", type := .int, accessFlags := 25, slot := 12, constantValue := 0 }, { name := "T_FLOAT", type := .int, accessFlags := 25, slot := 13, constantValue := 0 }, { name := "T_DOUBLE", type := .int, accessFlags := 25, slot := 14, constantValue := 0 }, { name := "T_BYTE", type := .int, accessFlags := 25, slot := 15, constantValue := 0 }, { name := "T_SHORT", type := .int, accessFlags := 25, slot := 16, constantValue := 0 }, { name := "T_INT", type := .int, accessFlags := 25, slot := 17, constantValue := 0 }, { name := "T_LONG", type := .int, accessFlags := 25, slot := 18, constantValue := 0 }, { name := "JLA", type := (.object "jdk/internal/access/JavaLangAccess"), accessFlags := 26, slot := 19, constantValue := 0 }, { name := "SOFT_MAX_ARRAY_LENGTH", type := .int, accessFlags := 25, slot := 20, constantValue := 0 }]
  methods := #[k16m0]
  instanceTypes := #[]
  staticTypes := #[(.object "jdk/internal/misc/Unsafe"), .boolean, .int, .int, .int, .int, .int, .int, .int, .int, .int, .int, .int, .int, .int, .int, .int, .int, .int, (.object "jdk/internal/access/JavaLangAccess"), .int]
  resolved := Array.replicate 378 none
  statics := none }

def pool17 : Array CpInfo := pool [(1, u "java/lang/Cloneable"), (0, .class_ 1), (0, u "java/lang/Object"), (0, .class_ 3)] 3

/-- java/lang/Cloneable -/
def k17 : Class := { plain "java/lang/Cloneable" (some 0) with
  accessFlags := 1537
  interfaces := #[]
  cf := some (fileOf pool17 2 #[] #[] 1537 4 #[] #[])
  fields := #[]
  methods := #[]
  instanceTypes := #[]
  staticTypes := #[]
  resolved := Array.replicate 8 none
  statics := none }

/-- the primitive byte -/
def k18 : Class := { plain "byte" none with kind := .primitive 'B', accessFlags := 0x411 }
/-- [B -/
def k19 : Class := { plain "[B" (some 0) with kind := .array 18 .byte, interfaces := #[17, 2], accessFlags := 1041 }

/-- the primitive char -/
def k20 : Class := { plain "char" none with kind := .primitive 'C', accessFlags := 0x411 }
/-- [C -/
def k21 : Class := { plain "[C" (some 0) with kind := .array 20 .char, interfaces := #[17, 2], accessFlags := 1041 }

/-- the primitive int -/
def k22 : Class := { plain "int" none with kind := .primitive 'I', accessFlags := 0x411 }
/-- [I -/
def k23 : Class := { plain "[I" (some 0) with kind := .array 22 .int, interfaces := #[17, 2], accessFlags := 1041 }

def classes0 : Array Class := #[k0, k1, k2, k3, k4, k5, k6, k7, k8, k9, k10, k11, k12, k13, k14, k15, k16, k17, k18, k19, k20, k21, k22, k23]
/-- the class that the rule has made for the site at 5 of com/example/indelible_crawl/indeliblecrawl/fetch/Validators.<init> -/
def k24 : Class := Jvm.LamKit.madeRec { classes := classes0 } "com/example/indelible_crawl/indeliblecrawl/fetch/Validators" (Jvm.Lambda.Shape.mk "java/util/function/Predicate" "test" (Jvm.ClassFile.MethodDescriptor.mk ([(Jvm.ClassFile.FieldType.object "java/lang/Object")] : List Jvm.ClassFile.FieldType) (Option.some Jvm.ClassFile.FieldType.boolean)) ([] : List Jvm.ClassFile.FieldType) (6 : Nat) "com/example/indelible_crawl/indeliblecrawl/fetch/Validators" "canBeSent" (Jvm.ClassFile.MethodDescriptor.mk ([(Jvm.ClassFile.FieldType.object "java/lang/String")] : List Jvm.ClassFile.FieldType) (Option.some Jvm.ClassFile.FieldType.boolean)) false (Jvm.ClassFile.MethodDescriptor.mk ([(Jvm.ClassFile.FieldType.object "java/lang/String")] : List Jvm.ClassFile.FieldType) (Option.some Jvm.ClassFile.FieldType.boolean))) 24

/-- the class that the rule has made for the site at 15 of com/example/indelible_crawl/indeliblecrawl/fetch/Validators.<init> -/
def k25 : Class := Jvm.LamKit.madeRec { classes := classes0 } "com/example/indelible_crawl/indeliblecrawl/fetch/Validators" (Jvm.Lambda.Shape.mk "java/util/function/Predicate" "test" (Jvm.ClassFile.MethodDescriptor.mk ([(Jvm.ClassFile.FieldType.object "java/lang/Object")] : List Jvm.ClassFile.FieldType) (Option.some Jvm.ClassFile.FieldType.boolean)) ([] : List Jvm.ClassFile.FieldType) (6 : Nat) "com/example/indelible_crawl/indeliblecrawl/fetch/Validators" "canBeSent" (Jvm.ClassFile.MethodDescriptor.mk ([(Jvm.ClassFile.FieldType.object "java/lang/String")] : List Jvm.ClassFile.FieldType) (Option.some Jvm.ClassFile.FieldType.boolean)) false (Jvm.ClassFile.MethodDescriptor.mk ([(Jvm.ClassFile.FieldType.object "java/lang/String")] : List Jvm.ClassFile.FieldType) (Option.some Jvm.ClassFile.FieldType.boolean))) 25

def heap : Heap := #[{ cls := 7, slots := #[.long 0, .int 1, .null, .int 0, .null, .int 0, .int 0], vm := .statics 7 },
  { cls := 8, slots := #[.ref 5], vm := .statics 8 },
  { cls := 14, slots := #[.null, .null, .null], vm := .statics 14 },
  { cls := 24, slots := #[], vm := .none },
  { cls := 25, slots := #[], vm := .none },
  { cls := 8, slots := #[.null], vm := .none }]
def classes : Array Class := #[k0, k1, k2, k3, k4, k5, k6, k7, k8, k9, k10, k11, k12, k13, k14, k15, k16, k17, k18, k19, k20, k21, k22, k23, k24, k25]
def interned : List (Array UInt16 × Addr) := []
def slotsUsed : Nat := 12
def theMethod : MethodId := ⟨1, 1⟩
def args0 : Array Value := #[.int 5, .int 5, .int 5, .int 5, .int 5]
def aboutOver (below : List Frame) : State where
  vm := { classes := classes, interned := interned.toArray }
  heap := heap
  slotsUsed := slotsUsed
  threads := #[{ frames := .invoking theMethod args0 :: below }]
def below0 : List Frame := [.native { method := ⟨0, 0⟩, args := #[] }]
def about1 : State := aboutOver below0
def p0 : Program := .bare "" "" ""
def e0 : Env := launch0.env 0 0 0
theorem w_frames : about1.frames = Frame.invoking theMethod args0 :: below0 := rfl
set_option maxRecDepth 65536 in
theorem w_args : argsFit about1.vm theMethod args0 = true := by decide +kernel
set_option maxRecDepth 65536 in
theorem w_heap : heapFits about1 = true := by decide +kernel
set_option maxRecDepth 65536 in
theorem w_runnable : about1.curStatus? = some .runnable := by decide +kernel
set_option maxRecDepth 65536 in
theorem w_alone : about1.alone = true := by decide +kernel
set_option maxRecDepth 65536 in
theorem w_named : about1.methodNamed? x = some theMethod := by decide +kernel
set_option maxRecDepth 65536 in
theorem w_hears : about1.hears theMethod below0 = true := by decide +kernel
set_option maxRecDepth 65536 in
theorem w_ripe : about1.ripe theMethod args0 below0 = true := by decide +kernel
theorem w_running : about1.status = .running := rfl
set_option maxRecDepth 65536 in
theorem w_room : about1.hasRoom e0.platform room_1 = true :=
  launch0.hasRoom_least _ room_1 (by decide +kernel) (by decide +kernel) (by decide +kernel) (by decide +kernel) (by decide +kernel) (by decide +kernel)
theorem allAtoms_all (ts : List Jvm.Cond) (a : Array Jvm.Value) (st : Jvm.State) : (allAtoms ts).before a st = ts.all (fun c => c.before a st) := by
  induction ts with
  | nil => rfl
  | cons c t ih =>
    show (Jvm.Cond.and c (allAtoms t)).before a st = _
    rw [Jvm.Cond.before_and, ih, List.all_cons]
def words1 : List Jvm.Cond := Jvm.Cond.code x code maxLocals ret :: tables_1
/-- a 'code' word, met by the world's own term for the bytes: nothing is compared byte by byte -/
theorem code_word {y : MethodName} {bytes : ByteArray} {mx : Nat} {rt : Option FieldType} {a : Array Value} {s : State} {m : MethodId} {meth : Method} {c : Code} (h1 : s.methodNamed? y = some m) (h2 : s.vm.method? m = some meth) (h3 : meth.code = some c) (h4 : c.code = bytes)
    (h5 : (c.maxLocals == mx && c.exceptionTable.isEmpty && decide (c.maxStack ≤ mostOperands) && decide (meth.sig.returnType = rt) && !meth.locks && decide (parseMethodDescriptor y.desc = some meth.sig)) = true) : (Jvm.Cond.code y bytes mx rt).before a s = true := by
  simp only [Bool.and_eq_true, beq_iff_eq, Bool.not_eq_true', decide_eq_true_eq] at h5
  obtain ⟨⟨⟨⟨⟨g1, g2⟩, g3⟩, g4⟩, g5⟩, g6⟩ := h5
  simp [Cond.before, Cond.holds, Cond.value, h1, h2, h3, h4, g1, g2, g3, g4, g5, g6]
def isCode : Jvm.Cond → Bool
  | .code _ _ _ _ => true
  | _ => false
theorem all_split {L : List Jvm.Cond} {P : Jvm.Cond → Bool} (h1 : L.all (fun c => isCode c || P c) = true) (h2 : ∀ c ∈ L.filter isCode, P c = true) : L.all P = true := by
  refine List.all_eq_true.mpr fun c hc => ?_
  have h := List.all_eq_true.mp h1 c hc
  rcases Bool.eq_false_or_eq_true (isCode c) with hi | hi
  · exact h2 c (List.mem_filter.mpr ⟨hc, hi⟩)
  · simpa [hi] using h
set_option maxRecDepth 65536 in
theorem w_c0 : (Jvm.Cond.code x code maxLocals ret).before args0 about1 = true := code_word (m := ⟨1, 1⟩) (meth := k1m1) (c := k1c1) (by decide +kernel) rfl rfl rfl (by decide +kernel)
set_option maxRecDepth 65536 in
theorem w_c1 : (Jvm.Cond.code ({ cls := "com/example/indelible_crawl/indeliblecrawl/fetch/ValidatorsIsEmptyPinLaw", name := "make", desc := "(ICC)Ljava/lang/String;" } : Jvm.MethodName) method_3_code (3 : Nat) (Option.some (Jvm.ClassFile.FieldType.object "java/lang/String"))).before args0 about1 = true := code_word (m := ⟨1, 2⟩) (meth := k1m2) (c := k1c2) (by decide +kernel) rfl rfl rfl (by decide +kernel)
set_option maxRecDepth 65536 in
theorem w_c2 : (Jvm.Cond.code ({ cls := "java/lang/String", name := "<init>", desc := "([C)V" } : Jvm.MethodName) jdk_42_method_3_code (2 : Nat) (Option.none : Option Jvm.ClassFile.FieldType)).before args0 about1 = true := code_word (m := ⟨7, 1⟩) (meth := k7m1) (c := k7c1) (by decide +kernel) rfl rfl rfl (by decide +kernel)
set_option maxRecDepth 65536 in
theorem w_c3 : (Jvm.Cond.code ({ cls := "java/lang/String", name := "<init>", desc := "([CIILjava/lang/Void;)V" } : Jvm.MethodName) jdk_42_method_149_code (6 : Nat) (Option.none : Option Jvm.ClassFile.FieldType)).before args0 about1 = true := code_word (m := ⟨7, 5⟩) (meth := k7m5) (c := k7c5) (by decide +kernel) rfl rfl rfl (by decide +kernel)
set_option maxRecDepth 65536 in
theorem w_c4 : (Jvm.Cond.code ({ cls := "java/lang/Object", name := "<init>", desc := "()V" } : Jvm.MethodName) object_method_1_code (1 : Nat) (Option.none : Option Jvm.ClassFile.FieldType)).before args0 about1 = true := code_word (m := ⟨0, 0⟩) (meth := k0m0) (c := k0c0) (by decide +kernel) rfl rfl rfl (by decide +kernel)
set_option maxRecDepth 65536 in
theorem w_c5 : (Jvm.Cond.code ({ cls := "java/util/Optional", name := "empty", desc := "()Ljava/util/Optional;" } : Jvm.MethodName) jdk_32_method_1_code (1 : Nat) (Option.some (Jvm.ClassFile.FieldType.object "java/util/Optional"))).before args0 about1 = true := code_word (m := ⟨8, 0⟩) (meth := k8m0) (c := k8c0) (by decide +kernel) rfl rfl rfl (by decide +kernel)
set_option maxRecDepth 65536 in
theorem w_c6 : (Jvm.Cond.code ({ cls := "com/example/indelible_crawl/indeliblecrawl/fetch/Validators", name := "<init>", desc := "(Ljava/util/Optional;Ljava/util/Optional;)V" } : Jvm.MethodName) prog_47_method_1_code (3 : Nat) (Option.none : Option Jvm.ClassFile.FieldType)).before args0 about1 = true := code_word (m := ⟨10, 0⟩) (meth := k10m0) (c := k10c0) (by decide +kernel) rfl rfl rfl (by decide +kernel)
set_option maxRecDepth 65536 in
theorem w_c7 : (Jvm.Cond.code ({ cls := "java/lang/Record", name := "<init>", desc := "()V" } : Jvm.MethodName) jdk_30_method_1_code (1 : Nat) (Option.none : Option Jvm.ClassFile.FieldType)).before args0 about1 = true := code_word (m := ⟨9, 0⟩) (meth := k9m0) (c := k9c0) (by decide +kernel) rfl rfl rfl (by decide +kernel)
set_option maxRecDepth 65536 in
theorem w_c8 : (Jvm.Cond.code ({ cls := "java/util/Optional", name := "filter", desc := "(Ljava/util/function/Predicate;)Ljava/util/Optional;" } : Jvm.MethodName) jdk_32_method_10_code (2 : Nat) (Option.some (Jvm.ClassFile.FieldType.object "java/util/Optional"))).before args0 about1 = true := code_word (m := ⟨8, 4⟩) (meth := k8m4) (c := k8c4) (by decide +kernel) rfl rfl rfl (by decide +kernel)
set_option maxRecDepth 65536 in
theorem w_c9 : (Jvm.Cond.code ({ cls := "java/util/Objects", name := "requireNonNull", desc := "(Ljava/lang/Object;)Ljava/lang/Object;" } : Jvm.MethodName) jdk_31_method_10_code (1 : Nat) (Option.some (Jvm.ClassFile.FieldType.object "java/lang/Object"))).before args0 about1 = true := code_word (m := ⟨12, 1⟩) (meth := k12m1) (c := k12c1) (by decide +kernel) rfl rfl rfl (by decide +kernel)
set_option maxRecDepth 65536 in
theorem w_c10 : (Jvm.Cond.code ({ cls := "java/util/Optional", name := "isEmpty", desc := "()Z" } : Jvm.MethodName) jdk_32_method_7_code (1 : Nat) (Option.some Jvm.ClassFile.FieldType.boolean)).before args0 about1 = true := code_word (m := ⟨8, 3⟩) (meth := k8m3) (c := k8c3) (by decide +kernel) rfl rfl rfl (by decide +kernel)
set_option maxRecDepth 65536 in
theorem w_c11 : (Jvm.Cond.code ({ cls := "com/example/indelible_crawl/indeliblecrawl/fetch/Validators", name := "isEmpty", desc := "()Z" } : Jvm.MethodName) prog_47_method_2_code (1 : Nat) (Option.some Jvm.ClassFile.FieldType.boolean)).before args0 about1 = true := code_word (m := ⟨10, 1⟩) (meth := k10m1) (c := k10c1) (by decide +kernel) rfl rfl rfl (by decide +kernel)
set_option maxRecDepth 65536 in
theorem w_c12 : (Jvm.Cond.code ({ cls := "java/lang/String", name := "valueOf", desc := "(C)Ljava/lang/String;" } : Jvm.MethodName) jdk_42_method_139_code (1 : Nat) (Option.some (Jvm.ClassFile.FieldType.object "java/lang/String"))).before args0 about1 = true := code_word (m := ⟨7, 4⟩) (meth := k7m4) (c := k7c4) (by decide +kernel) rfl rfl rfl (by decide +kernel)
set_option maxRecDepth 65536 in
theorem w_c13 : (Jvm.Cond.code ({ cls := "java/lang/StringLatin1", name := "canEncode", desc := "(C)Z" } : Jvm.MethodName) jdk_43_method_3_code (1 : Nat) (Option.some Jvm.ClassFile.FieldType.boolean)).before args0 about1 = true := code_word (m := ⟨13, 2⟩) (meth := k13m2) (c := k13c2) (by decide +kernel) rfl rfl rfl (by decide +kernel)
set_option maxRecDepth 65536 in
theorem w_c14 : (Jvm.Cond.code ({ cls := "java/lang/StringLatin1", name := "toBytes", desc := "(C)[B" } : Jvm.MethodName) jdk_43_method_46_code (1 : Nat) (Option.some (Jvm.ClassFile.FieldType.array Jvm.ClassFile.FieldType.byte))).before args0 about1 = true := code_word (m := ⟨13, 3⟩) (meth := k13m3) (c := k13c3) (by decide +kernel) rfl rfl rfl (by decide +kernel)
set_option maxRecDepth 65536 in
theorem w_c15 : (Jvm.Cond.code ({ cls := "java/lang/String", name := "<init>", desc := "([BB)V" } : Jvm.MethodName) jdk_42_method_151_code (3 : Nat) (Option.none : Option Jvm.ClassFile.FieldType)).before args0 about1 = true := code_word (m := ⟨7, 6⟩) (meth := k7m6) (c := k7c6) (by decide +kernel) rfl rfl rfl (by decide +kernel)
set_option maxRecDepth 65536 in
theorem w_c16 : (Jvm.Cond.code ({ cls := "java/util/Optional", name := "of", desc := "(Ljava/lang/Object;)Ljava/util/Optional;" } : Jvm.MethodName) jdk_32_method_3_code (1 : Nat) (Option.some (Jvm.ClassFile.FieldType.object "java/util/Optional"))).before args0 about1 = true := code_word (m := ⟨8, 2⟩) (meth := k8m2) (c := k8c2) (by decide +kernel) rfl rfl rfl (by decide +kernel)
set_option maxRecDepth 65536 in
theorem w_c17 : (Jvm.Cond.code ({ cls := "java/util/Optional", name := "<init>", desc := "(Ljava/lang/Object;)V" } : Jvm.MethodName) jdk_32_method_2_code (2 : Nat) (Option.none : Option Jvm.ClassFile.FieldType)).before args0 about1 = true := code_word (m := ⟨8, 1⟩) (meth := k8m1) (c := k8c1) (by decide +kernel) rfl rfl rfl (by decide +kernel)
set_option maxRecDepth 65536 in
theorem w_c18 : (Jvm.Cond.code ({ cls := "com/example/indelible_crawl/indeliblecrawl/fetch/Validators", name := "canBeSent", desc := "(Ljava/lang/String;)Z" } : Jvm.MethodName) prog_47_method_3_code (3 : Nat) (Option.some Jvm.ClassFile.FieldType.boolean)).before args0 about1 = true := code_word (m := ⟨10, 2⟩) (meth := k10m2) (c := k10c2) (by decide +kernel) rfl rfl rfl (by decide +kernel)
set_option maxRecDepth 65536 in
theorem w_c19 : (Jvm.Cond.code ({ cls := "java/lang/String", name := "length", desc := "()I" } : Jvm.MethodName) jdk_42_method_54_code (1 : Nat) (Option.some Jvm.ClassFile.FieldType.int)).before args0 about1 = true := code_word (m := ⟨7, 2⟩) (meth := k7m2) (c := k7c2) (by decide +kernel) rfl rfl rfl (by decide +kernel)
set_option maxRecDepth 65536 in
theorem w_c20 : (Jvm.Cond.code ({ cls := "java/lang/String", name := "coder", desc := "()B" } : Jvm.MethodName) jdk_42_method_152_code (1 : Nat) (Option.some Jvm.ClassFile.FieldType.byte)).before args0 about1 = true := code_word (m := ⟨7, 7⟩) (meth := k7m7) (c := k7c7) (by decide +kernel) rfl rfl rfl (by decide +kernel)
set_option maxRecDepth 65536 in
theorem w_c21 : (Jvm.Cond.code ({ cls := "java/lang/String", name := "charAt", desc := "(I)C" } : Jvm.MethodName) jdk_42_method_56_code (2 : Nat) (Option.some Jvm.ClassFile.FieldType.char)).before args0 about1 = true := code_word (m := ⟨7, 3⟩) (meth := k7m3) (c := k7c3) (by decide +kernel) rfl rfl rfl (by decide +kernel)
set_option maxRecDepth 65536 in
theorem w_c22 : (Jvm.Cond.code ({ cls := "java/lang/String", name := "isLatin1", desc := "()Z" } : Jvm.MethodName) jdk_42_method_154_code (1 : Nat) (Option.some Jvm.ClassFile.FieldType.boolean)).before args0 about1 = true := code_word (m := ⟨7, 8⟩) (meth := k7m8) (c := k7c8) (by decide +kernel) rfl rfl rfl (by decide +kernel)
set_option maxRecDepth 65536 in
theorem w_c23 : (Jvm.Cond.code ({ cls := "java/lang/StringLatin1", name := "charAt", desc := "([BI)C" } : Jvm.MethodName) jdk_43_method_2_code (2 : Nat) (Option.some Jvm.ClassFile.FieldType.char)).before args0 about1 = true := code_word (m := ⟨13, 1⟩) (meth := k13m1) (c := k13c1) (by decide +kernel) rfl rfl rfl (by decide +kernel)
set_option maxRecDepth 65536 in
theorem w_c24 : (Jvm.Cond.code ({ cls := "java/lang/String", name := "checkIndex", desc := "(II)V" } : Jvm.MethodName) jdk_42_method_155_code (2 : Nat) (Option.none : Option Jvm.ClassFile.FieldType)).before args0 about1 = true := code_word (m := ⟨7, 9⟩) (meth := k7m9) (c := k7c9) (by decide +kernel) rfl rfl rfl (by decide +kernel)
set_option maxRecDepth 65536 in
theorem w_c25 : (Jvm.Cond.code ({ cls := "jdk/internal/util/Preconditions", name := "checkIndex", desc := "(IILjava/util/function/BiFunction;)I" } : Jvm.MethodName) jdk_41_method_11_code (3 : Nat) (Option.some Jvm.ClassFile.FieldType.int)).before args0 about1 = true := code_word (m := ⟨14, 1⟩) (meth := k14m1) (c := k14c1) (by decide +kernel) rfl rfl rfl (by decide +kernel)
set_option maxRecDepth 65536 in
theorem w_c26 : (Jvm.Cond.code ({ cls := "com/example/indelible_crawl/indeliblecrawl/fetch/ValidatorsIsEmptyPinLaw", name := "sendable", desc := "(ICC)Z" } : Jvm.MethodName) method_5_code (3 : Nat) (Option.some Jvm.ClassFile.FieldType.boolean)).before args0 about1 = true := code_word (m := ⟨1, 4⟩) (meth := k1m4) (c := k1c4) (by decide +kernel) rfl rfl rfl (by decide +kernel)
set_option maxRecDepth 65536 in
theorem w_c27 : (Jvm.Cond.code ({ cls := "com/example/indelible_crawl/indeliblecrawl/fetch/ValidatorsIsEmptyPinLaw", name := "ok", desc := "(C)Z" } : Jvm.MethodName) method_4_code (1 : Nat) (Option.some Jvm.ClassFile.FieldType.boolean)).before args0 about1 = true := code_word (m := ⟨1, 3⟩) (meth := k1m3) (c := k1c3) (by decide +kernel) rfl rfl rfl (by decide +kernel)
set_option maxRecDepth 65536 in
theorem w_c28 : (Jvm.Cond.code ({ cls := "java/lang/StringUTF16", name := "compress", desc := "([CII)[B" } : Jvm.MethodName) jdk_52_method_16_code (6 : Nat) (Option.some (Jvm.ClassFile.FieldType.array Jvm.ClassFile.FieldType.byte))).before args0 about1 = true := code_word (m := ⟨15, 2⟩) (meth := k15m2) (c := k15c2) (by decide +kernel) rfl rfl rfl (by decide +kernel)
set_option maxRecDepth 65536 in
theorem w_c29 : (Jvm.Cond.code ({ cls := "java/lang/StringUTF16", name := "compress", desc := "([CI[BII)I" } : Jvm.MethodName) jdk_52_method_21_code (7 : Nat) (Option.some Jvm.ClassFile.FieldType.int)).before args0 about1 = true := code_word (m := ⟨15, 3⟩) (meth := k15m3) (c := k15c3) (by decide +kernel) rfl rfl rfl (by decide +kernel)
set_option maxRecDepth 65536 in
theorem w_c30 : (Jvm.Cond.code ({ cls := "java/lang/StringUTF16", name := "coderFromArrayLen", desc := "([BI)B" } : Jvm.MethodName) jdk_52_method_15_code (2 : Nat) (Option.some Jvm.ClassFile.FieldType.byte)).before args0 about1 = true := code_word (m := ⟨15, 1⟩) (meth := k15m1) (c := k15c1) (by decide +kernel) rfl rfl rfl (by decide +kernel)
def codes1 : List Jvm.Cond := [Jvm.Cond.code x code maxLocals ret, Jvm.Cond.code ({ cls := "com/example/indelible_crawl/indeliblecrawl/fetch/ValidatorsIsEmptyPinLaw", name := "make", desc := "(ICC)Ljava/lang/String;" } : Jvm.MethodName) method_3_code (3 : Nat) (Option.some (Jvm.ClassFile.FieldType.object "java/lang/String")), Jvm.Cond.code ({ cls := "java/lang/String", name := "<init>", desc := "([C)V" } : Jvm.MethodName) jdk_42_method_3_code (2 : Nat) (Option.none : Option Jvm.ClassFile.FieldType), Jvm.Cond.code ({ cls := "java/lang/String", name := "<init>", desc := "([CIILjava/lang/Void;)V" } : Jvm.MethodName) jdk_42_method_149_code (6 : Nat) (Option.none : Option Jvm.ClassFile.FieldType), Jvm.Cond.code ({ cls := "java/lang/Object", name := "<init>", desc := "()V" } : Jvm.MethodName) object_method_1_code (1 : Nat) (Option.none : Option Jvm.ClassFile.FieldType), Jvm.Cond.code ({ cls := "java/util/Optional", name := "empty", desc := "()Ljava/util/Optional;" } : Jvm.MethodName) jdk_32_method_1_code (1 : Nat) (Option.some (Jvm.ClassFile.FieldType.object "java/util/Optional")), Jvm.Cond.code ({ cls := "com/example/indelible_crawl/indeliblecrawl/fetch/Validators", name := "<init>", desc := "(Ljava/util/Optional;Ljava/util/Optional;)V" } : Jvm.MethodName) prog_47_method_1_code (3 : Nat) (Option.none : Option Jvm.ClassFile.FieldType), Jvm.Cond.code ({ cls := "java/lang/Record", name := "<init>", desc := "()V" } : Jvm.MethodName) jdk_30_method_1_code (1 : Nat) (Option.none : Option Jvm.ClassFile.FieldType), Jvm.Cond.code ({ cls := "java/util/Optional", name := "filter", desc := "(Ljava/util/function/Predicate;)Ljava/util/Optional;" } : Jvm.MethodName) jdk_32_method_10_code (2 : Nat) (Option.some (Jvm.ClassFile.FieldType.object "java/util/Optional")), Jvm.Cond.code ({ cls := "java/util/Objects", name := "requireNonNull", desc := "(Ljava/lang/Object;)Ljava/lang/Object;" } : Jvm.MethodName) jdk_31_method_10_code (1 : Nat) (Option.some (Jvm.ClassFile.FieldType.object "java/lang/Object")), Jvm.Cond.code ({ cls := "java/util/Optional", name := "isEmpty", desc := "()Z" } : Jvm.MethodName) jdk_32_method_7_code (1 : Nat) (Option.some Jvm.ClassFile.FieldType.boolean), Jvm.Cond.code ({ cls := "com/example/indelible_crawl/indeliblecrawl/fetch/Validators", name := "isEmpty", desc := "()Z" } : Jvm.MethodName) prog_47_method_2_code (1 : Nat) (Option.some Jvm.ClassFile.FieldType.boolean), Jvm.Cond.code ({ cls := "java/lang/String", name := "valueOf", desc := "(C)Ljava/lang/String;" } : Jvm.MethodName) jdk_42_method_139_code (1 : Nat) (Option.some (Jvm.ClassFile.FieldType.object "java/lang/String")), Jvm.Cond.code ({ cls := "java/lang/StringLatin1", name := "canEncode", desc := "(C)Z" } : Jvm.MethodName) jdk_43_method_3_code (1 : Nat) (Option.some Jvm.ClassFile.FieldType.boolean), Jvm.Cond.code ({ cls := "java/lang/StringLatin1", name := "toBytes", desc := "(C)[B" } : Jvm.MethodName) jdk_43_method_46_code (1 : Nat) (Option.some (Jvm.ClassFile.FieldType.array Jvm.ClassFile.FieldType.byte)), Jvm.Cond.code ({ cls := "java/lang/String", name := "<init>", desc := "([BB)V" } : Jvm.MethodName) jdk_42_method_151_code (3 : Nat) (Option.none : Option Jvm.ClassFile.FieldType), Jvm.Cond.code ({ cls := "java/util/Optional", name := "of", desc := "(Ljava/lang/Object;)Ljava/util/Optional;" } : Jvm.MethodName) jdk_32_method_3_code (1 : Nat) (Option.some (Jvm.ClassFile.FieldType.object "java/util/Optional")), Jvm.Cond.code ({ cls := "java/util/Optional", name := "<init>", desc := "(Ljava/lang/Object;)V" } : Jvm.MethodName) jdk_32_method_2_code (2 : Nat) (Option.none : Option Jvm.ClassFile.FieldType), Jvm.Cond.code ({ cls := "com/example/indelible_crawl/indeliblecrawl/fetch/Validators", name := "canBeSent", desc := "(Ljava/lang/String;)Z" } : Jvm.MethodName) prog_47_method_3_code (3 : Nat) (Option.some Jvm.ClassFile.FieldType.boolean), Jvm.Cond.code ({ cls := "java/lang/String", name := "length", desc := "()I" } : Jvm.MethodName) jdk_42_method_54_code (1 : Nat) (Option.some Jvm.ClassFile.FieldType.int), Jvm.Cond.code ({ cls := "java/lang/String", name := "coder", desc := "()B" } : Jvm.MethodName) jdk_42_method_152_code (1 : Nat) (Option.some Jvm.ClassFile.FieldType.byte), Jvm.Cond.code ({ cls := "java/lang/String", name := "charAt", desc := "(I)C" } : Jvm.MethodName) jdk_42_method_56_code (2 : Nat) (Option.some Jvm.ClassFile.FieldType.char), Jvm.Cond.code ({ cls := "java/lang/String", name := "isLatin1", desc := "()Z" } : Jvm.MethodName) jdk_42_method_154_code (1 : Nat) (Option.some Jvm.ClassFile.FieldType.boolean), Jvm.Cond.code ({ cls := "java/lang/StringLatin1", name := "charAt", desc := "([BI)C" } : Jvm.MethodName) jdk_43_method_2_code (2 : Nat) (Option.some Jvm.ClassFile.FieldType.char), Jvm.Cond.code ({ cls := "java/lang/String", name := "checkIndex", desc := "(II)V" } : Jvm.MethodName) jdk_42_method_155_code (2 : Nat) (Option.none : Option Jvm.ClassFile.FieldType), Jvm.Cond.code ({ cls := "jdk/internal/util/Preconditions", name := "checkIndex", desc := "(IILjava/util/function/BiFunction;)I" } : Jvm.MethodName) jdk_41_method_11_code (3 : Nat) (Option.some Jvm.ClassFile.FieldType.int), Jvm.Cond.code ({ cls := "com/example/indelible_crawl/indeliblecrawl/fetch/ValidatorsIsEmptyPinLaw", name := "sendable", desc := "(ICC)Z" } : Jvm.MethodName) method_5_code (3 : Nat) (Option.some Jvm.ClassFile.FieldType.boolean), Jvm.Cond.code ({ cls := "com/example/indelible_crawl/indeliblecrawl/fetch/ValidatorsIsEmptyPinLaw", name := "ok", desc := "(C)Z" } : Jvm.MethodName) method_4_code (1 : Nat) (Option.some Jvm.ClassFile.FieldType.boolean), Jvm.Cond.code ({ cls := "java/lang/StringUTF16", name := "compress", desc := "([CII)[B" } : Jvm.MethodName) jdk_52_method_16_code (6 : Nat) (Option.some (Jvm.ClassFile.FieldType.array Jvm.ClassFile.FieldType.byte)), Jvm.Cond.code ({ cls := "java/lang/StringUTF16", name := "compress", desc := "([CI[BII)I" } : Jvm.MethodName) jdk_52_method_21_code (7 : Nat) (Option.some Jvm.ClassFile.FieldType.int), Jvm.Cond.code ({ cls := "java/lang/StringUTF16", name := "coderFromArrayLen", desc := "([BI)B" } : Jvm.MethodName) jdk_52_method_15_code (2 : Nat) (Option.some Jvm.ClassFile.FieldType.byte)]
set_option maxRecDepth 65536 in
theorem codes_eq : words1.filter isCode = codes1 := rfl
theorem w_codes : ∀ c ∈ words1.filter isCode, c.before args0 about1 = true := by
  rw [codes_eq]
  intro c hc
  simp only [codes1, List.mem_cons, List.not_mem_nil, or_false] at hc
  rcases hc with rfl | rfl | rfl | rfl | rfl | rfl | rfl | rfl | rfl | rfl | rfl | rfl | rfl | rfl | rfl | rfl | rfl | rfl | rfl | rfl | rfl | rfl | rfl | rfl | rfl | rfl | rfl | rfl | rfl | rfl | rfl
  · exact w_c0
  · exact w_c1
  · exact w_c2
  · exact w_c3
  · exact w_c4
  · exact w_c5
  · exact w_c6
  · exact w_c7
  · exact w_c8
  · exact w_c9
  · exact w_c10
  · exact w_c11
  · exact w_c12
  · exact w_c13
  · exact w_c14
  · exact w_c15
  · exact w_c16
  · exact w_c17
  · exact w_c18
  · exact w_c19
  · exact w_c20
  · exact w_c21
  · exact w_c22
  · exact w_c23
  · exact w_c24
  · exact w_c25
  · exact w_c26
  · exact w_c27
  · exact w_c28
  · exact w_c29
  · exact w_c30
set_option maxRecDepth 65536 in
theorem w_t1 : (words1.take 24).all (fun c => isCode c || c.before args0 about1) = true := by decide +kernel
set_option maxRecDepth 65536 in
theorem w_t2 : ((words1.drop 24).take 24).all (fun c => isCode c || c.before args0 about1) = true := by decide +kernel
set_option maxRecDepth 65536 in
theorem w_t3 : (((words1.drop 24).drop 24).take 24).all (fun c => isCode c || c.before args0 about1) = true := by decide +kernel
set_option maxRecDepth 65536 in
theorem w_t4 : ((((words1.drop 24).drop 24).drop 24).take 24).all (fun c => isCode c || c.before args0 about1) = true := by decide +kernel
set_option maxRecDepth 65536 in
theorem w_t5 : (((((words1.drop 24).drop 24).drop 24).drop 24).take 24).all (fun c => isCode c || c.before args0 about1) = true := by decide +kernel
set_option maxRecDepth 65536 in
theorem w_t6 : ((((((words1.drop 24).drop 24).drop 24).drop 24).drop 24).take 24).all (fun c => isCode c || c.before args0 about1) = true := by decide +kernel
set_option maxRecDepth 65536 in
theorem w_t7 : ((((((words1.drop 24).drop 24).drop 24).drop 24).drop 24).drop 24).all (fun c => isCode c || c.before args0 about1) = true := by decide +kernel
theorem w_tables : (allAtoms (Jvm.Cond.code x code maxLocals ret :: tables_1)).before args0 about1 = true := by
  rw [allAtoms_all]
  show words1.all (fun c => c.before args0 about1) = true
  refine all_split ?_ w_codes
  rw [← List.take_append_drop 24 words1, List.all_append, w_t1, ← List.take_append_drop 24 (words1.drop 24), List.all_append, w_t2, ← List.take_append_drop 24 ((words1.drop 24).drop 24), List.all_append, w_t3, ← List.take_append_drop 24 (((words1.drop 24).drop 24).drop 24), List.all_append, w_t4, ← List.take_append_drop 24 ((((words1.drop 24).drop 24).drop 24).drop 24), List.all_append, w_t5, ← List.take_append_drop 24 (((((words1.drop 24).drop 24).drop 24).drop 24).drop 24), List.all_append, w_t6, w_t7]
  rfl
set_option maxRecDepth 65536 in
theorem w_rest : rest_1_c.before args0 about1 = true := by decide +kernel
set_option maxRecDepth 65536 in
theorem w_case : (Jvm.Cond.and given_1 narrow_1).before args0 about1 = true := by decide +kernel
set_option maxRecDepth 65536 in
theorem w_consts : constsHeld consts_1 about1 := Jvm.Lit.constsHeldB_iff.mp (by decide +kernel)
theorem w_applies : (headSpec (Jvm.Cond.code x code maxLocals ret :: tables_1) room_1).applies x e0.platform about1 = true :=
  (Spec.applies_iff w_frames).mpr ⟨w_running, w_runnable, w_alone, w_named, w_hears, w_ripe, w_room, w_tables⟩
theorem atStart : AtStart classFile x code maxLocals ret World_1 tables_1 room_1 Calls_1 rest_1 Pre_1 launch0 p0 e0 about1 theMethod args0 below0 :=
  ⟨lists_1, trivial, launch0.admits_env _ _ _, launch0.least_env, fairChoices_fair.cas, fairChoices_fair.clock, w_frames, w_args, w_heap, w_applies, ⟨w_consts, trivial⟩, w_rest, w_case⟩
end start1
theorem witness_1 : WitnessClaimed_1 := ⟨start1.p0, start1.e0, start1.about1, start1.theMethod, start1.args0, start1.below0, start1.atStart⟩
end Jvm.Pilot.@@N@@
