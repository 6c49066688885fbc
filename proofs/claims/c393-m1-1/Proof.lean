import JvmDerived
import JvmDerived.Pilot.@@N@@Statement
import JvmDerived.Pilot.@@N@@Code
set_option linter.unusedVariables false
set_option linter.unusedSimpArgs false
namespace Jvm.Pilot.@@N@@
open Jvm Jvm.ClassFile Sem Op Lib Jvm.Free Jvm.Stand Jvm.LawKit Jvm.RoadKit Bundle Jvm.Pilot.@@N@@.Jvm.D
def own_Q (r : Option Value) (h0 : Heap) (n0 : Nat) (v : Option Value) (h : Heap) (L : List Loc) : Prop := v = r ∧ Fr n0 L ∧ h = h0
def own_R (r : Option Value) (n0 : Nat) (v : Option Value) (h : Heap) (L : List Loc) : Prop := v = r ∧ Fr n0 L
theorem own_fld {s : State} {args : Array Value} {t : Term} {a : Addr} {C n d : String} {k : Int32} (ev : t.eval args s none [] s = some (.ref a)) (h : (Jvm.Cond.eq (Jvm.Term.field t C n d) (Jvm.Term.int k)).value args s none s [] = some true) : Fld s s.heap a C n d (.int k) := by
  obtain ⟨x, y, hx, hy, hk, hk'⟩ := cmp_v (Or.inl h)
  have hy' : y = .int k := (Option.some.inj hy).symm
  subst hy'
  obtain ⟨z, rfl⟩ := hk'
  have e : z = k := by simpa [Cond.value, hx, hy] using h
  subst e
  exact Fld.start (by rw [← fld_at ev]; exact hx)
theorem own_nefld {Z : State} {h : Heap} {a b : Addr} {C n d : String} {v w : Value} (F : Fld Z h a C n d v) (G : Fld Z h b C n d w) (q : v ≠ w) : a ≠ b := fun e => by
  subst e
  obtain ⟨c1, f1, k1, i1, g1, a1, a2, a3, a4, a5, a6, a7⟩ := F
  obtain ⟨c2, f2, k2, i2, g2, b1, b2, b3, b4, b5, b6, b7⟩ := G
  cases a1.symm.trans b1
  cases a2.symm.trans b2
  exact q (Option.some.inj (a7.symm.trans b7))
def own_G (Z : State) (w_PENDING w_SUCCEEDED w_FAILED w_RUNNING : Addr) : Prop := Sta Z Z.heap "com/example/even_dispatch/evendispatch/Status" "PENDING" "Lcom/example/even_dispatch/evendispatch/Status;" (.ref w_PENDING) ∧ Exa Z Z.heap w_PENDING "com/example/even_dispatch/evendispatch/Status" ∧ Sta Z Z.heap "com/example/even_dispatch/evendispatch/Status" "SUCCEEDED" "Lcom/example/even_dispatch/evendispatch/Status;" (.ref w_SUCCEEDED) ∧ Exa Z Z.heap w_SUCCEEDED "com/example/even_dispatch/evendispatch/Status" ∧ Sta Z Z.heap "com/example/even_dispatch/evendispatch/Status" "FAILED" "Lcom/example/even_dispatch/evendispatch/Status;" (.ref w_FAILED) ∧ Exa Z Z.heap w_FAILED "com/example/even_dispatch/evendispatch/Status" ∧ Sta Z Z.heap "com/example/even_dispatch/evendispatch/Status" "RUNNING" "Lcom/example/even_dispatch/evendispatch/Status;" (.ref w_RUNNING) ∧ Exa Z Z.heap w_RUNNING "com/example/even_dispatch/evendispatch/Status" ∧ Fld Z Z.heap w_PENDING "java/lang/Enum" "ordinal" "I" (.int (0 : Int32)) ∧ Fld Z Z.heap w_SUCCEEDED "java/lang/Enum" "ordinal" "I" (.int (2 : Int32)) ∧ Fld Z Z.heap w_FAILED "java/lang/Enum" "ordinal" "I" (.int (3 : Int32)) ∧ Fld Z Z.heap w_RUNNING "java/lang/Enum" "ordinal" "I" (.int (1 : Int32))
theorem pn_0 : plainName "com/example/even_dispatch/evendispatch/StatusIsFinalPinLaw" = true := by first | (simp [plainName, overriddenIn]; done) | decide +kernel
theorem ef_rm1 (m : MethodId) (x0 : Int32) : entryFrame m #[(.int x0)] 1 = mkF m 0 #[.val (.int x0)] [] := by first | (simp [entryFrame, mkF, argsToLocals, Value.category]; done) | rfl
theorem d1_0 : decode method_2_code 0 = .ok (.iload_n 0, 1) := by decide +kernel
theorem d1_1 : decode method_2_code 1 = .ok (.ifCond .ne 7, 3) := by decide +kernel
theorem d1_4 : decode method_2_code 4 = .ok (.getstatic 7, 3) := by decide +kernel
theorem d1_7 : decode method_2_code 7 = .ok (.areturn, 1) := by decide +kernel
theorem d1_8 : decode method_2_code 8 = .ok (.iload_n 0, 1) := by decide +kernel
theorem d1_9 : decode method_2_code 9 = .ok (.iconst 1, 1) := by decide +kernel
theorem d1_10 : decode method_2_code 10 = .ok (.if_icmp .ne 7, 3) := by decide +kernel
theorem d1_13 : decode method_2_code 13 = .ok (.getstatic 13, 3) := by decide +kernel
theorem d1_16 : decode method_2_code 16 = .ok (.areturn, 1) := by decide +kernel
theorem d1_17 : decode method_2_code 17 = .ok (.iload_n 0, 1) := by decide +kernel
theorem d1_18 : decode method_2_code 18 = .ok (.iconst 2, 1) := by decide +kernel
theorem d1_19 : decode method_2_code 19 = .ok (.if_icmp .ne 7, 3) := by decide +kernel
theorem d1_22 : decode method_2_code 22 = .ok (.getstatic 16, 3) := by decide +kernel
theorem d1_25 : decode method_2_code 25 = .ok (.areturn, 1) := by decide +kernel
theorem d1_26 : decode method_2_code 26 = .ok (.getstatic 19, 3) := by decide +kernel
theorem d1_29 : decode method_2_code 29 = .ok (.areturn, 1) := by decide +kernel
def own_f1 (p0 : Int32) (w_PENDING w_SUCCEEDED w_FAILED w_RUNNING : Addr) : Addr := (if p0 = (0 : Int32) then w_PENDING else (if p0 = (1 : Int32) then w_RUNNING else (if p0 = (2 : Int32) then w_SUCCEEDED else w_FAILED)))
set_option maxRecDepth 65536 in
set_option maxHeartbeats 40000000 in
theorem rm1 (l : Launch) (Z : State) (a0 : Array Value) (hw : ∀ d ∈ tables_1, d.before a0 Z = true) (ws : List Jvm.Cond) (p0 : Int32) (w_PENDING w_SUCCEEDED w_FAILED w_RUNNING : Addr) (h0 : Heap) (n0 : Nat) (hG : own_G Z w_PENDING w_SUCCEEDED w_FAILED w_RUNNING) (O0 : Old Z n0 h0) :
    MetFree l (⟨"com/example/even_dispatch/evendispatch/StatusIsFinalPinLaw", "pick", "(I)Lcom/example/even_dispatch/evendispatch/Status;"⟩ : MethodName) (head1 (Jvm.Cond.code (⟨"com/example/even_dispatch/evendispatch/StatusIsFinalPinLaw", "pick", "(I)Lcom/example/even_dispatch/evendispatch/Status;"⟩ : MethodName) method_2_code 1 (some (.object "com/example/even_dispatch/evendispatch/Status")) :: ws) ({ frames := 0, cells := 0, slots := 0, locals := 0 } : Room)) (fun a U => a = #[(.int p0)] ∧ Z.Warmed39 U.vm ∧ U.heap = h0) (fun _ _ _ _ _ => True) (fun _ U o U' => ∃ v L, o = .returned v ∧ own_Q (some (.ref (own_f1 p0 w_PENDING w_SUCCEEDED w_FAILED w_RUNNING))) h0 n0 v U'.heap L ∧ FrameEnd U o U' L ({ frames := 0, cells := 0, slots := 0, locals := 0 } : Room).cells ({ frames := 0, cells := 0, slots := 0, locals := 0 } : Room).slots) := by
  refine MetFree.of_bodySF (plainFor_of_name pn_0) hisR ?_
  intro p e s m args below meth c s₁ Bd hml0 hP hK
  obtain ⟨rfl, hZ, hh⟩ := hP
  have hx := Bd.exec
  have hby := Bd.bytes
  have hml : c.maxLocals = 1 := hml0
  have hown : s.vm.findClass "com/example/even_dispatch/evendispatch/StatusIsFinalPinLaw" = some m.cls := findClass_of_methodNamed Bd.named
  have hnm := (name_of_methodNamed Bd.named Bd.method).1
  have X0 : Stand p l e ({ frames := 0, cells := 0, slots := 0, locals := 0 } : Room) s m #[(.int p0)] below meth c s₁ [] 0 0 := Stand.of_body Bd
  have e0 : s₁.heap = h0 := by rw [← hh, Bd.state]; rfl
  have N0 := Fr.nil n0
  have pre0 : ∀ t, Steps p.tables e below (s₁.setTop (mkF m 0 #[.val (.int p0)] [])) t → Steps p.tables e below (s₁.setTop (entryFrame m #[(.int p0)] 1)) t := fun t k => castTop (ef_rm1 m p0) k
  obtain ⟨S_PENDING, E_PENDING, S_SUCCEEDED, E_SUCCEEDED, S_FAILED, E_FAILED, S_RUNNING, E_RUNNING, F_PENDING_ordinal, F_SUCCEEDED_ordinal, F_FAILED_ordinal, F_RUNNING_ordinal⟩ := hG
  have k1 : ∀ t, Steps p.tables e below (s₁.setTop (mkF m 1 #[.val (.int p0)] [(.int p0)])) t → Steps p.tables e below (s₁.setTop (entryFrame m #[(.int p0)] 1)) t := by
    intro t k
    refine pre0 _ ?_
    show Steps p.tables e below (s₁.setTop (mkF m 0 #[.val (.int p0)] [])) _
    refine XS.iloadN X0.here hx rfl (hb hby d1_0) rfl ?_
    exact k
  by_cases hc1_1 : p0 = (0 : Int32)
  · obtain ⟨T2, X2, e2, st2⟩ := getS2 X0 hx hZ hown (host := "") (Or.inl (hw _ (List.mem_of_getElem? (i := 4) rfl))) Via.refl e0 (S_PENDING.ext O0.2) (g := (mkF m 4 #[.val (.int p0)] [])) rfl (hb hby d1_4)
    have k3 : ∀ t, Steps p.tables e below (T2.setTop (mkF m 7 #[.val (.int p0)] [(.ref w_PENDING)])) t → Steps p.tables e below (s₁.setTop (entryFrame m #[(.int p0)] 1)) t := by
      intro t k
      refine k1 _ ?_
      show Steps p.tables e below (s₁.setTop (mkF m 1 #[.val (.int p0)] [(.int p0)])) _
      refine XS.ifNo X0.here hx rfl (hb hby d1_1) rfl ((if0 _ _).trans (teq hc1_1).2) ?_
      show Steps p.tables e below (s₁.setTop (mkF m 4 #[.val (.int p0)] [])) _
      refine st2 _ ?_
      exact k
    obtain ⟨fs, hr, hrun, hended, hW, hsame⟩ := X2.leave (v := some (.ref w_PENDING)) (fun h => by rw [Bd.returns] at h; cases h)
    refine ⟨_, _, k3 _ ?_, hrun, hended, _, _, rfl, ?_, ⟨_, rfl⟩, hW, hsame.mono (by decide) (by decide)⟩
    · exact retOut X2 hx Bd.returns rfl (Or.inr (Or.inr (Or.inr (Or.inr ⟨rfl, rfl, rfl⟩)))) (hb hby d1_7) hr
    · show own_Q (some (.ref (own_f1 p0 w_PENDING w_SUCCEEDED w_FAILED w_RUNNING))) h0 n0 _ T2.heap _
      rw [e2]
      exact ⟨by simp only [own_f1, if_pos hc1_1], N0, rfl⟩
  · have k4 : ∀ t, Steps p.tables e below (s₁.setTop (mkF m 10 #[.val (.int p0)] [(.int (1 : Int32)), (.int p0)])) t → Steps p.tables e below (s₁.setTop (entryFrame m #[(.int p0)] 1)) t := by
      intro t k
      refine k1 _ ?_
      show Steps p.tables e below (s₁.setTop (mkF m 1 #[.val (.int p0)] [(.int p0)])) _
      refine XS.ifYes X0.here hx rfl (pc0 := 1) (pc' := 8) rfl (hb hby d1_1) rfl ((if0 _ _).trans (feq hc1_1).2) (by decide) (by decide) ?_
      show Steps p.tables e below (s₁.setTop (mkF m 8 #[.val (.int p0)] [])) _
      refine XS.iloadN X0.here hx rfl (hb hby d1_8) rfl ?_
      show Steps p.tables e below (s₁.setTop (mkF m 9 #[.val (.int p0)] [(.int p0)])) _
      refine XS.iconst X0.here hx rfl (hb hby d1_9) ?_
      exact k
    by_cases hc10_2 : p0 = (1 : Int32)
    · obtain ⟨T5, X5, e5, st5⟩ := getS2 X0 hx hZ hown (host := "") (Or.inl (hw _ (List.mem_of_getElem? (i := 21) rfl))) Via.refl e0 (S_RUNNING.ext O0.2) (g := (mkF m 13 #[.val (.int p0)] [])) rfl (hb hby d1_13)
      have k6 : ∀ t, Steps p.tables e below (T5.setTop (mkF m 16 #[.val (.int p0)] [(.ref w_RUNNING)])) t → Steps p.tables e below (s₁.setTop (entryFrame m #[(.int p0)] 1)) t := by
        intro t k
        refine k4 _ ?_
        show Steps p.tables e below (s₁.setTop (mkF m 10 #[.val (.int p0)] [(.int (1 : Int32)), (.int p0)])) _
        refine XS.icmpNo X0.here hx rfl (hb hby d1_10) rfl (teq hc10_2).2 ?_
        show Steps p.tables e below (s₁.setTop (mkF m 13 #[.val (.int p0)] [])) _
        refine st5 _ ?_
        exact k
      obtain ⟨fs, hr, hrun, hended, hW, hsame⟩ := X5.leave (v := some (.ref w_RUNNING)) (fun h => by rw [Bd.returns] at h; cases h)
      refine ⟨_, _, k6 _ ?_, hrun, hended, _, _, rfl, ?_, ⟨_, rfl⟩, hW, hsame.mono (by decide) (by decide)⟩
      · exact retOut X5 hx Bd.returns rfl (Or.inr (Or.inr (Or.inr (Or.inr ⟨rfl, rfl, rfl⟩)))) (hb hby d1_16) hr
      · show own_Q (some (.ref (own_f1 p0 w_PENDING w_SUCCEEDED w_FAILED w_RUNNING))) h0 n0 _ T5.heap _
        rw [e5]
        exact ⟨by simp only [own_f1, if_neg hc1_1, if_pos hc10_2], N0, rfl⟩
    · have k7 : ∀ t, Steps p.tables e below (s₁.setTop (mkF m 19 #[.val (.int p0)] [(.int (2 : Int32)), (.int p0)])) t → Steps p.tables e below (s₁.setTop (entryFrame m #[(.int p0)] 1)) t := by
        intro t k
        refine k4 _ ?_
        show Steps p.tables e below (s₁.setTop (mkF m 10 #[.val (.int p0)] [(.int (1 : Int32)), (.int p0)])) _
        refine XS.icmpYes X0.here hx rfl (pc0 := 10) (pc' := 17) rfl (hb hby d1_10) rfl (feq hc10_2).2 (by decide) (by decide) ?_
        show Steps p.tables e below (s₁.setTop (mkF m 17 #[.val (.int p0)] [])) _
        refine XS.iloadN X0.here hx rfl (hb hby d1_17) rfl ?_
        show Steps p.tables e below (s₁.setTop (mkF m 18 #[.val (.int p0)] [(.int p0)])) _
        refine XS.iconst X0.here hx rfl (hb hby d1_18) ?_
        exact k
      by_cases hc19_3 : p0 = (2 : Int32)
      · obtain ⟨T8, X8, e8, st8⟩ := getS2 X0 hx hZ hown (host := "") (Or.inl (hw _ (List.mem_of_getElem? (i := 20) rfl))) Via.refl e0 (S_SUCCEEDED.ext O0.2) (g := (mkF m 22 #[.val (.int p0)] [])) rfl (hb hby d1_22)
        have k9 : ∀ t, Steps p.tables e below (T8.setTop (mkF m 25 #[.val (.int p0)] [(.ref w_SUCCEEDED)])) t → Steps p.tables e below (s₁.setTop (entryFrame m #[(.int p0)] 1)) t := by
          intro t k
          refine k7 _ ?_
          show Steps p.tables e below (s₁.setTop (mkF m 19 #[.val (.int p0)] [(.int (2 : Int32)), (.int p0)])) _
          refine XS.icmpNo X0.here hx rfl (hb hby d1_19) rfl (teq hc19_3).2 ?_
          show Steps p.tables e below (s₁.setTop (mkF m 22 #[.val (.int p0)] [])) _
          refine st8 _ ?_
          exact k
        obtain ⟨fs, hr, hrun, hended, hW, hsame⟩ := X8.leave (v := some (.ref w_SUCCEEDED)) (fun h => by rw [Bd.returns] at h; cases h)
        refine ⟨_, _, k9 _ ?_, hrun, hended, _, _, rfl, ?_, ⟨_, rfl⟩, hW, hsame.mono (by decide) (by decide)⟩
        · exact retOut X8 hx Bd.returns rfl (Or.inr (Or.inr (Or.inr (Or.inr ⟨rfl, rfl, rfl⟩)))) (hb hby d1_25) hr
        · show own_Q (some (.ref (own_f1 p0 w_PENDING w_SUCCEEDED w_FAILED w_RUNNING))) h0 n0 _ T8.heap _
          rw [e8]
          exact ⟨by simp only [own_f1, if_neg hc1_1, if_neg hc10_2, if_pos hc19_3], N0, rfl⟩
      · obtain ⟨T10, X10, e10, st10⟩ := getS2 X0 hx hZ hown (host := "") (Or.inl (hw _ (List.mem_of_getElem? (i := 19) rfl))) Via.refl e0 (S_FAILED.ext O0.2) (g := (mkF m 26 #[.val (.int p0)] [])) rfl (hb hby d1_26)
        have k11 : ∀ t, Steps p.tables e below (T10.setTop (mkF m 29 #[.val (.int p0)] [(.ref w_FAILED)])) t → Steps p.tables e below (s₁.setTop (entryFrame m #[(.int p0)] 1)) t := by
          intro t k
          refine k7 _ ?_
          show Steps p.tables e below (s₁.setTop (mkF m 19 #[.val (.int p0)] [(.int (2 : Int32)), (.int p0)])) _
          refine XS.icmpYes X0.here hx rfl (pc0 := 19) (pc' := 26) rfl (hb hby d1_19) rfl (feq hc19_3).2 (by decide) (by decide) ?_
          show Steps p.tables e below (s₁.setTop (mkF m 26 #[.val (.int p0)] [])) _
          refine st10 _ ?_
          exact k
        obtain ⟨fs, hr, hrun, hended, hW, hsame⟩ := X10.leave (v := some (.ref w_FAILED)) (fun h => by rw [Bd.returns] at h; cases h)
        refine ⟨_, _, k11 _ ?_, hrun, hended, _, _, rfl, ?_, ⟨_, rfl⟩, hW, hsame.mono (by decide) (by decide)⟩
        · exact retOut X10 hx Bd.returns rfl (Or.inr (Or.inr (Or.inr (Or.inr ⟨rfl, rfl, rfl⟩)))) (hb hby d1_29) hr
        · show own_Q (some (.ref (own_f1 p0 w_PENDING w_SUCCEEDED w_FAILED w_RUNNING))) h0 n0 _ T10.heap _
          rw [e10]
          exact ⟨by simp only [own_f1, if_neg hc1_1, if_neg hc10_2, if_neg hc19_3], N0, rfl⟩
theorem pn_1 : plainName "com/example/even_dispatch/evendispatch/Status" = true := by first | (simp [plainName, overriddenIn]; done) | decide +kernel
theorem ef_rm2 (m : MethodId) (x0 : Addr) : entryFrame m #[(.ref x0)] 1 = mkF m 0 #[.val (.ref x0)] [] := by first | (simp [entryFrame, mkF, argsToLocals, Value.category]; done) | rfl
theorem d2_0 : decode prog_9_method_7_code 0 = .ok (.aload_n 0, 1) := by decide +kernel
theorem d2_1 : decode prog_9_method_7_code 1 = .ok (.getstatic 10, 3) := by decide +kernel
theorem d2_4 : decode prog_9_method_7_code 4 = .ok (.if_acmp .eq 10, 3) := by decide +kernel
theorem d2_14 : decode prog_9_method_7_code 14 = .ok (.iconst 1, 1) := by decide +kernel
theorem d2_15 : decode prog_9_method_7_code 15 = .ok (.goto 4, 3) := by decide +kernel
theorem d2_19 : decode prog_9_method_7_code 19 = .ok (.ireturn, 1) := by decide +kernel
theorem d2_7 : decode prog_9_method_7_code 7 = .ok (.aload_n 0, 1) := by decide +kernel
theorem d2_8 : decode prog_9_method_7_code 8 = .ok (.getstatic 13, 3) := by decide +kernel
theorem d2_11 : decode prog_9_method_7_code 11 = .ok (.if_acmp .ne 7, 3) := by decide +kernel
theorem d2_18 : decode prog_9_method_7_code 18 = .ok (.iconst 0, 1) := by decide +kernel
def own_f2 (r0 : Addr) (w_PENDING w_SUCCEEDED w_FAILED w_RUNNING : Addr) : Int32 := (if r0 = w_SUCCEEDED then (1 : Int32) else (if r0 = w_FAILED then (1 : Int32) else (0 : Int32)))
set_option maxRecDepth 65536 in
set_option maxHeartbeats 40000000 in
theorem rm2 (l : Launch) (Z : State) (a0 : Array Value) (hw : ∀ d ∈ tables_1, d.before a0 Z = true) (ws : List Jvm.Cond) (r0 : Addr) (w_PENDING w_SUCCEEDED w_FAILED w_RUNNING : Addr) (h0 : Heap) (n0 : Nat) (hG : own_G Z w_PENDING w_SUCCEEDED w_FAILED w_RUNNING) (O0 : Old Z n0 h0) :
    MetFree l (⟨"com/example/even_dispatch/evendispatch/Status", "isFinal", "()Z"⟩ : MethodName) (head1 (Jvm.Cond.code (⟨"com/example/even_dispatch/evendispatch/Status", "isFinal", "()Z"⟩ : MethodName) prog_9_method_7_code 1 (some .boolean) :: ws) ({ frames := 0, cells := 0, slots := 0, locals := 0 } : Room)) (fun a U => a = #[(.ref r0)] ∧ Z.Warmed39 U.vm ∧ U.heap = h0) (fun _ _ _ _ _ => True) (fun _ U o U' => ∃ v L, o = .returned v ∧ own_Q (some (.int (own_f2 r0 w_PENDING w_SUCCEEDED w_FAILED w_RUNNING))) h0 n0 v U'.heap L ∧ FrameEnd U o U' L ({ frames := 0, cells := 0, slots := 0, locals := 0 } : Room).cells ({ frames := 0, cells := 0, slots := 0, locals := 0 } : Room).slots) := by
  refine MetFree.of_bodySF (plainFor_of_name pn_1) hisR ?_
  intro p e s m args below meth c s₁ Bd hml0 hP hK
  obtain ⟨rfl, hZ, hh⟩ := hP
  have hx := Bd.exec
  have hby := Bd.bytes
  have hml : c.maxLocals = 1 := hml0
  have hown : s.vm.findClass "com/example/even_dispatch/evendispatch/Status" = some m.cls := findClass_of_methodNamed Bd.named
  have hnm := (name_of_methodNamed Bd.named Bd.method).1
  have X0 : Stand p l e ({ frames := 0, cells := 0, slots := 0, locals := 0 } : Room) s m #[(.ref r0)] below meth c s₁ [] 0 0 := Stand.of_body Bd
  have e0 : s₁.heap = h0 := by rw [← hh, Bd.state]; rfl
  have N0 := Fr.nil n0
  have pre0 : ∀ t, Steps p.tables e below (s₁.setTop (mkF m 0 #[.val (.ref r0)] [])) t → Steps p.tables e below (s₁.setTop (entryFrame m #[(.ref r0)] 1)) t := fun t k => castTop (ef_rm2 m r0) k
  obtain ⟨S_PENDING, E_PENDING, S_SUCCEEDED, E_SUCCEEDED, S_FAILED, E_FAILED, S_RUNNING, E_RUNNING, F_PENDING_ordinal, F_SUCCEEDED_ordinal, F_FAILED_ordinal, F_RUNNING_ordinal⟩ := hG
  obtain ⟨T1, X1, e1, st1⟩ := getS2 X0 hx hZ hown (host := "") (Or.inl (hw _ (List.mem_of_getElem? (i := 12) rfl))) Via.refl e0 (S_SUCCEEDED.ext O0.2) (g := (mkF m 1 #[.val (.ref r0)] [(.ref r0)])) rfl (hb hby d2_1)
  have k2 : ∀ t, Steps p.tables e below (T1.setTop (mkF m 4 #[.val (.ref r0)] [(.ref w_SUCCEEDED), (.ref r0)])) t → Steps p.tables e below (s₁.setTop (entryFrame m #[(.ref r0)] 1)) t := by
    intro t k
    refine pre0 _ ?_
    show Steps p.tables e below (s₁.setTop (mkF m 0 #[.val (.ref r0)] [])) _
    refine XS.aloadN X0.here hx rfl (hb hby d2_0) rfl rfl ?_
    show Steps p.tables e below (s₁.setTop (mkF m 1 #[.val (.ref r0)] [(.ref r0)])) _
    refine st1 _ ?_
    exact k
  by_cases hc4_1 : r0 = w_SUCCEEDED
  · have k3 : ∀ t, Steps p.tables e below (T1.setTop (mkF m 19 #[.val (.ref r0)] [(.int (1 : Int32))])) t → Steps p.tables e below (s₁.setTop (entryFrame m #[(.ref r0)] 1)) t := by
      intro t k
      refine k2 _ ?_
      show Steps p.tables e below (T1.setTop (mkF m 4 #[.val (.ref r0)] [(.ref w_SUCCEEDED), (.ref r0)])) _
      refine Jvm.RoadKit.acmp (g := (mkF m 4 #[.val (.ref r0)] [(.ref w_SUCCEEDED), (.ref r0)])) X1 hx rfl rfl rfl (pc0 := 4) (pc' := 14) (same := true) rfl (hb hby d2_4) rfl (decide_eq_true (congrArg Value.ref hc4_1)) (by decide) (by decide) ?_
      show Steps p.tables e below (T1.setTop (mkF m 14 #[.val (.ref r0)] [])) _
      refine XS.iconst X1.here hx rfl (hb hby d2_14) ?_
      show Steps p.tables e below (T1.setTop (mkF m 15 #[.val (.ref r0)] [(.int (1 : Int32))])) _
      refine XS.goto X1.here hx rfl (pc0 := 15) (pc' := 19) rfl (hb hby d2_15) (by decide) (by decide) ?_
      exact k
    obtain ⟨fs, hr, hrun, hended, hW, hsame⟩ := X1.leave (v := some (.int (1 : Int32))) (fun h => by rw [Bd.returns] at h; cases h)
    refine ⟨_, _, k3 _ ?_, hrun, hended, _, _, rfl, ?_, ⟨_, rfl⟩, hW, hsame.mono (by decide) (by decide)⟩
    · exact retN X1 hx (t := .boolean) Bd.returns (by simp) (hb hby d2_19) hr
    · show own_Q (some (.int (own_f2 r0 w_PENDING w_SUCCEEDED w_FAILED w_RUNNING))) h0 n0 _ T1.heap _
      rw [e1]
      exact ⟨by simp only [own_f2, if_pos hc4_1], N0, rfl⟩
  · obtain ⟨T4, X4, e4, st4⟩ := getS2 X1 hx hZ hown (host := "") (Or.inl (hw _ (List.mem_of_getElem? (i := 14) rfl))) Via.refl e1 (S_FAILED.ext O0.2) (g := (mkF m 8 #[.val (.ref r0)] [(.ref r0)])) rfl (hb hby d2_8)
    have k5 : ∀ t, Steps p.tables e below (T4.setTop (mkF m 11 #[.val (.ref r0)] [(.ref w_FAILED), (.ref r0)])) t → Steps p.tables e below (s₁.setTop (entryFrame m #[(.ref r0)] 1)) t := by
      intro t k
      refine k2 _ ?_
      show Steps p.tables e below (T1.setTop (mkF m 4 #[.val (.ref r0)] [(.ref w_SUCCEEDED), (.ref r0)])) _
      refine Jvm.RoadKit.acmp (g := (mkF m 4 #[.val (.ref r0)] [(.ref w_SUCCEEDED), (.ref r0)])) X1 hx rfl rfl rfl (pc0 := 4) (pc' := 7) (same := false) rfl (hb hby d2_4) rfl (decide_eq_false fun q => hc4_1 (Value.ref.inj q)) (by decide) (by decide) ?_
      show Steps p.tables e below (T1.setTop (mkF m 7 #[.val (.ref r0)] [])) _
      refine XS.aloadN X1.here hx rfl (hb hby d2_7) rfl rfl ?_
      show Steps p.tables e below (T1.setTop (mkF m 8 #[.val (.ref r0)] [(.ref r0)])) _
      refine st4 _ ?_
      exact k
    by_cases hc11_2 : r0 = w_FAILED
    · have k6 : ∀ t, Steps p.tables e below (T4.setTop (mkF m 19 #[.val (.ref r0)] [(.int (1 : Int32))])) t → Steps p.tables e below (s₁.setTop (entryFrame m #[(.ref r0)] 1)) t := by
        intro t k
        refine k5 _ ?_
        show Steps p.tables e below (T4.setTop (mkF m 11 #[.val (.ref r0)] [(.ref w_FAILED), (.ref r0)])) _
        refine Jvm.RoadKit.acmp (g := (mkF m 11 #[.val (.ref r0)] [(.ref w_FAILED), (.ref r0)])) X4 hx rfl rfl rfl (pc0 := 11) (pc' := 14) (same := true) rfl (hb hby d2_11) rfl (decide_eq_true (congrArg Value.ref hc11_2)) (by decide) (by decide) ?_
        show Steps p.tables e below (T4.setTop (mkF m 14 #[.val (.ref r0)] [])) _
        refine XS.iconst X4.here hx rfl (hb hby d2_14) ?_
        show Steps p.tables e below (T4.setTop (mkF m 15 #[.val (.ref r0)] [(.int (1 : Int32))])) _
        refine XS.goto X4.here hx rfl (pc0 := 15) (pc' := 19) rfl (hb hby d2_15) (by decide) (by decide) ?_
        exact k
      obtain ⟨fs, hr, hrun, hended, hW, hsame⟩ := X4.leave (v := some (.int (1 : Int32))) (fun h => by rw [Bd.returns] at h; cases h)
      refine ⟨_, _, k6 _ ?_, hrun, hended, _, _, rfl, ?_, ⟨_, rfl⟩, hW, hsame.mono (by decide) (by decide)⟩
      · exact retN X4 hx (t := .boolean) Bd.returns (by simp) (hb hby d2_19) hr
      · show own_Q (some (.int (own_f2 r0 w_PENDING w_SUCCEEDED w_FAILED w_RUNNING))) h0 n0 _ T4.heap _
        rw [e4]
        exact ⟨by simp only [own_f2, if_neg hc4_1, if_pos hc11_2], N0, rfl⟩
    · have k7 : ∀ t, Steps p.tables e below (T4.setTop (mkF m 19 #[.val (.ref r0)] [(.int (0 : Int32))])) t → Steps p.tables e below (s₁.setTop (entryFrame m #[(.ref r0)] 1)) t := by
        intro t k
        refine k5 _ ?_
        show Steps p.tables e below (T4.setTop (mkF m 11 #[.val (.ref r0)] [(.ref w_FAILED), (.ref r0)])) _
        refine Jvm.RoadKit.acmp (g := (mkF m 11 #[.val (.ref r0)] [(.ref w_FAILED), (.ref r0)])) X4 hx rfl rfl rfl (pc0 := 11) (pc' := 18) (same := false) rfl (hb hby d2_11) rfl (decide_eq_false fun q => hc11_2 (Value.ref.inj q)) (by decide) (by decide) ?_
        show Steps p.tables e below (T4.setTop (mkF m 18 #[.val (.ref r0)] [])) _
        refine XS.iconst X4.here hx rfl (hb hby d2_18) ?_
        exact k
      obtain ⟨fs, hr, hrun, hended, hW, hsame⟩ := X4.leave (v := some (.int (0 : Int32))) (fun h => by rw [Bd.returns] at h; cases h)
      refine ⟨_, _, k7 _ ?_, hrun, hended, _, _, rfl, ?_, ⟨_, rfl⟩, hW, hsame.mono (by decide) (by decide)⟩
      · exact retN X4 hx (t := .boolean) Bd.returns (by simp) (hb hby d2_19) hr
      · show own_Q (some (.int (own_f2 r0 w_PENDING w_SUCCEEDED w_FAILED w_RUNNING))) h0 n0 _ T4.heap _
        rw [e4]
        exact ⟨by simp only [own_f2, if_neg hc4_1, if_neg hc11_2], N0, rfl⟩
theorem ef_rm3 (m : MethodId) (x0 : Int32) : entryFrame m #[(.int x0)] 1 = mkF m 0 #[.val (.int x0)] [] := by first | (simp [entryFrame, mkF, argsToLocals, Value.category]; done) | rfl
theorem d3_0 : decode method_3_code 0 = .ok (.iload_n 0, 1) := by decide +kernel
theorem d3_1 : decode method_3_code 1 = .ok (.ifCond .ne 5, 3) := by decide +kernel
theorem d3_4 : decode method_3_code 4 = .ok (.iconst 0, 1) := by decide +kernel
theorem d3_5 : decode method_3_code 5 = .ok (.ireturn, 1) := by decide +kernel
theorem d3_6 : decode method_3_code 6 = .ok (.iload_n 0, 1) := by decide +kernel
theorem d3_7 : decode method_3_code 7 = .ok (.iconst 1, 1) := by decide +kernel
theorem d3_8 : decode method_3_code 8 = .ok (.if_icmp .ne 5, 3) := by decide +kernel
theorem d3_11 : decode method_3_code 11 = .ok (.iconst 0, 1) := by decide +kernel
theorem d3_12 : decode method_3_code 12 = .ok (.ireturn, 1) := by decide +kernel
theorem d3_13 : decode method_3_code 13 = .ok (.iload_n 0, 1) := by decide +kernel
theorem d3_14 : decode method_3_code 14 = .ok (.iconst 2, 1) := by decide +kernel
theorem d3_15 : decode method_3_code 15 = .ok (.if_icmp .ne 5, 3) := by decide +kernel
theorem d3_18 : decode method_3_code 18 = .ok (.iconst 1, 1) := by decide +kernel
theorem d3_19 : decode method_3_code 19 = .ok (.ireturn, 1) := by decide +kernel
theorem d3_20 : decode method_3_code 20 = .ok (.iconst 1, 1) := by decide +kernel
theorem d3_21 : decode method_3_code 21 = .ok (.ireturn, 1) := by decide +kernel
def own_f3 (p0 : Int32) : Int32 := (if p0 = (0 : Int32) then (0 : Int32) else (if p0 = (1 : Int32) then (0 : Int32) else (if p0 = (2 : Int32) then (1 : Int32) else (1 : Int32))))
set_option maxRecDepth 65536 in
set_option maxHeartbeats 40000000 in
theorem rm3 (l : Launch) (Z : State) (a0 : Array Value) (hw : ∀ d ∈ tables_1, d.before a0 Z = true) (ws : List Jvm.Cond) (p0 : Int32) (h0 : Heap) (n0 : Nat) :
    MetFree l (⟨"com/example/even_dispatch/evendispatch/StatusIsFinalPinLaw", "expectedFinal", "(I)Z"⟩ : MethodName) (head1 (Jvm.Cond.code (⟨"com/example/even_dispatch/evendispatch/StatusIsFinalPinLaw", "expectedFinal", "(I)Z"⟩ : MethodName) method_3_code 1 (some .boolean) :: ws) ({ frames := 0, cells := 0, slots := 0, locals := 0 } : Room)) (fun a U => a = #[(.int p0)] ∧ Z.Warmed39 U.vm ∧ U.heap = h0) (fun _ _ _ _ _ => True) (fun _ U o U' => ∃ v L, o = .returned v ∧ own_Q (some (.int (own_f3 p0))) h0 n0 v U'.heap L ∧ FrameEnd U o U' L ({ frames := 0, cells := 0, slots := 0, locals := 0 } : Room).cells ({ frames := 0, cells := 0, slots := 0, locals := 0 } : Room).slots) := by
  refine MetFree.of_bodySF (plainFor_of_name pn_0) hisR ?_
  intro p e s m args below meth c s₁ Bd hml0 hP hK
  obtain ⟨rfl, hZ, hh⟩ := hP
  have hx := Bd.exec
  have hby := Bd.bytes
  have hml : c.maxLocals = 1 := hml0
  have hown : s.vm.findClass "com/example/even_dispatch/evendispatch/StatusIsFinalPinLaw" = some m.cls := findClass_of_methodNamed Bd.named
  have hnm := (name_of_methodNamed Bd.named Bd.method).1
  have X0 : Stand p l e ({ frames := 0, cells := 0, slots := 0, locals := 0 } : Room) s m #[(.int p0)] below meth c s₁ [] 0 0 := Stand.of_body Bd
  have e0 : s₁.heap = h0 := by rw [← hh, Bd.state]; rfl
  have N0 := Fr.nil n0
  have pre0 : ∀ t, Steps p.tables e below (s₁.setTop (mkF m 0 #[.val (.int p0)] [])) t → Steps p.tables e below (s₁.setTop (entryFrame m #[(.int p0)] 1)) t := fun t k => castTop (ef_rm3 m p0) k
  have k1 : ∀ t, Steps p.tables e below (s₁.setTop (mkF m 1 #[.val (.int p0)] [(.int p0)])) t → Steps p.tables e below (s₁.setTop (entryFrame m #[(.int p0)] 1)) t := by
    intro t k
    refine pre0 _ ?_
    show Steps p.tables e below (s₁.setTop (mkF m 0 #[.val (.int p0)] [])) _
    refine XS.iloadN X0.here hx rfl (hb hby d3_0) rfl ?_
    exact k
  by_cases hc1_1 : p0 = (0 : Int32)
  · have k2 : ∀ t, Steps p.tables e below (s₁.setTop (mkF m 5 #[.val (.int p0)] [(.int (0 : Int32))])) t → Steps p.tables e below (s₁.setTop (entryFrame m #[(.int p0)] 1)) t := by
      intro t k
      refine k1 _ ?_
      show Steps p.tables e below (s₁.setTop (mkF m 1 #[.val (.int p0)] [(.int p0)])) _
      refine XS.ifNo X0.here hx rfl (hb hby d3_1) rfl ((if0 _ _).trans (teq hc1_1).2) ?_
      show Steps p.tables e below (s₁.setTop (mkF m 4 #[.val (.int p0)] [])) _
      refine XS.iconst X0.here hx rfl (hb hby d3_4) ?_
      exact k
    obtain ⟨fs, hr, hrun, hended, hW, hsame⟩ := X0.leave (v := some (.int (0 : Int32))) (fun h => by rw [Bd.returns] at h; cases h)
    refine ⟨_, _, k2 _ ?_, hrun, hended, _, _, rfl, ?_, ⟨_, rfl⟩, hW, hsame.mono (by decide) (by decide)⟩
    · exact retN X0 hx (t := .boolean) Bd.returns (by simp) (hb hby d3_5) hr
    · show own_Q (some (.int (own_f3 p0))) h0 n0 _ s₁.heap _
      rw [e0]
      exact ⟨by simp only [own_f3, if_pos hc1_1], N0, rfl⟩
  · have k3 : ∀ t, Steps p.tables e below (s₁.setTop (mkF m 8 #[.val (.int p0)] [(.int (1 : Int32)), (.int p0)])) t → Steps p.tables e below (s₁.setTop (entryFrame m #[(.int p0)] 1)) t := by
      intro t k
      refine k1 _ ?_
      show Steps p.tables e below (s₁.setTop (mkF m 1 #[.val (.int p0)] [(.int p0)])) _
      refine XS.ifYes X0.here hx rfl (pc0 := 1) (pc' := 6) rfl (hb hby d3_1) rfl ((if0 _ _).trans (feq hc1_1).2) (by decide) (by decide) ?_
      show Steps p.tables e below (s₁.setTop (mkF m 6 #[.val (.int p0)] [])) _
      refine XS.iloadN X0.here hx rfl (hb hby d3_6) rfl ?_
      show Steps p.tables e below (s₁.setTop (mkF m 7 #[.val (.int p0)] [(.int p0)])) _
      refine XS.iconst X0.here hx rfl (hb hby d3_7) ?_
      exact k
    by_cases hc8_2 : p0 = (1 : Int32)
    · have k4 : ∀ t, Steps p.tables e below (s₁.setTop (mkF m 12 #[.val (.int p0)] [(.int (0 : Int32))])) t → Steps p.tables e below (s₁.setTop (entryFrame m #[(.int p0)] 1)) t := by
        intro t k
        refine k3 _ ?_
        show Steps p.tables e below (s₁.setTop (mkF m 8 #[.val (.int p0)] [(.int (1 : Int32)), (.int p0)])) _
        refine XS.icmpNo X0.here hx rfl (hb hby d3_8) rfl (teq hc8_2).2 ?_
        show Steps p.tables e below (s₁.setTop (mkF m 11 #[.val (.int p0)] [])) _
        refine XS.iconst X0.here hx rfl (hb hby d3_11) ?_
        exact k
      obtain ⟨fs, hr, hrun, hended, hW, hsame⟩ := X0.leave (v := some (.int (0 : Int32))) (fun h => by rw [Bd.returns] at h; cases h)
      refine ⟨_, _, k4 _ ?_, hrun, hended, _, _, rfl, ?_, ⟨_, rfl⟩, hW, hsame.mono (by decide) (by decide)⟩
      · exact retN X0 hx (t := .boolean) Bd.returns (by simp) (hb hby d3_12) hr
      · show own_Q (some (.int (own_f3 p0))) h0 n0 _ s₁.heap _
        rw [e0]
        exact ⟨by simp only [own_f3, if_neg hc1_1, if_pos hc8_2], N0, rfl⟩
    · have k5 : ∀ t, Steps p.tables e below (s₁.setTop (mkF m 15 #[.val (.int p0)] [(.int (2 : Int32)), (.int p0)])) t → Steps p.tables e below (s₁.setTop (entryFrame m #[(.int p0)] 1)) t := by
        intro t k
        refine k3 _ ?_
        show Steps p.tables e below (s₁.setTop (mkF m 8 #[.val (.int p0)] [(.int (1 : Int32)), (.int p0)])) _
        refine XS.icmpYes X0.here hx rfl (pc0 := 8) (pc' := 13) rfl (hb hby d3_8) rfl (feq hc8_2).2 (by decide) (by decide) ?_
        show Steps p.tables e below (s₁.setTop (mkF m 13 #[.val (.int p0)] [])) _
        refine XS.iloadN X0.here hx rfl (hb hby d3_13) rfl ?_
        show Steps p.tables e below (s₁.setTop (mkF m 14 #[.val (.int p0)] [(.int p0)])) _
        refine XS.iconst X0.here hx rfl (hb hby d3_14) ?_
        exact k
      by_cases hc15_3 : p0 = (2 : Int32)
      · have k6 : ∀ t, Steps p.tables e below (s₁.setTop (mkF m 19 #[.val (.int p0)] [(.int (1 : Int32))])) t → Steps p.tables e below (s₁.setTop (entryFrame m #[(.int p0)] 1)) t := by
          intro t k
          refine k5 _ ?_
          show Steps p.tables e below (s₁.setTop (mkF m 15 #[.val (.int p0)] [(.int (2 : Int32)), (.int p0)])) _
          refine XS.icmpNo X0.here hx rfl (hb hby d3_15) rfl (teq hc15_3).2 ?_
          show Steps p.tables e below (s₁.setTop (mkF m 18 #[.val (.int p0)] [])) _
          refine XS.iconst X0.here hx rfl (hb hby d3_18) ?_
          exact k
        obtain ⟨fs, hr, hrun, hended, hW, hsame⟩ := X0.leave (v := some (.int (1 : Int32))) (fun h => by rw [Bd.returns] at h; cases h)
        refine ⟨_, _, k6 _ ?_, hrun, hended, _, _, rfl, ?_, ⟨_, rfl⟩, hW, hsame.mono (by decide) (by decide)⟩
        · exact retN X0 hx (t := .boolean) Bd.returns (by simp) (hb hby d3_19) hr
        · show own_Q (some (.int (own_f3 p0))) h0 n0 _ s₁.heap _
          rw [e0]
          exact ⟨by simp only [own_f3, if_neg hc1_1, if_neg hc8_2, if_pos hc15_3], N0, rfl⟩
      · have k7 : ∀ t, Steps p.tables e below (s₁.setTop (mkF m 21 #[.val (.int p0)] [(.int (1 : Int32))])) t → Steps p.tables e below (s₁.setTop (entryFrame m #[(.int p0)] 1)) t := by
          intro t k
          refine k5 _ ?_
          show Steps p.tables e below (s₁.setTop (mkF m 15 #[.val (.int p0)] [(.int (2 : Int32)), (.int p0)])) _
          refine XS.icmpYes X0.here hx rfl (pc0 := 15) (pc' := 20) rfl (hb hby d3_15) rfl (feq hc15_3).2 (by decide) (by decide) ?_
          show Steps p.tables e below (s₁.setTop (mkF m 20 #[.val (.int p0)] [])) _
          refine XS.iconst X0.here hx rfl (hb hby d3_20) ?_
          exact k
        obtain ⟨fs, hr, hrun, hended, hW, hsame⟩ := X0.leave (v := some (.int (1 : Int32))) (fun h => by rw [Bd.returns] at h; cases h)
        refine ⟨_, _, k7 _ ?_, hrun, hended, _, _, rfl, ?_, ⟨_, rfl⟩, hW, hsame.mono (by decide) (by decide)⟩
        · exact retN X0 hx (t := .boolean) Bd.returns (by simp) (hb hby d3_21) hr
        · show own_Q (some (.int (own_f3 p0))) h0 n0 _ s₁.heap _
          rw [e0]
          exact ⟨by simp only [own_f3, if_neg hc1_1, if_neg hc8_2, if_neg hc15_3], N0, rfl⟩
theorem own_exa {Z : State} (w_PENDING w_SUCCEEDED w_FAILED w_RUNNING : Addr) (hG : own_G Z w_PENDING w_SUCCEEDED w_FAILED w_RUNNING) (p : Int32) : Exa Z Z.heap (own_f1 p w_PENDING w_SUCCEEDED w_FAILED w_RUNNING) "com/example/even_dispatch/evendispatch/Status" := by
  obtain ⟨S_PENDING, E_PENDING, S_SUCCEEDED, E_SUCCEEDED, S_FAILED, E_FAILED, S_RUNNING, E_RUNNING, F_PENDING_ordinal, F_SUCCEEDED_ordinal, F_FAILED_ordinal, F_RUNNING_ordinal⟩ := hG
  unfold own_f1
  repeat' split
  all_goals assumption
theorem ef_rm0 (m : MethodId) (x0 : Int32) : entryFrame m #[(.int x0)] maxLocals = mkF m 0 #[.val (.int x0), .unset, .unset] [] := by first | (simp [entryFrame, mkF, argsToLocals, Value.category, maxLocals]; done) | rfl
theorem pd_0 : parseMethodDescriptor "(I)Lcom/example/even_dispatch/evendispatch/Status;" = some ⟨[.int], some (.object "com/example/even_dispatch/evendispatch/Status")⟩ := by decide +kernel
theorem pd_1 : parseMethodDescriptor "()Z" = some ⟨[], some .boolean⟩ := by decide +kernel
theorem pd_2 : parseMethodDescriptor "(I)Z" = some ⟨[.int], some .boolean⟩ := by decide +kernel
theorem own_plain {Z : State} (p0 : Int32) (w_PENDING w_SUCCEEDED w_FAILED w_RUNNING : Addr) (hG : own_G Z w_PENDING w_SUCCEEDED w_FAILED w_RUNNING) : (own_f2 (own_f1 (p0 &&& (3 : Int32)) w_PENDING w_SUCCEEDED w_FAILED w_RUNNING) w_PENDING w_SUCCEEDED w_FAILED w_RUNNING) = (own_f3 (p0 &&& (3 : Int32)) ) := by
  obtain ⟨S_PENDING, E_PENDING, S_SUCCEEDED, E_SUCCEEDED, S_FAILED, E_FAILED, S_RUNNING, E_RUNNING, F_PENDING_ordinal, F_SUCCEEDED_ordinal, F_FAILED_ordinal, F_RUNNING_ordinal⟩ := hG
  have n1 : w_PENDING ≠ w_SUCCEEDED := (own_nefld F_PENDING_ordinal F_SUCCEEDED_ordinal (by decide))
  have n2 : w_PENDING ≠ w_FAILED := (own_nefld F_PENDING_ordinal F_FAILED_ordinal (by decide))
  have n3 : w_RUNNING ≠ w_SUCCEEDED := (own_nefld F_RUNNING_ordinal F_SUCCEEDED_ordinal (by decide))
  have n4 : w_RUNNING ≠ w_FAILED := (own_nefld F_RUNNING_ordinal F_FAILED_ordinal (by decide))
  generalize (p0 &&& (3 : Int32)) = i
  unfold own_f1 own_f2 own_f3
  by_cases h0 : i = 0
  · subst h0; simp [n1, n2]
  · by_cases h1 : i = 1
    · subst h1; simp [n3, n4]
    · by_cases h2 : i = 2
      · subst h2; simp
      · simp [h0, h1, h2]
set_option maxRecDepth 65536 in
set_option maxHeartbeats 40000000 in
theorem rm0 (l : Launch) (Z : State) (a0 : Array Value) (hw : ∀ d ∈ tables_1, d.before a0 Z = true) (ws : List Jvm.Cond) (p0 : Int32) (w_PENDING w_SUCCEEDED w_FAILED w_RUNNING : Addr) (h0 : Heap) (n0 : Nat) (hG : own_G Z w_PENDING w_SUCCEEDED w_FAILED w_RUNNING) (O0 : Old Z n0 h0) :
    MetFree l x (head1 (Jvm.Cond.code x code maxLocals ret :: ws) room_1) (fun a U => a = #[(.int p0)] ∧ Z.Warmed39 U.vm ∧ U.heap = h0) (fun _ _ _ _ _ => True) (fun _ U o U' => ∃ v L, o = .returned v ∧ own_R (some (.int 1)) n0 v U'.heap L ∧ FrameEnd U o U' L room_1.cells room_1.slots) := by
  refine MetFree.of_bodySF (plainFor_of_name pn_0) hisR ?_
  intro p e s m args below meth c s₁ Bd hml0 hP hK
  obtain ⟨rfl, hZ, hh⟩ := hP
  have hx := Bd.exec
  have hby := Bd.bytes
  have hml : c.maxLocals = 3 := hml0
  have hown : s.vm.findClass "com/example/even_dispatch/evendispatch/StatusIsFinalPinLaw" = some m.cls := findClass_of_methodNamed Bd.named
  have hnm := (name_of_methodNamed Bd.named Bd.method).1
  have X0 : Stand p l e room_1 s m #[(.int p0)] below meth c s₁ [] 0 0 := Stand.of_body Bd
  have e0 : s₁.heap = h0 := by rw [← hh, Bd.state]; rfl
  have N0 := Fr.nil n0
  have pre0 : ∀ t, Steps p.tables e below (s₁.setTop (mkF m 0 #[.val (.int p0), .unset, .unset] [])) t → Steps p.tables e below (s₁.setTop (entryFrame m #[(.int p0)] maxLocals)) t := fun t k => castTop (ef_rm0 m p0) k
  have hG' := hG
  obtain ⟨S_PENDING, E_PENDING, S_SUCCEEDED, E_SUCCEEDED, S_FAILED, E_FAILED, S_RUNNING, E_RUNNING, F_PENDING_ordinal, F_SUCCEEDED_ordinal, F_FAILED_ordinal, F_RUNNING_ordinal⟩ := hG'
  obtain ⟨_, _, ⟨T1, L1, k1_, n1⟩, -, X1, ⟨Lc1, hQ1, l1, y1, z1⟩, st1⟩ := Jvm.LawKit.callS X0 hx (y := (⟨"com/example/even_dispatch/evendispatch/StatusIsFinalPinLaw", "pick", "(I)Lcom/example/even_dispatch/evendispatch/Status;"⟩ : MethodName)) hown (mvT hZ (hw _ (List.mem_of_getElem? (i := 0) rfl))) (mvT hZ (hw _ (List.mem_of_getElem? (i := 1) rfl))) (mvT hZ (hw _ (List.mem_of_getElem? (i := 2) rfl))) (mvT hZ (hw _ (List.mem_of_getElem? (i := 3) rfl))) (by decide) (backOf (W := 0) (rm1 l Z a0 hw [] (p0 &&& (3 : Int32)) w_PENDING w_SUCCEEDED w_FAILED w_RUNNING h0 n0 hG O0) hZ (hw _ (List.mem_of_getElem? (i := 3) rfl)) (hw _ (List.mem_of_getElem? (i := 2) rfl)) (by decide) (by decide)) (g := (mkF m 5 #[.val (.int p0), .val (.int (p0 &&& (3 : Int32))), .unset] [(.int (p0 &&& (3 : Int32)))])) rfl (by rw [hml]; rfl) (argsL := [(.int (p0 &&& (3 : Int32)))]) (rest := []) (lenOf pd_0 rfl) rfl (by show 2 * 0 + _ ≤ _; exact Nat.le_of_eq rfl) (hb hby at_5) (fun _ _ => ⟨rfl, e0, (by decide : 0 + 0 ≤ _), (by decide : 0 + 0 ≤ _)⟩)
  dsimp only [Pt.U, Pt.locs, Pt.cells, Pt.slots] at X1 l1 y1 z1 st1 hQ1
  subst l1 y1 z1
  obtain ⟨rfl, Nq1, e1⟩ := hQ1
  have N1 := Fr.app N0 Nq1
  obtain ⟨cq2, kq2, q2a, q2b, q2c⟩ := isOf hZ e1 ((own_exa w_PENDING w_SUCCEEDED w_FAILED w_RUNNING hG (p0 &&& (3 : Int32))).ext O0.2)
  obtain ⟨_, _, ⟨T2, L2, k2_, n2⟩, -, X2, ⟨Lc2, hQ2, l2, y2, z2⟩, st2⟩ := X1.virtualBack hx (y := (⟨"com/example/even_dispatch/evendispatch/Status", "isFinal", "()Z"⟩ : MethodName)) (z := (⟨"com/example/even_dispatch/evendispatch/Status", "isFinal", "()Z"⟩ : MethodName)) hown (mvT hZ (hw _ (List.mem_of_getElem? (i := 7) rfl))) (mvT hZ (hw _ (List.mem_of_getElem? (i := 8) rfl))) (notFace_of_selects (args := #[]) (mvT hZ (hw _ (List.mem_of_getElem? (i := 10) rfl)))) (mvT hZ (hw _ (List.mem_of_getElem? (i := 10) rfl))) (mvT hZ (hw _ (List.mem_of_getElem? (i := 9) rfl))) (by decide) (backOf (W := 0) (rm2 l Z a0 hw [] (own_f1 (p0 &&& (3 : Int32)) w_PENDING w_SUCCEEDED w_FAILED w_RUNNING) w_PENDING w_SUCCEEDED w_FAILED w_RUNNING h0 n0 hG O0) hZ (hw _ (List.mem_of_getElem? (i := 11) rfl)) (hw _ (List.mem_of_getElem? (i := 5) rfl)) (by decide) (by decide)) q2a q2c (g := (mkF m 10 #[.val (.int p0), .val (.int (p0 &&& (3 : Int32))), .val (.ref (own_f1 (p0 &&& (3 : Int32)) w_PENDING w_SUCCEEDED w_FAILED w_RUNNING))] [(.ref (own_f1 (p0 &&& (3 : Int32)) w_PENDING w_SUCCEEDED w_FAILED w_RUNNING))])) rfl (by rw [hml]; rfl) (Steps.refl _) (argsL := []) (rest := []) (lenOf pd_1 rfl) rfl (by show 2 * 0 + _ ≤ _; exact Nat.le_of_eq rfl) (hb hby at_10) (fun _ _ => ⟨rfl, e1, (by decide : 0 + 0 ≤ _), (by decide : 0 + 0 ≤ _)⟩)
  dsimp only [Pt.U, Pt.locs, Pt.cells, Pt.slots] at X2 l2 y2 z2 st2 hQ2
  subst l2 y2 z2
  obtain ⟨rfl, Nq2, e2⟩ := hQ2
  have N2 := Fr.app N1 Nq2
  obtain ⟨_, _, ⟨T3, L3, k3_, n3⟩, -, X3, ⟨Lc3, hQ3, l3, y3, z3⟩, st3⟩ := Jvm.LawKit.callS X2 hx (y := (⟨"com/example/even_dispatch/evendispatch/StatusIsFinalPinLaw", "expectedFinal", "(I)Z"⟩ : MethodName)) hown (mvT hZ (hw _ (List.mem_of_getElem? (i := 16) rfl))) (mvT hZ (hw _ (List.mem_of_getElem? (i := 17) rfl))) (mvT hZ (hw _ (List.mem_of_getElem? (i := 2) rfl))) (mvT hZ (hw _ (List.mem_of_getElem? (i := 18) rfl))) (by decide) (backOf (W := 1) (rm3 l Z a0 hw [] (p0 &&& (3 : Int32)) h0 n0 ) hZ (hw _ (List.mem_of_getElem? (i := 18) rfl)) (hw _ (List.mem_of_getElem? (i := 2) rfl)) (by decide) (by decide)) (g := (mkF m 14 #[.val (.int p0), .val (.int (p0 &&& (3 : Int32))), .val (.ref (own_f1 (p0 &&& (3 : Int32)) w_PENDING w_SUCCEEDED w_FAILED w_RUNNING))] [(.int (p0 &&& (3 : Int32))), (.int (own_f2 (own_f1 (p0 &&& (3 : Int32)) w_PENDING w_SUCCEEDED w_FAILED w_RUNNING) w_PENDING w_SUCCEEDED w_FAILED w_RUNNING))])) rfl (by rw [hml]; rfl) (argsL := [(.int (p0 &&& (3 : Int32)))]) (rest := [(.int (own_f2 (own_f1 (p0 &&& (3 : Int32)) w_PENDING w_SUCCEEDED w_FAILED w_RUNNING) w_PENDING w_SUCCEEDED w_FAILED w_RUNNING))]) (lenOf pd_2 rfl) rfl (by show 2 * 0 + _ ≤ _; exact Nat.le_of_eq rfl) (hb hby at_14) (fun _ _ => ⟨rfl, e2, (by decide : 0 + 0 ≤ _), (by decide : 0 + 0 ≤ _)⟩)
  dsimp only [Pt.U, Pt.locs, Pt.cells, Pt.slots] at X3 l3 y3 z3 st3 hQ3
  subst l3 y3 z3
  obtain ⟨rfl, Nq3, e3⟩ := hQ3
  have N3 := Fr.app N2 Nq3
  have k4 : ∀ t, Steps p.tables e below (T3.setTop (mkF m 25 #[.val (.int p0), .val (.int (p0 &&& (3 : Int32))), .val (.ref (own_f1 (p0 &&& (3 : Int32)) w_PENDING w_SUCCEEDED w_FAILED w_RUNNING))] [(.int (1 : Int32))])) t → Steps p.tables e below (s₁.setTop (entryFrame m #[(.int p0)] maxLocals)) t := by
    intro t k
    refine pre0 _ ?_
    show Steps p.tables e below (s₁.setTop (mkF m 0 #[.val (.int p0), .unset, .unset] [])) _
    refine XS.iloadN X0.here hx rfl (hb hby at_0) rfl ?_
    show Steps p.tables e below (s₁.setTop (mkF m 1 #[.val (.int p0), .unset, .unset] [(.int p0)])) _
    refine XS.iconst X0.here hx rfl (hb hby at_1) ?_
    show Steps p.tables e below (s₁.setTop (mkF m 2 #[.val (.int p0), .unset, .unset] [(.int (3 : Int32)), (.int p0)])) _
    refine XS.iand X0.here hx rfl (hb hby at_2) rfl ?_
    show Steps p.tables e below (s₁.setTop (mkF m 3 #[.val (.int p0), .unset, .unset] [(.int (p0 &&& (3 : Int32)))])) _
    refine XS.istoreN X0.here hx rfl (hb hby at_3) rfl (l' := #[.val (.int p0), .val (.int (p0 &&& (3 : Int32))), .unset]) rfl ?_
    show Steps p.tables e below (s₁.setTop (mkF m 4 #[.val (.int p0), .val (.int (p0 &&& (3 : Int32))), .unset] [])) _
    refine XS.iloadN X0.here hx rfl (hb hby at_4) rfl ?_
    show Steps p.tables e below (s₁.setTop (mkF m 5 #[.val (.int p0), .val (.int (p0 &&& (3 : Int32))), .unset] [(.int (p0 &&& (3 : Int32)))])) _
    refine st1 _ ?_
    show Steps p.tables e below (T1.setTop (mkF m 8 #[.val (.int p0), .val (.int (p0 &&& (3 : Int32))), .unset] [(.ref (own_f1 (p0 &&& (3 : Int32)) w_PENDING w_SUCCEEDED w_FAILED w_RUNNING))])) _
    refine XS.astoreN X1.here hx rfl (hb hby at_8) rfl rfl (l' := #[.val (.int p0), .val (.int (p0 &&& (3 : Int32))), .val (.ref (own_f1 (p0 &&& (3 : Int32)) w_PENDING w_SUCCEEDED w_FAILED w_RUNNING))]) rfl ?_
    show Steps p.tables e below (T1.setTop (mkF m 9 #[.val (.int p0), .val (.int (p0 &&& (3 : Int32))), .val (.ref (own_f1 (p0 &&& (3 : Int32)) w_PENDING w_SUCCEEDED w_FAILED w_RUNNING))] [])) _
    refine XS.aloadN X1.here hx rfl (hb hby at_9) rfl rfl ?_
    show Steps p.tables e below (T1.setTop (mkF m 10 #[.val (.int p0), .val (.int (p0 &&& (3 : Int32))), .val (.ref (own_f1 (p0 &&& (3 : Int32)) w_PENDING w_SUCCEEDED w_FAILED w_RUNNING))] [(.ref (own_f1 (p0 &&& (3 : Int32)) w_PENDING w_SUCCEEDED w_FAILED w_RUNNING))])) _
    refine st2.trans ?_
    show Steps p.tables e below (T2.setTop (mkF m 13 #[.val (.int p0), .val (.int (p0 &&& (3 : Int32))), .val (.ref (own_f1 (p0 &&& (3 : Int32)) w_PENDING w_SUCCEEDED w_FAILED w_RUNNING))] [(.int (own_f2 (own_f1 (p0 &&& (3 : Int32)) w_PENDING w_SUCCEEDED w_FAILED w_RUNNING) w_PENDING w_SUCCEEDED w_FAILED w_RUNNING))])) _
    refine XS.iloadN X2.here hx rfl (hb hby at_13) rfl ?_
    show Steps p.tables e below (T2.setTop (mkF m 14 #[.val (.int p0), .val (.int (p0 &&& (3 : Int32))), .val (.ref (own_f1 (p0 &&& (3 : Int32)) w_PENDING w_SUCCEEDED w_FAILED w_RUNNING))] [(.int (p0 &&& (3 : Int32))), (.int (own_f2 (own_f1 (p0 &&& (3 : Int32)) w_PENDING w_SUCCEEDED w_FAILED w_RUNNING) w_PENDING w_SUCCEEDED w_FAILED w_RUNNING))])) _
    refine st3 _ ?_
    show Steps p.tables e below (T3.setTop (mkF m 17 #[.val (.int p0), .val (.int (p0 &&& (3 : Int32))), .val (.ref (own_f1 (p0 &&& (3 : Int32)) w_PENDING w_SUCCEEDED w_FAILED w_RUNNING))] [(.int (own_f3 (p0 &&& (3 : Int32)) )), (.int (own_f2 (own_f1 (p0 &&& (3 : Int32)) w_PENDING w_SUCCEEDED w_FAILED w_RUNNING) w_PENDING w_SUCCEEDED w_FAILED w_RUNNING))])) _
    refine XS.icmpNo X3.here hx rfl (hb hby at_17) rfl (teq (own_plain p0 w_PENDING w_SUCCEEDED w_FAILED w_RUNNING hG)).2 ?_
    show Steps p.tables e below (T3.setTop (mkF m 20 #[.val (.int p0), .val (.int (p0 &&& (3 : Int32))), .val (.ref (own_f1 (p0 &&& (3 : Int32)) w_PENDING w_SUCCEEDED w_FAILED w_RUNNING))] [])) _
    refine XS.iconst X3.here hx rfl (hb hby at_20) ?_
    show Steps p.tables e below (T3.setTop (mkF m 21 #[.val (.int p0), .val (.int (p0 &&& (3 : Int32))), .val (.ref (own_f1 (p0 &&& (3 : Int32)) w_PENDING w_SUCCEEDED w_FAILED w_RUNNING))] [(.int (1 : Int32))])) _
    refine XS.goto X3.here hx rfl (pc0 := 21) (pc' := 25) rfl (hb hby at_21) (by decide) (by decide) ?_
    exact k
  obtain ⟨fs, hr, hrun, hended, hW, hsame⟩ := X3.leave (v := some (.int (1 : Int32))) (fun h => by rw [Bd.returns] at h; cases h)
  refine ⟨_, _, k4 _ ?_, hrun, hended, _, _, rfl, ?_, ⟨_, rfl⟩, hW, hsame.mono (by decide) (by decide)⟩
  · exact retN X3 hx (t := .boolean) Bd.returns (by simp) (hb hby at_25) hr
  · show own_R (some (.int 1)) n0 _ T3.heap _
    rw [e3]
    exact ⟨rfl, N3⟩
set_option maxRecDepth 65536 in
set_option maxHeartbeats 40000000 in
theorem comes_1 {Post : Tables → Env → Array Value → State → Outcome → State → Prop} (hpost : ∀ tb e args s v u, (limb_1_1.after args s (.returned v) u = true ∧ limb_1_2.after args s (.returned v) u = true ∧ True) → FrameEnd s (.returned v) u (Jvm.fieldLocs frame_1_writes args s ++ Jvm.arrayLocs frame_1_arrays args s ++ Jvm.staticLocs frame_1_statics s) 0 0 → Post tb e args s (.returned v) u) :
    ArmFor flags0 classFile x code maxLocals ret World_1 tables_1 room_1 Calls_1 rest_1 Pre_1 Post := by
  intro l hfl _ _ p e ha hc hk s m args below hf hA hF happ hP
  obtain ⟨hcalls, hrest, hpre⟩ := hP
  obtain ⟨-, -, -, hnamed, -, -, -, hat⟩ := (Spec.applies_iff hf).mp happ
  obtain ⟨hg, hn⟩ := and_e (Cond.before_iff.mp (show (Jvm.Cond.and given_1 narrow_1).before args s = true from hpre))
  obtain ⟨g0a, g0b⟩ := and_e hg
  obtain ⟨w0, rfl⟩ : ∃ w0 : Value, args = #[w0] := by
    have hs : args.size = 1 := by simpa [Cond.value, given_1] using g0a
    obtain ⟨L⟩ := args
    match L, hs with
    | [w0], _ => exact ⟨w0, rfl⟩
  have hw := fun d (hd : d ∈ tables_1) => atoms_spec (ws := Jvm.Cond.code x code maxLocals ret :: tables_1) hat d (List.mem_cons_of_mem _ hd)
  have hfit : Fit s := fun {y c} hc i hi => by
    obtain ⟨ha, rfl⟩ := Array.getElem?_eq_some_iff.mp hc
    have q := List.all_eq_true.mp ((Array.all_eq_true_iff_forall_mem.mp hF) _ (Array.getElem_mem ha)) i (List.mem_range.mpr hi)
    simpa [Array.getElem?_eq_getElem hi] using q
  obtain ⟨i0, ei0⟩ := is_v g0b
  obtain rfl : w0 = (.int i0) := Option.some.inj ei0
  obtain ⟨nv0, nr0⟩ := and_e hn
  obtain ⟨nv1, nr1⟩ := and_e nr0
  obtain ⟨nv2, nr2⟩ := and_e nr1
  obtain ⟨nv3, nr3⟩ := and_e nr2
  obtain ⟨nv4, nr4⟩ := and_e nr3
  obtain ⟨nv5, nr5⟩ := and_e nr4
  obtain ⟨nv6, nr6⟩ := and_e nr5
  have nv7 := nr6
  obtain ⟨w_PENDING, ew_PENDING⟩ := exa_v nv0
  have E_PENDING := Exa.start ew_PENDING nv0
  have S_PENDING := Sta.start ew_PENDING (Or.inr ⟨(hw _ (List.mem_of_getElem? (i := 5) rfl)), (hw _ (List.mem_of_getElem? (i := 6) rfl))⟩)
  obtain ⟨w_SUCCEEDED, ew_SUCCEEDED⟩ := exa_v nv1
  have E_SUCCEEDED := Exa.start ew_SUCCEEDED nv1
  have S_SUCCEEDED := Sta.start ew_SUCCEEDED (Or.inr ⟨(hw _ (List.mem_of_getElem? (i := 5) rfl)), (hw _ (List.mem_of_getElem? (i := 13) rfl))⟩)
  obtain ⟨w_FAILED, ew_FAILED⟩ := exa_v nv4
  have E_FAILED := Exa.start ew_FAILED nv4
  have S_FAILED := Sta.start ew_FAILED (Or.inr ⟨(hw _ (List.mem_of_getElem? (i := 5) rfl)), (hw _ (List.mem_of_getElem? (i := 15) rfl))⟩)
  obtain ⟨w_RUNNING, ew_RUNNING⟩ := exa_v nv6
  have E_RUNNING := Exa.start ew_RUNNING nv6
  have S_RUNNING := Sta.start ew_RUNNING (Or.inr ⟨(hw _ (List.mem_of_getElem? (i := 5) rfl)), (hw _ (List.mem_of_getElem? (i := 22) rfl))⟩)
  have F_PENDING_ordinal := own_fld ew_PENDING nv2
  have F_SUCCEEDED_ordinal := own_fld ew_SUCCEEDED nv3
  have F_FAILED_ordinal := own_fld ew_FAILED nv5
  have F_RUNNING_ordinal := own_fld ew_RUNNING nv7
  obtain ⟨n, o, h1, h2, h3, _, L, rfl, ⟨rfl, N⟩, hq⟩ := rm0 l s _ hw tables_1 i0 w_PENDING w_SUCCEEDED w_FAILED w_RUNNING s.heap s.heap.size (⟨S_PENDING, E_PENDING, S_SUCCEEDED, E_SUCCEEDED, S_FAILED, E_FAILED, S_RUNNING, E_RUNNING, F_PENDING_ordinal, F_SUCCEEDED_ordinal, F_FAILED_ordinal, F_RUNNING_ordinal⟩ : own_G s w_PENDING w_SUCCEEDED w_FAILED w_RUNNING) (Old.start s) p e ha hc hk s m _ below hf ((Spec.applies_iff_loose hf).mp happ).1 ⟨rfl, State.Warmed39.refl s, rfl⟩ trivial
  refine ⟨n, _, h1, h2, h3, hpost _ _ _ _ _ _ ⟨Cond.after_iff.mpr rfl, Cond.after_iff.mpr (eq_i res_at (Term.int_eval (1)) rfl), trivial⟩ ⟨hq.1, hq.2.1, (hq.2.2.sift fun y hy => Or.inr (N y hy)).mono (by decide) (by decide)⟩⟩
theorem main_1_1 : Claimed_1_1 := comes_1 fun _ _ _ _ _ _ h hF => ⟨h.1, hF⟩
theorem main_1_2 : Claimed_1_2 := comes_1 fun _ _ _ _ _ _ h hF => ⟨h.2.1, hF⟩
end Jvm.Pilot.@@N@@
namespace Jvm.Pilot.@@N@@
open Jvm Jvm.ClassFile Sem Op Lib Jvm.Free Jvm.Stand Jvm.Pilot.@@N@@.Jvm.D
/-! MADE BY PROGRAM (witnessworld.py) out of the Statement's table words and the real class files: 12 classes; the members and pool entries that the words name. The judged class is class 1, her method 3. -/
namespace start1
open Jvm.ClassFile
def u (s : String) : CpInfo := .utf8 (stringToUtf16 s)
/-- a pool by its gaps: so many unusable entries, then the entry; so many at the end -/
def gap : Nat → List CpInfo → List CpInfo
  | 0, r => r
  | n + 1, r => .unusable :: gap n r
def poolList (es : List (Nat × CpInfo)) (last : Nat) : List CpInfo := es.foldr (fun e r => gap e.1 (e.2 :: r)) (gap last [])
def pool (es : List (Nat × CpInfo)) (last : Nat) : Array CpInfo := ⟨poolList es last⟩
def fileOf (pool : Array CpInfo) (this : Nat) (attrs : Array Attribute := #[]) (ms : Array MethodInfo := #[]) (fl : Nat := 33) (sup : Nat := 0) (ifs : Array Nat := #[]) (fds : Array FieldInfo := #[]) : ClassFile where
  minorVersion := 0
  majorVersion := 65
  constantPool := pool
  accessFlags := fl
  thisClass := this
  superClass := sup
  interfaces := ifs
  fields := fds
  methods := ms
  attributes := attrs
def plain (name : String) (sup : Option ClassId) : Class where
  name := name
  kind := .ordinary
  loader := none
  accessFlags := 33
  super := sup
  interfaces := #[]
  cf := none
  fields := #[]
  methods := #[]
  instanceTypes := #[]
  staticTypes := #[]
  resolved := #[]
  callSites := []
  init := .initialized
  statics := none
  mirror := none

def pool0 : Array CpInfo := pool [(5, u "<init>"), (0, u "()V"), (1, .class_ 10), (1, u "java/lang/Object")] 113

def k0m0 : Method := { name := "<init>", desc := "()V", sig := { parameters := [], returnType := none }, accessFlags := 1, code := none }
/-- java/lang/Object -/
def k0 : Class := { plain "java/lang/Object" none with
  accessFlags := 33
  interfaces := #[]
  cf := some (fileOf pool0 8 #[] #[{ accessFlags := 1, nameIndex := 5, descriptorIndex := 6, attributes := #[] }] 33 0 #[] #[])
  fields := #[]
  methods := #[k0m0]
  instanceTypes := #[]
  staticTypes := #[]
  resolved := Array.replicate 124 none
  statics := none }

def pool1 : Array CpInfo := pool [(2, .class_ 4), (1, u "java/lang/Object"), (0, u "<init>"), (0, u "()V"), (0, .fieldref 8 9), (0, .class_ 10), (0, .nameAndType 11 12), (0, u "com/example/even_dispatch/evendispatch/Status"), (0, u "PENDING"), (0, u "Lcom/example/even_dispatch/evendispatch/Status;"), (0, .fieldref 8 14), (0, .nameAndType 15 12), (0, u "RUNNING"), (0, .fieldref 8 17), (0, .nameAndType 18 12), (0, u "SUCCEEDED"), (0, .fieldref 8 20), (0, .nameAndType 21 12), (0, u "FAILED"), (0, .methodref 23 24), (0, .class_ 25), (0, .nameAndType 26 27), (0, u "com/example/even_dispatch/evendispatch/StatusIsFinalPinLaw"), (0, u "pick"), (0, u "(I)Lcom/example/even_dispatch/evendispatch/Status;"), (0, .methodref 8 29), (0, .nameAndType 30 31), (0, u "isFinal"), (0, u "()Z"), (0, .methodref 23 33), (0, .nameAndType 34 35), (0, u "expectedFinal"), (0, u "(I)Z"), (3, u "law")] 2

def k1m0 : Method := { name := "<init>", desc := "()V", sig := { parameters := [], returnType := none }, accessFlags := 2, code := none }
def k1c1 : Code := { maxStack := 2, maxLocals := 1, code := method_2_code, exceptionTable := #[], attributes := #[] }
def k1m1 : Method := { name := "pick", desc := "(I)Lcom/example/even_dispatch/evendispatch/Status;", sig := { parameters := [.int], returnType := some (.object "com/example/even_dispatch/evendispatch/Status") }, accessFlags := 10, code := some k1c1 }
def k1c2 : Code := { maxStack := 2, maxLocals := 1, code := method_3_code, exceptionTable := #[], attributes := #[] }
def k1m2 : Method := { name := "expectedFinal", desc := "(I)Z", sig := { parameters := [.int], returnType := some .boolean }, accessFlags := 10, code := some k1c2 }
def k1c3 : Code := { maxStack := 2, maxLocals := 3, code := code, exceptionTable := #[], attributes := #[] }
def k1m3 : Method := { name := "law", desc := "(I)Z", sig := { parameters := [.int], returnType := some .boolean }, accessFlags := 9, code := some k1c3 }
/-- com/example/even_dispatch/evendispatch/StatusIsFinalPinLaw -/
def k1 : Class := { plain "com/example/even_dispatch/evendispatch/StatusIsFinalPinLaw" (some 0) with
  accessFlags := 49
  interfaces := #[]
  cf := some (fileOf pool1 23 #[] #[{ accessFlags := 2, nameIndex := 5, descriptorIndex := 6, attributes := #[] }, { accessFlags := 10, nameIndex := 26, descriptorIndex := 27, attributes := #[] }, { accessFlags := 10, nameIndex := 34, descriptorIndex := 35, attributes := #[] }, { accessFlags := 9, nameIndex := 39, descriptorIndex := 35, attributes := #[] }] 49 2 #[] #[])
  fields := #[]
  methods := #[k1m0, k1m1, k1m2, k1m3]
  instanceTypes := #[]
  staticTypes := #[]
  resolved := Array.replicate 42 none
  statics := none }

def pool2 : Array CpInfo := pool [(1, .class_ 2), (0, u "java/lang/constant/Constable"), (0, .class_ 4), (0, u "java/lang/Object")] 6

/-- java/lang/constant/Constable -/
def k2 : Class := { plain "java/lang/constant/Constable" (some 0) with
  accessFlags := 1537
  interfaces := #[]
  cf := some (fileOf pool2 1 #[] #[] 1537 3 #[] #[])
  fields := #[]
  methods := #[]
  instanceTypes := #[]
  staticTypes := #[]
  resolved := Array.replicate 11 none
  statics := none }

def pool3 : Array CpInfo := pool [(1, .class_ 2), (0, u "java/lang/Comparable"), (0, .class_ 4), (0, u "java/lang/Object")] 7

/-- java/lang/Comparable -/
def k3 : Class := { plain "java/lang/Comparable" (some 0) with
  accessFlags := 1537
  interfaces := #[]
  cf := some (fileOf pool3 1 #[] #[] 1537 3 #[] #[])
  fields := #[]
  methods := #[]
  instanceTypes := #[]
  staticTypes := #[]
  resolved := Array.replicate 12 none
  statics := none }

def pool4 : Array CpInfo := pool [(1, .class_ 2), (0, u "java/io/Serializable"), (0, .class_ 4), (0, u "java/lang/Object")] 2

/-- java/io/Serializable -/
def k4 : Class := { plain "java/io/Serializable" (some 0) with
  accessFlags := 1537
  interfaces := #[]
  cf := some (fileOf pool4 1 #[] #[] 1537 3 #[] #[])
  fields := #[]
  methods := #[]
  instanceTypes := #[]
  staticTypes := #[]
  resolved := Array.replicate 7 none
  statics := none }

def pool5 : Array CpInfo := pool [(2, .class_ 4), (1, u "java/lang/Enum"), (0, u "name"), (0, u "Ljava/lang/String;"), (2, u "ordinal"), (0, u "I"), (1, .class_ 14), (1, u "java/lang/Object"), (4, u "hash"), (86, .class_ 108), (1, u "java/lang/Enum$EnumDesc"), (2, .class_ 112), (0, u "java/lang/constant/Constable"), (0, .class_ 114), (0, u "java/lang/Comparable"), (0, .class_ 116), (0, u "java/io/Serializable")] 87

/-- java/lang/Enum -/
def k5 : Class := { plain "java/lang/Enum" (some 0) with
  accessFlags := 1057
  interfaces := #[2, 3, 4]
  cf := some (fileOf pool5 2 #[.nestMembers #[106]] #[] 1057 12 #[111, 113, 115] #[{ accessFlags := 18, nameIndex := 5, descriptorIndex := 6, attributes := #[] }, { accessFlags := 18, nameIndex := 9, descriptorIndex := 10, attributes := #[] }, { accessFlags := 2, nameIndex := 19, descriptorIndex := 10, attributes := #[] }])
  fields := #[{ name := "name", type := (.object "java/lang/String"), accessFlags := 18, slot := 0, constantValue := 0 }, { name := "ordinal", type := .int, accessFlags := 18, slot := 1, constantValue := 0 }, { name := "hash", type := .int, accessFlags := 2, slot := 2, constantValue := 0 }]
  methods := #[]
  instanceTypes := #[(.object "java/lang/String"), .int, .int]
  staticTypes := #[]
  resolved := Array.replicate 204 none
  statics := none }

def pool6 : Array CpInfo := pool [(1, .class_ 2), (0, u "com/example/even_dispatch/evendispatch/Status"), (2, u "PENDING"), (0, u "Lcom/example/even_dispatch/evendispatch/Status;"), (2, u "RUNNING"), (0, .fieldref 1 11), (0, .nameAndType 12 6), (0, u "SUCCEEDED"), (0, .fieldref 1 14), (0, .nameAndType 15 6), (0, u "FAILED"), (2, u "$VALUES"), (0, u "[Lcom/example/even_dispatch/evendispatch/Status;"), (6, .class_ 28), (1, u "java/lang/Enum"), (67, u "isFinal"), (0, u "()Z")] 44

def k6c0 : Code := { maxStack := 2, maxLocals := 1, code := prog_9_method_7_code, exceptionTable := #[], attributes := #[] }
def k6m0 : Method := { name := "isFinal", desc := "()Z", sig := { parameters := [], returnType := some .boolean }, accessFlags := 0, code := some k6c0 }
/-- com/example/even_dispatch/evendispatch/Status -/
def k6 : Class := { plain "com/example/even_dispatch/evendispatch/Status" (some 5) with
  accessFlags := 16432
  interfaces := #[]
  cf := some (fileOf pool6 1 #[] #[{ accessFlags := 0, nameIndex := 96, descriptorIndex := 97, attributes := #[] }] 16432 26 #[] #[{ accessFlags := 16409, nameIndex := 5, descriptorIndex := 6, attributes := #[] }, { accessFlags := 16409, nameIndex := 9, descriptorIndex := 6, attributes := #[] }, { accessFlags := 16409, nameIndex := 12, descriptorIndex := 6, attributes := #[] }, { accessFlags := 16409, nameIndex := 15, descriptorIndex := 6, attributes := #[] }, { accessFlags := 4122, nameIndex := 18, descriptorIndex := 19, attributes := #[] }])
  fields := #[{ name := "PENDING", type := (.object "com/example/even_dispatch/evendispatch/Status"), accessFlags := 16409, slot := 0, constantValue := 0 }, { name := "RUNNING", type := (.object "com/example/even_dispatch/evendispatch/Status"), accessFlags := 16409, slot := 1, constantValue := 0 }, { name := "SUCCEEDED", type := (.object "com/example/even_dispatch/evendispatch/Status"), accessFlags := 16409, slot := 2, constantValue := 0 }, { name := "FAILED", type := (.object "com/example/even_dispatch/evendispatch/Status"), accessFlags := 16409, slot := 3, constantValue := 0 }, { name := "$VALUES", type := (.array (.object "com/example/even_dispatch/evendispatch/Status")), accessFlags := 4122, slot := 4, constantValue := 0 }]
  methods := #[k6m0]
  instanceTypes := #[(.object "java/lang/String"), .int, .int]
  staticTypes := #[(.object "com/example/even_dispatch/evendispatch/Status"), (.object "com/example/even_dispatch/evendispatch/Status"), (.object "com/example/even_dispatch/evendispatch/Status"), (.object "com/example/even_dispatch/evendispatch/Status"), (.array (.object "com/example/even_dispatch/evendispatch/Status"))]
  resolved := Array.replicate 142 none
  statics := some 0 }

def pool7 : Array CpInfo := pool [(1, u "java/lang/Cloneable"), (0, .class_ 1), (0, u "java/lang/Object"), (0, .class_ 3)] 3

/-- java/lang/Cloneable -/
def k7 : Class := { plain "java/lang/Cloneable" (some 0) with
  accessFlags := 1537
  interfaces := #[]
  cf := some (fileOf pool7 2 #[] #[] 1537 4 #[] #[])
  fields := #[]
  methods := #[]
  instanceTypes := #[]
  staticTypes := #[]
  resolved := Array.replicate 8 none
  statics := none }

/-- the primitive byte -/
def k8 : Class := { plain "byte" none with kind := .primitive 'B', accessFlags := 0x411 }
/-- [B -/
def k9 : Class := { plain "[B" (some 0) with kind := .array 8 .byte, interfaces := #[7, 4], accessFlags := 1041 }

/-- the primitive int -/
def k10 : Class := { plain "int" none with kind := .primitive 'I', accessFlags := 0x411 }
/-- [I -/
def k11 : Class := { plain "[I" (some 0) with kind := .array 10 .int, interfaces := #[7, 4], accessFlags := 1041 }

def heap : Heap := #[{ cls := 6, slots := #[.ref 1, .ref 4, .ref 2, .ref 3, .null], vm := .statics 6 },
  { cls := 6, slots := #[.null, .int 0, .int 0], vm := .none },
  { cls := 6, slots := #[.null, .int 2, .int 0], vm := .none },
  { cls := 6, slots := #[.null, .int 3, .int 0], vm := .none },
  { cls := 6, slots := #[.null, .int 1, .int 0], vm := .none }]
def classes : Array Class := #[k0, k1, k2, k3, k4, k5, k6, k7, k8, k9, k10, k11]
def interned : List (Array UInt16 × Addr) := []
def slotsUsed : Nat := 17
def theMethod : MethodId := ⟨1, 3⟩
def args0 : Array Value := #[.int 5]
def aboutOver (below : List Frame) : State where
  vm := { classes := classes, interned := interned.toArray }
  heap := heap
  slotsUsed := slotsUsed
  threads := #[{ frames := .invoking theMethod args0 :: below }]
def below0 : List Frame := [.native { method := ⟨0, 0⟩, args := #[] }]
def about1 : State := aboutOver below0
def p0 : Program := .bare "" "" ""
def e0 : Env := launch0.env 0 0 0
theorem w_frames : about1.frames = Frame.invoking theMethod args0 :: below0 := rfl
set_option maxRecDepth 65536 in
theorem w_args : argsFit about1.vm theMethod args0 = true := by decide +kernel
set_option maxRecDepth 65536 in
theorem w_heap : heapFits about1 = true := by decide +kernel
set_option maxRecDepth 65536 in
theorem w_runnable : about1.curStatus? = some .runnable := by decide +kernel
set_option maxRecDepth 65536 in
theorem w_alone : about1.alone = true := by decide +kernel
set_option maxRecDepth 65536 in
theorem w_named : about1.methodNamed? x = some theMethod := by decide +kernel
set_option maxRecDepth 65536 in
theorem w_hears : about1.hears theMethod below0 = true := by decide +kernel
set_option maxRecDepth 65536 in
theorem w_ripe : about1.ripe theMethod args0 below0 = true := by decide +kernel
theorem w_running : about1.status = .running := rfl
set_option maxRecDepth 65536 in
theorem w_room : about1.hasRoom e0.platform room_1 = true :=
  launch0.hasRoom_least _ room_1 (by decide +kernel) (by decide +kernel) (by decide +kernel) (by decide +kernel) (by decide +kernel) (by decide +kernel)
theorem allAtoms_all (ts : List Jvm.Cond) (a : Array Jvm.Value) (st : Jvm.State) : (allAtoms ts).before a st = ts.all (fun c => c.before a st) := by
  induction ts with
  | nil => rfl
  | cons c t ih =>
    show (Jvm.Cond.and c (allAtoms t)).before a st = _
    rw [Jvm.Cond.before_and, ih, List.all_cons]
def words1 : List Jvm.Cond := Jvm.Cond.code x code maxLocals ret :: tables_1
/-- a 'code' word, met by the world's own term for the bytes: nothing is compared byte by byte -/
theorem code_word {y : MethodName} {bytes : ByteArray} {mx : Nat} {rt : Option FieldType} {a : Array Value} {s : State} {m : MethodId} {meth : Method} {c : Code} (h1 : s.methodNamed? y = some m) (h2 : s.vm.method? m = some meth) (h3 : meth.code = some c) (h4 : c.code = bytes)
    (h5 : (c.maxLocals == mx && c.exceptionTable.isEmpty && decide (c.maxStack ≤ mostOperands) && decide (meth.sig.returnType = rt) && !meth.locks && decide (parseMethodDescriptor y.desc = some meth.sig)) = true) : (Jvm.Cond.code y bytes mx rt).before a s = true := by
  simp only [Bool.and_eq_true, beq_iff_eq, Bool.not_eq_true', decide_eq_true_eq] at h5
  obtain ⟨⟨⟨⟨⟨g1, g2⟩, g3⟩, g4⟩, g5⟩, g6⟩ := h5
  simp [Cond.before, Cond.holds, Cond.value, h1, h2, h3, h4, g1, g2, g3, g4, g5, g6]
def isCode : Jvm.Cond → Bool
  | .code _ _ _ _ => true
  | _ => false
theorem all_split {L : List Jvm.Cond} {P : Jvm.Cond → Bool} (h1 : L.all (fun c => isCode c || P c) = true) (h2 : ∀ c ∈ L.filter isCode, P c = true) : L.all P = true := by
  refine List.all_eq_true.mpr fun c hc => ?_
  have h := List.all_eq_true.mp h1 c hc
  rcases Bool.eq_false_or_eq_true (isCode c) with hi | hi
  · exact h2 c (List.mem_filter.mpr ⟨hc, hi⟩)
  · simpa [hi] using h
set_option maxRecDepth 65536 in
theorem w_c0 : (Jvm.Cond.code x code maxLocals ret).before args0 about1 = true := code_word (m := ⟨1, 3⟩) (meth := k1m3) (c := k1c3) (by decide +kernel) rfl rfl rfl (by decide +kernel)
set_option maxRecDepth 65536 in
theorem w_c1 : (Jvm.Cond.code ({ cls := "com/example/even_dispatch/evendispatch/StatusIsFinalPinLaw", name := "pick", desc := "(I)Lcom/example/even_dispatch/evendispatch/Status;" } : Jvm.MethodName) method_2_code (1 : Nat) (Option.some (Jvm.ClassFile.FieldType.object "com/example/even_dispatch/evendispatch/Status"))).before args0 about1 = true := code_word (m := ⟨1, 1⟩) (meth := k1m1) (c := k1c1) (by decide +kernel) rfl rfl rfl (by decide +kernel)
set_option maxRecDepth 65536 in
theorem w_c2 : (Jvm.Cond.code ({ cls := "com/example/even_dispatch/evendispatch/Status", name := "isFinal", desc := "()Z" } : Jvm.MethodName) prog_9_method_7_code (1 : Nat) (Option.some Jvm.ClassFile.FieldType.boolean)).before args0 about1 = true := code_word (m := ⟨6, 0⟩) (meth := k6m0) (c := k6c0) (by decide +kernel) rfl rfl rfl (by decide +kernel)
set_option maxRecDepth 65536 in
theorem w_c3 : (Jvm.Cond.code ({ cls := "com/example/even_dispatch/evendispatch/StatusIsFinalPinLaw", name := "expectedFinal", desc := "(I)Z" } : Jvm.MethodName) method_3_code (1 : Nat) (Option.some Jvm.ClassFile.FieldType.boolean)).before args0 about1 = true := code_word (m := ⟨1, 2⟩) (meth := k1m2) (c := k1c2) (by decide +kernel) rfl rfl rfl (by decide +kernel)
def codes1 : List Jvm.Cond := [Jvm.Cond.code x code maxLocals ret, Jvm.Cond.code ({ cls := "com/example/even_dispatch/evendispatch/StatusIsFinalPinLaw", name := "pick", desc := "(I)Lcom/example/even_dispatch/evendispatch/Status;" } : Jvm.MethodName) method_2_code (1 : Nat) (Option.some (Jvm.ClassFile.FieldType.object "com/example/even_dispatch/evendispatch/Status")), Jvm.Cond.code ({ cls := "com/example/even_dispatch/evendispatch/Status", name := "isFinal", desc := "()Z" } : Jvm.MethodName) prog_9_method_7_code (1 : Nat) (Option.some Jvm.ClassFile.FieldType.boolean), Jvm.Cond.code ({ cls := "com/example/even_dispatch/evendispatch/StatusIsFinalPinLaw", name := "expectedFinal", desc := "(I)Z" } : Jvm.MethodName) method_3_code (1 : Nat) (Option.some Jvm.ClassFile.FieldType.boolean)]
set_option maxRecDepth 65536 in
theorem codes_eq : words1.filter isCode = codes1 := rfl
theorem w_codes : ∀ c ∈ words1.filter isCode, c.before args0 about1 = true := by
  rw [codes_eq]
  intro c hc
  simp only [codes1, List.mem_cons, List.not_mem_nil, or_false] at hc
  rcases hc with rfl | rfl | rfl | rfl
  · exact w_c0
  · exact w_c1
  · exact w_c2
  · exact w_c3
set_option maxRecDepth 65536 in
theorem w_t1 : words1.all (fun c => isCode c || c.before args0 about1) = true := by decide +kernel
theorem w_tables : (allAtoms (Jvm.Cond.code x code maxLocals ret :: tables_1)).before args0 about1 = true := by
  rw [allAtoms_all]
  show words1.all (fun c => c.before args0 about1) = true
  refine all_split ?_ w_codes
  rw [w_t1]
set_option maxRecDepth 65536 in
theorem w_case : (Jvm.Cond.and given_1 narrow_1).before args0 about1 = true := by decide +kernel
theorem w_applies : (headSpec (Jvm.Cond.code x code maxLocals ret :: tables_1) room_1).applies x e0.platform about1 = true :=
  (Spec.applies_iff w_frames).mpr ⟨w_running, w_runnable, w_alone, w_named, w_hears, w_ripe, w_room, w_tables⟩
theorem atStart : AtStart classFile x code maxLocals ret World_1 tables_1 room_1 Calls_1 rest_1 Pre_1 launch0 p0 e0 about1 theMethod args0 below0 :=
  ⟨lists_1, trivial, launch0.admits_env _ _ _, launch0.least_env, fairChoices_fair.cas, fairChoices_fair.clock, w_frames, w_args, w_heap, w_applies, trivial, trivial, w_case⟩
end start1
theorem witness_1 : WitnessClaimed_1 := ⟨start1.p0, start1.e0, start1.about1, start1.theMethod, start1.args0, start1.below0, start1.atStart⟩
end Jvm.Pilot.@@N@@
