import JvmDerived
import JvmDerived.Pilot.@@N@@Statement
import JvmDerived.Pilot.@@N@@Code
set_option linter.unusedVariables false
set_option linter.unusedSimpArgs false
namespace Jvm.RoadKit
open Sem ClassFile Op Lib Jvm.Stand Jvm.Free Jvm.LawKit
section New
variable {p : Program} {l : Launch} {e : Env} {R : Room} {s : State} {m : MethodId} {args : Array Value} {below : List Frame} {meth : Method} {c : Code} {T : State} {locs : List Loc} {cells slots : Nat}
theorem retI (X : Stand p l e R s m args below meth c T locs cells slots) (hx : p.tables.exec = Jvm.exec) {pc : Nat} {Ls : Array Slot} {z : Int32} {rest : List Value} (hret : meth.sig.returnType = some .int) (hd : decode c.code pc = .ok (.ireturn, 1)) {fs : List Frame}
    (hl : ∀ (f : JFrame) (acts : List Action), f.method = m → f.locked = none → f.entered = [] → (doReturn e (T.setTop f) acts (some (.int z))).1 = T.setFrames fs) : Steps p.tables e below (T.setTop (mkF m pc Ls (.int z :: rest))) (T.setFrames fs) := by
  have hm' : T.vm.method? m = some meth := X.method'
  have hn : narrow .int (.int z) = .int z := rfl
  show Steps p.tables e below (T.setTop { method := m, pc := pc, locals := Ls, stack := _ :: rest, locked := none }) _
  jvm_step X.here [X.here.top, hx, hd, hm', hret, hn]
  first | (intro acts; rw [hl _ acts rfl rfl rfl]) | rw [hl _ _ rfl rfl rfl]
  exact Steps.refl _
end New
end Jvm.RoadKit
namespace Jvm.Pilot.@@N@@
open Jvm Jvm.ClassFile Sem Op Lib Jvm.Free Jvm.Stand Jvm.LawKit Jvm.RoadKit Bundle Jvm.Pilot.@@N@@.Jvm.D
def QP (w : Option Value) (h0 : Heap) (n0 : Nat) (v : Option Value) (h : Heap) (L : List Loc) : Prop := v = w ∧ Fr n0 L ∧ h = h0
def QL (w : Option Value) (n0 : Nat) (v : Option Value) (h : Heap) (L : List Loc) : Prop := v = w ∧ Fr n0 L ∧ True
theorem own_ord {s : State} {args : Array Value} {t : Term} {K n : String} {k : Int32} {a : Addr} (ev : t.eval args s none [] s = some (.ref a)) (h : (Jvm.Cond.eq (Term.field t K n "I") (Term.int k)).value args s none s [] = some true) : Fld s s.heap a K n "I" (.int k) := by
  obtain ⟨x, y, hx, hy, q1, q2⟩ := cmp_v (Or.inl h)
  rw [Term.int_eval] at hy
  cases hy
  obtain ⟨z, rfl⟩ := q2
  have h2 := Cond.eq_ints hx (Term.int_eval (args := args) (first := s) (o := none) (idx := []) (s := s) k)
  rw [h2] at h
  have h3 : z = k := by simpa using h
  subst h3
  rw [fld_at ev] at hx
  exact Fld.start hx
theorem d1_0 : decode method_2_code 0 = .ok (.iload_n 0, 1) := by decide +kernel
theorem d1_1 : decode method_2_code 1 = .ok (.ifCond .ne 7, 3) := by decide +kernel
theorem d1_4 : decode method_2_code 4 = .ok (.getstatic 7, 3) := by decide +kernel
theorem d1_7 : decode method_2_code 7 = .ok (.areturn, 1) := by decide +kernel
theorem d1_8 : decode method_2_code 8 = .ok (.iload_n 0, 1) := by decide +kernel
theorem d1_9 : decode method_2_code 9 = .ok (.iconst 1, 1) := by decide +kernel
theorem d1_10 : decode method_2_code 10 = .ok (.if_icmp .ne 7, 3) := by decide +kernel
theorem d1_13 : decode method_2_code 13 = .ok (.getstatic 13, 3) := by decide +kernel
theorem d1_16 : decode method_2_code 16 = .ok (.areturn, 1) := by decide +kernel
theorem d1_17 : decode method_2_code 17 = .ok (.iload_n 0, 1) := by decide +kernel
theorem d1_18 : decode method_2_code 18 = .ok (.iconst 2, 1) := by decide +kernel
theorem d1_19 : decode method_2_code 19 = .ok (.if_icmp .ne 7, 3) := by decide +kernel
theorem d1_22 : decode method_2_code 22 = .ok (.getstatic 16, 3) := by decide +kernel
theorem d1_25 : decode method_2_code 25 = .ok (.areturn, 1) := by decide +kernel
theorem d1_26 : decode method_2_code 26 = .ok (.getstatic 19, 3) := by decide +kernel
theorem d1_29 : decode method_2_code 29 = .ok (.areturn, 1) := by decide +kernel
theorem pn_1 : plainName "com/example/slim_kripke/slimkripke/smv/ValueKindAcceptsPinLaw" = true := by first | (simp [plainName, overriddenIn]; done) | decide +kernel
theorem ef_1 (m : MethodId) (x0 : Int32) : entryFrame m #[(.int x0)] 1 = mkF m 0 #[.val (.int x0)] [] := by first | (simp [entryFrame, mkF, argsToLocals, Value.category]; done) | rfl
def f1 (p0 : Int32) (wB : Addr) (wI : Addr) (wS : Addr) (wM : Addr) : Addr := (if p0 = (0 : Int32) then wB else (if p0 = (1 : Int32) then wI else (if p0 = (2 : Int32) then wS else wM)))
set_option maxRecDepth 65536 in
set_option maxHeartbeats 40000000 in
theorem rm1 (l : Launch) (Z : State) (a0 : Array Value) (hw : ∀ d ∈ tables_1, d.before a0 Z = true) (ws : List Jvm.Cond) (p0 : Int32) (wB : Addr) (wI : Addr) (wS : Addr) (wM : Addr) (h0 : Heap) (n0 : Nat) (Z0 : n0 ≤ h0.size) (I0 : Sta Z h0 "com/example/slim_kripke/slimkripke/smv/ValueKind" "BOOLEAN" "Lcom/example/slim_kripke/slimkripke/smv/ValueKind;" (.ref wB)) (I1 : Sta Z h0 "com/example/slim_kripke/slimkripke/smv/ValueKind" "INTEGER" "Lcom/example/slim_kripke/slimkripke/smv/ValueKind;" (.ref wI)) (I2 : Sta Z h0 "com/example/slim_kripke/slimkripke/smv/ValueKind" "SYMBOLIC" "Lcom/example/slim_kripke/slimkripke/smv/ValueKind;" (.ref wS)) (I3 : Sta Z h0 "com/example/slim_kripke/slimkripke/smv/ValueKind" "MIXED" "Lcom/example/slim_kripke/slimkripke/smv/ValueKind;" (.ref wM)) :
    MetFree l (⟨"com/example/slim_kripke/slimkripke/smv/ValueKindAcceptsPinLaw", "kind", "(I)Lcom/example/slim_kripke/slimkripke/smv/ValueKind;"⟩ : MethodName) (head1 (Jvm.Cond.code (⟨"com/example/slim_kripke/slimkripke/smv/ValueKindAcceptsPinLaw", "kind", "(I)Lcom/example/slim_kripke/slimkripke/smv/ValueKind;"⟩ : MethodName) method_2_code 1 (some (.object "com/example/slim_kripke/slimkripke/smv/ValueKind")) :: ws) ({ frames := 0, cells := 0, slots := 0, locals := 0 } : Room)) (fun a U => a = #[(.int p0)] ∧ Z.Warmed39 U.vm ∧ U.heap = h0) (fun _ _ _ _ _ => True) (fun _ U o U' => ∃ v L, o = .returned v ∧ QP (some (.ref (f1 p0 wB wI wS wM))) h0 n0 v U'.heap L ∧ FrameEnd U o U' L ({ frames := 0, cells := 0, slots := 0, locals := 0 } : Room).cells ({ frames := 0, cells := 0, slots := 0, locals := 0 } : Room).slots) := by
  refine MetFree.of_bodySF (plainFor_of_name pn_1) hisR ?_
  intro p e s m args below meth c s₁ Bd hml0 hP hK
  obtain ⟨rfl, hZ, hh⟩ := hP
  have hx := Bd.exec
  have hby := Bd.bytes
  have hml : c.maxLocals = 1 := hml0
  have hown : s.vm.findClass "com/example/slim_kripke/slimkripke/smv/ValueKindAcceptsPinLaw" = some m.cls := findClass_of_methodNamed Bd.named
  have hnm := (name_of_methodNamed Bd.named Bd.method).1
  have X0 : Stand p l e ({ frames := 0, cells := 0, slots := 0, locals := 0 } : Room) s m #[(.int p0)] below meth c s₁ [] 0 0 := Stand.of_body Bd
  have e0 : s₁.heap = h0 := by rw [← hh, Bd.state]; rfl
  have N0 := Fr.nil n0
  have K0 : Keep h0 h0 [] := Keep.refl _ _
  have pre0 : ∀ t, Steps p.tables e below (s₁.setTop (mkF m 0 #[.val (.int p0)] [])) t → Steps p.tables e below (s₁.setTop (entryFrame m #[(.int p0)] 1)) t := fun t k => castTop (ef_1 m p0) k
  have pre4 : ∀ t, Steps p.tables e below (s₁.setTop (mkF m 1 #[.val (.int p0)] [(.int p0)])) t → Steps p.tables e below (s₁.setTop (entryFrame m #[(.int p0)] 1)) t := fun t k => pre0 t (by
    show Steps p.tables e below (s₁.setTop (mkF m 0 #[.val (.int p0)] [])) _
    refine XS.iloadN X0.here hx rfl (hb hby d1_0) rfl ?_
    exact k)
  by_cases hc1_1 : p0 = (0 : Int32)
  · have pre5 : ∀ t, Steps p.tables e below (s₁.setTop (mkF m 4 #[.val (.int p0)] [])) t → Steps p.tables e below (s₁.setTop (entryFrame m #[(.int p0)] 1)) t := fun t k => pre4 t (by
      show Steps p.tables e below (s₁.setTop (mkF m 1 #[.val (.int p0)] [(.int p0)])) _
      refine XS.ifNo X0.here hx rfl (hb hby d1_1) rfl ((if0 _ _).trans (teq hc1_1).2) ?_
      exact k)
    obtain ⟨T6, X6, e6, st6⟩ := getS2 X0 hx hZ hown (host := "") (Or.inl (hw _ (List.mem_of_getElem? (i := 4) rfl))) Via.refl e0 I0 (g := (mkF m 4 #[.val (.int p0)] [])) rfl (hb hby d1_4)
    have pre7 : ∀ t, Steps p.tables e below (T6.setTop (mkF m 7 #[.val (.int p0)] [(.ref wB)])) t → Steps p.tables e below (s₁.setTop (entryFrame m #[(.int p0)] 1)) t := fun t k => pre5 t (st6 _ k)
    obtain ⟨fs, hr, hrun, hended, hW, hsame⟩ := X6.leave (v := some (.ref wB)) (fun h => by rw [Bd.returns] at h; cases h)
    refine ⟨_, _, ?_, hrun, hended, _, _, rfl, ?_, ⟨_, rfl⟩, hW, hsame.mono (by decide) (by decide)⟩
    · refine pre7 _ ?_
      jvm_step X6.here [X6.here.top, hx, (hb hby d1_7), X6.method', Bd.returns, Value.isRef, FieldType.isReference]
      first | (intro acts; rw [hr _ acts rfl rfl rfl]) | rw [hr _ _ rfl rfl rfl]
      exact Steps.refl _
    · exact ⟨by simp only [f1, if_pos hc1_1], N0, e6⟩
  · have pre8 : ∀ t, Steps p.tables e below (s₁.setTop (mkF m 10 #[.val (.int p0)] [(.int (1 : Int32)), (.int p0)])) t → Steps p.tables e below (s₁.setTop (entryFrame m #[(.int p0)] 1)) t := fun t k => pre4 t (by
      show Steps p.tables e below (s₁.setTop (mkF m 1 #[.val (.int p0)] [(.int p0)])) _
      refine XS.ifYes X0.here hx rfl (pc0 := 1) (pc' := 8) rfl (hb hby d1_1) rfl ((if0 _ _).trans (feq hc1_1).2) (by decide) (by decide) ?_
      show Steps p.tables e below (s₁.setTop (mkF m 8 #[.val (.int p0)] [])) _
      refine XS.iloadN X0.here hx rfl (hb hby d1_8) rfl ?_
      show Steps p.tables e below (s₁.setTop (mkF m 9 #[.val (.int p0)] [(.int p0)])) _
      refine XS.iconst X0.here hx rfl (hb hby d1_9) ?_
      exact k)
    by_cases hc10_2 : p0 = (1 : Int32)
    · have pre9 : ∀ t, Steps p.tables e below (s₁.setTop (mkF m 13 #[.val (.int p0)] [])) t → Steps p.tables e below (s₁.setTop (entryFrame m #[(.int p0)] 1)) t := fun t k => pre8 t (by
        show Steps p.tables e below (s₁.setTop (mkF m 10 #[.val (.int p0)] [(.int (1 : Int32)), (.int p0)])) _
        refine XS.icmpNo X0.here hx rfl (hb hby d1_10) rfl (teq hc10_2).2 ?_
        exact k)
      obtain ⟨T10, X10, e10, st10⟩ := getS2 X0 hx hZ hown (host := "") (Or.inl (hw _ (List.mem_of_getElem? (i := 18) rfl))) Via.refl e0 I1 (g := (mkF m 13 #[.val (.int p0)] [])) rfl (hb hby d1_13)
      have pre11 : ∀ t, Steps p.tables e below (T10.setTop (mkF m 16 #[.val (.int p0)] [(.ref wI)])) t → Steps p.tables e below (s₁.setTop (entryFrame m #[(.int p0)] 1)) t := fun t k => pre9 t (st10 _ k)
      obtain ⟨fs, hr, hrun, hended, hW, hsame⟩ := X10.leave (v := some (.ref wI)) (fun h => by rw [Bd.returns] at h; cases h)
      refine ⟨_, _, ?_, hrun, hended, _, _, rfl, ?_, ⟨_, rfl⟩, hW, hsame.mono (by decide) (by decide)⟩
      · refine pre11 _ ?_
        jvm_step X10.here [X10.here.top, hx, (hb hby d1_16), X10.method', Bd.returns, Value.isRef, FieldType.isReference]
        first | (intro acts; rw [hr _ acts rfl rfl rfl]) | rw [hr _ _ rfl rfl rfl]
        exact Steps.refl _
      · exact ⟨by simp only [f1, if_neg hc1_1, if_pos hc10_2], N0, e10⟩
    · have pre12 : ∀ t, Steps p.tables e below (s₁.setTop (mkF m 19 #[.val (.int p0)] [(.int (2 : Int32)), (.int p0)])) t → Steps p.tables e below (s₁.setTop (entryFrame m #[(.int p0)] 1)) t := fun t k => pre8 t (by
        show Steps p.tables e below (s₁.setTop (mkF m 10 #[.val (.int p0)] [(.int (1 : Int32)), (.int p0)])) _
        refine XS.icmpYes X0.here hx rfl (pc0 := 10) (pc' := 17) rfl (hb hby d1_10) rfl (feq hc10_2).2 (by decide) (by decide) ?_
        show Steps p.tables e below (s₁.setTop (mkF m 17 #[.val (.int p0)] [])) _
        refine XS.iloadN X0.here hx rfl (hb hby d1_17) rfl ?_
        show Steps p.tables e below (s₁.setTop (mkF m 18 #[.val (.int p0)] [(.int p0)])) _
        refine XS.iconst X0.here hx rfl (hb hby d1_18) ?_
        exact k)
      by_cases hc19_3 : p0 = (2 : Int32)
      · have pre13 : ∀ t, Steps p.tables e below (s₁.setTop (mkF m 22 #[.val (.int p0)] [])) t → Steps p.tables e below (s₁.setTop (entryFrame m #[(.int p0)] 1)) t := fun t k => pre12 t (by
          show Steps p.tables e below (s₁.setTop (mkF m 19 #[.val (.int p0)] [(.int (2 : Int32)), (.int p0)])) _
          refine XS.icmpNo X0.here hx rfl (hb hby d1_19) rfl (teq hc19_3).2 ?_
          exact k)
        obtain ⟨T14, X14, e14, st14⟩ := getS2 X0 hx hZ hown (host := "") (Or.inl (hw _ (List.mem_of_getElem? (i := 16) rfl))) Via.refl e0 I2 (g := (mkF m 22 #[.val (.int p0)] [])) rfl (hb hby d1_22)
        have pre15 : ∀ t, Steps p.tables e below (T14.setTop (mkF m 25 #[.val (.int p0)] [(.ref wS)])) t → Steps p.tables e below (s₁.setTop (entryFrame m #[(.int p0)] 1)) t := fun t k => pre13 t (st14 _ k)
        obtain ⟨fs, hr, hrun, hended, hW, hsame⟩ := X14.leave (v := some (.ref wS)) (fun h => by rw [Bd.returns] at h; cases h)
        refine ⟨_, _, ?_, hrun, hended, _, _, rfl, ?_, ⟨_, rfl⟩, hW, hsame.mono (by decide) (by decide)⟩
        · refine pre15 _ ?_
          jvm_step X14.here [X14.here.top, hx, (hb hby d1_25), X14.method', Bd.returns, Value.isRef, FieldType.isReference]
          first | (intro acts; rw [hr _ acts rfl rfl rfl]) | rw [hr _ _ rfl rfl rfl]
          exact Steps.refl _
        · exact ⟨by simp only [f1, if_neg hc1_1, if_neg hc10_2, if_pos hc19_3], N0, e14⟩
      · have pre16 : ∀ t, Steps p.tables e below (s₁.setTop (mkF m 26 #[.val (.int p0)] [])) t → Steps p.tables e below (s₁.setTop (entryFrame m #[(.int p0)] 1)) t := fun t k => pre12 t (by
          show Steps p.tables e below (s₁.setTop (mkF m 19 #[.val (.int p0)] [(.int (2 : Int32)), (.int p0)])) _
          refine XS.icmpYes X0.here hx rfl (pc0 := 19) (pc' := 26) rfl (hb hby d1_19) rfl (feq hc19_3).2 (by decide) (by decide) ?_
          exact k)
        obtain ⟨T17, X17, e17, st17⟩ := getS2 X0 hx hZ hown (host := "") (Or.inl (hw _ (List.mem_of_getElem? (i := 7) rfl))) Via.refl e0 I3 (g := (mkF m 26 #[.val (.int p0)] [])) rfl (hb hby d1_26)
        have pre18 : ∀ t, Steps p.tables e below (T17.setTop (mkF m 29 #[.val (.int p0)] [(.ref wM)])) t → Steps p.tables e below (s₁.setTop (entryFrame m #[(.int p0)] 1)) t := fun t k => pre16 t (st17 _ k)
        obtain ⟨fs, hr, hrun, hended, hW, hsame⟩ := X17.leave (v := some (.ref wM)) (fun h => by rw [Bd.returns] at h; cases h)
        refine ⟨_, _, ?_, hrun, hended, _, _, rfl, ?_, ⟨_, rfl⟩, hW, hsame.mono (by decide) (by decide)⟩
        · refine pre18 _ ?_
          jvm_step X17.here [X17.here.top, hx, (hb hby d1_29), X17.method', Bd.returns, Value.isRef, FieldType.isReference]
          first | (intro acts; rw [hr _ acts rfl rfl rfl]) | rw [hr _ _ rfl rfl rfl]
          exact Steps.refl _
        · exact ⟨by simp only [f1, if_neg hc1_1, if_neg hc10_2, if_neg hc19_3], N0, e17⟩
theorem d2_0 : decode prog_101_method_6_code 0 = .ok (.aload_n 0, 1) := by decide +kernel
theorem d2_1 : decode prog_101_method_6_code 1 = .ok (.aload_n 1, 1) := by decide +kernel
theorem d2_2 : decode prog_101_method_6_code 2 = .ok (.if_acmp .eq 17, 3) := by decide +kernel
theorem d2_5 : decode prog_101_method_6_code 5 = .ok (.aload_n 0, 1) := by decide +kernel
theorem d2_6 : decode prog_101_method_6_code 6 = .ok (.getstatic 13, 3) := by decide +kernel
theorem d2_9 : decode prog_101_method_6_code 9 = .ok (.if_acmp .ne 14, 3) := by decide +kernel
theorem d2_12 : decode prog_101_method_6_code 12 = .ok (.aload_n 1, 1) := by decide +kernel
theorem d2_13 : decode prog_101_method_6_code 13 = .ok (.getstatic 3, 3) := by decide +kernel
theorem d2_16 : decode prog_101_method_6_code 16 = .ok (.if_acmp .eq 7, 3) := by decide +kernel
theorem d2_19 : decode prog_101_method_6_code 19 = .ok (.iconst 1, 1) := by decide +kernel
theorem d2_20 : decode prog_101_method_6_code 20 = .ok (.goto 4, 3) := by decide +kernel
theorem d2_23 : decode prog_101_method_6_code 23 = .ok (.iconst 0, 1) := by decide +kernel
theorem d2_24 : decode prog_101_method_6_code 24 = .ok (.ireturn, 1) := by decide +kernel
theorem pn_2 : plainName "com/example/slim_kripke/slimkripke/smv/ValueKind" = true := by first | (simp [plainName, overriddenIn]; done) | decide +kernel
theorem ef_2 (m : MethodId) (x0 : Addr) (x1 : Addr) : entryFrame m #[(.ref x0), (.ref x1)] 2 = mkF m 0 #[.val (.ref x0), .val (.ref x1)] [] := by first | (simp [entryFrame, mkF, argsToLocals, Value.category]; done) | rfl
def f2 (o0 : Addr) (o1 : Addr) (wB : Addr) (wM : Addr) : Int32 := (if o0 = o1 then (1 : Int32) else (if o0 = wM then (if o1 = wB then (0 : Int32) else (1 : Int32)) else (0 : Int32)))
set_option maxRecDepth 65536 in
set_option maxHeartbeats 40000000 in
theorem rm2 (l : Launch) (Z : State) (a0 : Array Value) (hw : ∀ d ∈ tables_1, d.before a0 Z = true) (ws : List Jvm.Cond) (o0 : Addr) (o1 : Addr) (wB : Addr) (wM : Addr) (h0 : Heap) (n0 : Nat) (Z0 : n0 ≤ h0.size) (I0 : Sta Z h0 "com/example/slim_kripke/slimkripke/smv/ValueKind" "BOOLEAN" "Lcom/example/slim_kripke/slimkripke/smv/ValueKind;" (.ref wB)) (I1 : Sta Z h0 "com/example/slim_kripke/slimkripke/smv/ValueKind" "MIXED" "Lcom/example/slim_kripke/slimkripke/smv/ValueKind;" (.ref wM)) :
    MetFree l (⟨"com/example/slim_kripke/slimkripke/smv/ValueKind", "accepts", "(Lcom/example/slim_kripke/slimkripke/smv/ValueKind;)Z"⟩ : MethodName) (head1 (Jvm.Cond.code (⟨"com/example/slim_kripke/slimkripke/smv/ValueKind", "accepts", "(Lcom/example/slim_kripke/slimkripke/smv/ValueKind;)Z"⟩ : MethodName) prog_101_method_6_code 2 (some .boolean) :: ws) ({ frames := 0, cells := 0, slots := 0, locals := 0 } : Room)) (fun a U => a = #[(.ref o0), (.ref o1)] ∧ Z.Warmed39 U.vm ∧ U.heap = h0) (fun _ _ _ _ _ => True) (fun _ U o U' => ∃ v L, o = .returned v ∧ QP (some (.int (f2 o0 o1 wB wM))) h0 n0 v U'.heap L ∧ FrameEnd U o U' L ({ frames := 0, cells := 0, slots := 0, locals := 0 } : Room).cells ({ frames := 0, cells := 0, slots := 0, locals := 0 } : Room).slots) := by
  refine MetFree.of_bodySF (plainFor_of_name pn_2) hisR ?_
  intro p e s m args below meth c s₁ Bd hml0 hP hK
  obtain ⟨rfl, hZ, hh⟩ := hP
  have hx := Bd.exec
  have hby := Bd.bytes
  have hml : c.maxLocals = 2 := hml0
  have hown : s.vm.findClass "com/example/slim_kripke/slimkripke/smv/ValueKind" = some m.cls := findClass_of_methodNamed Bd.named
  have hnm := (name_of_methodNamed Bd.named Bd.method).1
  have X0 : Stand p l e ({ frames := 0, cells := 0, slots := 0, locals := 0 } : Room) s m #[(.ref o0), (.ref o1)] below meth c s₁ [] 0 0 := Stand.of_body Bd
  have e0 : s₁.heap = h0 := by rw [← hh, Bd.state]; rfl
  have N0 := Fr.nil n0
  have K0 : Keep h0 h0 [] := Keep.refl _ _
  have pre0 : ∀ t, Steps p.tables e below (s₁.setTop (mkF m 0 #[.val (.ref o0), .val (.ref o1)] [])) t → Steps p.tables e below (s₁.setTop (entryFrame m #[(.ref o0), (.ref o1)] 2)) t := fun t k => castTop (ef_2 m o0 o1) k
  have pre4 : ∀ t, Steps p.tables e below (s₁.setTop (mkF m 2 #[.val (.ref o0), .val (.ref o1)] [(.ref o1), (.ref o0)])) t → Steps p.tables e below (s₁.setTop (entryFrame m #[(.ref o0), (.ref o1)] 2)) t := fun t k => pre0 t (by
    show Steps p.tables e below (s₁.setTop (mkF m 0 #[.val (.ref o0), .val (.ref o1)] [])) _
    refine XS.aloadN X0.here hx rfl (hb hby d2_0) rfl rfl ?_
    show Steps p.tables e below (s₁.setTop (mkF m 1 #[.val (.ref o0), .val (.ref o1)] [(.ref o0)])) _
    refine XS.aloadN X0.here hx rfl (hb hby d2_1) rfl rfl ?_
    exact k)
  by_cases hc2_1 : o0 = o1
  · have pre5 : ∀ t, Steps p.tables e below (s₁.setTop (mkF m 24 #[.val (.ref o0), .val (.ref o1)] [(.int (1 : Int32))])) t → Steps p.tables e below (s₁.setTop (entryFrame m #[(.ref o0), (.ref o1)] 2)) t := fun t k => pre4 t (by
      show Steps p.tables e below (s₁.setTop (mkF m 2 #[.val (.ref o0), .val (.ref o1)] [(.ref o1), (.ref o0)])) _
      refine Jvm.RoadKit.acmp (g := (mkF m 2 #[.val (.ref o0), .val (.ref o1)] [(.ref o1), (.ref o0)])) X0 hx rfl rfl rfl (pc0 := 2) (pc' := 19) (same := true) rfl (hb hby d2_2) rfl (decide_eq_true (congrArg Value.ref hc2_1)) (by decide) (by decide) ?_
      show Steps p.tables e below (s₁.setTop (mkF m 19 #[.val (.ref o0), .val (.ref o1)] [])) _
      refine XS.iconst X0.here hx rfl (hb hby d2_19) ?_
      show Steps p.tables e below (s₁.setTop (mkF m 20 #[.val (.ref o0), .val (.ref o1)] [(.int (1 : Int32))])) _
      refine XS.goto X0.here hx rfl (pc0 := 20) (pc' := 24) rfl (hb hby d2_20) (by decide) (by decide) ?_
      exact k)
    obtain ⟨fs, hr, hrun, hended, hW, hsame⟩ := X0.leave (v := some (.int (1 : Int32))) (fun h => by rw [Bd.returns] at h; cases h)
    refine ⟨_, _, ?_, hrun, hended, _, _, rfl, ?_, ⟨_, rfl⟩, hW, hsame.mono (by decide) (by decide)⟩
    · exact pre5 _ (retN X0 hx (t := .boolean) Bd.returns (by simp) (hb hby d2_24) hr)
    · exact ⟨by simp only [f2, if_pos hc2_1], N0, e0⟩
  · have pre6 : ∀ t, Steps p.tables e below (s₁.setTop (mkF m 6 #[.val (.ref o0), .val (.ref o1)] [(.ref o0)])) t → Steps p.tables e below (s₁.setTop (entryFrame m #[(.ref o0), (.ref o1)] 2)) t := fun t k => pre4 t (by
      show Steps p.tables e below (s₁.setTop (mkF m 2 #[.val (.ref o0), .val (.ref o1)] [(.ref o1), (.ref o0)])) _
      refine Jvm.RoadKit.acmp (g := (mkF m 2 #[.val (.ref o0), .val (.ref o1)] [(.ref o1), (.ref o0)])) X0 hx rfl rfl rfl (pc0 := 2) (pc' := 5) (same := false) rfl (hb hby d2_2) rfl (decide_eq_false fun q => hc2_1 (Value.ref.inj q)) (by decide) (by decide) ?_
      show Steps p.tables e below (s₁.setTop (mkF m 5 #[.val (.ref o0), .val (.ref o1)] [])) _
      refine XS.aloadN X0.here hx rfl (hb hby d2_5) rfl rfl ?_
      exact k)
    obtain ⟨T7, X7, e7, st7⟩ := getS2 X0 hx hZ hown (host := "") (Or.inl (hw _ (List.mem_of_getElem? (i := 15) rfl))) Via.refl e0 I1 (g := (mkF m 6 #[.val (.ref o0), .val (.ref o1)] [(.ref o0)])) rfl (hb hby d2_6)
    have pre8 : ∀ t, Steps p.tables e below (T7.setTop (mkF m 9 #[.val (.ref o0), .val (.ref o1)] [(.ref wM), (.ref o0)])) t → Steps p.tables e below (s₁.setTop (entryFrame m #[(.ref o0), (.ref o1)] 2)) t := fun t k => pre6 t (st7 _ k)
    by_cases hc9_2 : o0 = wM
    · have pre9 : ∀ t, Steps p.tables e below (T7.setTop (mkF m 13 #[.val (.ref o0), .val (.ref o1)] [(.ref o1)])) t → Steps p.tables e below (s₁.setTop (entryFrame m #[(.ref o0), (.ref o1)] 2)) t := fun t k => pre8 t (by
        show Steps p.tables e below (T7.setTop (mkF m 9 #[.val (.ref o0), .val (.ref o1)] [(.ref wM), (.ref o0)])) _
        refine Jvm.RoadKit.acmp (g := (mkF m 9 #[.val (.ref o0), .val (.ref o1)] [(.ref wM), (.ref o0)])) X7 hx rfl rfl rfl (pc0 := 9) (pc' := 12) (same := true) rfl (hb hby d2_9) rfl (decide_eq_true (congrArg Value.ref hc9_2)) (by decide) (by decide) ?_
        show Steps p.tables e below (T7.setTop (mkF m 12 #[.val (.ref o0), .val (.ref o1)] [])) _
        refine XS.aloadN X7.here hx rfl (hb hby d2_12) rfl rfl ?_
        exact k)
      obtain ⟨T10, X10, e10, st10⟩ := getS2 X7 hx hZ hown (host := "") (Or.inl (hw _ (List.mem_of_getElem? (i := 20) rfl))) Via.refl e7 I0 (g := (mkF m 13 #[.val (.ref o0), .val (.ref o1)] [(.ref o1)])) rfl (hb hby d2_13)
      have pre11 : ∀ t, Steps p.tables e below (T10.setTop (mkF m 16 #[.val (.ref o0), .val (.ref o1)] [(.ref wB), (.ref o1)])) t → Steps p.tables e below (s₁.setTop (entryFrame m #[(.ref o0), (.ref o1)] 2)) t := fun t k => pre9 t (st10 _ k)
      by_cases hc16_3 : o1 = wB
      · have pre12 : ∀ t, Steps p.tables e below (T10.setTop (mkF m 24 #[.val (.ref o0), .val (.ref o1)] [(.int (0 : Int32))])) t → Steps p.tables e below (s₁.setTop (entryFrame m #[(.ref o0), (.ref o1)] 2)) t := fun t k => pre11 t (by
          show Steps p.tables e below (T10.setTop (mkF m 16 #[.val (.ref o0), .val (.ref o1)] [(.ref wB), (.ref o1)])) _
          refine Jvm.RoadKit.acmp (g := (mkF m 16 #[.val (.ref o0), .val (.ref o1)] [(.ref wB), (.ref o1)])) X10 hx rfl rfl rfl (pc0 := 16) (pc' := 23) (same := true) rfl (hb hby d2_16) rfl (decide_eq_true (congrArg Value.ref hc16_3)) (by decide) (by decide) ?_
          show Steps p.tables e below (T10.setTop (mkF m 23 #[.val (.ref o0), .val (.ref o1)] [])) _
          refine XS.iconst X10.here hx rfl (hb hby d2_23) ?_
          exact k)
        obtain ⟨fs, hr, hrun, hended, hW, hsame⟩ := X10.leave (v := some (.int (0 : Int32))) (fun h => by rw [Bd.returns] at h; cases h)
        refine ⟨_, _, ?_, hrun, hended, _, _, rfl, ?_, ⟨_, rfl⟩, hW, hsame.mono (by decide) (by decide)⟩
        · exact pre12 _ (retN X10 hx (t := .boolean) Bd.returns (by simp) (hb hby d2_24) hr)
        · exact ⟨by simp only [f2, if_neg hc2_1, if_pos hc9_2, if_pos hc16_3], N0, e10⟩
      · have pre13 : ∀ t, Steps p.tables e below (T10.setTop (mkF m 24 #[.val (.ref o0), .val (.ref o1)] [(.int (1 : Int32))])) t → Steps p.tables e below (s₁.setTop (entryFrame m #[(.ref o0), (.ref o1)] 2)) t := fun t k => pre11 t (by
          show Steps p.tables e below (T10.setTop (mkF m 16 #[.val (.ref o0), .val (.ref o1)] [(.ref wB), (.ref o1)])) _
          refine Jvm.RoadKit.acmp (g := (mkF m 16 #[.val (.ref o0), .val (.ref o1)] [(.ref wB), (.ref o1)])) X10 hx rfl rfl rfl (pc0 := 16) (pc' := 19) (same := false) rfl (hb hby d2_16) rfl (decide_eq_false fun q => hc16_3 (Value.ref.inj q)) (by decide) (by decide) ?_
          show Steps p.tables e below (T10.setTop (mkF m 19 #[.val (.ref o0), .val (.ref o1)] [])) _
          refine XS.iconst X10.here hx rfl (hb hby d2_19) ?_
          show Steps p.tables e below (T10.setTop (mkF m 20 #[.val (.ref o0), .val (.ref o1)] [(.int (1 : Int32))])) _
          refine XS.goto X10.here hx rfl (pc0 := 20) (pc' := 24) rfl (hb hby d2_20) (by decide) (by decide) ?_
          exact k)
        obtain ⟨fs, hr, hrun, hended, hW, hsame⟩ := X10.leave (v := some (.int (1 : Int32))) (fun h => by rw [Bd.returns] at h; cases h)
        refine ⟨_, _, ?_, hrun, hended, _, _, rfl, ?_, ⟨_, rfl⟩, hW, hsame.mono (by decide) (by decide)⟩
        · exact pre13 _ (retN X10 hx (t := .boolean) Bd.returns (by simp) (hb hby d2_24) hr)
        · exact ⟨by simp only [f2, if_neg hc2_1, if_pos hc9_2, if_neg hc16_3], N0, e10⟩
    · have pre14 : ∀ t, Steps p.tables e below (T7.setTop (mkF m 24 #[.val (.ref o0), .val (.ref o1)] [(.int (0 : Int32))])) t → Steps p.tables e below (s₁.setTop (entryFrame m #[(.ref o0), (.ref o1)] 2)) t := fun t k => pre8 t (by
        show Steps p.tables e below (T7.setTop (mkF m 9 #[.val (.ref o0), .val (.ref o1)] [(.ref wM), (.ref o0)])) _
        refine Jvm.RoadKit.acmp (g := (mkF m 9 #[.val (.ref o0), .val (.ref o1)] [(.ref wM), (.ref o0)])) X7 hx rfl rfl rfl (pc0 := 9) (pc' := 23) (same := false) rfl (hb hby d2_9) rfl (decide_eq_false fun q => hc9_2 (Value.ref.inj q)) (by decide) (by decide) ?_
        show Steps p.tables e below (T7.setTop (mkF m 23 #[.val (.ref o0), .val (.ref o1)] [])) _
        refine XS.iconst X7.here hx rfl (hb hby d2_23) ?_
        exact k)
      obtain ⟨fs, hr, hrun, hended, hW, hsame⟩ := X7.leave (v := some (.int (0 : Int32))) (fun h => by rw [Bd.returns] at h; cases h)
      refine ⟨_, _, ?_, hrun, hended, _, _, rfl, ?_, ⟨_, rfl⟩, hW, hsame.mono (by decide) (by decide)⟩
      · exact pre14 _ (retN X7 hx (t := .boolean) Bd.returns (by simp) (hb hby d2_24) hr)
      · exact ⟨by simp only [f2, if_neg hc2_1, if_neg hc9_2], N0, e7⟩
theorem own_exa {Z : State} {h : Heap} {K : String} {x : Int32} {wB wI wS wM : Addr} (h1 : Exa Z h wB K) (h2 : Exa Z h wI K) (h3 : Exa Z h wS K) (h4 : Exa Z h wM K) : Exa Z h (f1 x wB wI wS wM) K := by
  unfold f1
  repeat' split
  all_goals assumption
theorem pn_0 : plainName "com/example/slim_kripke/slimkripke/smv/ValueKindAcceptsPinLaw" = true := by first | (simp [plainName, overriddenIn]; done) | decide +kernel
theorem pd__I_Lcom_example_slim_kripke_slimkripke_smv_ValueKind_ : parseMethodDescriptor "(I)Lcom/example/slim_kripke/slimkripke/smv/ValueKind;" = some ⟨[.int], some (.object "com/example/slim_kripke/slimkripke/smv/ValueKind")⟩ := by decide +kernel
theorem pd__Lcom_example_slim_kripke_slimkripke_smv_ValueKind__Z : parseMethodDescriptor "(Lcom/example/slim_kripke/slimkripke/smv/ValueKind;)Z" = some ⟨[(.object "com/example/slim_kripke/slimkripke/smv/ValueKind")], some .boolean⟩ := by decide +kernel
theorem ef_0 (m : MethodId) (x0 : Int32) (x1 : Int32) : entryFrame m #[(.int x0), (.int x1)] maxLocals = mkF m 0 #[.val (.int x0), .val (.int x1), .unset, .unset, .unset, .unset, .unset, .unset] [] := by first | (simp [entryFrame, mkF, argsToLocals, Value.category, maxLocals]; done) | rfl
def v0_42_s0 (p0 : Int32) (p1 : Int32) : Int32 := (if ((((58401 : Int32).toUInt32 >>> ((((p0 &&& (3 : Int32)) * (4 : Int32)) + (p1 &&& (3 : Int32))) &&& 31).toUInt32).toInt32) &&& (1 : Int32)) = (0 : Int32) then (0 : Int32) else (1 : Int32))
def f0 (p0 : Int32) (p1 : Int32) (wB : Addr) (wI : Addr) (wS : Addr) (wM : Addr) : Int32 := (if (f2 (f1 (p0 &&& (3 : Int32)) wB wI wS wM) (f1 (p1 &&& (3 : Int32)) wB wI wS wM) wB wM) = (v0_42_s0 p0 p1) then (1 : Int32) else (0 : Int32))
set_option maxRecDepth 65536 in
set_option maxHeartbeats 40000000 in
theorem rm0 (l : Launch) (Z : State) (a0 : Array Value) (hw : ∀ d ∈ tables_1, d.before a0 Z = true) (ws : List Jvm.Cond) (p0 : Int32) (p1 : Int32) (wB : Addr) (wI : Addr) (wS : Addr) (wM : Addr) (h0 : Heap) (n0 : Nat) (Z0 : n0 ≤ h0.size) (I0 : Sta Z h0 "com/example/slim_kripke/slimkripke/smv/ValueKind" "BOOLEAN" "Lcom/example/slim_kripke/slimkripke/smv/ValueKind;" (.ref wB)) (I1 : Sta Z h0 "com/example/slim_kripke/slimkripke/smv/ValueKind" "INTEGER" "Lcom/example/slim_kripke/slimkripke/smv/ValueKind;" (.ref wI)) (I2 : Sta Z h0 "com/example/slim_kripke/slimkripke/smv/ValueKind" "SYMBOLIC" "Lcom/example/slim_kripke/slimkripke/smv/ValueKind;" (.ref wS)) (I3 : Sta Z h0 "com/example/slim_kripke/slimkripke/smv/ValueKind" "MIXED" "Lcom/example/slim_kripke/slimkripke/smv/ValueKind;" (.ref wM)) (I4 : Exa Z h0 wB "com/example/slim_kripke/slimkripke/smv/ValueKind") (I5 : Exa Z h0 wI "com/example/slim_kripke/slimkripke/smv/ValueKind") (I6 : Exa Z h0 wS "com/example/slim_kripke/slimkripke/smv/ValueKind") (I7 : Exa Z h0 wM "com/example/slim_kripke/slimkripke/smv/ValueKind") :
    MetFree l x (head1 (Jvm.Cond.code x code maxLocals ret :: ws) room_1) (fun a U => a = #[(.int p0), (.int p1)] ∧ Z.Warmed39 U.vm ∧ U.heap = h0) (fun _ _ _ _ _ => True) (fun _ U o U' => ∃ v L, o = .returned v ∧ QL (some (.int (f0 p0 p1 wB wI wS wM))) n0 v U'.heap L ∧ FrameEnd U o U' L room_1.cells room_1.slots) := by
  refine MetFree.of_bodySF (plainFor_of_name pn_0) hisR ?_
  intro p e s m args below meth c s₁ Bd hml0 hP hK
  obtain ⟨rfl, hZ, hh⟩ := hP
  have hx := Bd.exec
  have hby := Bd.bytes
  have hml : c.maxLocals = 8 := hml0
  have hown : s.vm.findClass "com/example/slim_kripke/slimkripke/smv/ValueKindAcceptsPinLaw" = some m.cls := findClass_of_methodNamed Bd.named
  have hnm := (name_of_methodNamed Bd.named Bd.method).1
  have X0 : Stand p l e room_1 s m #[(.int p0), (.int p1)] below meth c s₁ [] 0 0 := Stand.of_body Bd
  have e0 : s₁.heap = h0 := by rw [← hh, Bd.state]; rfl
  have N0 := Fr.nil n0
  have K0 : Keep h0 h0 [] := Keep.refl _ _
  have pre0 : ∀ t, Steps p.tables e below (s₁.setTop (mkF m 0 #[.val (.int p0), .val (.int p1), .unset, .unset, .unset, .unset, .unset, .unset] [])) t → Steps p.tables e below (s₁.setTop (entryFrame m #[(.int p0), (.int p1)] maxLocals)) t := fun t k => castTop (ef_0 m p0 p1) k
  have pre3 : ∀ t, Steps p.tables e below (s₁.setTop (mkF m 9 #[.val (.int p0), .val (.int p1), .val (.int (p0 &&& (3 : Int32))), .val (.int (p1 &&& (3 : Int32))), .unset, .unset, .unset, .unset] [(.int (p0 &&& (3 : Int32)))])) t → Steps p.tables e below (s₁.setTop (entryFrame m #[(.int p0), (.int p1)] maxLocals)) t := fun t k => pre0 t (by
    show Steps p.tables e below (s₁.setTop (mkF m 0 #[.val (.int p0), .val (.int p1), .unset, .unset, .unset, .unset, .unset, .unset] [])) _
    refine XS.iloadN X0.here hx rfl (hb hby at_0) rfl ?_
    show Steps p.tables e below (s₁.setTop (mkF m 1 #[.val (.int p0), .val (.int p1), .unset, .unset, .unset, .unset, .unset, .unset] [(.int p0)])) _
    refine XS.iconst X0.here hx rfl (hb hby at_1) ?_
    show Steps p.tables e below (s₁.setTop (mkF m 2 #[.val (.int p0), .val (.int p1), .unset, .unset, .unset, .unset, .unset, .unset] [(.int (3 : Int32)), (.int p0)])) _
    refine XS.iand X0.here hx rfl (hb hby at_2) rfl ?_
    show Steps p.tables e below (s₁.setTop (mkF m 3 #[.val (.int p0), .val (.int p1), .unset, .unset, .unset, .unset, .unset, .unset] [(.int (p0 &&& (3 : Int32)))])) _
    refine XS.istoreN X0.here hx rfl (hb hby at_3) rfl (l' := #[.val (.int p0), .val (.int p1), .val (.int (p0 &&& (3 : Int32))), .unset, .unset, .unset, .unset, .unset]) rfl ?_
    show Steps p.tables e below (s₁.setTop (mkF m 4 #[.val (.int p0), .val (.int p1), .val (.int (p0 &&& (3 : Int32))), .unset, .unset, .unset, .unset, .unset] [])) _
    refine XS.iloadN X0.here hx rfl (hb hby at_4) rfl ?_
    show Steps p.tables e below (s₁.setTop (mkF m 5 #[.val (.int p0), .val (.int p1), .val (.int (p0 &&& (3 : Int32))), .unset, .unset, .unset, .unset, .unset] [(.int p1)])) _
    refine XS.iconst X0.here hx rfl (hb hby at_5) ?_
    show Steps p.tables e below (s₁.setTop (mkF m 6 #[.val (.int p0), .val (.int p1), .val (.int (p0 &&& (3 : Int32))), .unset, .unset, .unset, .unset, .unset] [(.int (3 : Int32)), (.int p1)])) _
    refine XS.iand X0.here hx rfl (hb hby at_6) rfl ?_
    show Steps p.tables e below (s₁.setTop (mkF m 7 #[.val (.int p0), .val (.int p1), .val (.int (p0 &&& (3 : Int32))), .unset, .unset, .unset, .unset, .unset] [(.int (p1 &&& (3 : Int32)))])) _
    refine XS.istoreN X0.here hx rfl (hb hby at_7) rfl (l' := #[.val (.int p0), .val (.int p1), .val (.int (p0 &&& (3 : Int32))), .val (.int (p1 &&& (3 : Int32))), .unset, .unset, .unset, .unset]) rfl ?_
    show Steps p.tables e below (s₁.setTop (mkF m 8 #[.val (.int p0), .val (.int p1), .val (.int (p0 &&& (3 : Int32))), .val (.int (p1 &&& (3 : Int32))), .unset, .unset, .unset, .unset] [])) _
    refine XS.iloadN X0.here hx rfl (hb hby at_8) rfl ?_
    exact k)
  obtain ⟨_, _, ⟨T4, L4, k4, n4⟩, -, X4, ⟨Lc4, hQ4, l4, y4, z4⟩, st4⟩ := Jvm.LawKit.callS X0 hx (y := (⟨"com/example/slim_kripke/slimkripke/smv/ValueKindAcceptsPinLaw", "kind", "(I)Lcom/example/slim_kripke/slimkripke/smv/ValueKind;"⟩ : MethodName)) hown (mvT hZ (hw _ (List.mem_of_getElem? (i := 0) rfl))) (mvT hZ (hw _ (List.mem_of_getElem? (i := 1) rfl))) (mvT hZ (hw _ (List.mem_of_getElem? (i := 2) rfl))) (mvT hZ (hw _ (List.mem_of_getElem? (i := 3) rfl))) (by decide) (backOf (W := 0) (rm1 l Z a0 hw [] (p0 &&& (3 : Int32)) wB wI wS wM h0 n0 Z0 I0 I1 I2 I3) hZ (hw _ (List.mem_of_getElem? (i := 3) rfl)) (hw _ (List.mem_of_getElem? (i := 2) rfl)) (by decide) (by decide)) (g := (mkF m 9 #[.val (.int p0), .val (.int p1), .val (.int (p0 &&& (3 : Int32))), .val (.int (p1 &&& (3 : Int32))), .unset, .unset, .unset, .unset] [(.int (p0 &&& (3 : Int32)))])) rfl (by rw [hml]; rfl) (argsL := [(.int (p0 &&& (3 : Int32)))]) (rest := []) (lenOf pd__I_Lcom_example_slim_kripke_slimkripke_smv_ValueKind_ rfl) rfl (by show 2 * 0 + _ ≤ _; exact Nat.le_of_eq rfl) (hb hby at_9) (fun _ _ => ⟨rfl, e0, (by decide : 0 + 0 ≤ _), (by decide : 0 + 0 ≤ _)⟩)
  dsimp only [Pt.U, Pt.locs, Pt.cells, Pt.slots] at X4 l4 y4 z4 st4 hQ4
  subst l4 y4 z4
  obtain ⟨rfl, Nq4, e4⟩ := hQ4
  have N4 := Fr.app N0 Nq4
  have pre5 : ∀ t, Steps p.tables e below (T4.setTop (mkF m 12 #[.val (.int p0), .val (.int p1), .val (.int (p0 &&& (3 : Int32))), .val (.int (p1 &&& (3 : Int32))), .unset, .unset, .unset, .unset] [(.ref (f1 (p0 &&& (3 : Int32)) wB wI wS wM))])) t → Steps p.tables e below (s₁.setTop (entryFrame m #[(.int p0), (.int p1)] maxLocals)) t := fun t k => pre3 t (st4 _ k)
  have pre6 : ∀ t, Steps p.tables e below (T4.setTop (mkF m 15 #[.val (.int p0), .val (.int p1), .val (.int (p0 &&& (3 : Int32))), .val (.int (p1 &&& (3 : Int32))), .val (.ref (f1 (p0 &&& (3 : Int32)) wB wI wS wM)), .unset, .unset, .unset] [(.int (p1 &&& (3 : Int32)))])) t → Steps p.tables e below (s₁.setTop (entryFrame m #[(.int p0), (.int p1)] maxLocals)) t := fun t k => pre5 t (by
    show Steps p.tables e below (T4.setTop (mkF m 12 #[.val (.int p0), .val (.int p1), .val (.int (p0 &&& (3 : Int32))), .val (.int (p1 &&& (3 : Int32))), .unset, .unset, .unset, .unset] [(.ref (f1 (p0 &&& (3 : Int32)) wB wI wS wM))])) _
    refine XS.astore X4.here hx rfl (hb hby at_12) rfl rfl (l' := #[.val (.int p0), .val (.int p1), .val (.int (p0 &&& (3 : Int32))), .val (.int (p1 &&& (3 : Int32))), .val (.ref (f1 (p0 &&& (3 : Int32)) wB wI wS wM)), .unset, .unset, .unset]) rfl ?_
    show Steps p.tables e below (T4.setTop (mkF m 14 #[.val (.int p0), .val (.int p1), .val (.int (p0 &&& (3 : Int32))), .val (.int (p1 &&& (3 : Int32))), .val (.ref (f1 (p0 &&& (3 : Int32)) wB wI wS wM)), .unset, .unset, .unset] [])) _
    refine XS.iloadN X4.here hx rfl (hb hby at_14) rfl ?_
    exact k)
  obtain ⟨_, _, ⟨T7, L7, k7, n7⟩, -, X7, ⟨Lc7, hQ7, l7, y7, z7⟩, st7⟩ := Jvm.LawKit.callS X4 hx (y := (⟨"com/example/slim_kripke/slimkripke/smv/ValueKindAcceptsPinLaw", "kind", "(I)Lcom/example/slim_kripke/slimkripke/smv/ValueKind;"⟩ : MethodName)) hown (mvT hZ (hw _ (List.mem_of_getElem? (i := 0) rfl))) (mvT hZ (hw _ (List.mem_of_getElem? (i := 1) rfl))) (mvT hZ (hw _ (List.mem_of_getElem? (i := 2) rfl))) (mvT hZ (hw _ (List.mem_of_getElem? (i := 3) rfl))) (by decide) (backOf (W := 0) (rm1 l Z a0 hw [] (p1 &&& (3 : Int32)) wB wI wS wM h0 n0 Z0 I0 I1 I2 I3) hZ (hw _ (List.mem_of_getElem? (i := 3) rfl)) (hw _ (List.mem_of_getElem? (i := 2) rfl)) (by decide) (by decide)) (g := (mkF m 15 #[.val (.int p0), .val (.int p1), .val (.int (p0 &&& (3 : Int32))), .val (.int (p1 &&& (3 : Int32))), .val (.ref (f1 (p0 &&& (3 : Int32)) wB wI wS wM)), .unset, .unset, .unset] [(.int (p1 &&& (3 : Int32)))])) rfl (by rw [hml]; rfl) (argsL := [(.int (p1 &&& (3 : Int32)))]) (rest := []) (lenOf pd__I_Lcom_example_slim_kripke_slimkripke_smv_ValueKind_ rfl) rfl (by show 2 * 0 + _ ≤ _; exact Nat.le_of_eq rfl) (hb hby at_15) (fun _ _ => ⟨rfl, e4, (by decide : 0 + 0 ≤ _), (by decide : 0 + 0 ≤ _)⟩)
  dsimp only [Pt.U, Pt.locs, Pt.cells, Pt.slots] at X7 l7 y7 z7 st7 hQ7
  subst l7 y7 z7
  obtain ⟨rfl, Nq7, e7⟩ := hQ7
  have N7 := Fr.app N4 Nq7
  have pre8 : ∀ t, Steps p.tables e below (T7.setTop (mkF m 18 #[.val (.int p0), .val (.int p1), .val (.int (p0 &&& (3 : Int32))), .val (.int (p1 &&& (3 : Int32))), .val (.ref (f1 (p0 &&& (3 : Int32)) wB wI wS wM)), .unset, .unset, .unset] [(.ref (f1 (p1 &&& (3 : Int32)) wB wI wS wM))])) t → Steps p.tables e below (s₁.setTop (entryFrame m #[(.int p0), (.int p1)] maxLocals)) t := fun t k => pre6 t (st7 _ k)
  have pre9 : ∀ t, Steps p.tables e below (T7.setTop (mkF m 34 #[.val (.int p0), .val (.int p1), .val (.int (p0 &&& (3 : Int32))), .val (.int (p1 &&& (3 : Int32))), .val (.ref (f1 (p0 &&& (3 : Int32)) wB wI wS wM)), .val (.ref (f1 (p1 &&& (3 : Int32)) wB wI wS wM)), .val (.int (58401 : Int32)), .unset] [(.int ((((58401 : Int32).toUInt32 >>> ((((p0 &&& (3 : Int32)) * (4 : Int32)) + (p1 &&& (3 : Int32))) &&& 31).toUInt32).toInt32) &&& (1 : Int32)))])) t → Steps p.tables e below (s₁.setTop (entryFrame m #[(.int p0), (.int p1)] maxLocals)) t := fun t k => pre8 t (by
    show Steps p.tables e below (T7.setTop (mkF m 18 #[.val (.int p0), .val (.int p1), .val (.int (p0 &&& (3 : Int32))), .val (.int (p1 &&& (3 : Int32))), .val (.ref (f1 (p0 &&& (3 : Int32)) wB wI wS wM)), .unset, .unset, .unset] [(.ref (f1 (p1 &&& (3 : Int32)) wB wI wS wM))])) _
    refine XS.astore X7.here hx rfl (hb hby at_18) rfl rfl (l' := #[.val (.int p0), .val (.int p1), .val (.int (p0 &&& (3 : Int32))), .val (.int (p1 &&& (3 : Int32))), .val (.ref (f1 (p0 &&& (3 : Int32)) wB wI wS wM)), .val (.ref (f1 (p1 &&& (3 : Int32)) wB wI wS wM)), .unset, .unset]) rfl ?_
    show Steps p.tables e below (T7.setTop (mkF m 20 #[.val (.int p0), .val (.int p1), .val (.int (p0 &&& (3 : Int32))), .val (.int (p1 &&& (3 : Int32))), .val (.ref (f1 (p0 &&& (3 : Int32)) wB wI wS wM)), .val (.ref (f1 (p1 &&& (3 : Int32)) wB wI wS wM)), .unset, .unset] [])) _
    refine X7.ldcInt hx hown (mvT hZ (hw _ (List.mem_of_getElem? (i := 9) rfl))) (g := (mkF m 20 #[.val (.int p0), .val (.int p1), .val (.int (p0 &&& (3 : Int32))), .val (.int (p1 &&& (3 : Int32))), .val (.ref (f1 (p0 &&& (3 : Int32)) wB wI wS wM)), .val (.ref (f1 (p1 &&& (3 : Int32)) wB wI wS wM)), .unset, .unset] [])) rfl (hb hby at_20) _ ?_
    show Steps p.tables e below (T7.setTop (mkF m 22 #[.val (.int p0), .val (.int p1), .val (.int (p0 &&& (3 : Int32))), .val (.int (p1 &&& (3 : Int32))), .val (.ref (f1 (p0 &&& (3 : Int32)) wB wI wS wM)), .val (.ref (f1 (p1 &&& (3 : Int32)) wB wI wS wM)), .unset, .unset] [(.int (58401 : Int32))])) _
    refine XS.istore X7.here hx rfl (hb hby at_22) rfl (l' := #[.val (.int p0), .val (.int p1), .val (.int (p0 &&& (3 : Int32))), .val (.int (p1 &&& (3 : Int32))), .val (.ref (f1 (p0 &&& (3 : Int32)) wB wI wS wM)), .val (.ref (f1 (p1 &&& (3 : Int32)) wB wI wS wM)), .val (.int (58401 : Int32)), .unset]) rfl ?_
    show Steps p.tables e below (T7.setTop (mkF m 24 #[.val (.int p0), .val (.int p1), .val (.int (p0 &&& (3 : Int32))), .val (.int (p1 &&& (3 : Int32))), .val (.ref (f1 (p0 &&& (3 : Int32)) wB wI wS wM)), .val (.ref (f1 (p1 &&& (3 : Int32)) wB wI wS wM)), .val (.int (58401 : Int32)), .unset] [])) _
    refine XS.iload X7.here hx rfl (hb hby at_24) rfl ?_
    show Steps p.tables e below (T7.setTop (mkF m 26 #[.val (.int p0), .val (.int p1), .val (.int (p0 &&& (3 : Int32))), .val (.int (p1 &&& (3 : Int32))), .val (.ref (f1 (p0 &&& (3 : Int32)) wB wI wS wM)), .val (.ref (f1 (p1 &&& (3 : Int32)) wB wI wS wM)), .val (.int (58401 : Int32)), .unset] [(.int (58401 : Int32))])) _
    refine XS.iloadN X7.here hx rfl (hb hby at_26) rfl ?_
    show Steps p.tables e below (T7.setTop (mkF m 27 #[.val (.int p0), .val (.int p1), .val (.int (p0 &&& (3 : Int32))), .val (.int (p1 &&& (3 : Int32))), .val (.ref (f1 (p0 &&& (3 : Int32)) wB wI wS wM)), .val (.ref (f1 (p1 &&& (3 : Int32)) wB wI wS wM)), .val (.int (58401 : Int32)), .unset] [(.int (p0 &&& (3 : Int32))), (.int (58401 : Int32))])) _
    refine XS.iconst X7.here hx rfl (hb hby at_27) ?_
    show Steps p.tables e below (T7.setTop (mkF m 28 #[.val (.int p0), .val (.int p1), .val (.int (p0 &&& (3 : Int32))), .val (.int (p1 &&& (3 : Int32))), .val (.ref (f1 (p0 &&& (3 : Int32)) wB wI wS wM)), .val (.ref (f1 (p1 &&& (3 : Int32)) wB wI wS wM)), .val (.int (58401 : Int32)), .unset] [(.int (4 : Int32)), (.int (p0 &&& (3 : Int32))), (.int (58401 : Int32))])) _
    refine XS.imul X7.here hx rfl (hb hby at_28) rfl ?_
    show Steps p.tables e below (T7.setTop (mkF m 29 #[.val (.int p0), .val (.int p1), .val (.int (p0 &&& (3 : Int32))), .val (.int (p1 &&& (3 : Int32))), .val (.ref (f1 (p0 &&& (3 : Int32)) wB wI wS wM)), .val (.ref (f1 (p1 &&& (3 : Int32)) wB wI wS wM)), .val (.int (58401 : Int32)), .unset] [(.int ((p0 &&& (3 : Int32)) * (4 : Int32))), (.int (58401 : Int32))])) _
    refine XS.iloadN X7.here hx rfl (hb hby at_29) rfl ?_
    show Steps p.tables e below (T7.setTop (mkF m 30 #[.val (.int p0), .val (.int p1), .val (.int (p0 &&& (3 : Int32))), .val (.int (p1 &&& (3 : Int32))), .val (.ref (f1 (p0 &&& (3 : Int32)) wB wI wS wM)), .val (.ref (f1 (p1 &&& (3 : Int32)) wB wI wS wM)), .val (.int (58401 : Int32)), .unset] [(.int (p1 &&& (3 : Int32))), (.int ((p0 &&& (3 : Int32)) * (4 : Int32))), (.int (58401 : Int32))])) _
    refine XS.iadd X7.here hx rfl (hb hby at_30) rfl ?_
    show Steps p.tables e below (T7.setTop (mkF m 31 #[.val (.int p0), .val (.int p1), .val (.int (p0 &&& (3 : Int32))), .val (.int (p1 &&& (3 : Int32))), .val (.ref (f1 (p0 &&& (3 : Int32)) wB wI wS wM)), .val (.ref (f1 (p1 &&& (3 : Int32)) wB wI wS wM)), .val (.int (58401 : Int32)), .unset] [(.int (((p0 &&& (3 : Int32)) * (4 : Int32)) + (p1 &&& (3 : Int32)))), (.int (58401 : Int32))])) _
    refine XS.iushr X7.here hx rfl (hb hby at_31) rfl ?_
    show Steps p.tables e below (T7.setTop (mkF m 32 #[.val (.int p0), .val (.int p1), .val (.int (p0 &&& (3 : Int32))), .val (.int (p1 &&& (3 : Int32))), .val (.ref (f1 (p0 &&& (3 : Int32)) wB wI wS wM)), .val (.ref (f1 (p1 &&& (3 : Int32)) wB wI wS wM)), .val (.int (58401 : Int32)), .unset] [(.int (((58401 : Int32).toUInt32 >>> ((((p0 &&& (3 : Int32)) * (4 : Int32)) + (p1 &&& (3 : Int32))) &&& 31).toUInt32).toInt32))])) _
    refine XS.iconst X7.here hx rfl (hb hby at_32) ?_
    show Steps p.tables e below (T7.setTop (mkF m 33 #[.val (.int p0), .val (.int p1), .val (.int (p0 &&& (3 : Int32))), .val (.int (p1 &&& (3 : Int32))), .val (.ref (f1 (p0 &&& (3 : Int32)) wB wI wS wM)), .val (.ref (f1 (p1 &&& (3 : Int32)) wB wI wS wM)), .val (.int (58401 : Int32)), .unset] [(.int (1 : Int32)), (.int (((58401 : Int32).toUInt32 >>> ((((p0 &&& (3 : Int32)) * (4 : Int32)) + (p1 &&& (3 : Int32))) &&& 31).toUInt32).toInt32))])) _
    refine XS.iand X7.here hx rfl (hb hby at_33) rfl ?_
    exact k)
  obtain ⟨T10, L10, X10, e10, N10, pre10⟩ : ∃ (T' : State) (L' : List Loc), Stand p l e room_1 s m #[(.int p0), (.int p1)] below meth c T' L' 0 0 ∧ T'.heap = h0 ∧ Fr n0 L' ∧ ∀ t, Steps p.tables e below (T'.setTop (mkF m 42 #[.val (.int p0), .val (.int p1), .val (.int (p0 &&& (3 : Int32))), .val (.int (p1 &&& (3 : Int32))), .val (.ref (f1 (p0 &&& (3 : Int32)) wB wI wS wM)), .val (.ref (f1 (p1 &&& (3 : Int32)) wB wI wS wM)), .val (.int (58401 : Int32)), .unset] [(.int (v0_42_s0 p0 p1))])) t → Steps p.tables e below (s₁.setTop (entryFrame m #[(.int p0), (.int p1)] maxLocals)) t := by
    by_cases hc34_1 : ((((58401 : Int32).toUInt32 >>> ((((p0 &&& (3 : Int32)) * (4 : Int32)) + (p1 &&& (3 : Int32))) &&& 31).toUInt32).toInt32) &&& (1 : Int32)) = (0 : Int32)
    · have pre11 : ∀ t, Steps p.tables e below (T7.setTop (mkF m 42 #[.val (.int p0), .val (.int p1), .val (.int (p0 &&& (3 : Int32))), .val (.int (p1 &&& (3 : Int32))), .val (.ref (f1 (p0 &&& (3 : Int32)) wB wI wS wM)), .val (.ref (f1 (p1 &&& (3 : Int32)) wB wI wS wM)), .val (.int (58401 : Int32)), .unset] [(.int (0 : Int32))])) t → Steps p.tables e below (s₁.setTop (entryFrame m #[(.int p0), (.int p1)] maxLocals)) t := fun t k => pre9 t (by
        show Steps p.tables e below (T7.setTop (mkF m 34 #[.val (.int p0), .val (.int p1), .val (.int (p0 &&& (3 : Int32))), .val (.int (p1 &&& (3 : Int32))), .val (.ref (f1 (p0 &&& (3 : Int32)) wB wI wS wM)), .val (.ref (f1 (p1 &&& (3 : Int32)) wB wI wS wM)), .val (.int (58401 : Int32)), .unset] [(.int ((((58401 : Int32).toUInt32 >>> ((((p0 &&& (3 : Int32)) * (4 : Int32)) + (p1 &&& (3 : Int32))) &&& 31).toUInt32).toInt32) &&& (1 : Int32)))])) _
        refine XS.ifYes X7.here hx rfl (pc0 := 34) (pc' := 41) rfl (hb hby at_34) rfl ((if0 _ _).trans (teq hc34_1).1) (by decide) (by decide) ?_
        show Steps p.tables e below (T7.setTop (mkF m 41 #[.val (.int p0), .val (.int p1), .val (.int (p0 &&& (3 : Int32))), .val (.int (p1 &&& (3 : Int32))), .val (.ref (f1 (p0 &&& (3 : Int32)) wB wI wS wM)), .val (.ref (f1 (p1 &&& (3 : Int32)) wB wI wS wM)), .val (.int (58401 : Int32)), .unset] [])) _
        refine XS.iconst X7.here hx rfl (hb hby at_41) ?_
        exact k)
      exact ⟨T7, _, X7, e7, N7, fun t k => pre11 t (by simpa only [v0_42_s0, if_pos hc34_1] using k)⟩
    · have pre12 : ∀ t, Steps p.tables e below (T7.setTop (mkF m 42 #[.val (.int p0), .val (.int p1), .val (.int (p0 &&& (3 : Int32))), .val (.int (p1 &&& (3 : Int32))), .val (.ref (f1 (p0 &&& (3 : Int32)) wB wI wS wM)), .val (.ref (f1 (p1 &&& (3 : Int32)) wB wI wS wM)), .val (.int (58401 : Int32)), .unset] [(.int (1 : Int32))])) t → Steps p.tables e below (s₁.setTop (entryFrame m #[(.int p0), (.int p1)] maxLocals)) t := fun t k => pre9 t (by
        show Steps p.tables e below (T7.setTop (mkF m 34 #[.val (.int p0), .val (.int p1), .val (.int (p0 &&& (3 : Int32))), .val (.int (p1 &&& (3 : Int32))), .val (.ref (f1 (p0 &&& (3 : Int32)) wB wI wS wM)), .val (.ref (f1 (p1 &&& (3 : Int32)) wB wI wS wM)), .val (.int (58401 : Int32)), .unset] [(.int ((((58401 : Int32).toUInt32 >>> ((((p0 &&& (3 : Int32)) * (4 : Int32)) + (p1 &&& (3 : Int32))) &&& 31).toUInt32).toInt32) &&& (1 : Int32)))])) _
        refine XS.ifNo X7.here hx rfl (hb hby at_34) rfl ((if0 _ _).trans (feq hc34_1).1) ?_
        show Steps p.tables e below (T7.setTop (mkF m 37 #[.val (.int p0), .val (.int p1), .val (.int (p0 &&& (3 : Int32))), .val (.int (p1 &&& (3 : Int32))), .val (.ref (f1 (p0 &&& (3 : Int32)) wB wI wS wM)), .val (.ref (f1 (p1 &&& (3 : Int32)) wB wI wS wM)), .val (.int (58401 : Int32)), .unset] [])) _
        refine XS.iconst X7.here hx rfl (hb hby at_37) ?_
        show Steps p.tables e below (T7.setTop (mkF m 38 #[.val (.int p0), .val (.int p1), .val (.int (p0 &&& (3 : Int32))), .val (.int (p1 &&& (3 : Int32))), .val (.ref (f1 (p0 &&& (3 : Int32)) wB wI wS wM)), .val (.ref (f1 (p1 &&& (3 : Int32)) wB wI wS wM)), .val (.int (58401 : Int32)), .unset] [(.int (1 : Int32))])) _
        refine XS.goto X7.here hx rfl (pc0 := 38) (pc' := 42) rfl (hb hby at_38) (by decide) (by decide) ?_
        exact k)
      exact ⟨T7, _, X7, e7, N7, fun t k => pre12 t (by simpa only [v0_42_s0, if_neg hc34_1] using k)⟩
  have pre13 : ∀ t, Steps p.tables e below (T10.setTop (mkF m 48 #[.val (.int p0), .val (.int p1), .val (.int (p0 &&& (3 : Int32))), .val (.int (p1 &&& (3 : Int32))), .val (.ref (f1 (p0 &&& (3 : Int32)) wB wI wS wM)), .val (.ref (f1 (p1 &&& (3 : Int32)) wB wI wS wM)), .val (.int (58401 : Int32)), .val (.int (v0_42_s0 p0 p1))] [(.ref (f1 (p1 &&& (3 : Int32)) wB wI wS wM)), (.ref (f1 (p0 &&& (3 : Int32)) wB wI wS wM))])) t → Steps p.tables e below (s₁.setTop (entryFrame m #[(.int p0), (.int p1)] maxLocals)) t := fun t k => pre10 t (by
    show Steps p.tables e below (T10.setTop (mkF m 42 #[.val (.int p0), .val (.int p1), .val (.int (p0 &&& (3 : Int32))), .val (.int (p1 &&& (3 : Int32))), .val (.ref (f1 (p0 &&& (3 : Int32)) wB wI wS wM)), .val (.ref (f1 (p1 &&& (3 : Int32)) wB wI wS wM)), .val (.int (58401 : Int32)), .unset] [(.int (v0_42_s0 p0 p1))])) _
    refine XS.istore X10.here hx rfl (hb hby at_42) rfl (l' := #[.val (.int p0), .val (.int p1), .val (.int (p0 &&& (3 : Int32))), .val (.int (p1 &&& (3 : Int32))), .val (.ref (f1 (p0 &&& (3 : Int32)) wB wI wS wM)), .val (.ref (f1 (p1 &&& (3 : Int32)) wB wI wS wM)), .val (.int (58401 : Int32)), .val (.int (v0_42_s0 p0 p1))]) rfl ?_
    show Steps p.tables e below (T10.setTop (mkF m 44 #[.val (.int p0), .val (.int p1), .val (.int (p0 &&& (3 : Int32))), .val (.int (p1 &&& (3 : Int32))), .val (.ref (f1 (p0 &&& (3 : Int32)) wB wI wS wM)), .val (.ref (f1 (p1 &&& (3 : Int32)) wB wI wS wM)), .val (.int (58401 : Int32)), .val (.int (v0_42_s0 p0 p1))] [])) _
    refine XS.aload X10.here hx rfl (hb hby at_44) rfl rfl ?_
    show Steps p.tables e below (T10.setTop (mkF m 46 #[.val (.int p0), .val (.int p1), .val (.int (p0 &&& (3 : Int32))), .val (.int (p1 &&& (3 : Int32))), .val (.ref (f1 (p0 &&& (3 : Int32)) wB wI wS wM)), .val (.ref (f1 (p1 &&& (3 : Int32)) wB wI wS wM)), .val (.int (58401 : Int32)), .val (.int (v0_42_s0 p0 p1))] [(.ref (f1 (p0 &&& (3 : Int32)) wB wI wS wM))])) _
    refine XS.aload X10.here hx rfl (hb hby at_46) rfl rfl ?_
    exact k)
  obtain ⟨cq14, kq14, q14a, q14b, q14c⟩ := isOf hZ e10 (own_exa I4 I5 I6 I7)
  obtain ⟨_, _, ⟨T14, L14, k14, n14⟩, -, X14, ⟨Lc14, hQ14, l14, y14, z14⟩, st14⟩ := X10.virtualBack hx (y := (⟨"com/example/slim_kripke/slimkripke/smv/ValueKind", "accepts", "(Lcom/example/slim_kripke/slimkripke/smv/ValueKind;)Z"⟩ : MethodName)) (z := (⟨"com/example/slim_kripke/slimkripke/smv/ValueKind", "accepts", "(Lcom/example/slim_kripke/slimkripke/smv/ValueKind;)Z"⟩ : MethodName)) hown (mvT hZ (hw _ (List.mem_of_getElem? (i := 10) rfl))) (mvT hZ (hw _ (List.mem_of_getElem? (i := 11) rfl))) (notFace_of_selects (args := #[]) (mvT hZ (hw _ (List.mem_of_getElem? (i := 13) rfl)))) (mvT hZ (hw _ (List.mem_of_getElem? (i := 13) rfl))) (mvT hZ (hw _ (List.mem_of_getElem? (i := 12) rfl))) (by decide) (backOf (W := 0) (rm2 l Z a0 hw [] (f1 (p0 &&& (3 : Int32)) wB wI wS wM) (f1 (p1 &&& (3 : Int32)) wB wI wS wM) wB wM h0 n0 Z0 I0 I3) hZ (hw _ (List.mem_of_getElem? (i := 14) rfl)) (hw _ (List.mem_of_getElem? (i := 5) rfl)) (by decide) (by decide)) q14a q14c (g := (mkF m 48 #[.val (.int p0), .val (.int p1), .val (.int (p0 &&& (3 : Int32))), .val (.int (p1 &&& (3 : Int32))), .val (.ref (f1 (p0 &&& (3 : Int32)) wB wI wS wM)), .val (.ref (f1 (p1 &&& (3 : Int32)) wB wI wS wM)), .val (.int (58401 : Int32)), .val (.int (v0_42_s0 p0 p1))] [(.ref (f1 (p1 &&& (3 : Int32)) wB wI wS wM)), (.ref (f1 (p0 &&& (3 : Int32)) wB wI wS wM))])) rfl (by rw [hml]; rfl) (Steps.refl _) (argsL := [(.ref (f1 (p1 &&& (3 : Int32)) wB wI wS wM))]) (rest := []) (lenOf pd__Lcom_example_slim_kripke_slimkripke_smv_ValueKind__Z rfl) rfl (by show 2 * 0 + _ ≤ _; exact Nat.le_of_eq rfl) (hb hby at_48) (fun _ _ => ⟨rfl, e10, (by decide : 0 + 0 ≤ _), (by decide : 0 + 0 ≤ _)⟩)
  dsimp only [Pt.U, Pt.locs, Pt.cells, Pt.slots] at X14 l14 y14 z14 st14 hQ14
  subst l14 y14 z14
  obtain ⟨rfl, Nq14, e14⟩ := hQ14
  have N14 := Fr.app N10 Nq14
  have pre15 : ∀ t, Steps p.tables e below (T14.setTop (mkF m 51 #[.val (.int p0), .val (.int p1), .val (.int (p0 &&& (3 : Int32))), .val (.int (p1 &&& (3 : Int32))), .val (.ref (f1 (p0 &&& (3 : Int32)) wB wI wS wM)), .val (.ref (f1 (p1 &&& (3 : Int32)) wB wI wS wM)), .val (.int (58401 : Int32)), .val (.int (v0_42_s0 p0 p1))] [(.int (f2 (f1 (p0 &&& (3 : Int32)) wB wI wS wM) (f1 (p1 &&& (3 : Int32)) wB wI wS wM) wB wM))])) t → Steps p.tables e below (s₁.setTop (entryFrame m #[(.int p0), (.int p1)] maxLocals)) t := fun t k => pre13 t (st14.trans k)
  have pre16 : ∀ t, Steps p.tables e below (T14.setTop (mkF m 53 #[.val (.int p0), .val (.int p1), .val (.int (p0 &&& (3 : Int32))), .val (.int (p1 &&& (3 : Int32))), .val (.ref (f1 (p0 &&& (3 : Int32)) wB wI wS wM)), .val (.ref (f1 (p1 &&& (3 : Int32)) wB wI wS wM)), .val (.int (58401 : Int32)), .val (.int (v0_42_s0 p0 p1))] [(.int (v0_42_s0 p0 p1)), (.int (f2 (f1 (p0 &&& (3 : Int32)) wB wI wS wM) (f1 (p1 &&& (3 : Int32)) wB wI wS wM) wB wM))])) t → Steps p.tables e below (s₁.setTop (entryFrame m #[(.int p0), (.int p1)] maxLocals)) t := fun t k => pre15 t (by
    show Steps p.tables e below (T14.setTop (mkF m 51 #[.val (.int p0), .val (.int p1), .val (.int (p0 &&& (3 : Int32))), .val (.int (p1 &&& (3 : Int32))), .val (.ref (f1 (p0 &&& (3 : Int32)) wB wI wS wM)), .val (.ref (f1 (p1 &&& (3 : Int32)) wB wI wS wM)), .val (.int (58401 : Int32)), .val (.int (v0_42_s0 p0 p1))] [(.int (f2 (f1 (p0 &&& (3 : Int32)) wB wI wS wM) (f1 (p1 &&& (3 : Int32)) wB wI wS wM) wB wM))])) _
    refine XS.iload X14.here hx rfl (hb hby at_51) rfl ?_
    exact k)
  by_cases hc53_2 : (f2 (f1 (p0 &&& (3 : Int32)) wB wI wS wM) (f1 (p1 &&& (3 : Int32)) wB wI wS wM) wB wM) = (v0_42_s0 p0 p1)
  · have pre17 : ∀ t, Steps p.tables e below (T14.setTop (mkF m 61 #[.val (.int p0), .val (.int p1), .val (.int (p0 &&& (3 : Int32))), .val (.int (p1 &&& (3 : Int32))), .val (.ref (f1 (p0 &&& (3 : Int32)) wB wI wS wM)), .val (.ref (f1 (p1 &&& (3 : Int32)) wB wI wS wM)), .val (.int (58401 : Int32)), .val (.int (v0_42_s0 p0 p1))] [(.int (1 : Int32))])) t → Steps p.tables e below (s₁.setTop (entryFrame m #[(.int p0), (.int p1)] maxLocals)) t := fun t k => pre16 t (by
      show Steps p.tables e below (T14.setTop (mkF m 53 #[.val (.int p0), .val (.int p1), .val (.int (p0 &&& (3 : Int32))), .val (.int (p1 &&& (3 : Int32))), .val (.ref (f1 (p0 &&& (3 : Int32)) wB wI wS wM)), .val (.ref (f1 (p1 &&& (3 : Int32)) wB wI wS wM)), .val (.int (58401 : Int32)), .val (.int (v0_42_s0 p0 p1))] [(.int (v0_42_s0 p0 p1)), (.int (f2 (f1 (p0 &&& (3 : Int32)) wB wI wS wM) (f1 (p1 &&& (3 : Int32)) wB wI wS wM) wB wM))])) _
      refine XS.icmpNo X14.here hx rfl (hb hby at_53) rfl (teq hc53_2).2 ?_
      show Steps p.tables e below (T14.setTop (mkF m 56 #[.val (.int p0), .val (.int p1), .val (.int (p0 &&& (3 : Int32))), .val (.int (p1 &&& (3 : Int32))), .val (.ref (f1 (p0 &&& (3 : Int32)) wB wI wS wM)), .val (.ref (f1 (p1 &&& (3 : Int32)) wB wI wS wM)), .val (.int (58401 : Int32)), .val (.int (v0_42_s0 p0 p1))] [])) _
      refine XS.iconst X14.here hx rfl (hb hby at_56) ?_
      show Steps p.tables e below (T14.setTop (mkF m 57 #[.val (.int p0), .val (.int p1), .val (.int (p0 &&& (3 : Int32))), .val (.int (p1 &&& (3 : Int32))), .val (.ref (f1 (p0 &&& (3 : Int32)) wB wI wS wM)), .val (.ref (f1 (p1 &&& (3 : Int32)) wB wI wS wM)), .val (.int (58401 : Int32)), .val (.int (v0_42_s0 p0 p1))] [(.int (1 : Int32))])) _
      refine XS.goto X14.here hx rfl (pc0 := 57) (pc' := 61) rfl (hb hby at_57) (by decide) (by decide) ?_
      exact k)
    obtain ⟨fs, hr, hrun, hended, hW, hsame⟩ := X14.leave (v := some (.int (1 : Int32))) (fun h => by rw [Bd.returns] at h; cases h)
    refine ⟨_, _, ?_, hrun, hended, _, _, rfl, ?_, ⟨_, rfl⟩, hW, hsame.mono (by decide) (by decide)⟩
    · exact pre17 _ (retN X14 hx (t := .boolean) Bd.returns (by simp) (hb hby at_61) hr)
    · exact ⟨by simp only [f0, if_pos hc53_2], N14, trivial⟩
  · have pre18 : ∀ t, Steps p.tables e below (T14.setTop (mkF m 61 #[.val (.int p0), .val (.int p1), .val (.int (p0 &&& (3 : Int32))), .val (.int (p1 &&& (3 : Int32))), .val (.ref (f1 (p0 &&& (3 : Int32)) wB wI wS wM)), .val (.ref (f1 (p1 &&& (3 : Int32)) wB wI wS wM)), .val (.int (58401 : Int32)), .val (.int (v0_42_s0 p0 p1))] [(.int (0 : Int32))])) t → Steps p.tables e below (s₁.setTop (entryFrame m #[(.int p0), (.int p1)] maxLocals)) t := fun t k => pre16 t (by
      show Steps p.tables e below (T14.setTop (mkF m 53 #[.val (.int p0), .val (.int p1), .val (.int (p0 &&& (3 : Int32))), .val (.int (p1 &&& (3 : Int32))), .val (.ref (f1 (p0 &&& (3 : Int32)) wB wI wS wM)), .val (.ref (f1 (p1 &&& (3 : Int32)) wB wI wS wM)), .val (.int (58401 : Int32)), .val (.int (v0_42_s0 p0 p1))] [(.int (v0_42_s0 p0 p1)), (.int (f2 (f1 (p0 &&& (3 : Int32)) wB wI wS wM) (f1 (p1 &&& (3 : Int32)) wB wI wS wM) wB wM))])) _
      refine XS.icmpYes X14.here hx rfl (pc0 := 53) (pc' := 60) rfl (hb hby at_53) rfl (feq hc53_2).2 (by decide) (by decide) ?_
      show Steps p.tables e below (T14.setTop (mkF m 60 #[.val (.int p0), .val (.int p1), .val (.int (p0 &&& (3 : Int32))), .val (.int (p1 &&& (3 : Int32))), .val (.ref (f1 (p0 &&& (3 : Int32)) wB wI wS wM)), .val (.ref (f1 (p1 &&& (3 : Int32)) wB wI wS wM)), .val (.int (58401 : Int32)), .val (.int (v0_42_s0 p0 p1))] [])) _
      refine XS.iconst X14.here hx rfl (hb hby at_60) ?_
      exact k)
    obtain ⟨fs, hr, hrun, hended, hW, hsame⟩ := X14.leave (v := some (.int (0 : Int32))) (fun h => by rw [Bd.returns] at h; cases h)
    refine ⟨_, _, ?_, hrun, hended, _, _, rfl, ?_, ⟨_, rfl⟩, hW, hsame.mono (by decide) (by decide)⟩
    · exact pre18 _ (retN X14 hx (t := .boolean) Bd.returns (by simp) (hb hby at_61) hr)
    · exact ⟨by simp only [f0, if_neg hc53_2], N14, trivial⟩
theorem own_and3 (x : Int32) : x &&& 3 = 0 ∨ x &&& 3 = 1 ∨ x &&& 3 = 2 ∨ x &&& 3 = 3 := by
  have h : (x &&& 3).toInt = x.toInt % 4 := c_mask x 3 2 (by decide) (by decide)
  have e : ∀ k : Int32, (x &&& 3).toInt = k.toInt → x &&& 3 = k := fun k q => Int32.toInt_inj.mp q
  have c : (x &&& 3).toInt = 0 ∨ (x &&& 3).toInt = 1 ∨ (x &&& 3).toInt = 2 ∨ (x &&& 3).toInt = 3 := by omega
  rcases c with c | c | c | c
  · exact Or.inl (e 0 c)
  · exact Or.inr (Or.inl (e 1 c))
  · exact Or.inr (Or.inr (Or.inl (e 2 c)))
  · exact Or.inr (Or.inr (Or.inr (e 3 c)))
theorem own_law (i0 i1 : Int32) {wB wI wS wM : Addr} (h1 : wB ≠ wI) (h2 : wB ≠ wS) (h3 : wB ≠ wM) (h4 : wI ≠ wS) (h5 : wI ≠ wM) (h6 : wS ≠ wM) : f0 i0 i1 wB wI wS wM = 1 := by
  have a0 : f1 0 wB wI wS wM = wB := if_pos rfl
  have a1 : f1 1 wB wI wS wM = wI := by unfold f1; rw [if_neg (by decide), if_pos rfl]
  have a2 : f1 2 wB wI wS wM = wS := by unfold f1; rw [if_neg (by decide), if_neg (by decide), if_pos rfl]
  have a3 : f1 3 wB wI wS wM = wM := by unfold f1; rw [if_neg (by decide), if_neg (by decide), if_neg (by decide)]
  refine if_pos ?_
  unfold v0_42_s0
  rcases own_and3 i0 with e | e | e | e <;> rcases own_and3 i1 with q | q | q | q <;> rw [e, q] <;>
    simp only [f2, a0, a1, a2, a3, h1, h2, h3, h4, h5, h6, Ne.symm h1, Ne.symm h2, Ne.symm h3, Ne.symm h4, Ne.symm h5, Ne.symm h6, if_true, if_false] <;> decide
set_option maxRecDepth 65536 in
set_option maxHeartbeats 40000000 in
theorem comes_1 {Post : Tables → Env → Array Value → State → Outcome → State → Prop} (hpost : ∀ tb e args s v u, (limb_1_1.after args s (.returned v) u = true ∧ limb_1_2.after args s (.returned v) u = true ∧ True) → FrameEnd s (.returned v) u (Jvm.fieldLocs frame_1_writes args s ++ Jvm.arrayLocs frame_1_arrays args s ++ Jvm.staticLocs frame_1_statics s) 0 0 → Post tb e args s (.returned v) u) :
    ArmFor flags0 classFile x code maxLocals ret World_1 tables_1 room_1 Calls_1 rest_1 Pre_1 Post := by
  intro l hfl _ _ p e ha hc hk s m args below hf hA hF happ hP
  obtain ⟨hcalls, hrest, hpre⟩ := hP
  obtain ⟨-, -, -, hnamed, -, -, -, hat⟩ := (Spec.applies_iff hf).mp happ
  obtain ⟨hg, hn⟩ := and_e (Cond.before_iff.mp (show (Jvm.Cond.and given_1 narrow_1).before args s = true from hpre))
  obtain ⟨g1, g2⟩ := and_e hg
  obtain ⟨g3, g4⟩ := and_e g2
  obtain ⟨w0, w1, rfl⟩ : ∃ w0 w1 : Value, args = #[w0, w1] := by
    have hs : args.size = 2 := by simpa [Cond.value, given_1] using g1
    obtain ⟨L⟩ := args
    match L, hs with
    | [w0, w1], _ => exact ⟨w0, w1, rfl⟩
  have hw := fun d (hd : d ∈ tables_1) => atoms_spec (ws := Jvm.Cond.code x code maxLocals ret :: tables_1) hat d (List.mem_cons_of_mem _ hd)
  obtain ⟨i0, ei0⟩ := is_v g3
  obtain rfl : w0 = (.int i0) := Option.some.inj ei0
  obtain ⟨i1, ei1⟩ := is_v g4
  obtain rfl : w1 = (.int i1) := Option.some.inj ei1
  obtain ⟨u1, u2⟩ := and_e hn
  obtain ⟨u3, u4⟩ := and_e u2
  obtain ⟨u5, u6⟩ := and_e u4
  obtain ⟨u7, u8⟩ := and_e u6
  obtain ⟨u9, u10⟩ := and_e u8
  obtain ⟨u11, u12⟩ := and_e u10
  obtain ⟨u13, u14⟩ := and_e u12
  obtain ⟨wB, ev_wB⟩ := exa_v u1
  have E_wB := Exa.start ev_wB u1
  have S_wB := Sta.start ev_wB (Or.inr ⟨(hw _ (List.mem_of_getElem? (i := 5) rfl)), (hw _ (List.mem_of_getElem? (i := 6) rfl))⟩)
  have O_wB := own_ord ev_wB u5
  obtain ⟨wI, ev_wI⟩ := exa_v u11
  have E_wI := Exa.start ev_wI u11
  have S_wI := Sta.start ev_wI (Or.inr ⟨(hw _ (List.mem_of_getElem? (i := 5) rfl)), (hw _ (List.mem_of_getElem? (i := 19) rfl))⟩)
  have O_wI := own_ord ev_wI u14
  obtain ⟨wS, ev_wS⟩ := exa_v u9
  have E_wS := Exa.start ev_wS u9
  have S_wS := Sta.start ev_wS (Or.inr ⟨(hw _ (List.mem_of_getElem? (i := 5) rfl)), (hw _ (List.mem_of_getElem? (i := 17) rfl))⟩)
  have O_wS := own_ord ev_wS u13
  obtain ⟨wM, ev_wM⟩ := exa_v u3
  have E_wM := Exa.start ev_wM u3
  have S_wM := Sta.start ev_wM (Or.inr ⟨(hw _ (List.mem_of_getElem? (i := 5) rfl)), (hw _ (List.mem_of_getElem? (i := 8) rfl))⟩)
  have O_wM := own_ord ev_wM u7
  have ne_wB_wI : wB ≠ wI := Fld.ne O_wB O_wI (by decide)
  have ne_wB_wS : wB ≠ wS := Fld.ne O_wB O_wS (by decide)
  have ne_wB_wM : wB ≠ wM := Fld.ne O_wB O_wM (by decide)
  have ne_wI_wS : wI ≠ wS := Fld.ne O_wI O_wS (by decide)
  have ne_wI_wM : wI ≠ wM := Fld.ne O_wI O_wM (by decide)
  have ne_wS_wM : wS ≠ wM := Fld.ne O_wS O_wM (by decide)
  obtain ⟨n, o, h1, h2, h3, _, L, rfl, ⟨rfl, N, -⟩, hq⟩ := rm0 l s _ hw tables_1 i0 i1 wB wI wS wM s.heap s.heap.size (Nat.le_refl _) S_wB S_wI S_wS S_wM E_wB E_wI E_wS E_wM p e ha hc hk s m _ below hf ((Spec.applies_iff_loose hf).mp happ).1 ⟨rfl, State.Warmed39.refl s, rfl⟩ trivial
  rw [own_law i0 i1 ne_wB_wI ne_wB_wS ne_wB_wM ne_wI_wS ne_wI_wM ne_wS_wM] at h3 hq
  refine ⟨n, _, h1, h2, h3, hpost _ _ _ _ _ _ ⟨Cond.after_iff.mpr rfl, Cond.after_iff.mpr (eq_i res_at (Term.int_eval (1)) rfl), trivial⟩ ⟨hq.1, hq.2.1, (hq.2.2.sift fun y hy => Or.inr (N y hy)).mono (by decide) (by decide)⟩⟩
theorem main_1_1 : Claimed_1_1 := comes_1 fun _ _ _ _ _ _ h hF => ⟨h.1, hF⟩
theorem main_1_2 : Claimed_1_2 := comes_1 fun _ _ _ _ _ _ h hF => ⟨h.2.1, hF⟩
end Jvm.Pilot.@@N@@
namespace Jvm.Pilot.@@N@@
open Jvm Jvm.ClassFile Sem Op Lib Jvm.Free Jvm.Stand Jvm.Pilot.@@N@@.Jvm.D
/-! MADE BY PROGRAM (witnessworld.py) out of the Statement's table words and the real class files: 12 classes; the members and pool entries that the words name. The judged class is class 1, her method 2. -/
namespace start1
open Jvm.ClassFile
def u (s : String) : CpInfo := .utf8 (stringToUtf16 s)
/-- a pool by its gaps: so many unusable entries, then the entry; so many at the end -/
def gap : Nat → List CpInfo → List CpInfo
  | 0, r => r
  | n + 1, r => .unusable :: gap n r
def poolList (es : List (Nat × CpInfo)) (last : Nat) : List CpInfo := es.foldr (fun e r => gap e.1 (e.2 :: r)) (gap last [])
def pool (es : List (Nat × CpInfo)) (last : Nat) : Array CpInfo := ⟨poolList es last⟩
def fileOf (pool : Array CpInfo) (this : Nat) (attrs : Array Attribute := #[]) (ms : Array MethodInfo := #[]) (fl : Nat := 33) (sup : Nat := 0) (ifs : Array Nat := #[]) (fds : Array FieldInfo := #[]) : ClassFile where
  minorVersion := 0
  majorVersion := 65
  constantPool := pool
  accessFlags := fl
  thisClass := this
  superClass := sup
  interfaces := ifs
  fields := fds
  methods := ms
  attributes := attrs
def plain (name : String) (sup : Option ClassId) : Class where
  name := name
  kind := .ordinary
  loader := none
  accessFlags := 33
  super := sup
  interfaces := #[]
  cf := none
  fields := #[]
  methods := #[]
  instanceTypes := #[]
  staticTypes := #[]
  resolved := #[]
  callSites := []
  init := .initialized
  statics := none
  mirror := none

def pool0 : Array CpInfo := pool [(5, u "<init>"), (0, u "()V"), (1, .class_ 10), (1, u "java/lang/Object")] 113

def k0m0 : Method := { name := "<init>", desc := "()V", sig := { parameters := [], returnType := none }, accessFlags := 1, code := none }
/-- java/lang/Object -/
def k0 : Class := { plain "java/lang/Object" none with
  accessFlags := 33
  interfaces := #[]
  cf := some (fileOf pool0 8 #[] #[{ accessFlags := 1, nameIndex := 5, descriptorIndex := 6, attributes := #[] }] 33 0 #[] #[])
  fields := #[]
  methods := #[k0m0]
  instanceTypes := #[]
  staticTypes := #[]
  resolved := Array.replicate 124 none
  statics := none }

def pool1 : Array CpInfo := pool [(2, .class_ 4), (1, u "java/lang/Object"), (0, u "<init>"), (0, u "()V"), (0, .fieldref 8 9), (0, .class_ 10), (0, .nameAndType 11 12), (0, u "com/example/slim_kripke/slimkripke/smv/ValueKind"), (0, u "BOOLEAN"), (0, u "Lcom/example/slim_kripke/slimkripke/smv/ValueKind;"), (0, .fieldref 8 14), (0, .nameAndType 15 12), (0, u "INTEGER"), (0, .fieldref 8 17), (0, .nameAndType 18 12), (0, u "SYMBOLIC"), (0, .fieldref 8 20), (0, .nameAndType 21 12), (0, u "MIXED"), (0, .methodref 23 24), (0, .class_ 25), (0, .nameAndType 26 27), (0, u "com/example/slim_kripke/slimkripke/smv/ValueKindAcceptsPinLaw"), (0, u "kind"), (0, u "(I)Lcom/example/slim_kripke/slimkripke/smv/ValueKind;"), (0, .integer 58401), (0, .methodref 8 30), (0, .nameAndType 31 32), (0, u "accepts"), (0, u "(Lcom/example/slim_kripke/slimkripke/smv/ValueKind;)Z"), (3, u "law"), (0, u "(II)Z")] 2

def k1m0 : Method := { name := "<init>", desc := "()V", sig := { parameters := [], returnType := none }, accessFlags := 1, code := none }
def k1c1 : Code := { maxStack := 2, maxLocals := 1, code := method_2_code, exceptionTable := #[], attributes := #[] }
def k1m1 : Method := { name := "kind", desc := "(I)Lcom/example/slim_kripke/slimkripke/smv/ValueKind;", sig := { parameters := [.int], returnType := some (.object "com/example/slim_kripke/slimkripke/smv/ValueKind") }, accessFlags := 10, code := some k1c1 }
def k1c2 : Code := { maxStack := 3, maxLocals := 8, code := code, exceptionTable := #[], attributes := #[] }
def k1m2 : Method := { name := "law", desc := "(II)Z", sig := { parameters := [.int, .int], returnType := some .boolean }, accessFlags := 9, code := some k1c2 }
/-- com/example/slim_kripke/slimkripke/smv/ValueKindAcceptsPinLaw -/
def k1 : Class := { plain "com/example/slim_kripke/slimkripke/smv/ValueKindAcceptsPinLaw" (some 0) with
  accessFlags := 49
  interfaces := #[]
  cf := some (fileOf pool1 23 #[] #[{ accessFlags := 1, nameIndex := 5, descriptorIndex := 6, attributes := #[] }, { accessFlags := 10, nameIndex := 26, descriptorIndex := 27, attributes := #[] }, { accessFlags := 9, nameIndex := 36, descriptorIndex := 37, attributes := #[] }] 49 2 #[] #[])
  fields := #[]
  methods := #[k1m0, k1m1, k1m2]
  instanceTypes := #[]
  staticTypes := #[]
  resolved := Array.replicate 40 none
  statics := none }

def pool2 : Array CpInfo := pool [(1, .class_ 2), (0, u "java/lang/constant/Constable"), (0, .class_ 4), (0, u "java/lang/Object")] 6

/-- java/lang/constant/Constable -/
def k2 : Class := { plain "java/lang/constant/Constable" (some 0) with
  accessFlags := 1537
  interfaces := #[]
  cf := some (fileOf pool2 1 #[] #[] 1537 3 #[] #[])
  fields := #[]
  methods := #[]
  instanceTypes := #[]
  staticTypes := #[]
  resolved := Array.replicate 11 none
  statics := none }

def pool3 : Array CpInfo := pool [(1, .class_ 2), (0, u "java/lang/Comparable"), (0, .class_ 4), (0, u "java/lang/Object")] 7

/-- java/lang/Comparable -/
def k3 : Class := { plain "java/lang/Comparable" (some 0) with
  accessFlags := 1537
  interfaces := #[]
  cf := some (fileOf pool3 1 #[] #[] 1537 3 #[] #[])
  fields := #[]
  methods := #[]
  instanceTypes := #[]
  staticTypes := #[]
  resolved := Array.replicate 12 none
  statics := none }

def pool4 : Array CpInfo := pool [(1, .class_ 2), (0, u "java/io/Serializable"), (0, .class_ 4), (0, u "java/lang/Object")] 2

/-- java/io/Serializable -/
def k4 : Class := { plain "java/io/Serializable" (some 0) with
  accessFlags := 1537
  interfaces := #[]
  cf := some (fileOf pool4 1 #[] #[] 1537 3 #[] #[])
  fields := #[]
  methods := #[]
  instanceTypes := #[]
  staticTypes := #[]
  resolved := Array.replicate 7 none
  statics := none }

def pool5 : Array CpInfo := pool [(2, .class_ 4), (1, u "java/lang/Enum"), (0, u "name"), (0, u "Ljava/lang/String;"), (2, u "ordinal"), (0, u "I"), (1, .class_ 14), (1, u "java/lang/Object"), (4, u "hash"), (86, .class_ 108), (1, u "java/lang/Enum$EnumDesc"), (2, .class_ 112), (0, u "java/lang/constant/Constable"), (0, .class_ 114), (0, u "java/lang/Comparable"), (0, .class_ 116), (0, u "java/io/Serializable")] 87

/-- java/lang/Enum -/
def k5 : Class := { plain "java/lang/Enum" (some 0) with
  accessFlags := 1057
  interfaces := #[2, 3, 4]
  cf := some (fileOf pool5 2 #[.nestMembers #[106]] #[] 1057 12 #[111, 113, 115] #[{ accessFlags := 18, nameIndex := 5, descriptorIndex := 6, attributes := #[] }, { accessFlags := 18, nameIndex := 9, descriptorIndex := 10, attributes := #[] }, { accessFlags := 2, nameIndex := 19, descriptorIndex := 10, attributes := #[] }])
  fields := #[{ name := "name", type := (.object "java/lang/String"), accessFlags := 18, slot := 0, constantValue := 0 }, { name := "ordinal", type := .int, accessFlags := 18, slot := 1, constantValue := 0 }, { name := "hash", type := .int, accessFlags := 2, slot := 2, constantValue := 0 }]
  methods := #[]
  instanceTypes := #[(.object "java/lang/String"), .int, .int]
  staticTypes := #[]
  resolved := Array.replicate 204 none
  statics := none }

def pool6 : Array CpInfo := pool [(1, .class_ 2), (0, u "com/example/slim_kripke/slimkripke/smv/ValueKind"), (0, .fieldref 1 4), (0, .nameAndType 5 6), (0, u "BOOLEAN"), (0, u "Lcom/example/slim_kripke/slimkripke/smv/ValueKind;"), (2, u "INTEGER"), (2, u "SYMBOLIC"), (0, .fieldref 1 14), (0, .nameAndType 15 6), (0, u "MIXED"), (2, u "$VALUES"), (0, u "[Lcom/example/slim_kripke/slimkripke/smv/ValueKind;"), (6, .class_ 28), (1, u "java/lang/Enum"), (8, u "description"), (0, u "Ljava/lang/String;"), (45, u "accepts"), (0, u "(Lcom/example/slim_kripke/slimkripke/smv/ValueKind;)Z")] 12

def k6c0 : Code := { maxStack := 2, maxLocals := 2, code := prog_101_method_6_code, exceptionTable := #[], attributes := #[] }
def k6m0 : Method := { name := "accepts", desc := "(Lcom/example/slim_kripke/slimkripke/smv/ValueKind;)Z", sig := { parameters := [(.object "com/example/slim_kripke/slimkripke/smv/ValueKind")], returnType := some .boolean }, accessFlags := 1, code := some k6c0 }
/-- com/example/slim_kripke/slimkripke/smv/ValueKind -/
def k6 : Class := { plain "com/example/slim_kripke/slimkripke/smv/ValueKind" (some 5) with
  accessFlags := 16433
  interfaces := #[]
  cf := some (fileOf pool6 1 #[] #[{ accessFlags := 1, nameIndex := 84, descriptorIndex := 85, attributes := #[] }] 16433 26 #[] #[{ accessFlags := 16409, nameIndex := 5, descriptorIndex := 6, attributes := #[] }, { accessFlags := 16409, nameIndex := 9, descriptorIndex := 6, attributes := #[] }, { accessFlags := 16409, nameIndex := 12, descriptorIndex := 6, attributes := #[] }, { accessFlags := 16409, nameIndex := 15, descriptorIndex := 6, attributes := #[] }, { accessFlags := 18, nameIndex := 37, descriptorIndex := 38, attributes := #[] }, { accessFlags := 4122, nameIndex := 18, descriptorIndex := 19, attributes := #[] }])
  fields := #[{ name := "BOOLEAN", type := (.object "com/example/slim_kripke/slimkripke/smv/ValueKind"), accessFlags := 16409, slot := 0, constantValue := 0 }, { name := "INTEGER", type := (.object "com/example/slim_kripke/slimkripke/smv/ValueKind"), accessFlags := 16409, slot := 1, constantValue := 0 }, { name := "SYMBOLIC", type := (.object "com/example/slim_kripke/slimkripke/smv/ValueKind"), accessFlags := 16409, slot := 2, constantValue := 0 }, { name := "MIXED", type := (.object "com/example/slim_kripke/slimkripke/smv/ValueKind"), accessFlags := 16409, slot := 3, constantValue := 0 }, { name := "description", type := (.object "java/lang/String"), accessFlags := 18, slot := 3, constantValue := 0 }, { name := "$VALUES", type := (.array (.object "com/example/slim_kripke/slimkripke/smv/ValueKind")), accessFlags := 4122, slot := 4, constantValue := 0 }]
  methods := #[k6m0]
  instanceTypes := #[(.object "java/lang/String"), .int, .int, (.object "java/lang/String")]
  staticTypes := #[(.object "com/example/slim_kripke/slimkripke/smv/ValueKind"), (.object "com/example/slim_kripke/slimkripke/smv/ValueKind"), (.object "com/example/slim_kripke/slimkripke/smv/ValueKind"), (.object "com/example/slim_kripke/slimkripke/smv/ValueKind"), (.array (.object "com/example/slim_kripke/slimkripke/smv/ValueKind"))]
  resolved := Array.replicate 98 none
  statics := some 0 }

def pool7 : Array CpInfo := pool [(1, u "java/lang/Cloneable"), (0, .class_ 1), (0, u "java/lang/Object"), (0, .class_ 3)] 3

/-- java/lang/Cloneable -/
def k7 : Class := { plain "java/lang/Cloneable" (some 0) with
  accessFlags := 1537
  interfaces := #[]
  cf := some (fileOf pool7 2 #[] #[] 1537 4 #[] #[])
  fields := #[]
  methods := #[]
  instanceTypes := #[]
  staticTypes := #[]
  resolved := Array.replicate 8 none
  statics := none }

/-- the primitive byte -/
def k8 : Class := { plain "byte" none with kind := .primitive 'B', accessFlags := 0x411 }
/-- [B -/
def k9 : Class := { plain "[B" (some 0) with kind := .array 8 .byte, interfaces := #[7, 4], accessFlags := 1041 }

/-- the primitive int -/
def k10 : Class := { plain "int" none with kind := .primitive 'I', accessFlags := 0x411 }
/-- [I -/
def k11 : Class := { plain "[I" (some 0) with kind := .array 10 .int, interfaces := #[7, 4], accessFlags := 1041 }

def heap : Heap := #[{ cls := 6, slots := #[.ref 1, .ref 2, .ref 3, .ref 4, .null], vm := .statics 6 },
  { cls := 6, slots := #[.null, .int 0, .int 0, .null], vm := .none },
  { cls := 6, slots := #[.null, .int 1, .int 0, .null], vm := .none },
  { cls := 6, slots := #[.null, .int 2, .int 0, .null], vm := .none },
  { cls := 6, slots := #[.null, .int 3, .int 0, .null], vm := .none }]
def classes : Array Class := #[k0, k1, k2, k3, k4, k5, k6, k7, k8, k9, k10, k11]
def interned : List (Array UInt16 × Addr) := []
def slotsUsed : Nat := 21
def theMethod : MethodId := ⟨1, 2⟩
def args0 : Array Value := #[.int 3, .int 7]
def aboutOver (below : List Frame) : State where
  vm := { classes := classes, interned := interned.toArray }
  heap := heap
  slotsUsed := slotsUsed
  threads := #[{ frames := .invoking theMethod args0 :: below }]
def below0 : List Frame := [.native { method := ⟨0, 0⟩, args := #[] }]
def about1 : State := aboutOver below0
def p0 : Program := .bare "" "" ""
def e0 : Env := launch0.env 0 0 0
theorem w_frames : about1.frames = Frame.invoking theMethod args0 :: below0 := rfl
set_option maxRecDepth 65536 in
theorem w_args : argsFit about1.vm theMethod args0 = true := by decide +kernel
set_option maxRecDepth 65536 in
theorem w_heap : heapFits about1 = true := by decide +kernel
set_option maxRecDepth 65536 in
theorem w_runnable : about1.curStatus? = some .runnable := by decide +kernel
set_option maxRecDepth 65536 in
theorem w_alone : about1.alone = true := by decide +kernel
set_option maxRecDepth 65536 in
theorem w_named : about1.methodNamed? x = some theMethod := by decide +kernel
set_option maxRecDepth 65536 in
theorem w_hears : about1.hears theMethod below0 = true := by decide +kernel
set_option maxRecDepth 65536 in
theorem w_ripe : about1.ripe theMethod args0 below0 = true := by decide +kernel
theorem w_running : about1.status = .running := rfl
set_option maxRecDepth 65536 in
theorem w_room : about1.hasRoom e0.platform room_1 = true :=
  launch0.hasRoom_least _ room_1 (by decide +kernel) (by decide +kernel) (by decide +kernel) (by decide +kernel) (by decide +kernel) (by decide +kernel)
theorem allAtoms_all (ts : List Jvm.Cond) (a : Array Jvm.Value) (st : Jvm.State) : (allAtoms ts).before a st = ts.all (fun c => c.before a st) := by
  induction ts with
  | nil => rfl
  | cons c t ih =>
    show (Jvm.Cond.and c (allAtoms t)).before a st = _
    rw [Jvm.Cond.before_and, ih, List.all_cons]
def words1 : List Jvm.Cond := Jvm.Cond.code x code maxLocals ret :: tables_1
/-- a 'code' word, met by the world's own term for the bytes: nothing is compared byte by byte -/
theorem code_word {y : MethodName} {bytes : ByteArray} {mx : Nat} {rt : Option FieldType} {a : Array Value} {s : State} {m : MethodId} {meth : Method} {c : Code} (h1 : s.methodNamed? y = some m) (h2 : s.vm.method? m = some meth) (h3 : meth.code = some c) (h4 : c.code = bytes)
    (h5 : (c.maxLocals == mx && c.exceptionTable.isEmpty && decide (c.maxStack ≤ mostOperands) && decide (meth.sig.returnType = rt) && !meth.locks && decide (parseMethodDescriptor y.desc = some meth.sig)) = true) : (Jvm.Cond.code y bytes mx rt).before a s = true := by
  simp only [Bool.and_eq_true, beq_iff_eq, Bool.not_eq_true', decide_eq_true_eq] at h5
  obtain ⟨⟨⟨⟨⟨g1, g2⟩, g3⟩, g4⟩, g5⟩, g6⟩ := h5
  simp [Cond.before, Cond.holds, Cond.value, h1, h2, h3, h4, g1, g2, g3, g4, g5, g6]
def isCode : Jvm.Cond → Bool
  | .code _ _ _ _ => true
  | _ => false
theorem all_split {L : List Jvm.Cond} {P : Jvm.Cond → Bool} (h1 : L.all (fun c => isCode c || P c) = true) (h2 : ∀ c ∈ L.filter isCode, P c = true) : L.all P = true := by
  refine List.all_eq_true.mpr fun c hc => ?_
  have h := List.all_eq_true.mp h1 c hc
  rcases Bool.eq_false_or_eq_true (isCode c) with hi | hi
  · exact h2 c (List.mem_filter.mpr ⟨hc, hi⟩)
  · simpa [hi] using h
set_option maxRecDepth 65536 in
theorem w_c0 : (Jvm.Cond.code x code maxLocals ret).before args0 about1 = true := code_word (m := ⟨1, 2⟩) (meth := k1m2) (c := k1c2) (by decide +kernel) rfl rfl rfl (by decide +kernel)
set_option maxRecDepth 65536 in
theorem w_c1 : (Jvm.Cond.code ({ cls := "com/example/slim_kripke/slimkripke/smv/ValueKindAcceptsPinLaw", name := "kind", desc := "(I)Lcom/example/slim_kripke/slimkripke/smv/ValueKind;" } : Jvm.MethodName) method_2_code (1 : Nat) (Option.some (Jvm.ClassFile.FieldType.object "com/example/slim_kripke/slimkripke/smv/ValueKind"))).before args0 about1 = true := code_word (m := ⟨1, 1⟩) (meth := k1m1) (c := k1c1) (by decide +kernel) rfl rfl rfl (by decide +kernel)
set_option maxRecDepth 65536 in
theorem w_c2 : (Jvm.Cond.code ({ cls := "com/example/slim_kripke/slimkripke/smv/ValueKind", name := "accepts", desc := "(Lcom/example/slim_kripke/slimkripke/smv/ValueKind;)Z" } : Jvm.MethodName) prog_101_method_6_code (2 : Nat) (Option.some Jvm.ClassFile.FieldType.boolean)).before args0 about1 = true := code_word (m := ⟨6, 0⟩) (meth := k6m0) (c := k6c0) (by decide +kernel) rfl rfl rfl (by decide +kernel)
def codes1 : List Jvm.Cond := [Jvm.Cond.code x code maxLocals ret, Jvm.Cond.code ({ cls := "com/example/slim_kripke/slimkripke/smv/ValueKindAcceptsPinLaw", name := "kind", desc := "(I)Lcom/example/slim_kripke/slimkripke/smv/ValueKind;" } : Jvm.MethodName) method_2_code (1 : Nat) (Option.some (Jvm.ClassFile.FieldType.object "com/example/slim_kripke/slimkripke/smv/ValueKind")), Jvm.Cond.code ({ cls := "com/example/slim_kripke/slimkripke/smv/ValueKind", name := "accepts", desc := "(Lcom/example/slim_kripke/slimkripke/smv/ValueKind;)Z" } : Jvm.MethodName) prog_101_method_6_code (2 : Nat) (Option.some Jvm.ClassFile.FieldType.boolean)]
set_option maxRecDepth 65536 in
theorem codes_eq : words1.filter isCode = codes1 := rfl
theorem w_codes : ∀ c ∈ words1.filter isCode, c.before args0 about1 = true := by
  rw [codes_eq]
  intro c hc
  simp only [codes1, List.mem_cons, List.not_mem_nil, or_false] at hc
  rcases hc with rfl | rfl | rfl
  · exact w_c0
  · exact w_c1
  · exact w_c2
set_option maxRecDepth 65536 in
theorem w_t1 : words1.all (fun c => isCode c || c.before args0 about1) = true := by decide +kernel
theorem w_tables : (allAtoms (Jvm.Cond.code x code maxLocals ret :: tables_1)).before args0 about1 = true := by
  rw [allAtoms_all]
  show words1.all (fun c => c.before args0 about1) = true
  refine all_split ?_ w_codes
  rw [w_t1]
set_option maxRecDepth 65536 in
theorem w_case : (Jvm.Cond.and given_1 narrow_1).before args0 about1 = true := by decide +kernel
theorem w_applies : (headSpec (Jvm.Cond.code x code maxLocals ret :: tables_1) room_1).applies x e0.platform about1 = true :=
  (Spec.applies_iff w_frames).mpr ⟨w_running, w_runnable, w_alone, w_named, w_hears, w_ripe, w_room, w_tables⟩
theorem atStart : AtStart classFile x code maxLocals ret World_1 tables_1 room_1 Calls_1 rest_1 Pre_1 launch0 p0 e0 about1 theMethod args0 below0 :=
  ⟨lists_1, trivial, launch0.admits_env _ _ _, launch0.least_env, fairChoices_fair.cas, fairChoices_fair.clock, w_frames, w_args, w_heap, w_applies, trivial, trivial, w_case⟩
end start1
theorem witness_1 : WitnessClaimed_1 := ⟨start1.p0, start1.e0, start1.about1, start1.theMethod, start1.args0, start1.below0, start1.atStart⟩
end Jvm.Pilot.@@N@@
