import JvmDerived
import JvmDerived.Pilot.@@N@@Statement
import JvmDerived.Pilot.@@N@@Code
set_option linter.unusedVariables false
set_option linter.unusedSimpArgs false
namespace Jvm.RoadKit
open Sem ClassFile Op Lib Jvm.Stand Jvm.Free Jvm.LawKit
section New
variable {p : Program} {l : Launch} {e : Env} {R : Room} {s : State} {m : MethodId} {args : Array Value} {below : List Frame} {meth : Method} {c : Code} {T : State} {locs : List Loc} {cells slots : Nat}
theorem retI (X : Stand p l e R s m args below meth c T locs cells slots) (hx : p.tables.exec = Jvm.exec) {pc : Nat} {Ls : Array Slot} {z : Int32} {rest : List Value} (hret : meth.sig.returnType = some .int) (hd : decode c.code pc = .ok (.ireturn, 1)) {fs : List Frame}
    (hl : ∀ (f : JFrame) (acts : List Action), f.method = m → f.locked = none → f.entered = [] → (doReturn e (T.setTop f) acts (some (.int z))).1 = T.setFrames fs) : Steps p.tables e below (T.setTop (mkF m pc Ls (.int z :: rest))) (T.setFrames fs) := by
  have hm' : T.vm.method? m = some meth := X.method'
  have hn : narrow .int (.int z) = .int z := rfl
  show Steps p.tables e below (T.setTop { method := m, pc := pc, locals := Ls, stack := _ :: rest, locked := none }) _
  jvm_step X.here [X.here.top, hx, hd, hm', hret, hn]
  first | (intro acts; rw [hl _ acts rfl rfl rfl]) | rw [hl _ _ rfl rfl rfl]
  exact Steps.refl _
end New
end Jvm.RoadKit
namespace Jvm.Pilot.@@N@@
open Jvm Jvm.ClassFile Sem Op Lib Jvm.Free Jvm.Stand Jvm.LawKit Jvm.RoadKit Bundle Jvm.Pilot.@@N@@.Jvm.D
def QP (w : Option Value) (h0 : Heap) (n0 : Nat) (v : Option Value) (h : Heap) (L : List Loc) : Prop := v = w ∧ Fr n0 L ∧ h = h0
def QL (w : Option Value) (n0 : Nat) (v : Option Value) (h : Heap) (L : List Loc) : Prop := v = w ∧ Fr n0 L ∧ True
theorem own_selp {s : State} {args : Array Value} {C : String} {y y0 : MethodName} (hc : y0.cls = y.cls) (hs : (Jvm.Cond.selects C y0 y0).before args s = true) (hp : s.PrivateAt y) (hi : (Jvm.Cond.instanceMethod y).before args s = true) (hy : y.cls ≠ "java/lang/invoke/MethodHandle" ∧ y.cls ≠ "java/lang/invoke/VarHandle") : (Jvm.Cond.selects y.cls y y).before args s = true := by
  obtain ⟨c2, r2, m2, q1, q2, q3, q4, kP, hkP, hkPi⟩ := Cond.selects_spec hs
  exact selects_self_of_private (by rw [← hc]; exact findClass_of_methodNamed q3) hkP hkPi hp hi hy
theorem own_seli {s : State} {args : Array Value} {n : Nat} {y : MethodName} (hs : (Jvm.Cond.instantiable y.cls n).before args s = true) (hp : s.PrivateAt y) (hi : (Jvm.Cond.instanceMethod y).before args s = true) (hy : y.cls ≠ "java/lang/invoke/MethodHandle" ∧ y.cls ≠ "java/lang/invoke/VarHandle") : (Jvm.Cond.selects y.cls y y).before args s = true := by
  obtain ⟨c, k, hc, hk, -, hniab, -, -⟩ := Cond.instantiable_spec hs
  exact selects_self_of_private hc hk (Bool.or_eq_false_iff.mp hniab).1 hp hi hy
theorem own_ord {s : State} {args : Array Value} {t : Term} {K n : String} {k : Int32} {a : Addr} (ev : t.eval args s none [] s = some (.ref a)) (h : (Jvm.Cond.eq (Term.field t K n "I") (Term.int k)).value args s none s [] = some true) : Fld s s.heap a K n "I" (.int k) := by
  obtain ⟨x, y, hx, hy, q1, q2⟩ := cmp_v (Or.inl h)
  rw [Term.int_eval] at hy
  cases hy
  obtain ⟨z, rfl⟩ := q2
  have h2 := Cond.eq_ints hx (Term.int_eval (args := args) (first := s) (o := none) (idx := []) (s := s) k)
  rw [h2] at h
  have h3 : z = k := by simpa using h
  subst h3
  rw [fld_at ev] at hx
  exact Fld.start hx
theorem d1_0 : decode method_2_code 0 = .ok (.iload_n 0, 1) := by decide +kernel
theorem d1_1 : decode method_2_code 1 = .ok (.iconst 3, 1) := by decide +kernel
theorem d1_2 : decode method_2_code 2 = .ok (.iand, 1) := by decide +kernel
theorem d1_3 : decode method_2_code 3 = .ok (.istore_n 1, 1) := by decide +kernel
theorem d1_4 : decode method_2_code 4 = .ok (.iload_n 1, 1) := by decide +kernel
theorem d1_5 : decode method_2_code 5 = .ok (.ifCond .ne 7, 3) := by decide +kernel
theorem d1_8 : decode method_2_code 8 = .ok (.getstatic 7, 3) := by decide +kernel
theorem d1_11 : decode method_2_code 11 = .ok (.areturn, 1) := by decide +kernel
theorem d1_12 : decode method_2_code 12 = .ok (.iload_n 1, 1) := by decide +kernel
theorem d1_13 : decode method_2_code 13 = .ok (.iconst 1, 1) := by decide +kernel
theorem d1_14 : decode method_2_code 14 = .ok (.if_icmp .ne 7, 3) := by decide +kernel
theorem d1_17 : decode method_2_code 17 = .ok (.getstatic 13, 3) := by decide +kernel
theorem d1_20 : decode method_2_code 20 = .ok (.areturn, 1) := by decide +kernel
theorem d1_21 : decode method_2_code 21 = .ok (.iload_n 1, 1) := by decide +kernel
theorem d1_22 : decode method_2_code 22 = .ok (.iconst 2, 1) := by decide +kernel
theorem d1_23 : decode method_2_code 23 = .ok (.if_icmp .ne 7, 3) := by decide +kernel
theorem d1_26 : decode method_2_code 26 = .ok (.getstatic 16, 3) := by decide +kernel
theorem d1_29 : decode method_2_code 29 = .ok (.areturn, 1) := by decide +kernel
theorem d1_30 : decode method_2_code 30 = .ok (.getstatic 19, 3) := by decide +kernel
theorem d1_33 : decode method_2_code 33 = .ok (.areturn, 1) := by decide +kernel
theorem pn_1 : plainName "com/example/pedantic_conformance/pedanticconformance/rules/safetycenter/TruthNotPinLaw" = true := by first | (simp [plainName, overriddenIn]; done) | decide +kernel
theorem ef_1 (m : MethodId) (x0 : Int32) : entryFrame m #[(.int x0)] 2 = mkF m 0 #[.val (.int x0), .unset] [] := by first | (simp [entryFrame, mkF, argsToLocals, Value.category]; done) | rfl
def f1 (p0 : Int32) (wT : Addr) (wF : Addr) (wU : Addr) (wJ : Addr) : Addr := (if (p0 &&& (3 : Int32)) = (0 : Int32) then wT else (if (p0 &&& (3 : Int32)) = (1 : Int32) then wF else (if (p0 &&& (3 : Int32)) = (2 : Int32) then wU else wJ)))
set_option maxRecDepth 65536 in
set_option maxHeartbeats 40000000 in
theorem rm1 (l : Launch) (Z : State) (a0 : Array Value) (hw : ∀ d ∈ tables_1, d.before a0 Z = true) (ws : List Jvm.Cond) (p0 : Int32) (wT : Addr) (wF : Addr) (wU : Addr) (wJ : Addr) (h0 : Heap) (n0 : Nat) (Z0 : n0 ≤ h0.size) (I0 : Sta Z h0 "com/example/pedantic_conformance/pedanticconformance/rules/safetycenter/Truth" "TRUE" "Lcom/example/pedantic_conformance/pedanticconformance/rules/safetycenter/Truth;" (.ref wT)) (I1 : Sta Z h0 "com/example/pedantic_conformance/pedanticconformance/rules/safetycenter/Truth" "FALSE" "Lcom/example/pedantic_conformance/pedanticconformance/rules/safetycenter/Truth;" (.ref wF)) (I2 : Sta Z h0 "com/example/pedantic_conformance/pedanticconformance/rules/safetycenter/Truth" "UNKNOWN" "Lcom/example/pedantic_conformance/pedanticconformance/rules/safetycenter/Truth;" (.ref wU)) (I3 : Sta Z h0 "com/example/pedantic_conformance/pedanticconformance/rules/safetycenter/Truth" "UNJUDGED" "Lcom/example/pedantic_conformance/pedanticconformance/rules/safetycenter/Truth;" (.ref wJ)) :
    MetFree l (⟨"com/example/pedantic_conformance/pedanticconformance/rules/safetycenter/TruthNotPinLaw", "pick", "(I)Lcom/example/pedantic_conformance/pedanticconformance/rules/safetycenter/Truth;"⟩ : MethodName) (head1 (Jvm.Cond.code (⟨"com/example/pedantic_conformance/pedanticconformance/rules/safetycenter/TruthNotPinLaw", "pick", "(I)Lcom/example/pedantic_conformance/pedanticconformance/rules/safetycenter/Truth;"⟩ : MethodName) method_2_code 2 (some (.object "com/example/pedantic_conformance/pedanticconformance/rules/safetycenter/Truth")) :: ws) ({ frames := 0, cells := 0, slots := 0, locals := 0 } : Room)) (fun a U => a = #[(.int p0)] ∧ Z.Warmed39 U.vm ∧ U.heap = h0) (fun _ _ _ _ _ => True) (fun _ U o U' => ∃ v L, o = .returned v ∧ QP (some (.ref (f1 p0 wT wF wU wJ))) h0 n0 v U'.heap L ∧ FrameEnd U o U' L ({ frames := 0, cells := 0, slots := 0, locals := 0 } : Room).cells ({ frames := 0, cells := 0, slots := 0, locals := 0 } : Room).slots) := by
  refine MetFree.of_bodySF (plainFor_of_name pn_1) hisR ?_
  intro p e s m args below meth c s₁ Bd hml0 hP hK
  obtain ⟨rfl, hZ, hh⟩ := hP
  have hx := Bd.exec
  have hby := Bd.bytes
  have hml : c.maxLocals = 2 := hml0
  have hown : s.vm.findClass "com/example/pedantic_conformance/pedanticconformance/rules/safetycenter/TruthNotPinLaw" = some m.cls := findClass_of_methodNamed Bd.named
  have hnm := (name_of_methodNamed Bd.named Bd.method).1
  have X0 : Stand p l e ({ frames := 0, cells := 0, slots := 0, locals := 0 } : Room) s m #[(.int p0)] below meth c s₁ [] 0 0 := Stand.of_body Bd
  have e0 : s₁.heap = h0 := by rw [← hh, Bd.state]; rfl
  have N0 := Fr.nil n0
  have K0 : Keep h0 h0 [] := Keep.refl _ _
  have pre0 : ∀ t, Steps p.tables e below (s₁.setTop (mkF m 0 #[.val (.int p0), .unset] [])) t → Steps p.tables e below (s₁.setTop (entryFrame m #[(.int p0)] 2)) t := fun t k => castTop (ef_1 m p0) k
  have pre4 : ∀ t, Steps p.tables e below (s₁.setTop (mkF m 5 #[.val (.int p0), .val (.int (p0 &&& (3 : Int32)))] [(.int (p0 &&& (3 : Int32)))])) t → Steps p.tables e below (s₁.setTop (entryFrame m #[(.int p0)] 2)) t := fun t k => pre0 t (by
    show Steps p.tables e below (s₁.setTop (mkF m 0 #[.val (.int p0), .unset] [])) _
    refine XS.iloadN X0.here hx rfl (hb hby d1_0) rfl ?_
    show Steps p.tables e below (s₁.setTop (mkF m 1 #[.val (.int p0), .unset] [(.int p0)])) _
    refine XS.iconst X0.here hx rfl (hb hby d1_1) ?_
    show Steps p.tables e below (s₁.setTop (mkF m 2 #[.val (.int p0), .unset] [(.int (3 : Int32)), (.int p0)])) _
    refine XS.iand X0.here hx rfl (hb hby d1_2) rfl ?_
    show Steps p.tables e below (s₁.setTop (mkF m 3 #[.val (.int p0), .unset] [(.int (p0 &&& (3 : Int32)))])) _
    refine XS.istoreN X0.here hx rfl (hb hby d1_3) rfl (l' := #[.val (.int p0), .val (.int (p0 &&& (3 : Int32)))]) rfl ?_
    show Steps p.tables e below (s₁.setTop (mkF m 4 #[.val (.int p0), .val (.int (p0 &&& (3 : Int32)))] [])) _
    refine XS.iloadN X0.here hx rfl (hb hby d1_4) rfl ?_
    exact k)
  by_cases hc5_1 : (p0 &&& (3 : Int32)) = (0 : Int32)
  · have pre5 : ∀ t, Steps p.tables e below (s₁.setTop (mkF m 8 #[.val (.int p0), .val (.int (p0 &&& (3 : Int32)))] [])) t → Steps p.tables e below (s₁.setTop (entryFrame m #[(.int p0)] 2)) t := fun t k => pre4 t (by
      show Steps p.tables e below (s₁.setTop (mkF m 5 #[.val (.int p0), .val (.int (p0 &&& (3 : Int32)))] [(.int (p0 &&& (3 : Int32)))])) _
      refine XS.ifNo X0.here hx rfl (hb hby d1_5) rfl ((if0 _ _).trans (teq hc5_1).2) ?_
      exact k)
    obtain ⟨T6, X6, e6, st6⟩ := getS2 X0 hx hZ hown (host := "") (Or.inl (hw _ (List.mem_of_getElem? (i := 4) rfl))) Via.refl e0 I0 (g := (mkF m 8 #[.val (.int p0), .val (.int (p0 &&& (3 : Int32)))] [])) rfl (hb hby d1_8)
    have pre7 : ∀ t, Steps p.tables e below (T6.setTop (mkF m 11 #[.val (.int p0), .val (.int (p0 &&& (3 : Int32)))] [(.ref wT)])) t → Steps p.tables e below (s₁.setTop (entryFrame m #[(.int p0)] 2)) t := fun t k => pre5 t (st6 _ k)
    obtain ⟨fs, hr, hrun, hended, hW, hsame⟩ := X6.leave (v := some (.ref wT)) (fun h => by rw [Bd.returns] at h; cases h)
    refine ⟨_, _, ?_, hrun, hended, _, _, rfl, ?_, ⟨_, rfl⟩, hW, hsame.mono (by decide) (by decide)⟩
    · refine pre7 _ ?_
      jvm_step X6.here [X6.here.top, hx, (hb hby d1_11), X6.method', Bd.returns, Value.isRef, FieldType.isReference]
      first | (intro acts; rw [hr _ acts rfl rfl rfl]) | rw [hr _ _ rfl rfl rfl]
      exact Steps.refl _
    · exact ⟨by simp only [f1, if_pos hc5_1], N0, e6⟩
  · have pre8 : ∀ t, Steps p.tables e below (s₁.setTop (mkF m 14 #[.val (.int p0), .val (.int (p0 &&& (3 : Int32)))] [(.int (1 : Int32)), (.int (p0 &&& (3 : Int32)))])) t → Steps p.tables e below (s₁.setTop (entryFrame m #[(.int p0)] 2)) t := fun t k => pre4 t (by
      show Steps p.tables e below (s₁.setTop (mkF m 5 #[.val (.int p0), .val (.int (p0 &&& (3 : Int32)))] [(.int (p0 &&& (3 : Int32)))])) _
      refine XS.ifYes X0.here hx rfl (pc0 := 5) (pc' := 12) rfl (hb hby d1_5) rfl ((if0 _ _).trans (feq hc5_1).2) (by decide) (by decide) ?_
      show Steps p.tables e below (s₁.setTop (mkF m 12 #[.val (.int p0), .val (.int (p0 &&& (3 : Int32)))] [])) _
      refine XS.iloadN X0.here hx rfl (hb hby d1_12) rfl ?_
      show Steps p.tables e below (s₁.setTop (mkF m 13 #[.val (.int p0), .val (.int (p0 &&& (3 : Int32)))] [(.int (p0 &&& (3 : Int32)))])) _
      refine XS.iconst X0.here hx rfl (hb hby d1_13) ?_
      exact k)
    by_cases hc14_2 : (p0 &&& (3 : Int32)) = (1 : Int32)
    · have pre9 : ∀ t, Steps p.tables e below (s₁.setTop (mkF m 17 #[.val (.int p0), .val (.int (p0 &&& (3 : Int32)))] [])) t → Steps p.tables e below (s₁.setTop (entryFrame m #[(.int p0)] 2)) t := fun t k => pre8 t (by
        show Steps p.tables e below (s₁.setTop (mkF m 14 #[.val (.int p0), .val (.int (p0 &&& (3 : Int32)))] [(.int (1 : Int32)), (.int (p0 &&& (3 : Int32)))])) _
        refine XS.icmpNo X0.here hx rfl (hb hby d1_14) rfl (teq hc14_2).2 ?_
        exact k)
      obtain ⟨T10, X10, e10, st10⟩ := getS2 X0 hx hZ hown (host := "") (Or.inl (hw _ (List.mem_of_getElem? (i := 17) rfl))) Via.refl e0 I1 (g := (mkF m 17 #[.val (.int p0), .val (.int (p0 &&& (3 : Int32)))] [])) rfl (hb hby d1_17)
      have pre11 : ∀ t, Steps p.tables e below (T10.setTop (mkF m 20 #[.val (.int p0), .val (.int (p0 &&& (3 : Int32)))] [(.ref wF)])) t → Steps p.tables e below (s₁.setTop (entryFrame m #[(.int p0)] 2)) t := fun t k => pre9 t (st10 _ k)
      obtain ⟨fs, hr, hrun, hended, hW, hsame⟩ := X10.leave (v := some (.ref wF)) (fun h => by rw [Bd.returns] at h; cases h)
      refine ⟨_, _, ?_, hrun, hended, _, _, rfl, ?_, ⟨_, rfl⟩, hW, hsame.mono (by decide) (by decide)⟩
      · refine pre11 _ ?_
        jvm_step X10.here [X10.here.top, hx, (hb hby d1_20), X10.method', Bd.returns, Value.isRef, FieldType.isReference]
        first | (intro acts; rw [hr _ acts rfl rfl rfl]) | rw [hr _ _ rfl rfl rfl]
        exact Steps.refl _
      · exact ⟨by simp only [f1, if_neg hc5_1, if_pos hc14_2], N0, e10⟩
    · have pre12 : ∀ t, Steps p.tables e below (s₁.setTop (mkF m 23 #[.val (.int p0), .val (.int (p0 &&& (3 : Int32)))] [(.int (2 : Int32)), (.int (p0 &&& (3 : Int32)))])) t → Steps p.tables e below (s₁.setTop (entryFrame m #[(.int p0)] 2)) t := fun t k => pre8 t (by
        show Steps p.tables e below (s₁.setTop (mkF m 14 #[.val (.int p0), .val (.int (p0 &&& (3 : Int32)))] [(.int (1 : Int32)), (.int (p0 &&& (3 : Int32)))])) _
        refine XS.icmpYes X0.here hx rfl (pc0 := 14) (pc' := 21) rfl (hb hby d1_14) rfl (feq hc14_2).2 (by decide) (by decide) ?_
        show Steps p.tables e below (s₁.setTop (mkF m 21 #[.val (.int p0), .val (.int (p0 &&& (3 : Int32)))] [])) _
        refine XS.iloadN X0.here hx rfl (hb hby d1_21) rfl ?_
        show Steps p.tables e below (s₁.setTop (mkF m 22 #[.val (.int p0), .val (.int (p0 &&& (3 : Int32)))] [(.int (p0 &&& (3 : Int32)))])) _
        refine XS.iconst X0.here hx rfl (hb hby d1_22) ?_
        exact k)
      by_cases hc23_3 : (p0 &&& (3 : Int32)) = (2 : Int32)
      · have pre13 : ∀ t, Steps p.tables e below (s₁.setTop (mkF m 26 #[.val (.int p0), .val (.int (p0 &&& (3 : Int32)))] [])) t → Steps p.tables e below (s₁.setTop (entryFrame m #[(.int p0)] 2)) t := fun t k => pre12 t (by
          show Steps p.tables e below (s₁.setTop (mkF m 23 #[.val (.int p0), .val (.int (p0 &&& (3 : Int32)))] [(.int (2 : Int32)), (.int (p0 &&& (3 : Int32)))])) _
          refine XS.icmpNo X0.here hx rfl (hb hby d1_23) rfl (teq hc23_3).2 ?_
          exact k)
        obtain ⟨T14, X14, e14, st14⟩ := getS2 X0 hx hZ hown (host := "") (Or.inl (hw _ (List.mem_of_getElem? (i := 28) rfl))) Via.refl e0 I2 (g := (mkF m 26 #[.val (.int p0), .val (.int (p0 &&& (3 : Int32)))] [])) rfl (hb hby d1_26)
        have pre15 : ∀ t, Steps p.tables e below (T14.setTop (mkF m 29 #[.val (.int p0), .val (.int (p0 &&& (3 : Int32)))] [(.ref wU)])) t → Steps p.tables e below (s₁.setTop (entryFrame m #[(.int p0)] 2)) t := fun t k => pre13 t (st14 _ k)
        obtain ⟨fs, hr, hrun, hended, hW, hsame⟩ := X14.leave (v := some (.ref wU)) (fun h => by rw [Bd.returns] at h; cases h)
        refine ⟨_, _, ?_, hrun, hended, _, _, rfl, ?_, ⟨_, rfl⟩, hW, hsame.mono (by decide) (by decide)⟩
        · refine pre15 _ ?_
          jvm_step X14.here [X14.here.top, hx, (hb hby d1_29), X14.method', Bd.returns, Value.isRef, FieldType.isReference]
          first | (intro acts; rw [hr _ acts rfl rfl rfl]) | rw [hr _ _ rfl rfl rfl]
          exact Steps.refl _
        · exact ⟨by simp only [f1, if_neg hc5_1, if_neg hc14_2, if_pos hc23_3], N0, e14⟩
      · have pre16 : ∀ t, Steps p.tables e below (s₁.setTop (mkF m 30 #[.val (.int p0), .val (.int (p0 &&& (3 : Int32)))] [])) t → Steps p.tables e below (s₁.setTop (entryFrame m #[(.int p0)] 2)) t := fun t k => pre12 t (by
          show Steps p.tables e below (s₁.setTop (mkF m 23 #[.val (.int p0), .val (.int (p0 &&& (3 : Int32)))] [(.int (2 : Int32)), (.int (p0 &&& (3 : Int32)))])) _
          refine XS.icmpYes X0.here hx rfl (pc0 := 23) (pc' := 30) rfl (hb hby d1_23) rfl (feq hc23_3).2 (by decide) (by decide) ?_
          exact k)
        obtain ⟨T17, X17, e17, st17⟩ := getS2 X0 hx hZ hown (host := "") (Or.inl (hw _ (List.mem_of_getElem? (i := 7) rfl))) Via.refl e0 I3 (g := (mkF m 30 #[.val (.int p0), .val (.int (p0 &&& (3 : Int32)))] [])) rfl (hb hby d1_30)
        have pre18 : ∀ t, Steps p.tables e below (T17.setTop (mkF m 33 #[.val (.int p0), .val (.int (p0 &&& (3 : Int32)))] [(.ref wJ)])) t → Steps p.tables e below (s₁.setTop (entryFrame m #[(.int p0)] 2)) t := fun t k => pre16 t (st17 _ k)
        obtain ⟨fs, hr, hrun, hended, hW, hsame⟩ := X17.leave (v := some (.ref wJ)) (fun h => by rw [Bd.returns] at h; cases h)
        refine ⟨_, _, ?_, hrun, hended, _, _, rfl, ?_, ⟨_, rfl⟩, hW, hsame.mono (by decide) (by decide)⟩
        · refine pre18 _ ?_
          jvm_step X17.here [X17.here.top, hx, (hb hby d1_33), X17.method', Bd.returns, Value.isRef, FieldType.isReference]
          first | (intro acts; rw [hr _ acts rfl rfl rfl]) | rw [hr _ _ rfl rfl rfl]
          exact Steps.refl _
        · exact ⟨by simp only [f1, if_neg hc5_1, if_neg hc14_2, if_neg hc23_3], N0, e17⟩
theorem d2_0 : decode prog_171_method_4_code 0 = .ok (.aload_n 0, 1) := by decide +kernel
theorem d2_1 : decode prog_171_method_4_code 1 = .ok (.getstatic 3, 3) := by decide +kernel
theorem d2_4 : decode prog_171_method_4_code 4 = .ok (.if_acmp .ne 7, 3) := by decide +kernel
theorem d2_7 : decode prog_171_method_4_code 7 = .ok (.getstatic 7, 3) := by decide +kernel
theorem d2_10 : decode prog_171_method_4_code 10 = .ok (.areturn, 1) := by decide +kernel
theorem d2_11 : decode prog_171_method_4_code 11 = .ok (.aload_n 0, 1) := by decide +kernel
theorem d2_12 : decode prog_171_method_4_code 12 = .ok (.getstatic 7, 3) := by decide +kernel
theorem d2_15 : decode prog_171_method_4_code 15 = .ok (.if_acmp .ne 7, 3) := by decide +kernel
theorem d2_18 : decode prog_171_method_4_code 18 = .ok (.getstatic 3, 3) := by decide +kernel
theorem d2_21 : decode prog_171_method_4_code 21 = .ok (.areturn, 1) := by decide +kernel
theorem d2_22 : decode prog_171_method_4_code 22 = .ok (.aload_n 0, 1) := by decide +kernel
theorem d2_23 : decode prog_171_method_4_code 23 = .ok (.areturn, 1) := by decide +kernel
theorem pn_2 : plainName "com/example/pedantic_conformance/pedanticconformance/rules/safetycenter/Truth" = true := by first | (simp [plainName, overriddenIn]; done) | decide +kernel
theorem ef_2 (m : MethodId) (x0 : Addr) : entryFrame m #[(.ref x0)] 1 = mkF m 0 #[.val (.ref x0)] [] := by first | (simp [entryFrame, mkF, argsToLocals, Value.category]; done) | rfl
def f2 (o0 : Addr) (wT : Addr) (wF : Addr) : Addr := (if o0 = wT then wF else (if o0 = wF then wT else o0))
set_option maxRecDepth 65536 in
set_option maxHeartbeats 40000000 in
theorem rm2 (l : Launch) (Z : State) (a0 : Array Value) (hw : ∀ d ∈ tables_1, d.before a0 Z = true) (ws : List Jvm.Cond) (o0 : Addr) (wT : Addr) (wF : Addr) (wU : Addr) (wJ : Addr) (h0 : Heap) (n0 : Nat) (Z0 : n0 ≤ h0.size) (I0 : Sta Z h0 "com/example/pedantic_conformance/pedanticconformance/rules/safetycenter/Truth" "TRUE" "Lcom/example/pedantic_conformance/pedanticconformance/rules/safetycenter/Truth;" (.ref wT)) (I1 : Sta Z h0 "com/example/pedantic_conformance/pedanticconformance/rules/safetycenter/Truth" "FALSE" "Lcom/example/pedantic_conformance/pedanticconformance/rules/safetycenter/Truth;" (.ref wF)) (I2 : Sta Z h0 "com/example/pedantic_conformance/pedanticconformance/rules/safetycenter/Truth" "UNKNOWN" "Lcom/example/pedantic_conformance/pedanticconformance/rules/safetycenter/Truth;" (.ref wU)) (I3 : Sta Z h0 "com/example/pedantic_conformance/pedanticconformance/rules/safetycenter/Truth" "UNJUDGED" "Lcom/example/pedantic_conformance/pedanticconformance/rules/safetycenter/Truth;" (.ref wJ)) :
    MetFree l (⟨"com/example/pedantic_conformance/pedanticconformance/rules/safetycenter/Truth", "not", "()Lcom/example/pedantic_conformance/pedanticconformance/rules/safetycenter/Truth;"⟩ : MethodName) (head1 (Jvm.Cond.code (⟨"com/example/pedantic_conformance/pedanticconformance/rules/safetycenter/Truth", "not", "()Lcom/example/pedantic_conformance/pedanticconformance/rules/safetycenter/Truth;"⟩ : MethodName) prog_171_method_4_code 1 (some (.object "com/example/pedantic_conformance/pedanticconformance/rules/safetycenter/Truth")) :: ws) ({ frames := 0, cells := 0, slots := 0, locals := 0 } : Room)) (fun a U => a = #[(.ref o0)] ∧ Z.Warmed39 U.vm ∧ U.heap = h0) (fun _ _ _ _ _ => True) (fun _ U o U' => ∃ v L, o = .returned v ∧ QP (some (.ref (f2 o0 wT wF))) h0 n0 v U'.heap L ∧ FrameEnd U o U' L ({ frames := 0, cells := 0, slots := 0, locals := 0 } : Room).cells ({ frames := 0, cells := 0, slots := 0, locals := 0 } : Room).slots) := by
  refine MetFree.of_bodySF (plainFor_of_name pn_2) hisR ?_
  intro p e s m args below meth c s₁ Bd hml0 hP hK
  obtain ⟨rfl, hZ, hh⟩ := hP
  have hx := Bd.exec
  have hby := Bd.bytes
  have hml : c.maxLocals = 1 := hml0
  have hown : s.vm.findClass "com/example/pedantic_conformance/pedanticconformance/rules/safetycenter/Truth" = some m.cls := findClass_of_methodNamed Bd.named
  have hnm := (name_of_methodNamed Bd.named Bd.method).1
  have X0 : Stand p l e ({ frames := 0, cells := 0, slots := 0, locals := 0 } : Room) s m #[(.ref o0)] below meth c s₁ [] 0 0 := Stand.of_body Bd
  have e0 : s₁.heap = h0 := by rw [← hh, Bd.state]; rfl
  have N0 := Fr.nil n0
  have K0 : Keep h0 h0 [] := Keep.refl _ _
  have pre0 : ∀ t, Steps p.tables e below (s₁.setTop (mkF m 0 #[.val (.ref o0)] [])) t → Steps p.tables e below (s₁.setTop (entryFrame m #[(.ref o0)] 1)) t := fun t k => castTop (ef_2 m o0) k
  have pre3 : ∀ t, Steps p.tables e below (s₁.setTop (mkF m 1 #[.val (.ref o0)] [(.ref o0)])) t → Steps p.tables e below (s₁.setTop (entryFrame m #[(.ref o0)] 1)) t := fun t k => pre0 t (by
    show Steps p.tables e below (s₁.setTop (mkF m 0 #[.val (.ref o0)] [])) _
    refine XS.aloadN X0.here hx rfl (hb hby d2_0) rfl rfl ?_
    exact k)
  obtain ⟨T4, X4, e4, st4⟩ := getS2 X0 hx hZ hown (host := "") (Or.inl (hw _ (List.mem_of_getElem? (i := 14) rfl))) Via.refl e0 I0 (g := (mkF m 1 #[.val (.ref o0)] [(.ref o0)])) rfl (hb hby d2_1)
  have pre5 : ∀ t, Steps p.tables e below (T4.setTop (mkF m 4 #[.val (.ref o0)] [(.ref wT), (.ref o0)])) t → Steps p.tables e below (s₁.setTop (entryFrame m #[(.ref o0)] 1)) t := fun t k => pre3 t (st4 _ k)
  by_cases hc4_1 : o0 = wT
  · have pre6 : ∀ t, Steps p.tables e below (T4.setTop (mkF m 7 #[.val (.ref o0)] [])) t → Steps p.tables e below (s₁.setTop (entryFrame m #[(.ref o0)] 1)) t := fun t k => pre5 t (by
      show Steps p.tables e below (T4.setTop (mkF m 4 #[.val (.ref o0)] [(.ref wT), (.ref o0)])) _
      refine Jvm.RoadKit.acmp (g := (mkF m 4 #[.val (.ref o0)] [(.ref wT), (.ref o0)])) X4 hx rfl rfl rfl (pc0 := 4) (pc' := 7) (same := true) rfl (hb hby d2_4) rfl (decide_eq_true (congrArg Value.ref hc4_1)) (by decide) (by decide) ?_
      exact k)
    obtain ⟨T7, X7, e7, st7⟩ := getS2 X4 hx hZ hown (host := "") (Or.inl (hw _ (List.mem_of_getElem? (i := 15) rfl))) Via.refl e4 I1 (g := (mkF m 7 #[.val (.ref o0)] [])) rfl (hb hby d2_7)
    have pre8 : ∀ t, Steps p.tables e below (T7.setTop (mkF m 10 #[.val (.ref o0)] [(.ref wF)])) t → Steps p.tables e below (s₁.setTop (entryFrame m #[(.ref o0)] 1)) t := fun t k => pre6 t (st7 _ k)
    obtain ⟨fs, hr, hrun, hended, hW, hsame⟩ := X7.leave (v := some (.ref wF)) (fun h => by rw [Bd.returns] at h; cases h)
    refine ⟨_, _, ?_, hrun, hended, _, _, rfl, ?_, ⟨_, rfl⟩, hW, hsame.mono (by decide) (by decide)⟩
    · refine pre8 _ ?_
      jvm_step X7.here [X7.here.top, hx, (hb hby d2_10), X7.method', Bd.returns, Value.isRef, FieldType.isReference]
      first | (intro acts; rw [hr _ acts rfl rfl rfl]) | rw [hr _ _ rfl rfl rfl]
      exact Steps.refl _
    · exact ⟨by simp only [f2, if_pos hc4_1], N0, e7⟩
  · have pre9 : ∀ t, Steps p.tables e below (T4.setTop (mkF m 12 #[.val (.ref o0)] [(.ref o0)])) t → Steps p.tables e below (s₁.setTop (entryFrame m #[(.ref o0)] 1)) t := fun t k => pre5 t (by
      show Steps p.tables e below (T4.setTop (mkF m 4 #[.val (.ref o0)] [(.ref wT), (.ref o0)])) _
      refine Jvm.RoadKit.acmp (g := (mkF m 4 #[.val (.ref o0)] [(.ref wT), (.ref o0)])) X4 hx rfl rfl rfl (pc0 := 4) (pc' := 11) (same := false) rfl (hb hby d2_4) rfl (decide_eq_false fun q => hc4_1 (Value.ref.inj q)) (by decide) (by decide) ?_
      show Steps p.tables e below (T4.setTop (mkF m 11 #[.val (.ref o0)] [])) _
      refine XS.aloadN X4.here hx rfl (hb hby d2_11) rfl rfl ?_
      exact k)
    obtain ⟨T10, X10, e10, st10⟩ := getS2 X4 hx hZ hown (host := "") (Or.inl (hw _ (List.mem_of_getElem? (i := 15) rfl))) Via.refl e4 I1 (g := (mkF m 12 #[.val (.ref o0)] [(.ref o0)])) rfl (hb hby d2_12)
    have pre11 : ∀ t, Steps p.tables e below (T10.setTop (mkF m 15 #[.val (.ref o0)] [(.ref wF), (.ref o0)])) t → Steps p.tables e below (s₁.setTop (entryFrame m #[(.ref o0)] 1)) t := fun t k => pre9 t (st10 _ k)
    by_cases hc15_2 : o0 = wF
    · have pre12 : ∀ t, Steps p.tables e below (T10.setTop (mkF m 18 #[.val (.ref o0)] [])) t → Steps p.tables e below (s₁.setTop (entryFrame m #[(.ref o0)] 1)) t := fun t k => pre11 t (by
        show Steps p.tables e below (T10.setTop (mkF m 15 #[.val (.ref o0)] [(.ref wF), (.ref o0)])) _
        refine Jvm.RoadKit.acmp (g := (mkF m 15 #[.val (.ref o0)] [(.ref wF), (.ref o0)])) X10 hx rfl rfl rfl (pc0 := 15) (pc' := 18) (same := true) rfl (hb hby d2_15) rfl (decide_eq_true (congrArg Value.ref hc15_2)) (by decide) (by decide) ?_
        exact k)
      obtain ⟨T13, X13, e13, st13⟩ := getS2 X10 hx hZ hown (host := "") (Or.inl (hw _ (List.mem_of_getElem? (i := 14) rfl))) Via.refl e10 I0 (g := (mkF m 18 #[.val (.ref o0)] [])) rfl (hb hby d2_18)
      have pre14 : ∀ t, Steps p.tables e below (T13.setTop (mkF m 21 #[.val (.ref o0)] [(.ref wT)])) t → Steps p.tables e below (s₁.setTop (entryFrame m #[(.ref o0)] 1)) t := fun t k => pre12 t (st13 _ k)
      obtain ⟨fs, hr, hrun, hended, hW, hsame⟩ := X13.leave (v := some (.ref wT)) (fun h => by rw [Bd.returns] at h; cases h)
      refine ⟨_, _, ?_, hrun, hended, _, _, rfl, ?_, ⟨_, rfl⟩, hW, hsame.mono (by decide) (by decide)⟩
      · refine pre14 _ ?_
        jvm_step X13.here [X13.here.top, hx, (hb hby d2_21), X13.method', Bd.returns, Value.isRef, FieldType.isReference]
        first | (intro acts; rw [hr _ acts rfl rfl rfl]) | rw [hr _ _ rfl rfl rfl]
        exact Steps.refl _
      · exact ⟨by simp only [f2, if_neg hc4_1, if_pos hc15_2], N0, e13⟩
    · have pre15 : ∀ t, Steps p.tables e below (T10.setTop (mkF m 23 #[.val (.ref o0)] [(.ref o0)])) t → Steps p.tables e below (s₁.setTop (entryFrame m #[(.ref o0)] 1)) t := fun t k => pre11 t (by
        show Steps p.tables e below (T10.setTop (mkF m 15 #[.val (.ref o0)] [(.ref wF), (.ref o0)])) _
        refine Jvm.RoadKit.acmp (g := (mkF m 15 #[.val (.ref o0)] [(.ref wF), (.ref o0)])) X10 hx rfl rfl rfl (pc0 := 15) (pc' := 22) (same := false) rfl (hb hby d2_15) rfl (decide_eq_false fun q => hc15_2 (Value.ref.inj q)) (by decide) (by decide) ?_
        show Steps p.tables e below (T10.setTop (mkF m 22 #[.val (.ref o0)] [])) _
        refine XS.aloadN X10.here hx rfl (hb hby d2_22) rfl rfl ?_
        exact k)
      obtain ⟨fs, hr, hrun, hended, hW, hsame⟩ := X10.leave (v := some (.ref o0)) (fun h => by rw [Bd.returns] at h; cases h)
      refine ⟨_, _, ?_, hrun, hended, _, _, rfl, ?_, ⟨_, rfl⟩, hW, hsame.mono (by decide) (by decide)⟩
      · refine pre15 _ ?_
        jvm_step X10.here [X10.here.top, hx, (hb hby d2_23), X10.method', Bd.returns, Value.isRef, FieldType.isReference]
        first | (intro acts; rw [hr _ acts rfl rfl rfl]) | rw [hr _ _ rfl rfl rfl]
        exact Steps.refl _
      · exact ⟨by simp only [f2, if_neg hc4_1, if_neg hc15_2], N0, e10⟩
theorem d5_0 : decode prog_171_method_7_code 0 = .ok (.aload_n 0, 1) := by decide +kernel
theorem d5_1 : decode prog_171_method_7_code 1 = .ok (.getstatic 13, 3) := by decide +kernel
theorem d5_4 : decode prog_171_method_7_code 4 = .ok (.if_acmp .eq 10, 3) := by decide +kernel
theorem d5_7 : decode prog_171_method_7_code 7 = .ok (.aload_n 1, 1) := by decide +kernel
theorem d5_8 : decode prog_171_method_7_code 8 = .ok (.getstatic 13, 3) := by decide +kernel
theorem d5_11 : decode prog_171_method_7_code 11 = .ok (.if_acmp .ne 7, 3) := by decide +kernel
theorem d5_14 : decode prog_171_method_7_code 14 = .ok (.getstatic 13, 3) := by decide +kernel
theorem d5_17 : decode prog_171_method_7_code 17 = .ok (.areturn, 1) := by decide +kernel
theorem d5_18 : decode prog_171_method_7_code 18 = .ok (.getstatic 10, 3) := by decide +kernel
theorem d5_21 : decode prog_171_method_7_code 21 = .ok (.areturn, 1) := by decide +kernel
theorem pn_5 : plainName "com/example/pedantic_conformance/pedanticconformance/rules/safetycenter/Truth" = true := by first | (simp [plainName, overriddenIn]; done) | decide +kernel
theorem ef_5 (m : MethodId) (x0 : Addr) (x1 : Addr) : entryFrame m #[(.ref x0), (.ref x1)] 2 = mkF m 0 #[.val (.ref x0), .val (.ref x1)] [] := by first | (simp [entryFrame, mkF, argsToLocals, Value.category]; done) | rfl
def f5 (o0 : Addr) (o1 : Addr) (wU : Addr) (wJ : Addr) : Addr := (if o0 = wJ then wJ else (if o1 = wJ then wJ else wU))
set_option maxRecDepth 65536 in
set_option maxHeartbeats 40000000 in
theorem rm5 (l : Launch) (Z : State) (a0 : Array Value) (hw : ∀ d ∈ tables_1, d.before a0 Z = true) (ws : List Jvm.Cond) (o0 : Addr) (o1 : Addr) (wT : Addr) (wF : Addr) (wU : Addr) (wJ : Addr) (h0 : Heap) (n0 : Nat) (Z0 : n0 ≤ h0.size) (I0 : Sta Z h0 "com/example/pedantic_conformance/pedanticconformance/rules/safetycenter/Truth" "TRUE" "Lcom/example/pedantic_conformance/pedanticconformance/rules/safetycenter/Truth;" (.ref wT)) (I1 : Sta Z h0 "com/example/pedantic_conformance/pedanticconformance/rules/safetycenter/Truth" "FALSE" "Lcom/example/pedantic_conformance/pedanticconformance/rules/safetycenter/Truth;" (.ref wF)) (I2 : Sta Z h0 "com/example/pedantic_conformance/pedanticconformance/rules/safetycenter/Truth" "UNKNOWN" "Lcom/example/pedantic_conformance/pedanticconformance/rules/safetycenter/Truth;" (.ref wU)) (I3 : Sta Z h0 "com/example/pedantic_conformance/pedanticconformance/rules/safetycenter/Truth" "UNJUDGED" "Lcom/example/pedantic_conformance/pedanticconformance/rules/safetycenter/Truth;" (.ref wJ)) :
    MetFree l (⟨"com/example/pedantic_conformance/pedanticconformance/rules/safetycenter/Truth", "weaker", "(Lcom/example/pedantic_conformance/pedanticconformance/rules/safetycenter/Truth;)Lcom/example/pedantic_conformance/pedanticconformance/rules/safetycenter/Truth;"⟩ : MethodName) (head1 (Jvm.Cond.code (⟨"com/example/pedantic_conformance/pedanticconformance/rules/safetycenter/Truth", "weaker", "(Lcom/example/pedantic_conformance/pedanticconformance/rules/safetycenter/Truth;)Lcom/example/pedantic_conformance/pedanticconformance/rules/safetycenter/Truth;"⟩ : MethodName) prog_171_method_7_code 2 (some (.object "com/example/pedantic_conformance/pedanticconformance/rules/safetycenter/Truth")) :: ws) ({ frames := 0, cells := 0, slots := 0, locals := 0 } : Room)) (fun a U => a = #[(.ref o0), (.ref o1)] ∧ Z.Warmed39 U.vm ∧ U.heap = h0) (fun _ _ _ _ _ => True) (fun _ U o U' => ∃ v L, o = .returned v ∧ QP (some (.ref (f5 o0 o1 wU wJ))) h0 n0 v U'.heap L ∧ FrameEnd U o U' L ({ frames := 0, cells := 0, slots := 0, locals := 0 } : Room).cells ({ frames := 0, cells := 0, slots := 0, locals := 0 } : Room).slots) := by
  refine MetFree.of_bodySF (plainFor_of_name pn_5) hisR ?_
  intro p e s m args below meth c s₁ Bd hml0 hP hK
  obtain ⟨rfl, hZ, hh⟩ := hP
  have hx := Bd.exec
  have hby := Bd.bytes
  have hml : c.maxLocals = 2 := hml0
  have hown : s.vm.findClass "com/example/pedantic_conformance/pedanticconformance/rules/safetycenter/Truth" = some m.cls := findClass_of_methodNamed Bd.named
  have hnm := (name_of_methodNamed Bd.named Bd.method).1
  have X0 : Stand p l e ({ frames := 0, cells := 0, slots := 0, locals := 0 } : Room) s m #[(.ref o0), (.ref o1)] below meth c s₁ [] 0 0 := Stand.of_body Bd
  have e0 : s₁.heap = h0 := by rw [← hh, Bd.state]; rfl
  have N0 := Fr.nil n0
  have K0 : Keep h0 h0 [] := Keep.refl _ _
  have pre0 : ∀ t, Steps p.tables e below (s₁.setTop (mkF m 0 #[.val (.ref o0), .val (.ref o1)] [])) t → Steps p.tables e below (s₁.setTop (entryFrame m #[(.ref o0), (.ref o1)] 2)) t := fun t k => castTop (ef_5 m o0 o1) k
  have pre3 : ∀ t, Steps p.tables e below (s₁.setTop (mkF m 1 #[.val (.ref o0), .val (.ref o1)] [(.ref o0)])) t → Steps p.tables e below (s₁.setTop (entryFrame m #[(.ref o0), (.ref o1)] 2)) t := fun t k => pre0 t (by
    show Steps p.tables e below (s₁.setTop (mkF m 0 #[.val (.ref o0), .val (.ref o1)] [])) _
    refine XS.aloadN X0.here hx rfl (hb hby d5_0) rfl rfl ?_
    exact k)
  obtain ⟨T4, X4, e4, st4⟩ := getS2 X0 hx hZ hown (host := "") (Or.inl (hw _ (List.mem_of_getElem? (i := 34) rfl))) Via.refl e0 I3 (g := (mkF m 1 #[.val (.ref o0), .val (.ref o1)] [(.ref o0)])) rfl (hb hby d5_1)
  have pre5 : ∀ t, Steps p.tables e below (T4.setTop (mkF m 4 #[.val (.ref o0), .val (.ref o1)] [(.ref wJ), (.ref o0)])) t → Steps p.tables e below (s₁.setTop (entryFrame m #[(.ref o0), (.ref o1)] 2)) t := fun t k => pre3 t (st4 _ k)
  by_cases hc4_1 : o0 = wJ
  · have pre6 : ∀ t, Steps p.tables e below (T4.setTop (mkF m 14 #[.val (.ref o0), .val (.ref o1)] [])) t → Steps p.tables e below (s₁.setTop (entryFrame m #[(.ref o0), (.ref o1)] 2)) t := fun t k => pre5 t (by
      show Steps p.tables e below (T4.setTop (mkF m 4 #[.val (.ref o0), .val (.ref o1)] [(.ref wJ), (.ref o0)])) _
      refine Jvm.RoadKit.acmp (g := (mkF m 4 #[.val (.ref o0), .val (.ref o1)] [(.ref wJ), (.ref o0)])) X4 hx rfl rfl rfl (pc0 := 4) (pc' := 14) (same := true) rfl (hb hby d5_4) rfl (decide_eq_true (congrArg Value.ref hc4_1)) (by decide) (by decide) ?_
      exact k)
    obtain ⟨T7, X7, e7, st7⟩ := getS2 X4 hx hZ hown (host := "") (Or.inl (hw _ (List.mem_of_getElem? (i := 34) rfl))) Via.refl e4 I3 (g := (mkF m 14 #[.val (.ref o0), .val (.ref o1)] [])) rfl (hb hby d5_14)
    have pre8 : ∀ t, Steps p.tables e below (T7.setTop (mkF m 17 #[.val (.ref o0), .val (.ref o1)] [(.ref wJ)])) t → Steps p.tables e below (s₁.setTop (entryFrame m #[(.ref o0), (.ref o1)] 2)) t := fun t k => pre6 t (st7 _ k)
    obtain ⟨fs, hr, hrun, hended, hW, hsame⟩ := X7.leave (v := some (.ref wJ)) (fun h => by rw [Bd.returns] at h; cases h)
    refine ⟨_, _, ?_, hrun, hended, _, _, rfl, ?_, ⟨_, rfl⟩, hW, hsame.mono (by decide) (by decide)⟩
    · refine pre8 _ ?_
      jvm_step X7.here [X7.here.top, hx, (hb hby d5_17), X7.method', Bd.returns, Value.isRef, FieldType.isReference]
      first | (intro acts; rw [hr _ acts rfl rfl rfl]) | rw [hr _ _ rfl rfl rfl]
      exact Steps.refl _
    · exact ⟨by simp only [f5, if_pos hc4_1], N0, e7⟩
  · have pre9 : ∀ t, Steps p.tables e below (T4.setTop (mkF m 8 #[.val (.ref o0), .val (.ref o1)] [(.ref o1)])) t → Steps p.tables e below (s₁.setTop (entryFrame m #[(.ref o0), (.ref o1)] 2)) t := fun t k => pre5 t (by
      show Steps p.tables e below (T4.setTop (mkF m 4 #[.val (.ref o0), .val (.ref o1)] [(.ref wJ), (.ref o0)])) _
      refine Jvm.RoadKit.acmp (g := (mkF m 4 #[.val (.ref o0), .val (.ref o1)] [(.ref wJ), (.ref o0)])) X4 hx rfl rfl rfl (pc0 := 4) (pc' := 7) (same := false) rfl (hb hby d5_4) rfl (decide_eq_false fun q => hc4_1 (Value.ref.inj q)) (by decide) (by decide) ?_
      show Steps p.tables e below (T4.setTop (mkF m 7 #[.val (.ref o0), .val (.ref o1)] [])) _
      refine XS.aloadN X4.here hx rfl (hb hby d5_7) rfl rfl ?_
      exact k)
    obtain ⟨T10, X10, e10, st10⟩ := getS2 X4 hx hZ hown (host := "") (Or.inl (hw _ (List.mem_of_getElem? (i := 34) rfl))) Via.refl e4 I3 (g := (mkF m 8 #[.val (.ref o0), .val (.ref o1)] [(.ref o1)])) rfl (hb hby d5_8)
    have pre11 : ∀ t, Steps p.tables e below (T10.setTop (mkF m 11 #[.val (.ref o0), .val (.ref o1)] [(.ref wJ), (.ref o1)])) t → Steps p.tables e below (s₁.setTop (entryFrame m #[(.ref o0), (.ref o1)] 2)) t := fun t k => pre9 t (st10 _ k)
    by_cases hc11_2 : o1 = wJ
    · have pre12 : ∀ t, Steps p.tables e below (T10.setTop (mkF m 14 #[.val (.ref o0), .val (.ref o1)] [])) t → Steps p.tables e below (s₁.setTop (entryFrame m #[(.ref o0), (.ref o1)] 2)) t := fun t k => pre11 t (by
        show Steps p.tables e below (T10.setTop (mkF m 11 #[.val (.ref o0), .val (.ref o1)] [(.ref wJ), (.ref o1)])) _
        refine Jvm.RoadKit.acmp (g := (mkF m 11 #[.val (.ref o0), .val (.ref o1)] [(.ref wJ), (.ref o1)])) X10 hx rfl rfl rfl (pc0 := 11) (pc' := 14) (same := true) rfl (hb hby d5_11) rfl (decide_eq_true (congrArg Value.ref hc11_2)) (by decide) (by decide) ?_
        exact k)
      obtain ⟨T13, X13, e13, st13⟩ := getS2 X10 hx hZ hown (host := "") (Or.inl (hw _ (List.mem_of_getElem? (i := 34) rfl))) Via.refl e10 I3 (g := (mkF m 14 #[.val (.ref o0), .val (.ref o1)] [])) rfl (hb hby d5_14)
      have pre14 : ∀ t, Steps p.tables e below (T13.setTop (mkF m 17 #[.val (.ref o0), .val (.ref o1)] [(.ref wJ)])) t → Steps p.tables e below (s₁.setTop (entryFrame m #[(.ref o0), (.ref o1)] 2)) t := fun t k => pre12 t (st13 _ k)
      obtain ⟨fs, hr, hrun, hended, hW, hsame⟩ := X13.leave (v := some (.ref wJ)) (fun h => by rw [Bd.returns] at h; cases h)
      refine ⟨_, _, ?_, hrun, hended, _, _, rfl, ?_, ⟨_, rfl⟩, hW, hsame.mono (by decide) (by decide)⟩
      · refine pre14 _ ?_
        jvm_step X13.here [X13.here.top, hx, (hb hby d5_17), X13.method', Bd.returns, Value.isRef, FieldType.isReference]
        first | (intro acts; rw [hr _ acts rfl rfl rfl]) | rw [hr _ _ rfl rfl rfl]
        exact Steps.refl _
      · exact ⟨by simp only [f5, if_neg hc4_1, if_pos hc11_2], N0, e13⟩
    · have pre15 : ∀ t, Steps p.tables e below (T10.setTop (mkF m 18 #[.val (.ref o0), .val (.ref o1)] [])) t → Steps p.tables e below (s₁.setTop (entryFrame m #[(.ref o0), (.ref o1)] 2)) t := fun t k => pre11 t (by
        show Steps p.tables e below (T10.setTop (mkF m 11 #[.val (.ref o0), .val (.ref o1)] [(.ref wJ), (.ref o1)])) _
        refine Jvm.RoadKit.acmp (g := (mkF m 11 #[.val (.ref o0), .val (.ref o1)] [(.ref wJ), (.ref o1)])) X10 hx rfl rfl rfl (pc0 := 11) (pc' := 18) (same := false) rfl (hb hby d5_11) rfl (decide_eq_false fun q => hc11_2 (Value.ref.inj q)) (by decide) (by decide) ?_
        exact k)
      obtain ⟨T16, X16, e16, st16⟩ := getS2 X10 hx hZ hown (host := "") (Or.inl (hw _ (List.mem_of_getElem? (i := 35) rfl))) Via.refl e10 I2 (g := (mkF m 18 #[.val (.ref o0), .val (.ref o1)] [])) rfl (hb hby d5_18)
      have pre17 : ∀ t, Steps p.tables e below (T16.setTop (mkF m 21 #[.val (.ref o0), .val (.ref o1)] [(.ref wU)])) t → Steps p.tables e below (s₁.setTop (entryFrame m #[(.ref o0), (.ref o1)] 2)) t := fun t k => pre15 t (st16 _ k)
      obtain ⟨fs, hr, hrun, hended, hW, hsame⟩ := X16.leave (v := some (.ref wU)) (fun h => by rw [Bd.returns] at h; cases h)
      refine ⟨_, _, ?_, hrun, hended, _, _, rfl, ?_, ⟨_, rfl⟩, hW, hsame.mono (by decide) (by decide)⟩
      · refine pre17 _ ?_
        jvm_step X16.here [X16.here.top, hx, (hb hby d5_21), X16.method', Bd.returns, Value.isRef, FieldType.isReference]
        first | (intro acts; rw [hr _ acts rfl rfl rfl]) | rw [hr _ _ rfl rfl rfl]
        exact Steps.refl _
      · exact ⟨by simp only [f5, if_neg hc4_1, if_neg hc11_2], N0, e16⟩
theorem d3_0 : decode prog_171_method_5_code 0 = .ok (.aload_n 0, 1) := by decide +kernel
theorem d3_1 : decode prog_171_method_5_code 1 = .ok (.getstatic 7, 3) := by decide +kernel
theorem d3_4 : decode prog_171_method_5_code 4 = .ok (.if_acmp .eq 10, 3) := by decide +kernel
theorem d3_7 : decode prog_171_method_5_code 7 = .ok (.aload_n 1, 1) := by decide +kernel
theorem d3_8 : decode prog_171_method_5_code 8 = .ok (.getstatic 7, 3) := by decide +kernel
theorem d3_11 : decode prog_171_method_5_code 11 = .ok (.if_acmp .ne 7, 3) := by decide +kernel
theorem d3_14 : decode prog_171_method_5_code 14 = .ok (.getstatic 7, 3) := by decide +kernel
theorem d3_17 : decode prog_171_method_5_code 17 = .ok (.areturn, 1) := by decide +kernel
theorem d3_18 : decode prog_171_method_5_code 18 = .ok (.aload_n 0, 1) := by decide +kernel
theorem d3_19 : decode prog_171_method_5_code 19 = .ok (.getstatic 3, 3) := by decide +kernel
theorem d3_22 : decode prog_171_method_5_code 22 = .ok (.if_acmp .ne 7, 3) := by decide +kernel
theorem d3_25 : decode prog_171_method_5_code 25 = .ok (.aload_n 1, 1) := by decide +kernel
theorem d3_26 : decode prog_171_method_5_code 26 = .ok (.goto 8, 3) := by decide +kernel
theorem d3_29 : decode prog_171_method_5_code 29 = .ok (.aload_n 0, 1) := by decide +kernel
theorem d3_30 : decode prog_171_method_5_code 30 = .ok (.aload_n 1, 1) := by decide +kernel
theorem d3_31 : decode prog_171_method_5_code 31 = .ok (.invokevirtual 35, 3) := by decide +kernel
theorem d3_34 : decode prog_171_method_5_code 34 = .ok (.areturn, 1) := by decide +kernel
theorem pn_3 : plainName "com/example/pedantic_conformance/pedanticconformance/rules/safetycenter/Truth" = true := by first | (simp [plainName, overriddenIn]; done) | decide +kernel
theorem pd__Lcom_example_pedantic_conformance_pedanticconformance_rules_safetycenter_Truth__Lcom_example_pedantic_conformance_pedanticconformance_rules_safetycenter_Truth_ : parseMethodDescriptor "(Lcom/example/pedantic_conformance/pedanticconformance/rules/safetycenter/Truth;)Lcom/example/pedantic_conformance/pedanticconformance/rules/safetycenter/Truth;" = some ⟨[(.object "com/example/pedantic_conformance/pedanticconformance/rules/safetycenter/Truth")], some (.object "com/example/pedantic_conformance/pedanticconformance/rules/safetycenter/Truth")⟩ := by decide +kernel
theorem ef_3 (m : MethodId) (x0 : Addr) (x1 : Addr) : entryFrame m #[(.ref x0), (.ref x1)] 2 = mkF m 0 #[.val (.ref x0), .val (.ref x1)] [] := by first | (simp [entryFrame, mkF, argsToLocals, Value.category]; done) | rfl
def f3 (o0 : Addr) (o1 : Addr) (wT : Addr) (wF : Addr) (wU : Addr) (wJ : Addr) : Addr := (if o0 = wF then wF else (if o1 = wF then wF else (if o0 = wT then o1 else (f5 o0 o1 wU wJ))))
set_option maxRecDepth 65536 in
set_option maxHeartbeats 40000000 in
theorem rm3 (l : Launch) (Z : State) (a0 : Array Value) (hw : ∀ d ∈ tables_1, d.before a0 Z = true) (ws : List Jvm.Cond) (o0 : Addr) (o1 : Addr) (wT : Addr) (wF : Addr) (wU : Addr) (wJ : Addr) (h0 : Heap) (n0 : Nat) (Z0 : n0 ≤ h0.size) (I0 : Sta Z h0 "com/example/pedantic_conformance/pedanticconformance/rules/safetycenter/Truth" "TRUE" "Lcom/example/pedantic_conformance/pedanticconformance/rules/safetycenter/Truth;" (.ref wT)) (I1 : Sta Z h0 "com/example/pedantic_conformance/pedanticconformance/rules/safetycenter/Truth" "FALSE" "Lcom/example/pedantic_conformance/pedanticconformance/rules/safetycenter/Truth;" (.ref wF)) (I2 : Sta Z h0 "com/example/pedantic_conformance/pedanticconformance/rules/safetycenter/Truth" "UNKNOWN" "Lcom/example/pedantic_conformance/pedanticconformance/rules/safetycenter/Truth;" (.ref wU)) (I3 : Sta Z h0 "com/example/pedantic_conformance/pedanticconformance/rules/safetycenter/Truth" "UNJUDGED" "Lcom/example/pedantic_conformance/pedanticconformance/rules/safetycenter/Truth;" (.ref wJ)) (I4 : Exa Z h0 o0 "com/example/pedantic_conformance/pedanticconformance/rules/safetycenter/Truth") :
    MetFree l (⟨"com/example/pedantic_conformance/pedanticconformance/rules/safetycenter/Truth", "and", "(Lcom/example/pedantic_conformance/pedanticconformance/rules/safetycenter/Truth;)Lcom/example/pedantic_conformance/pedanticconformance/rules/safetycenter/Truth;"⟩ : MethodName) (head1 (Jvm.Cond.code (⟨"com/example/pedantic_conformance/pedanticconformance/rules/safetycenter/Truth", "and", "(Lcom/example/pedantic_conformance/pedanticconformance/rules/safetycenter/Truth;)Lcom/example/pedantic_conformance/pedanticconformance/rules/safetycenter/Truth;"⟩ : MethodName) prog_171_method_5_code 2 (some (.object "com/example/pedantic_conformance/pedanticconformance/rules/safetycenter/Truth")) :: ws) ({ frames := 1, cells := 0, slots := 0, locals := 13 } : Room)) (fun a U => a = #[(.ref o0), (.ref o1)] ∧ Z.Warmed39 U.vm ∧ U.heap = h0) (fun _ _ _ _ _ => True) (fun _ U o U' => ∃ v L, o = .returned v ∧ QP (some (.ref (f3 o0 o1 wT wF wU wJ))) h0 n0 v U'.heap L ∧ FrameEnd U o U' L ({ frames := 1, cells := 0, slots := 0, locals := 13 } : Room).cells ({ frames := 1, cells := 0, slots := 0, locals := 13 } : Room).slots) := by
  refine MetFree.of_bodySF (plainFor_of_name pn_3) hisR ?_
  intro p e s m args below meth c s₁ Bd hml0 hP hK
  obtain ⟨rfl, hZ, hh⟩ := hP
  have hx := Bd.exec
  have hby := Bd.bytes
  have hml : c.maxLocals = 2 := hml0
  have hown : s.vm.findClass "com/example/pedantic_conformance/pedanticconformance/rules/safetycenter/Truth" = some m.cls := findClass_of_methodNamed Bd.named
  have hnm := (name_of_methodNamed Bd.named Bd.method).1
  have X0 : Stand p l e ({ frames := 1, cells := 0, slots := 0, locals := 13 } : Room) s m #[(.ref o0), (.ref o1)] below meth c s₁ [] 0 0 := Stand.of_body Bd
  have e0 : s₁.heap = h0 := by rw [← hh, Bd.state]; rfl
  have N0 := Fr.nil n0
  have K0 : Keep h0 h0 [] := Keep.refl _ _
  have pre0 : ∀ t, Steps p.tables e below (s₁.setTop (mkF m 0 #[.val (.ref o0), .val (.ref o1)] [])) t → Steps p.tables e below (s₁.setTop (entryFrame m #[(.ref o0), (.ref o1)] 2)) t := fun t k => castTop (ef_3 m o0 o1) k
  have pre4 : ∀ t, Steps p.tables e below (s₁.setTop (mkF m 1 #[.val (.ref o0), .val (.ref o1)] [(.ref o0)])) t → Steps p.tables e below (s₁.setTop (entryFrame m #[(.ref o0), (.ref o1)] 2)) t := fun t k => pre0 t (by
    show Steps p.tables e below (s₁.setTop (mkF m 0 #[.val (.ref o0), .val (.ref o1)] [])) _
    refine XS.aloadN X0.here hx rfl (hb hby d3_0) rfl rfl ?_
    exact k)
  obtain ⟨T5, X5, e5, st5⟩ := getS2 X0 hx hZ hown (host := "") (Or.inl (hw _ (List.mem_of_getElem? (i := 15) rfl))) Via.refl e0 I1 (g := (mkF m 1 #[.val (.ref o0), .val (.ref o1)] [(.ref o0)])) rfl (hb hby d3_1)
  have pre6 : ∀ t, Steps p.tables e below (T5.setTop (mkF m 4 #[.val (.ref o0), .val (.ref o1)] [(.ref wF), (.ref o0)])) t → Steps p.tables e below (s₁.setTop (entryFrame m #[(.ref o0), (.ref o1)] 2)) t := fun t k => pre4 t (st5 _ k)
  by_cases hc4_1 : o0 = wF
  · have pre7 : ∀ t, Steps p.tables e below (T5.setTop (mkF m 14 #[.val (.ref o0), .val (.ref o1)] [])) t → Steps p.tables e below (s₁.setTop (entryFrame m #[(.ref o0), (.ref o1)] 2)) t := fun t k => pre6 t (by
      show Steps p.tables e below (T5.setTop (mkF m 4 #[.val (.ref o0), .val (.ref o1)] [(.ref wF), (.ref o0)])) _
      refine Jvm.RoadKit.acmp (g := (mkF m 4 #[.val (.ref o0), .val (.ref o1)] [(.ref wF), (.ref o0)])) X5 hx rfl rfl rfl (pc0 := 4) (pc' := 14) (same := true) rfl (hb hby d3_4) rfl (decide_eq_true (congrArg Value.ref hc4_1)) (by decide) (by decide) ?_
      exact k)
    obtain ⟨T8, X8, e8, st8⟩ := getS2 X5 hx hZ hown (host := "") (Or.inl (hw _ (List.mem_of_getElem? (i := 15) rfl))) Via.refl e5 I1 (g := (mkF m 14 #[.val (.ref o0), .val (.ref o1)] [])) rfl (hb hby d3_14)
    have pre9 : ∀ t, Steps p.tables e below (T8.setTop (mkF m 17 #[.val (.ref o0), .val (.ref o1)] [(.ref wF)])) t → Steps p.tables e below (s₁.setTop (entryFrame m #[(.ref o0), (.ref o1)] 2)) t := fun t k => pre7 t (st8 _ k)
    obtain ⟨fs, hr, hrun, hended, hW, hsame⟩ := X8.leave (v := some (.ref wF)) (fun h => by rw [Bd.returns] at h; cases h)
    refine ⟨_, _, ?_, hrun, hended, _, _, rfl, ?_, ⟨_, rfl⟩, hW, hsame.mono (by decide) (by decide)⟩
    · refine pre9 _ ?_
      jvm_step X8.here [X8.here.top, hx, (hb hby d3_17), X8.method', Bd.returns, Value.isRef, FieldType.isReference]
      first | (intro acts; rw [hr _ acts rfl rfl rfl]) | rw [hr _ _ rfl rfl rfl]
      exact Steps.refl _
    · exact ⟨by simp only [f3, if_pos hc4_1], N0, e8⟩
  · have pre10 : ∀ t, Steps p.tables e below (T5.setTop (mkF m 8 #[.val (.ref o0), .val (.ref o1)] [(.ref o1)])) t → Steps p.tables e below (s₁.setTop (entryFrame m #[(.ref o0), (.ref o1)] 2)) t := fun t k => pre6 t (by
      show Steps p.tables e below (T5.setTop (mkF m 4 #[.val (.ref o0), .val (.ref o1)] [(.ref wF), (.ref o0)])) _
      refine Jvm.RoadKit.acmp (g := (mkF m 4 #[.val (.ref o0), .val (.ref o1)] [(.ref wF), (.ref o0)])) X5 hx rfl rfl rfl (pc0 := 4) (pc' := 7) (same := false) rfl (hb hby d3_4) rfl (decide_eq_false fun q => hc4_1 (Value.ref.inj q)) (by decide) (by decide) ?_
      show Steps p.tables e below (T5.setTop (mkF m 7 #[.val (.ref o0), .val (.ref o1)] [])) _
      refine XS.aloadN X5.here hx rfl (hb hby d3_7) rfl rfl ?_
      exact k)
    obtain ⟨T11, X11, e11, st11⟩ := getS2 X5 hx hZ hown (host := "") (Or.inl (hw _ (List.mem_of_getElem? (i := 15) rfl))) Via.refl e5 I1 (g := (mkF m 8 #[.val (.ref o0), .val (.ref o1)] [(.ref o1)])) rfl (hb hby d3_8)
    have pre12 : ∀ t, Steps p.tables e below (T11.setTop (mkF m 11 #[.val (.ref o0), .val (.ref o1)] [(.ref wF), (.ref o1)])) t → Steps p.tables e below (s₁.setTop (entryFrame m #[(.ref o0), (.ref o1)] 2)) t := fun t k => pre10 t (st11 _ k)
    by_cases hc11_2 : o1 = wF
    · have pre13 : ∀ t, Steps p.tables e below (T11.setTop (mkF m 14 #[.val (.ref o0), .val (.ref o1)] [])) t → Steps p.tables e below (s₁.setTop (entryFrame m #[(.ref o0), (.ref o1)] 2)) t := fun t k => pre12 t (by
        show Steps p.tables e below (T11.setTop (mkF m 11 #[.val (.ref o0), .val (.ref o1)] [(.ref wF), (.ref o1)])) _
        refine Jvm.RoadKit.acmp (g := (mkF m 11 #[.val (.ref o0), .val (.ref o1)] [(.ref wF), (.ref o1)])) X11 hx rfl rfl rfl (pc0 := 11) (pc' := 14) (same := true) rfl (hb hby d3_11) rfl (decide_eq_true (congrArg Value.ref hc11_2)) (by decide) (by decide) ?_
        exact k)
      obtain ⟨T14, X14, e14, st14⟩ := getS2 X11 hx hZ hown (host := "") (Or.inl (hw _ (List.mem_of_getElem? (i := 15) rfl))) Via.refl e11 I1 (g := (mkF m 14 #[.val (.ref o0), .val (.ref o1)] [])) rfl (hb hby d3_14)
      have pre15 : ∀ t, Steps p.tables e below (T14.setTop (mkF m 17 #[.val (.ref o0), .val (.ref o1)] [(.ref wF)])) t → Steps p.tables e below (s₁.setTop (entryFrame m #[(.ref o0), (.ref o1)] 2)) t := fun t k => pre13 t (st14 _ k)
      obtain ⟨fs, hr, hrun, hended, hW, hsame⟩ := X14.leave (v := some (.ref wF)) (fun h => by rw [Bd.returns] at h; cases h)
      refine ⟨_, _, ?_, hrun, hended, _, _, rfl, ?_, ⟨_, rfl⟩, hW, hsame.mono (by decide) (by decide)⟩
      · refine pre15 _ ?_
        jvm_step X14.here [X14.here.top, hx, (hb hby d3_17), X14.method', Bd.returns, Value.isRef, FieldType.isReference]
        first | (intro acts; rw [hr _ acts rfl rfl rfl]) | rw [hr _ _ rfl rfl rfl]
        exact Steps.refl _
      · exact ⟨by simp only [f3, if_neg hc4_1, if_pos hc11_2], N0, e14⟩
    · have pre16 : ∀ t, Steps p.tables e below (T11.setTop (mkF m 19 #[.val (.ref o0), .val (.ref o1)] [(.ref o0)])) t → Steps p.tables e below (s₁.setTop (entryFrame m #[(.ref o0), (.ref o1)] 2)) t := fun t k => pre12 t (by
        show Steps p.tables e below (T11.setTop (mkF m 11 #[.val (.ref o0), .val (.ref o1)] [(.ref wF), (.ref o1)])) _
        refine Jvm.RoadKit.acmp (g := (mkF m 11 #[.val (.ref o0), .val (.ref o1)] [(.ref wF), (.ref o1)])) X11 hx rfl rfl rfl (pc0 := 11) (pc' := 18) (same := false) rfl (hb hby d3_11) rfl (decide_eq_false fun q => hc11_2 (Value.ref.inj q)) (by decide) (by decide) ?_
        show Steps p.tables e below (T11.setTop (mkF m 18 #[.val (.ref o0), .val (.ref o1)] [])) _
        refine XS.aloadN X11.here hx rfl (hb hby d3_18) rfl rfl ?_
        exact k)
      obtain ⟨T17, X17, e17, st17⟩ := getS2 X11 hx hZ hown (host := "") (Or.inl (hw _ (List.mem_of_getElem? (i := 14) rfl))) Via.refl e11 I0 (g := (mkF m 19 #[.val (.ref o0), .val (.ref o1)] [(.ref o0)])) rfl (hb hby d3_19)
      have pre18 : ∀ t, Steps p.tables e below (T17.setTop (mkF m 22 #[.val (.ref o0), .val (.ref o1)] [(.ref wT), (.ref o0)])) t → Steps p.tables e below (s₁.setTop (entryFrame m #[(.ref o0), (.ref o1)] 2)) t := fun t k => pre16 t (st17 _ k)
      by_cases hc22_3 : o0 = wT
      · have pre19 : ∀ t, Steps p.tables e below (T17.setTop (mkF m 34 #[.val (.ref o0), .val (.ref o1)] [(.ref o1)])) t → Steps p.tables e below (s₁.setTop (entryFrame m #[(.ref o0), (.ref o1)] 2)) t := fun t k => pre18 t (by
          show Steps p.tables e below (T17.setTop (mkF m 22 #[.val (.ref o0), .val (.ref o1)] [(.ref wT), (.ref o0)])) _
          refine Jvm.RoadKit.acmp (g := (mkF m 22 #[.val (.ref o0), .val (.ref o1)] [(.ref wT), (.ref o0)])) X17 hx rfl rfl rfl (pc0 := 22) (pc' := 25) (same := true) rfl (hb hby d3_22) rfl (decide_eq_true (congrArg Value.ref hc22_3)) (by decide) (by decide) ?_
          show Steps p.tables e below (T17.setTop (mkF m 25 #[.val (.ref o0), .val (.ref o1)] [])) _
          refine XS.aloadN X17.here hx rfl (hb hby d3_25) rfl rfl ?_
          show Steps p.tables e below (T17.setTop (mkF m 26 #[.val (.ref o0), .val (.ref o1)] [(.ref o1)])) _
          refine XS.goto X17.here hx rfl (pc0 := 26) (pc' := 34) rfl (hb hby d3_26) (by decide) (by decide) ?_
          exact k)
        obtain ⟨fs, hr, hrun, hended, hW, hsame⟩ := X17.leave (v := some (.ref o1)) (fun h => by rw [Bd.returns] at h; cases h)
        refine ⟨_, _, ?_, hrun, hended, _, _, rfl, ?_, ⟨_, rfl⟩, hW, hsame.mono (by decide) (by decide)⟩
        · refine pre19 _ ?_
          jvm_step X17.here [X17.here.top, hx, (hb hby d3_34), X17.method', Bd.returns, Value.isRef, FieldType.isReference]
          first | (intro acts; rw [hr _ acts rfl rfl rfl]) | rw [hr _ _ rfl rfl rfl]
          exact Steps.refl _
        · exact ⟨by simp only [f3, if_neg hc4_1, if_neg hc11_2, if_pos hc22_3], N0, e17⟩
      · have pre20 : ∀ t, Steps p.tables e below (T17.setTop (mkF m 31 #[.val (.ref o0), .val (.ref o1)] [(.ref o1), (.ref o0)])) t → Steps p.tables e below (s₁.setTop (entryFrame m #[(.ref o0), (.ref o1)] 2)) t := fun t k => pre18 t (by
          show Steps p.tables e below (T17.setTop (mkF m 22 #[.val (.ref o0), .val (.ref o1)] [(.ref wT), (.ref o0)])) _
          refine Jvm.RoadKit.acmp (g := (mkF m 22 #[.val (.ref o0), .val (.ref o1)] [(.ref wT), (.ref o0)])) X17 hx rfl rfl rfl (pc0 := 22) (pc' := 29) (same := false) rfl (hb hby d3_22) rfl (decide_eq_false fun q => hc22_3 (Value.ref.inj q)) (by decide) (by decide) ?_
          show Steps p.tables e below (T17.setTop (mkF m 29 #[.val (.ref o0), .val (.ref o1)] [])) _
          refine XS.aloadN X17.here hx rfl (hb hby d3_29) rfl rfl ?_
          show Steps p.tables e below (T17.setTop (mkF m 30 #[.val (.ref o0), .val (.ref o1)] [(.ref o0)])) _
          refine XS.aloadN X17.here hx rfl (hb hby d3_30) rfl rfl ?_
          exact k)
        obtain ⟨cq21, q21, q21'⟩ := I4.cell
        obtain ⟨_, _, ⟨T21, L21, k21, n21⟩, -, X21, ⟨Lc21, hQ21, l21, y21, z21⟩, st21⟩ := X17.privateBack hx (y := (⟨"com/example/pedantic_conformance/pedanticconformance/rules/safetycenter/Truth", "weaker", "(Lcom/example/pedantic_conformance/pedanticconformance/rules/safetycenter/Truth;)Lcom/example/pedantic_conformance/pedanticconformance/rules/safetycenter/Truth;"⟩ : MethodName)) hown (mvT hZ (hw _ (List.mem_of_getElem? (i := 30) rfl))) (mvT hZ (hw _ (List.mem_of_getElem? (i := 31) rfl))) (own_selp (y0 := (⟨"com/example/pedantic_conformance/pedanticconformance/rules/safetycenter/Truth", "not", "()Lcom/example/pedantic_conformance/pedanticconformance/rules/safetycenter/Truth;"⟩ : MethodName)) rfl (mvT hZ (hw _ (List.mem_of_getElem? (i := 12) rfl))) (Cond.privateMethod_at (mvP hZ (hw _ (List.mem_of_getElem? (i := 32) rfl)) (args := #[]))) (mvT hZ (hw _ (List.mem_of_getElem? (i := 31) rfl))) (by decide)) (Cond.privateMethod_at (mvP hZ (hw _ (List.mem_of_getElem? (i := 32) rfl)) (args := #[]))) (mvT hZ (hw _ (List.mem_of_getElem? (i := 33) rfl))) (by decide) (backOf (W := 0) (rm5 l Z a0 hw [] o0 o1 wT wF wU wJ h0 n0 Z0 I0 I1 I2 I3) hZ (hw _ (List.mem_of_getElem? (i := 33) rfl)) (hw _ (List.mem_of_getElem? (i := 5) rfl)) (by decide) (by decide)) (g := (mkF m 31 #[.val (.ref o0), .val (.ref o1)] [(.ref o1), (.ref o0)])) rfl (by rw [hml]; rfl) (Steps.refl _) (a := o0) (by rw [e17]; exact q21) q21' (argsL := [(.ref o1)]) (rest := []) (lenOf pd__Lcom_example_pedantic_conformance_pedanticconformance_rules_safetycenter_Truth__Lcom_example_pedantic_conformance_pedanticconformance_rules_safetycenter_Truth_ rfl) rfl (by show 2 * 0 + _ ≤ _; exact Nat.le_of_eq rfl) (hb hby d3_31) (fun _ _ => ⟨rfl, e17, (by decide : 0 + 0 ≤ _), (by decide : 0 + 0 ≤ _)⟩)
        dsimp only [Pt.U, Pt.locs, Pt.cells, Pt.slots] at X21 l21 y21 z21 st21 hQ21
        subst l21 y21 z21
        obtain ⟨rfl, Nq21, e21⟩ := hQ21
        have N21 := Fr.app N0 Nq21
        have pre22 : ∀ t, Steps p.tables e below (T21.setTop (mkF m 34 #[.val (.ref o0), .val (.ref o1)] [(.ref (f5 o0 o1 wU wJ))])) t → Steps p.tables e below (s₁.setTop (entryFrame m #[(.ref o0), (.ref o1)] 2)) t := fun t k => pre20 t (st21.trans k)
        obtain ⟨fs, hr, hrun, hended, hW, hsame⟩ := X21.leave (v := some (.ref (f5 o0 o1 wU wJ))) (fun h => by rw [Bd.returns] at h; cases h)
        refine ⟨_, _, ?_, hrun, hended, _, _, rfl, ?_, ⟨_, rfl⟩, hW, hsame.mono (by decide) (by decide)⟩
        · refine pre22 _ ?_
          jvm_step X21.here [X21.here.top, hx, (hb hby d3_34), X21.method', Bd.returns, Value.isRef, FieldType.isReference]
          first | (intro acts; rw [hr _ acts rfl rfl rfl]) | rw [hr _ _ rfl rfl rfl]
          exact Steps.refl _
        · exact ⟨by simp only [f3, if_neg hc4_1, if_neg hc11_2, if_neg hc22_3], N21, e21⟩
theorem d4_0 : decode prog_171_method_6_code 0 = .ok (.aload_n 0, 1) := by decide +kernel
theorem d4_1 : decode prog_171_method_6_code 1 = .ok (.getstatic 3, 3) := by decide +kernel
theorem d4_4 : decode prog_171_method_6_code 4 = .ok (.if_acmp .eq 10, 3) := by decide +kernel
theorem d4_7 : decode prog_171_method_6_code 7 = .ok (.aload_n 1, 1) := by decide +kernel
theorem d4_8 : decode prog_171_method_6_code 8 = .ok (.getstatic 3, 3) := by decide +kernel
theorem d4_11 : decode prog_171_method_6_code 11 = .ok (.if_acmp .ne 7, 3) := by decide +kernel
theorem d4_14 : decode prog_171_method_6_code 14 = .ok (.getstatic 3, 3) := by decide +kernel
theorem d4_17 : decode prog_171_method_6_code 17 = .ok (.areturn, 1) := by decide +kernel
theorem d4_18 : decode prog_171_method_6_code 18 = .ok (.aload_n 0, 1) := by decide +kernel
theorem d4_19 : decode prog_171_method_6_code 19 = .ok (.getstatic 7, 3) := by decide +kernel
theorem d4_22 : decode prog_171_method_6_code 22 = .ok (.if_acmp .ne 7, 3) := by decide +kernel
theorem d4_25 : decode prog_171_method_6_code 25 = .ok (.aload_n 1, 1) := by decide +kernel
theorem d4_26 : decode prog_171_method_6_code 26 = .ok (.goto 8, 3) := by decide +kernel
theorem d4_29 : decode prog_171_method_6_code 29 = .ok (.aload_n 0, 1) := by decide +kernel
theorem d4_30 : decode prog_171_method_6_code 30 = .ok (.aload_n 1, 1) := by decide +kernel
theorem d4_31 : decode prog_171_method_6_code 31 = .ok (.invokevirtual 35, 3) := by decide +kernel
theorem d4_34 : decode prog_171_method_6_code 34 = .ok (.areturn, 1) := by decide +kernel
theorem pn_4 : plainName "com/example/pedantic_conformance/pedanticconformance/rules/safetycenter/Truth" = true := by first | (simp [plainName, overriddenIn]; done) | decide +kernel
theorem ef_4 (m : MethodId) (x0 : Addr) (x1 : Addr) : entryFrame m #[(.ref x0), (.ref x1)] 2 = mkF m 0 #[.val (.ref x0), .val (.ref x1)] [] := by first | (simp [entryFrame, mkF, argsToLocals, Value.category]; done) | rfl
def f4 (o0 : Addr) (o1 : Addr) (wT : Addr) (wF : Addr) (wU : Addr) (wJ : Addr) : Addr := (if o0 = wT then wT else (if o1 = wT then wT else (if o0 = wF then o1 else (f5 o0 o1 wU wJ))))
set_option maxRecDepth 65536 in
set_option maxHeartbeats 40000000 in
theorem rm4 (l : Launch) (Z : State) (a0 : Array Value) (hw : ∀ d ∈ tables_1, d.before a0 Z = true) (ws : List Jvm.Cond) (o0 : Addr) (o1 : Addr) (wT : Addr) (wF : Addr) (wU : Addr) (wJ : Addr) (h0 : Heap) (n0 : Nat) (Z0 : n0 ≤ h0.size) (I0 : Sta Z h0 "com/example/pedantic_conformance/pedanticconformance/rules/safetycenter/Truth" "TRUE" "Lcom/example/pedantic_conformance/pedanticconformance/rules/safetycenter/Truth;" (.ref wT)) (I1 : Sta Z h0 "com/example/pedantic_conformance/pedanticconformance/rules/safetycenter/Truth" "FALSE" "Lcom/example/pedantic_conformance/pedanticconformance/rules/safetycenter/Truth;" (.ref wF)) (I2 : Sta Z h0 "com/example/pedantic_conformance/pedanticconformance/rules/safetycenter/Truth" "UNKNOWN" "Lcom/example/pedantic_conformance/pedanticconformance/rules/safetycenter/Truth;" (.ref wU)) (I3 : Sta Z h0 "com/example/pedantic_conformance/pedanticconformance/rules/safetycenter/Truth" "UNJUDGED" "Lcom/example/pedantic_conformance/pedanticconformance/rules/safetycenter/Truth;" (.ref wJ)) (I4 : Exa Z h0 o0 "com/example/pedantic_conformance/pedanticconformance/rules/safetycenter/Truth") :
    MetFree l (⟨"com/example/pedantic_conformance/pedanticconformance/rules/safetycenter/Truth", "or", "(Lcom/example/pedantic_conformance/pedanticconformance/rules/safetycenter/Truth;)Lcom/example/pedantic_conformance/pedanticconformance/rules/safetycenter/Truth;"⟩ : MethodName) (head1 (Jvm.Cond.code (⟨"com/example/pedantic_conformance/pedanticconformance/rules/safetycenter/Truth", "or", "(Lcom/example/pedantic_conformance/pedanticconformance/rules/safetycenter/Truth;)Lcom/example/pedantic_conformance/pedanticconformance/rules/safetycenter/Truth;"⟩ : MethodName) prog_171_method_6_code 2 (some (.object "com/example/pedantic_conformance/pedanticconformance/rules/safetycenter/Truth")) :: ws) ({ frames := 1, cells := 0, slots := 0, locals := 13 } : Room)) (fun a U => a = #[(.ref o0), (.ref o1)] ∧ Z.Warmed39 U.vm ∧ U.heap = h0) (fun _ _ _ _ _ => True) (fun _ U o U' => ∃ v L, o = .returned v ∧ QP (some (.ref (f4 o0 o1 wT wF wU wJ))) h0 n0 v U'.heap L ∧ FrameEnd U o U' L ({ frames := 1, cells := 0, slots := 0, locals := 13 } : Room).cells ({ frames := 1, cells := 0, slots := 0, locals := 13 } : Room).slots) := by
  refine MetFree.of_bodySF (plainFor_of_name pn_4) hisR ?_
  intro p e s m args below meth c s₁ Bd hml0 hP hK
  obtain ⟨rfl, hZ, hh⟩ := hP
  have hx := Bd.exec
  have hby := Bd.bytes
  have hml : c.maxLocals = 2 := hml0
  have hown : s.vm.findClass "com/example/pedantic_conformance/pedanticconformance/rules/safetycenter/Truth" = some m.cls := findClass_of_methodNamed Bd.named
  have hnm := (name_of_methodNamed Bd.named Bd.method).1
  have X0 : Stand p l e ({ frames := 1, cells := 0, slots := 0, locals := 13 } : Room) s m #[(.ref o0), (.ref o1)] below meth c s₁ [] 0 0 := Stand.of_body Bd
  have e0 : s₁.heap = h0 := by rw [← hh, Bd.state]; rfl
  have N0 := Fr.nil n0
  have K0 : Keep h0 h0 [] := Keep.refl _ _
  have pre0 : ∀ t, Steps p.tables e below (s₁.setTop (mkF m 0 #[.val (.ref o0), .val (.ref o1)] [])) t → Steps p.tables e below (s₁.setTop (entryFrame m #[(.ref o0), (.ref o1)] 2)) t := fun t k => castTop (ef_4 m o0 o1) k
  have pre4 : ∀ t, Steps p.tables e below (s₁.setTop (mkF m 1 #[.val (.ref o0), .val (.ref o1)] [(.ref o0)])) t → Steps p.tables e below (s₁.setTop (entryFrame m #[(.ref o0), (.ref o1)] 2)) t := fun t k => pre0 t (by
    show Steps p.tables e below (s₁.setTop (mkF m 0 #[.val (.ref o0), .val (.ref o1)] [])) _
    refine XS.aloadN X0.here hx rfl (hb hby d4_0) rfl rfl ?_
    exact k)
  obtain ⟨T5, X5, e5, st5⟩ := getS2 X0 hx hZ hown (host := "") (Or.inl (hw _ (List.mem_of_getElem? (i := 14) rfl))) Via.refl e0 I0 (g := (mkF m 1 #[.val (.ref o0), .val (.ref o1)] [(.ref o0)])) rfl (hb hby d4_1)
  have pre6 : ∀ t, Steps p.tables e below (T5.setTop (mkF m 4 #[.val (.ref o0), .val (.ref o1)] [(.ref wT), (.ref o0)])) t → Steps p.tables e below (s₁.setTop (entryFrame m #[(.ref o0), (.ref o1)] 2)) t := fun t k => pre4 t (st5 _ k)
  by_cases hc4_1 : o0 = wT
  · have pre7 : ∀ t, Steps p.tables e below (T5.setTop (mkF m 14 #[.val (.ref o0), .val (.ref o1)] [])) t → Steps p.tables e below (s₁.setTop (entryFrame m #[(.ref o0), (.ref o1)] 2)) t := fun t k => pre6 t (by
      show Steps p.tables e below (T5.setTop (mkF m 4 #[.val (.ref o0), .val (.ref o1)] [(.ref wT), (.ref o0)])) _
      refine Jvm.RoadKit.acmp (g := (mkF m 4 #[.val (.ref o0), .val (.ref o1)] [(.ref wT), (.ref o0)])) X5 hx rfl rfl rfl (pc0 := 4) (pc' := 14) (same := true) rfl (hb hby d4_4) rfl (decide_eq_true (congrArg Value.ref hc4_1)) (by decide) (by decide) ?_
      exact k)
    obtain ⟨T8, X8, e8, st8⟩ := getS2 X5 hx hZ hown (host := "") (Or.inl (hw _ (List.mem_of_getElem? (i := 14) rfl))) Via.refl e5 I0 (g := (mkF m 14 #[.val (.ref o0), .val (.ref o1)] [])) rfl (hb hby d4_14)
    have pre9 : ∀ t, Steps p.tables e below (T8.setTop (mkF m 17 #[.val (.ref o0), .val (.ref o1)] [(.ref wT)])) t → Steps p.tables e below (s₁.setTop (entryFrame m #[(.ref o0), (.ref o1)] 2)) t := fun t k => pre7 t (st8 _ k)
    obtain ⟨fs, hr, hrun, hended, hW, hsame⟩ := X8.leave (v := some (.ref wT)) (fun h => by rw [Bd.returns] at h; cases h)
    refine ⟨_, _, ?_, hrun, hended, _, _, rfl, ?_, ⟨_, rfl⟩, hW, hsame.mono (by decide) (by decide)⟩
    · refine pre9 _ ?_
      jvm_step X8.here [X8.here.top, hx, (hb hby d4_17), X8.method', Bd.returns, Value.isRef, FieldType.isReference]
      first | (intro acts; rw [hr _ acts rfl rfl rfl]) | rw [hr _ _ rfl rfl rfl]
      exact Steps.refl _
    · exact ⟨by simp only [f4, if_pos hc4_1], N0, e8⟩
  · have pre10 : ∀ t, Steps p.tables e below (T5.setTop (mkF m 8 #[.val (.ref o0), .val (.ref o1)] [(.ref o1)])) t → Steps p.tables e below (s₁.setTop (entryFrame m #[(.ref o0), (.ref o1)] 2)) t := fun t k => pre6 t (by
      show Steps p.tables e below (T5.setTop (mkF m 4 #[.val (.ref o0), .val (.ref o1)] [(.ref wT), (.ref o0)])) _
      refine Jvm.RoadKit.acmp (g := (mkF m 4 #[.val (.ref o0), .val (.ref o1)] [(.ref wT), (.ref o0)])) X5 hx rfl rfl rfl (pc0 := 4) (pc' := 7) (same := false) rfl (hb hby d4_4) rfl (decide_eq_false fun q => hc4_1 (Value.ref.inj q)) (by decide) (by decide) ?_
      show Steps p.tables e below (T5.setTop (mkF m 7 #[.val (.ref o0), .val (.ref o1)] [])) _
      refine XS.aloadN X5.here hx rfl (hb hby d4_7) rfl rfl ?_
      exact k)
    obtain ⟨T11, X11, e11, st11⟩ := getS2 X5 hx hZ hown (host := "") (Or.inl (hw _ (List.mem_of_getElem? (i := 14) rfl))) Via.refl e5 I0 (g := (mkF m 8 #[.val (.ref o0), .val (.ref o1)] [(.ref o1)])) rfl (hb hby d4_8)
    have pre12 : ∀ t, Steps p.tables e below (T11.setTop (mkF m 11 #[.val (.ref o0), .val (.ref o1)] [(.ref wT), (.ref o1)])) t → Steps p.tables e below (s₁.setTop (entryFrame m #[(.ref o0), (.ref o1)] 2)) t := fun t k => pre10 t (st11 _ k)
    by_cases hc11_2 : o1 = wT
    · have pre13 : ∀ t, Steps p.tables e below (T11.setTop (mkF m 14 #[.val (.ref o0), .val (.ref o1)] [])) t → Steps p.tables e below (s₁.setTop (entryFrame m #[(.ref o0), (.ref o1)] 2)) t := fun t k => pre12 t (by
        show Steps p.tables e below (T11.setTop (mkF m 11 #[.val (.ref o0), .val (.ref o1)] [(.ref wT), (.ref o1)])) _
        refine Jvm.RoadKit.acmp (g := (mkF m 11 #[.val (.ref o0), .val (.ref o1)] [(.ref wT), (.ref o1)])) X11 hx rfl rfl rfl (pc0 := 11) (pc' := 14) (same := true) rfl (hb hby d4_11) rfl (decide_eq_true (congrArg Value.ref hc11_2)) (by decide) (by decide) ?_
        exact k)
      obtain ⟨T14, X14, e14, st14⟩ := getS2 X11 hx hZ hown (host := "") (Or.inl (hw _ (List.mem_of_getElem? (i := 14) rfl))) Via.refl e11 I0 (g := (mkF m 14 #[.val (.ref o0), .val (.ref o1)] [])) rfl (hb hby d4_14)
      have pre15 : ∀ t, Steps p.tables e below (T14.setTop (mkF m 17 #[.val (.ref o0), .val (.ref o1)] [(.ref wT)])) t → Steps p.tables e below (s₁.setTop (entryFrame m #[(.ref o0), (.ref o1)] 2)) t := fun t k => pre13 t (st14 _ k)
      obtain ⟨fs, hr, hrun, hended, hW, hsame⟩ := X14.leave (v := some (.ref wT)) (fun h => by rw [Bd.returns] at h; cases h)
      refine ⟨_, _, ?_, hrun, hended, _, _, rfl, ?_, ⟨_, rfl⟩, hW, hsame.mono (by decide) (by decide)⟩
      · refine pre15 _ ?_
        jvm_step X14.here [X14.here.top, hx, (hb hby d4_17), X14.method', Bd.returns, Value.isRef, FieldType.isReference]
        first | (intro acts; rw [hr _ acts rfl rfl rfl]) | rw [hr _ _ rfl rfl rfl]
        exact Steps.refl _
      · exact ⟨by simp only [f4, if_neg hc4_1, if_pos hc11_2], N0, e14⟩
    · have pre16 : ∀ t, Steps p.tables e below (T11.setTop (mkF m 19 #[.val (.ref o0), .val (.ref o1)] [(.ref o0)])) t → Steps p.tables e below (s₁.setTop (entryFrame m #[(.ref o0), (.ref o1)] 2)) t := fun t k => pre12 t (by
        show Steps p.tables e below (T11.setTop (mkF m 11 #[.val (.ref o0), .val (.ref o1)] [(.ref wT), (.ref o1)])) _
        refine Jvm.RoadKit.acmp (g := (mkF m 11 #[.val (.ref o0), .val (.ref o1)] [(.ref wT), (.ref o1)])) X11 hx rfl rfl rfl (pc0 := 11) (pc' := 18) (same := false) rfl (hb hby d4_11) rfl (decide_eq_false fun q => hc11_2 (Value.ref.inj q)) (by decide) (by decide) ?_
        show Steps p.tables e below (T11.setTop (mkF m 18 #[.val (.ref o0), .val (.ref o1)] [])) _
        refine XS.aloadN X11.here hx rfl (hb hby d4_18) rfl rfl ?_
        exact k)
      obtain ⟨T17, X17, e17, st17⟩ := getS2 X11 hx hZ hown (host := "") (Or.inl (hw _ (List.mem_of_getElem? (i := 15) rfl))) Via.refl e11 I1 (g := (mkF m 19 #[.val (.ref o0), .val (.ref o1)] [(.ref o0)])) rfl (hb hby d4_19)
      have pre18 : ∀ t, Steps p.tables e below (T17.setTop (mkF m 22 #[.val (.ref o0), .val (.ref o1)] [(.ref wF), (.ref o0)])) t → Steps p.tables e below (s₁.setTop (entryFrame m #[(.ref o0), (.ref o1)] 2)) t := fun t k => pre16 t (st17 _ k)
      by_cases hc22_3 : o0 = wF
      · have pre19 : ∀ t, Steps p.tables e below (T17.setTop (mkF m 34 #[.val (.ref o0), .val (.ref o1)] [(.ref o1)])) t → Steps p.tables e below (s₁.setTop (entryFrame m #[(.ref o0), (.ref o1)] 2)) t := fun t k => pre18 t (by
          show Steps p.tables e below (T17.setTop (mkF m 22 #[.val (.ref o0), .val (.ref o1)] [(.ref wF), (.ref o0)])) _
          refine Jvm.RoadKit.acmp (g := (mkF m 22 #[.val (.ref o0), .val (.ref o1)] [(.ref wF), (.ref o0)])) X17 hx rfl rfl rfl (pc0 := 22) (pc' := 25) (same := true) rfl (hb hby d4_22) rfl (decide_eq_true (congrArg Value.ref hc22_3)) (by decide) (by decide) ?_
          show Steps p.tables e below (T17.setTop (mkF m 25 #[.val (.ref o0), .val (.ref o1)] [])) _
          refine XS.aloadN X17.here hx rfl (hb hby d4_25) rfl rfl ?_
          show Steps p.tables e below (T17.setTop (mkF m 26 #[.val (.ref o0), .val (.ref o1)] [(.ref o1)])) _
          refine XS.goto X17.here hx rfl (pc0 := 26) (pc' := 34) rfl (hb hby d4_26) (by decide) (by decide) ?_
          exact k)
        obtain ⟨fs, hr, hrun, hended, hW, hsame⟩ := X17.leave (v := some (.ref o1)) (fun h => by rw [Bd.returns] at h; cases h)
        refine ⟨_, _, ?_, hrun, hended, _, _, rfl, ?_, ⟨_, rfl⟩, hW, hsame.mono (by decide) (by decide)⟩
        · refine pre19 _ ?_
          jvm_step X17.here [X17.here.top, hx, (hb hby d4_34), X17.method', Bd.returns, Value.isRef, FieldType.isReference]
          first | (intro acts; rw [hr _ acts rfl rfl rfl]) | rw [hr _ _ rfl rfl rfl]
          exact Steps.refl _
        · exact ⟨by simp only [f4, if_neg hc4_1, if_neg hc11_2, if_pos hc22_3], N0, e17⟩
      · have pre20 : ∀ t, Steps p.tables e below (T17.setTop (mkF m 31 #[.val (.ref o0), .val (.ref o1)] [(.ref o1), (.ref o0)])) t → Steps p.tables e below (s₁.setTop (entryFrame m #[(.ref o0), (.ref o1)] 2)) t := fun t k => pre18 t (by
          show Steps p.tables e below (T17.setTop (mkF m 22 #[.val (.ref o0), .val (.ref o1)] [(.ref wF), (.ref o0)])) _
          refine Jvm.RoadKit.acmp (g := (mkF m 22 #[.val (.ref o0), .val (.ref o1)] [(.ref wF), (.ref o0)])) X17 hx rfl rfl rfl (pc0 := 22) (pc' := 29) (same := false) rfl (hb hby d4_22) rfl (decide_eq_false fun q => hc22_3 (Value.ref.inj q)) (by decide) (by decide) ?_
          show Steps p.tables e below (T17.setTop (mkF m 29 #[.val (.ref o0), .val (.ref o1)] [])) _
          refine XS.aloadN X17.here hx rfl (hb hby d4_29) rfl rfl ?_
          show Steps p.tables e below (T17.setTop (mkF m 30 #[.val (.ref o0), .val (.ref o1)] [(.ref o0)])) _
          refine XS.aloadN X17.here hx rfl (hb hby d4_30) rfl rfl ?_
          exact k)
        obtain ⟨cq21, q21, q21'⟩ := I4.cell
        obtain ⟨_, _, ⟨T21, L21, k21, n21⟩, -, X21, ⟨Lc21, hQ21, l21, y21, z21⟩, st21⟩ := X17.privateBack hx (y := (⟨"com/example/pedantic_conformance/pedanticconformance/rules/safetycenter/Truth", "weaker", "(Lcom/example/pedantic_conformance/pedanticconformance/rules/safetycenter/Truth;)Lcom/example/pedantic_conformance/pedanticconformance/rules/safetycenter/Truth;"⟩ : MethodName)) hown (mvT hZ (hw _ (List.mem_of_getElem? (i := 30) rfl))) (mvT hZ (hw _ (List.mem_of_getElem? (i := 31) rfl))) (own_selp (y0 := (⟨"com/example/pedantic_conformance/pedanticconformance/rules/safetycenter/Truth", "not", "()Lcom/example/pedantic_conformance/pedanticconformance/rules/safetycenter/Truth;"⟩ : MethodName)) rfl (mvT hZ (hw _ (List.mem_of_getElem? (i := 12) rfl))) (Cond.privateMethod_at (mvP hZ (hw _ (List.mem_of_getElem? (i := 32) rfl)) (args := #[]))) (mvT hZ (hw _ (List.mem_of_getElem? (i := 31) rfl))) (by decide)) (Cond.privateMethod_at (mvP hZ (hw _ (List.mem_of_getElem? (i := 32) rfl)) (args := #[]))) (mvT hZ (hw _ (List.mem_of_getElem? (i := 33) rfl))) (by decide) (backOf (W := 0) (rm5 l Z a0 hw [] o0 o1 wT wF wU wJ h0 n0 Z0 I0 I1 I2 I3) hZ (hw _ (List.mem_of_getElem? (i := 33) rfl)) (hw _ (List.mem_of_getElem? (i := 5) rfl)) (by decide) (by decide)) (g := (mkF m 31 #[.val (.ref o0), .val (.ref o1)] [(.ref o1), (.ref o0)])) rfl (by rw [hml]; rfl) (Steps.refl _) (a := o0) (by rw [e17]; exact q21) q21' (argsL := [(.ref o1)]) (rest := []) (lenOf pd__Lcom_example_pedantic_conformance_pedanticconformance_rules_safetycenter_Truth__Lcom_example_pedantic_conformance_pedanticconformance_rules_safetycenter_Truth_ rfl) rfl (by show 2 * 0 + _ ≤ _; exact Nat.le_of_eq rfl) (hb hby d4_31) (fun _ _ => ⟨rfl, e17, (by decide : 0 + 0 ≤ _), (by decide : 0 + 0 ≤ _)⟩)
        dsimp only [Pt.U, Pt.locs, Pt.cells, Pt.slots] at X21 l21 y21 z21 st21 hQ21
        subst l21 y21 z21
        obtain ⟨rfl, Nq21, e21⟩ := hQ21
        have N21 := Fr.app N0 Nq21
        have pre22 : ∀ t, Steps p.tables e below (T21.setTop (mkF m 34 #[.val (.ref o0), .val (.ref o1)] [(.ref (f5 o0 o1 wU wJ))])) t → Steps p.tables e below (s₁.setTop (entryFrame m #[(.ref o0), (.ref o1)] 2)) t := fun t k => pre20 t (st21.trans k)
        obtain ⟨fs, hr, hrun, hended, hW, hsame⟩ := X21.leave (v := some (.ref (f5 o0 o1 wU wJ))) (fun h => by rw [Bd.returns] at h; cases h)
        refine ⟨_, _, ?_, hrun, hended, _, _, rfl, ?_, ⟨_, rfl⟩, hW, hsame.mono (by decide) (by decide)⟩
        · refine pre22 _ ?_
          jvm_step X21.here [X21.here.top, hx, (hb hby d4_34), X21.method', Bd.returns, Value.isRef, FieldType.isReference]
          first | (intro acts; rw [hr _ acts rfl rfl rfl]) | rw [hr _ _ rfl rfl rfl]
          exact Steps.refl _
        · exact ⟨by simp only [f4, if_neg hc4_1, if_neg hc11_2, if_neg hc22_3], N21, e21⟩
theorem own_p {P : Addr → Prop} {x : Int32} {wT wF wU wJ : Addr} (h1 : P wT) (h2 : P wF) (h3 : P wU) (h4 : P wJ) : P (f1 x wT wF wU wJ) := by
  unfold f1
  repeat' split
  all_goals assumption
theorem own_n {P : Addr → Prop} {x wT wF : Addr} (h0 : P x) (h1 : P wT) (h2 : P wF) : P (f2 x wT wF) := by
  unfold f2
  repeat' split
  all_goals assumption
theorem own_ao3 {P : Addr → Prop} {o0 o1 wT wF wU wJ : Addr} (h0 : P o0) (h1 : P o1) (hT : P wT) (hF : P wF) (hU : P wU) (hJ : P wJ) : P (f3 o0 o1 wT wF wU wJ) := by
  unfold f3 f5
  repeat' split
  all_goals assumption
theorem own_ao4 {P : Addr → Prop} {o0 o1 wT wF wU wJ : Addr} (h0 : P o0) (h1 : P o1) (hT : P wT) (hF : P wF) (hU : P wU) (hJ : P wJ) : P (f4 o0 o1 wT wF wU wJ) := by
  unfold f4 f5
  repeat' split
  all_goals assumption
theorem pn_0 : plainName "com/example/pedantic_conformance/pedanticconformance/rules/safetycenter/TruthNotPinLaw" = true := by first | (simp [plainName, overriddenIn]; done) | decide +kernel
theorem pd__I_Lcom_example_pedantic_conformance_pedanticconformance_rules_safetycenter_Truth_ : parseMethodDescriptor "(I)Lcom/example/pedantic_conformance/pedanticconformance/rules/safetycenter/Truth;" = some ⟨[.int], some (.object "com/example/pedantic_conformance/pedanticconformance/rules/safetycenter/Truth")⟩ := by decide +kernel
theorem pd___Lcom_example_pedantic_conformance_pedanticconformance_rules_safetycenter_Truth_ : parseMethodDescriptor "()Lcom/example/pedantic_conformance/pedanticconformance/rules/safetycenter/Truth;" = some ⟨[], some (.object "com/example/pedantic_conformance/pedanticconformance/rules/safetycenter/Truth")⟩ := by decide +kernel
theorem ef_0 (m : MethodId) (x0 : Int32) (x1 : Int32) : entryFrame m #[(.int x0), (.int x1)] maxLocals = mkF m 0 #[.val (.int x0), .val (.int x1), .unset, .unset, .unset, .unset, .unset, .unset, .unset] [] := by first | (simp [entryFrame, mkF, argsToLocals, Value.category, maxLocals]; done) | rfl
def v0_51_s0 (wT : Addr) (wF : Addr) : Int32 := (if (f2 wT wT wF) = wF then (1 : Int32) else (0 : Int32))
def v0_67_s0 (p0 : Int32) (wT : Addr) (wF : Addr) (wU : Addr) (wJ : Addr) : Int32 := (if (f2 (f2 (f1 p0 wT wF wU wJ) wT wF) wT wF) = (f1 p0 wT wF wU wJ) then (1 : Int32) else (0 : Int32))
def v0_92_s0 (p0 : Int32) (p1 : Int32) (wT : Addr) (wF : Addr) (wU : Addr) (wJ : Addr) : Int32 := (if (f2 (f3 (f1 p0 wT wF wU wJ) (f1 p1 wT wF wU wJ) wT wF wU wJ) wT wF) = (f4 (f2 (f1 p0 wT wF wU wJ) wT wF) (f2 (f1 p1 wT wF wU wJ) wT wF) wT wF wU wJ) then (1 : Int32) else (0 : Int32))
def f0 (p0 : Int32) (p1 : Int32) (wT : Addr) (wF : Addr) (wU : Addr) (wJ : Addr) : Int32 := (if (v0_51_s0 wT wF) = (0 : Int32) then (0 : Int32) else (if (v0_67_s0 p0 wT wF wU wJ) = (0 : Int32) then (0 : Int32) else (if (v0_92_s0 p0 p1 wT wF wU wJ) = (0 : Int32) then (0 : Int32) else (1 : Int32))))
set_option maxRecDepth 65536 in
set_option maxHeartbeats 40000000 in
theorem rm0 (l : Launch) (Z : State) (a0 : Array Value) (hw : ∀ d ∈ tables_1, d.before a0 Z = true) (ws : List Jvm.Cond) (p0 : Int32) (p1 : Int32) (wT : Addr) (wF : Addr) (wU : Addr) (wJ : Addr) (h0 : Heap) (n0 : Nat) (Z0 : n0 ≤ h0.size) (I0 : Sta Z h0 "com/example/pedantic_conformance/pedanticconformance/rules/safetycenter/Truth" "TRUE" "Lcom/example/pedantic_conformance/pedanticconformance/rules/safetycenter/Truth;" (.ref wT)) (I1 : Sta Z h0 "com/example/pedantic_conformance/pedanticconformance/rules/safetycenter/Truth" "FALSE" "Lcom/example/pedantic_conformance/pedanticconformance/rules/safetycenter/Truth;" (.ref wF)) (I2 : Sta Z h0 "com/example/pedantic_conformance/pedanticconformance/rules/safetycenter/Truth" "UNKNOWN" "Lcom/example/pedantic_conformance/pedanticconformance/rules/safetycenter/Truth;" (.ref wU)) (I3 : Sta Z h0 "com/example/pedantic_conformance/pedanticconformance/rules/safetycenter/Truth" "UNJUDGED" "Lcom/example/pedantic_conformance/pedanticconformance/rules/safetycenter/Truth;" (.ref wJ)) (I4 : Exa Z h0 wT "com/example/pedantic_conformance/pedanticconformance/rules/safetycenter/Truth") (I5 : Exa Z h0 wF "com/example/pedantic_conformance/pedanticconformance/rules/safetycenter/Truth") (I6 : Exa Z h0 wU "com/example/pedantic_conformance/pedanticconformance/rules/safetycenter/Truth") (I7 : Exa Z h0 wJ "com/example/pedantic_conformance/pedanticconformance/rules/safetycenter/Truth") :
    MetFree l x (head1 (Jvm.Cond.code x code maxLocals ret :: ws) room_1) (fun a U => a = #[(.int p0), (.int p1)] ∧ Z.Warmed39 U.vm ∧ U.heap = h0) (fun _ _ _ _ _ => True) (fun _ U o U' => ∃ v L, o = .returned v ∧ QL (some (.int (f0 p0 p1 wT wF wU wJ))) n0 v U'.heap L ∧ FrameEnd U o U' L room_1.cells room_1.slots) := by
  refine MetFree.of_bodySF (plainFor_of_name pn_0) hisR ?_
  intro p e s m args below meth c s₁ Bd hml0 hP hK
  obtain ⟨rfl, hZ, hh⟩ := hP
  have hx := Bd.exec
  have hby := Bd.bytes
  have hml : c.maxLocals = 9 := hml0
  have hown : s.vm.findClass "com/example/pedantic_conformance/pedanticconformance/rules/safetycenter/TruthNotPinLaw" = some m.cls := findClass_of_methodNamed Bd.named
  have hnm := (name_of_methodNamed Bd.named Bd.method).1
  have X0 : Stand p l e room_1 s m #[(.int p0), (.int p1)] below meth c s₁ [] 0 0 := Stand.of_body Bd
  have e0 : s₁.heap = h0 := by rw [← hh, Bd.state]; rfl
  have N0 := Fr.nil n0
  have K0 : Keep h0 h0 [] := Keep.refl _ _
  have pre0 : ∀ t, Steps p.tables e below (s₁.setTop (mkF m 0 #[.val (.int p0), .val (.int p1), .unset, .unset, .unset, .unset, .unset, .unset, .unset] [])) t → Steps p.tables e below (s₁.setTop (entryFrame m #[(.int p0), (.int p1)] maxLocals)) t := fun t k => castTop (ef_0 m p0 p1) k
  have pre7 : ∀ t, Steps p.tables e below (s₁.setTop (mkF m 1 #[.val (.int p0), .val (.int p1), .unset, .unset, .unset, .unset, .unset, .unset, .unset] [(.int p0)])) t → Steps p.tables e below (s₁.setTop (entryFrame m #[(.int p0), (.int p1)] maxLocals)) t := fun t k => pre0 t (by
    show Steps p.tables e below (s₁.setTop (mkF m 0 #[.val (.int p0), .val (.int p1), .unset, .unset, .unset, .unset, .unset, .unset, .unset] [])) _
    refine XS.iloadN X0.here hx rfl (hb hby at_0) rfl ?_
    exact k)
  obtain ⟨_, _, ⟨T8, L8, k8, n8⟩, -, X8, ⟨Lc8, hQ8, l8, y8, z8⟩, st8⟩ := Jvm.LawKit.callS X0 hx (y := (⟨"com/example/pedantic_conformance/pedanticconformance/rules/safetycenter/TruthNotPinLaw", "pick", "(I)Lcom/example/pedantic_conformance/pedanticconformance/rules/safetycenter/Truth;"⟩ : MethodName)) hown (mvT hZ (hw _ (List.mem_of_getElem? (i := 0) rfl))) (mvT hZ (hw _ (List.mem_of_getElem? (i := 1) rfl))) (mvT hZ (hw _ (List.mem_of_getElem? (i := 2) rfl))) (mvT hZ (hw _ (List.mem_of_getElem? (i := 3) rfl))) (by decide) (backOf (W := 0) (rm1 l Z a0 hw [] p0 wT wF wU wJ h0 n0 Z0 I0 I1 I2 I3) hZ (hw _ (List.mem_of_getElem? (i := 3) rfl)) (hw _ (List.mem_of_getElem? (i := 2) rfl)) (by decide) (by decide)) (g := (mkF m 1 #[.val (.int p0), .val (.int p1), .unset, .unset, .unset, .unset, .unset, .unset, .unset] [(.int p0)])) rfl (by rw [hml]; rfl) (argsL := [(.int p0)]) (rest := []) (lenOf pd__I_Lcom_example_pedantic_conformance_pedanticconformance_rules_safetycenter_Truth_ rfl) rfl (by show 2 * 0 + _ ≤ _; exact Nat.le_of_eq rfl) (hb hby at_1) (fun _ _ => ⟨rfl, e0, (by decide : 0 + 0 ≤ _), (by decide : 0 + 0 ≤ _)⟩)
  dsimp only [Pt.U, Pt.locs, Pt.cells, Pt.slots] at X8 l8 y8 z8 st8 hQ8
  subst l8 y8 z8
  obtain ⟨rfl, Nq8, e8⟩ := hQ8
  have N8 := Fr.app N0 Nq8
  have pre9 : ∀ t, Steps p.tables e below (T8.setTop (mkF m 4 #[.val (.int p0), .val (.int p1), .unset, .unset, .unset, .unset, .unset, .unset, .unset] [(.ref (f1 p0 wT wF wU wJ))])) t → Steps p.tables e below (s₁.setTop (entryFrame m #[(.int p0), (.int p1)] maxLocals)) t := fun t k => pre7 t (st8 _ k)
  have pre10 : ∀ t, Steps p.tables e below (T8.setTop (mkF m 6 #[.val (.int p0), .val (.int p1), .val (.ref (f1 p0 wT wF wU wJ)), .unset, .unset, .unset, .unset, .unset, .unset] [(.int p1)])) t → Steps p.tables e below (s₁.setTop (entryFrame m #[(.int p0), (.int p1)] maxLocals)) t := fun t k => pre9 t (by
    show Steps p.tables e below (T8.setTop (mkF m 4 #[.val (.int p0), .val (.int p1), .unset, .unset, .unset, .unset, .unset, .unset, .unset] [(.ref (f1 p0 wT wF wU wJ))])) _
    refine XS.astoreN X8.here hx rfl (hb hby at_4) rfl rfl (l' := #[.val (.int p0), .val (.int p1), .val (.ref (f1 p0 wT wF wU wJ)), .unset, .unset, .unset, .unset, .unset, .unset]) rfl ?_
    show Steps p.tables e below (T8.setTop (mkF m 5 #[.val (.int p0), .val (.int p1), .val (.ref (f1 p0 wT wF wU wJ)), .unset, .unset, .unset, .unset, .unset, .unset] [])) _
    refine XS.iloadN X8.here hx rfl (hb hby at_5) rfl ?_
    exact k)
  obtain ⟨_, _, ⟨T11, L11, k11, n11⟩, -, X11, ⟨Lc11, hQ11, l11, y11, z11⟩, st11⟩ := Jvm.LawKit.callS X8 hx (y := (⟨"com/example/pedantic_conformance/pedanticconformance/rules/safetycenter/TruthNotPinLaw", "pick", "(I)Lcom/example/pedantic_conformance/pedanticconformance/rules/safetycenter/Truth;"⟩ : MethodName)) hown (mvT hZ (hw _ (List.mem_of_getElem? (i := 0) rfl))) (mvT hZ (hw _ (List.mem_of_getElem? (i := 1) rfl))) (mvT hZ (hw _ (List.mem_of_getElem? (i := 2) rfl))) (mvT hZ (hw _ (List.mem_of_getElem? (i := 3) rfl))) (by decide) (backOf (W := 0) (rm1 l Z a0 hw [] p1 wT wF wU wJ h0 n0 Z0 I0 I1 I2 I3) hZ (hw _ (List.mem_of_getElem? (i := 3) rfl)) (hw _ (List.mem_of_getElem? (i := 2) rfl)) (by decide) (by decide)) (g := (mkF m 6 #[.val (.int p0), .val (.int p1), .val (.ref (f1 p0 wT wF wU wJ)), .unset, .unset, .unset, .unset, .unset, .unset] [(.int p1)])) rfl (by rw [hml]; rfl) (argsL := [(.int p1)]) (rest := []) (lenOf pd__I_Lcom_example_pedantic_conformance_pedanticconformance_rules_safetycenter_Truth_ rfl) rfl (by show 2 * 0 + _ ≤ _; exact Nat.le_of_eq rfl) (hb hby at_6) (fun _ _ => ⟨rfl, e8, (by decide : 0 + 0 ≤ _), (by decide : 0 + 0 ≤ _)⟩)
  dsimp only [Pt.U, Pt.locs, Pt.cells, Pt.slots] at X11 l11 y11 z11 st11 hQ11
  subst l11 y11 z11
  obtain ⟨rfl, Nq11, e11⟩ := hQ11
  have N11 := Fr.app N8 Nq11
  have pre12 : ∀ t, Steps p.tables e below (T11.setTop (mkF m 9 #[.val (.int p0), .val (.int p1), .val (.ref (f1 p0 wT wF wU wJ)), .unset, .unset, .unset, .unset, .unset, .unset] [(.ref (f1 p1 wT wF wU wJ))])) t → Steps p.tables e below (s₁.setTop (entryFrame m #[(.int p0), (.int p1)] maxLocals)) t := fun t k => pre10 t (st11 _ k)
  have pre13 : ∀ t, Steps p.tables e below (T11.setTop (mkF m 11 #[.val (.int p0), .val (.int p1), .val (.ref (f1 p0 wT wF wU wJ)), .val (.ref (f1 p1 wT wF wU wJ)), .unset, .unset, .unset, .unset, .unset] [(.ref (f1 p0 wT wF wU wJ))])) t → Steps p.tables e below (s₁.setTop (entryFrame m #[(.int p0), (.int p1)] maxLocals)) t := fun t k => pre12 t (by
    show Steps p.tables e below (T11.setTop (mkF m 9 #[.val (.int p0), .val (.int p1), .val (.ref (f1 p0 wT wF wU wJ)), .unset, .unset, .unset, .unset, .unset, .unset] [(.ref (f1 p1 wT wF wU wJ))])) _
    refine XS.astoreN X11.here hx rfl (hb hby at_9) rfl rfl (l' := #[.val (.int p0), .val (.int p1), .val (.ref (f1 p0 wT wF wU wJ)), .val (.ref (f1 p1 wT wF wU wJ)), .unset, .unset, .unset, .unset, .unset]) rfl ?_
    show Steps p.tables e below (T11.setTop (mkF m 10 #[.val (.int p0), .val (.int p1), .val (.ref (f1 p0 wT wF wU wJ)), .val (.ref (f1 p1 wT wF wU wJ)), .unset, .unset, .unset, .unset, .unset] [])) _
    refine XS.aloadN X11.here hx rfl (hb hby at_10) rfl rfl ?_
    exact k)
  obtain ⟨cq14, kq14, q14a, q14b, q14c⟩ := isOf hZ e11 (own_p (P := fun a => Exa Z _ a "com/example/pedantic_conformance/pedanticconformance/rules/safetycenter/Truth") I4 I5 I6 I7)
  obtain ⟨_, _, ⟨T14, L14, k14, n14⟩, -, X14, ⟨Lc14, hQ14, l14, y14, z14⟩, st14⟩ := X11.virtualBack hx (y := (⟨"com/example/pedantic_conformance/pedanticconformance/rules/safetycenter/Truth", "not", "()Lcom/example/pedantic_conformance/pedanticconformance/rules/safetycenter/Truth;"⟩ : MethodName)) (z := (⟨"com/example/pedantic_conformance/pedanticconformance/rules/safetycenter/Truth", "not", "()Lcom/example/pedantic_conformance/pedanticconformance/rules/safetycenter/Truth;"⟩ : MethodName)) hown (mvT hZ (hw _ (List.mem_of_getElem? (i := 9) rfl))) (mvT hZ (hw _ (List.mem_of_getElem? (i := 10) rfl))) (notFace_of_selects (args := #[]) (mvT hZ (hw _ (List.mem_of_getElem? (i := 12) rfl)))) (mvT hZ (hw _ (List.mem_of_getElem? (i := 12) rfl))) (mvT hZ (hw _ (List.mem_of_getElem? (i := 11) rfl))) (by decide) (backOf (W := 0) (rm2 l Z a0 hw [] (f1 p0 wT wF wU wJ) wT wF wU wJ h0 n0 Z0 I0 I1 I2 I3) hZ (hw _ (List.mem_of_getElem? (i := 13) rfl)) (hw _ (List.mem_of_getElem? (i := 5) rfl)) (by decide) (by decide)) q14a q14c (g := (mkF m 11 #[.val (.int p0), .val (.int p1), .val (.ref (f1 p0 wT wF wU wJ)), .val (.ref (f1 p1 wT wF wU wJ)), .unset, .unset, .unset, .unset, .unset] [(.ref (f1 p0 wT wF wU wJ))])) rfl (by rw [hml]; rfl) (Steps.refl _) (argsL := []) (rest := []) (lenOf pd___Lcom_example_pedantic_conformance_pedanticconformance_rules_safetycenter_Truth_ rfl) rfl (by show 2 * 0 + _ ≤ _; exact Nat.le_of_eq rfl) (hb hby at_11) (fun _ _ => ⟨rfl, e11, (by decide : 0 + 0 ≤ _), (by decide : 0 + 0 ≤ _)⟩)
  dsimp only [Pt.U, Pt.locs, Pt.cells, Pt.slots] at X14 l14 y14 z14 st14 hQ14
  subst l14 y14 z14
  obtain ⟨rfl, Nq14, e14⟩ := hQ14
  have N14 := Fr.app N11 Nq14
  have pre15 : ∀ t, Steps p.tables e below (T14.setTop (mkF m 14 #[.val (.int p0), .val (.int p1), .val (.ref (f1 p0 wT wF wU wJ)), .val (.ref (f1 p1 wT wF wU wJ)), .unset, .unset, .unset, .unset, .unset] [(.ref (f2 (f1 p0 wT wF wU wJ) wT wF))])) t → Steps p.tables e below (s₁.setTop (entryFrame m #[(.int p0), (.int p1)] maxLocals)) t := fun t k => pre13 t (st14.trans k)
  have pre16 : ∀ t, Steps p.tables e below (T14.setTop (mkF m 17 #[.val (.int p0), .val (.int p1), .val (.ref (f1 p0 wT wF wU wJ)), .val (.ref (f1 p1 wT wF wU wJ)), .val (.ref (f2 (f1 p0 wT wF wU wJ) wT wF)), .unset, .unset, .unset, .unset] [(.ref (f1 p1 wT wF wU wJ))])) t → Steps p.tables e below (s₁.setTop (entryFrame m #[(.int p0), (.int p1)] maxLocals)) t := fun t k => pre15 t (by
    show Steps p.tables e below (T14.setTop (mkF m 14 #[.val (.int p0), .val (.int p1), .val (.ref (f1 p0 wT wF wU wJ)), .val (.ref (f1 p1 wT wF wU wJ)), .unset, .unset, .unset, .unset, .unset] [(.ref (f2 (f1 p0 wT wF wU wJ) wT wF))])) _
    refine XS.astore X14.here hx rfl (hb hby at_14) rfl rfl (l' := #[.val (.int p0), .val (.int p1), .val (.ref (f1 p0 wT wF wU wJ)), .val (.ref (f1 p1 wT wF wU wJ)), .val (.ref (f2 (f1 p0 wT wF wU wJ) wT wF)), .unset, .unset, .unset, .unset]) rfl ?_
    show Steps p.tables e below (T14.setTop (mkF m 16 #[.val (.int p0), .val (.int p1), .val (.ref (f1 p0 wT wF wU wJ)), .val (.ref (f1 p1 wT wF wU wJ)), .val (.ref (f2 (f1 p0 wT wF wU wJ) wT wF)), .unset, .unset, .unset, .unset] [])) _
    refine XS.aloadN X14.here hx rfl (hb hby at_16) rfl rfl ?_
    exact k)
  obtain ⟨cq17, kq17, q17a, q17b, q17c⟩ := isOf hZ e14 (own_p (P := fun a => Exa Z _ a "com/example/pedantic_conformance/pedanticconformance/rules/safetycenter/Truth") I4 I5 I6 I7)
  obtain ⟨_, _, ⟨T17, L17, k17, n17⟩, -, X17, ⟨Lc17, hQ17, l17, y17, z17⟩, st17⟩ := X14.virtualBack hx (y := (⟨"com/example/pedantic_conformance/pedanticconformance/rules/safetycenter/Truth", "not", "()Lcom/example/pedantic_conformance/pedanticconformance/rules/safetycenter/Truth;"⟩ : MethodName)) (z := (⟨"com/example/pedantic_conformance/pedanticconformance/rules/safetycenter/Truth", "not", "()Lcom/example/pedantic_conformance/pedanticconformance/rules/safetycenter/Truth;"⟩ : MethodName)) hown (mvT hZ (hw _ (List.mem_of_getElem? (i := 9) rfl))) (mvT hZ (hw _ (List.mem_of_getElem? (i := 10) rfl))) (notFace_of_selects (args := #[]) (mvT hZ (hw _ (List.mem_of_getElem? (i := 12) rfl)))) (mvT hZ (hw _ (List.mem_of_getElem? (i := 12) rfl))) (mvT hZ (hw _ (List.mem_of_getElem? (i := 11) rfl))) (by decide) (backOf (W := 0) (rm2 l Z a0 hw [] (f1 p1 wT wF wU wJ) wT wF wU wJ h0 n0 Z0 I0 I1 I2 I3) hZ (hw _ (List.mem_of_getElem? (i := 13) rfl)) (hw _ (List.mem_of_getElem? (i := 5) rfl)) (by decide) (by decide)) q17a q17c (g := (mkF m 17 #[.val (.int p0), .val (.int p1), .val (.ref (f1 p0 wT wF wU wJ)), .val (.ref (f1 p1 wT wF wU wJ)), .val (.ref (f2 (f1 p0 wT wF wU wJ) wT wF)), .unset, .unset, .unset, .unset] [(.ref (f1 p1 wT wF wU wJ))])) rfl (by rw [hml]; rfl) (Steps.refl _) (argsL := []) (rest := []) (lenOf pd___Lcom_example_pedantic_conformance_pedanticconformance_rules_safetycenter_Truth_ rfl) rfl (by show 2 * 0 + _ ≤ _; exact Nat.le_of_eq rfl) (hb hby at_17) (fun _ _ => ⟨rfl, e14, (by decide : 0 + 0 ≤ _), (by decide : 0 + 0 ≤ _)⟩)
  dsimp only [Pt.U, Pt.locs, Pt.cells, Pt.slots] at X17 l17 y17 z17 st17 hQ17
  subst l17 y17 z17
  obtain ⟨rfl, Nq17, e17⟩ := hQ17
  have N17 := Fr.app N14 Nq17
  have pre18 : ∀ t, Steps p.tables e below (T17.setTop (mkF m 20 #[.val (.int p0), .val (.int p1), .val (.ref (f1 p0 wT wF wU wJ)), .val (.ref (f1 p1 wT wF wU wJ)), .val (.ref (f2 (f1 p0 wT wF wU wJ) wT wF)), .unset, .unset, .unset, .unset] [(.ref (f2 (f1 p1 wT wF wU wJ) wT wF))])) t → Steps p.tables e below (s₁.setTop (entryFrame m #[(.int p0), (.int p1)] maxLocals)) t := fun t k => pre16 t (st17.trans k)
  have pre19 : ∀ t, Steps p.tables e below (T17.setTop (mkF m 34 #[.val (.int p0), .val (.int p1), .val (.ref (f1 p0 wT wF wU wJ)), .val (.ref (f1 p1 wT wF wU wJ)), .val (.ref (f2 (f1 p0 wT wF wU wJ) wT wF)), .val (.ref (f2 (f1 p1 wT wF wU wJ) wT wF)), .unset, .unset, .unset] [])) t → Steps p.tables e below (s₁.setTop (entryFrame m #[(.int p0), (.int p1)] maxLocals)) t := fun t k => pre18 t (by
    show Steps p.tables e below (T17.setTop (mkF m 20 #[.val (.int p0), .val (.int p1), .val (.ref (f1 p0 wT wF wU wJ)), .val (.ref (f1 p1 wT wF wU wJ)), .val (.ref (f2 (f1 p0 wT wF wU wJ) wT wF)), .unset, .unset, .unset, .unset] [(.ref (f2 (f1 p1 wT wF wU wJ) wT wF))])) _
    refine XS.astore X17.here hx rfl (hb hby at_20) rfl rfl (l' := #[.val (.int p0), .val (.int p1), .val (.ref (f1 p0 wT wF wU wJ)), .val (.ref (f1 p1 wT wF wU wJ)), .val (.ref (f2 (f1 p0 wT wF wU wJ) wT wF)), .val (.ref (f2 (f1 p1 wT wF wU wJ) wT wF)), .unset, .unset, .unset]) rfl ?_
    show Steps p.tables e below (T17.setTop (mkF m 22 #[.val (.int p0), .val (.int p1), .val (.ref (f1 p0 wT wF wU wJ)), .val (.ref (f1 p1 wT wF wU wJ)), .val (.ref (f2 (f1 p0 wT wF wU wJ) wT wF)), .val (.ref (f2 (f1 p1 wT wF wU wJ) wT wF)), .unset, .unset, .unset] [])) _
    refine XS.aload X17.here hx rfl (hb hby at_22) rfl rfl ?_
    show Steps p.tables e below (T17.setTop (mkF m 24 #[.val (.int p0), .val (.int p1), .val (.ref (f1 p0 wT wF wU wJ)), .val (.ref (f1 p1 wT wF wU wJ)), .val (.ref (f2 (f1 p0 wT wF wU wJ) wT wF)), .val (.ref (f2 (f1 p1 wT wF wU wJ) wT wF)), .unset, .unset, .unset] [(.ref (f2 (f1 p0 wT wF wU wJ) wT wF))])) _
    refine XS.ifnullNo X17.here hx rfl (hb hby at_24) rfl ?_
    show Steps p.tables e below (T17.setTop (mkF m 27 #[.val (.int p0), .val (.int p1), .val (.ref (f1 p0 wT wF wU wJ)), .val (.ref (f1 p1 wT wF wU wJ)), .val (.ref (f2 (f1 p0 wT wF wU wJ) wT wF)), .val (.ref (f2 (f1 p1 wT wF wU wJ) wT wF)), .unset, .unset, .unset] [])) _
    refine XS.aload X17.here hx rfl (hb hby at_27) rfl rfl ?_
    show Steps p.tables e below (T17.setTop (mkF m 29 #[.val (.int p0), .val (.int p1), .val (.ref (f1 p0 wT wF wU wJ)), .val (.ref (f1 p1 wT wF wU wJ)), .val (.ref (f2 (f1 p0 wT wF wU wJ) wT wF)), .val (.ref (f2 (f1 p1 wT wF wU wJ) wT wF)), .unset, .unset, .unset] [(.ref (f2 (f1 p1 wT wF wU wJ) wT wF))])) _
    refine XS.ifnonnullYes X17.here hx rfl (pc0 := 29) (pc' := 34) rfl (hb hby at_29) rfl (by decide) (by decide) ?_
    exact k)
  obtain ⟨T20, X20, e20, st20⟩ := getS2 X17 hx hZ hown (host := "") (Or.inl (hw _ (List.mem_of_getElem? (i := 4) rfl))) Via.refl e17 I0 (g := (mkF m 34 #[.val (.int p0), .val (.int p1), .val (.ref (f1 p0 wT wF wU wJ)), .val (.ref (f1 p1 wT wF wU wJ)), .val (.ref (f2 (f1 p0 wT wF wU wJ) wT wF)), .val (.ref (f2 (f1 p1 wT wF wU wJ) wT wF)), .unset, .unset, .unset] [])) rfl (hb hby at_34)
  have pre21 : ∀ t, Steps p.tables e below (T20.setTop (mkF m 37 #[.val (.int p0), .val (.int p1), .val (.ref (f1 p0 wT wF wU wJ)), .val (.ref (f1 p1 wT wF wU wJ)), .val (.ref (f2 (f1 p0 wT wF wU wJ) wT wF)), .val (.ref (f2 (f1 p1 wT wF wU wJ) wT wF)), .unset, .unset, .unset] [(.ref wT)])) t → Steps p.tables e below (s₁.setTop (entryFrame m #[(.int p0), (.int p1)] maxLocals)) t := fun t k => pre19 t (st20 _ k)
  obtain ⟨cq22, kq22, q22a, q22b, q22c⟩ := isOf hZ e20 I4
  obtain ⟨_, _, ⟨T22, L22, k22, n22⟩, -, X22, ⟨Lc22, hQ22, l22, y22, z22⟩, st22⟩ := X20.virtualBack hx (y := (⟨"com/example/pedantic_conformance/pedanticconformance/rules/safetycenter/Truth", "not", "()Lcom/example/pedantic_conformance/pedanticconformance/rules/safetycenter/Truth;"⟩ : MethodName)) (z := (⟨"com/example/pedantic_conformance/pedanticconformance/rules/safetycenter/Truth", "not", "()Lcom/example/pedantic_conformance/pedanticconformance/rules/safetycenter/Truth;"⟩ : MethodName)) hown (mvT hZ (hw _ (List.mem_of_getElem? (i := 9) rfl))) (mvT hZ (hw _ (List.mem_of_getElem? (i := 10) rfl))) (notFace_of_selects (args := #[]) (mvT hZ (hw _ (List.mem_of_getElem? (i := 12) rfl)))) (mvT hZ (hw _ (List.mem_of_getElem? (i := 12) rfl))) (mvT hZ (hw _ (List.mem_of_getElem? (i := 11) rfl))) (by decide) (backOf (W := 0) (rm2 l Z a0 hw [] wT wT wF wU wJ h0 n0 Z0 I0 I1 I2 I3) hZ (hw _ (List.mem_of_getElem? (i := 13) rfl)) (hw _ (List.mem_of_getElem? (i := 5) rfl)) (by decide) (by decide)) q22a q22c (g := (mkF m 37 #[.val (.int p0), .val (.int p1), .val (.ref (f1 p0 wT wF wU wJ)), .val (.ref (f1 p1 wT wF wU wJ)), .val (.ref (f2 (f1 p0 wT wF wU wJ) wT wF)), .val (.ref (f2 (f1 p1 wT wF wU wJ) wT wF)), .unset, .unset, .unset] [(.ref wT)])) rfl (by rw [hml]; rfl) (Steps.refl _) (argsL := []) (rest := []) (lenOf pd___Lcom_example_pedantic_conformance_pedanticconformance_rules_safetycenter_Truth_ rfl) rfl (by show 2 * 0 + _ ≤ _; exact Nat.le_of_eq rfl) (hb hby at_37) (fun _ _ => ⟨rfl, e20, (by decide : 0 + 0 ≤ _), (by decide : 0 + 0 ≤ _)⟩)
  dsimp only [Pt.U, Pt.locs, Pt.cells, Pt.slots] at X22 l22 y22 z22 st22 hQ22
  subst l22 y22 z22
  obtain ⟨rfl, Nq22, e22⟩ := hQ22
  have N22 := Fr.app N17 Nq22
  have pre23 : ∀ t, Steps p.tables e below (T22.setTop (mkF m 40 #[.val (.int p0), .val (.int p1), .val (.ref (f1 p0 wT wF wU wJ)), .val (.ref (f1 p1 wT wF wU wJ)), .val (.ref (f2 (f1 p0 wT wF wU wJ) wT wF)), .val (.ref (f2 (f1 p1 wT wF wU wJ) wT wF)), .unset, .unset, .unset] [(.ref (f2 wT wT wF))])) t → Steps p.tables e below (s₁.setTop (entryFrame m #[(.int p0), (.int p1)] maxLocals)) t := fun t k => pre21 t (st22.trans k)
  obtain ⟨T24, X24, e24, st24⟩ := getS2 X22 hx hZ hown (host := "") (Or.inl (hw _ (List.mem_of_getElem? (i := 17) rfl))) Via.refl e22 I1 (g := (mkF m 40 #[.val (.int p0), .val (.int p1), .val (.ref (f1 p0 wT wF wU wJ)), .val (.ref (f1 p1 wT wF wU wJ)), .val (.ref (f2 (f1 p0 wT wF wU wJ) wT wF)), .val (.ref (f2 (f1 p1 wT wF wU wJ) wT wF)), .unset, .unset, .unset] [(.ref (f2 wT wT wF))])) rfl (hb hby at_40)
  have pre25 : ∀ t, Steps p.tables e below (T24.setTop (mkF m 43 #[.val (.int p0), .val (.int p1), .val (.ref (f1 p0 wT wF wU wJ)), .val (.ref (f1 p1 wT wF wU wJ)), .val (.ref (f2 (f1 p0 wT wF wU wJ) wT wF)), .val (.ref (f2 (f1 p1 wT wF wU wJ) wT wF)), .unset, .unset, .unset] [(.ref wF), (.ref (f2 wT wT wF))])) t → Steps p.tables e below (s₁.setTop (entryFrame m #[(.int p0), (.int p1)] maxLocals)) t := fun t k => pre23 t (st24 _ k)
  obtain ⟨T26, L26, X26, e26, N26, pre26⟩ : ∃ (T' : State) (L' : List Loc), Stand p l e room_1 s m #[(.int p0), (.int p1)] below meth c T' L' 0 0 ∧ T'.heap = h0 ∧ Fr n0 L' ∧ ∀ t, Steps p.tables e below (T'.setTop (mkF m 51 #[.val (.int p0), .val (.int p1), .val (.ref (f1 p0 wT wF wU wJ)), .val (.ref (f1 p1 wT wF wU wJ)), .val (.ref (f2 (f1 p0 wT wF wU wJ) wT wF)), .val (.ref (f2 (f1 p1 wT wF wU wJ) wT wF)), .unset, .unset, .unset] [(.int (v0_51_s0 wT wF))])) t → Steps p.tables e below (s₁.setTop (entryFrame m #[(.int p0), (.int p1)] maxLocals)) t := by
    by_cases hc43_1 : (f2 wT wT wF) = wF
    · have pre27 : ∀ t, Steps p.tables e below (T24.setTop (mkF m 51 #[.val (.int p0), .val (.int p1), .val (.ref (f1 p0 wT wF wU wJ)), .val (.ref (f1 p1 wT wF wU wJ)), .val (.ref (f2 (f1 p0 wT wF wU wJ) wT wF)), .val (.ref (f2 (f1 p1 wT wF wU wJ) wT wF)), .unset, .unset, .unset] [(.int (1 : Int32))])) t → Steps p.tables e below (s₁.setTop (entryFrame m #[(.int p0), (.int p1)] maxLocals)) t := fun t k => pre25 t (by
        show Steps p.tables e below (T24.setTop (mkF m 43 #[.val (.int p0), .val (.int p1), .val (.ref (f1 p0 wT wF wU wJ)), .val (.ref (f1 p1 wT wF wU wJ)), .val (.ref (f2 (f1 p0 wT wF wU wJ) wT wF)), .val (.ref (f2 (f1 p1 wT wF wU wJ) wT wF)), .unset, .unset, .unset] [(.ref wF), (.ref (f2 wT wT wF))])) _
        refine Jvm.RoadKit.acmp (g := (mkF m 43 #[.val (.int p0), .val (.int p1), .val (.ref (f1 p0 wT wF wU wJ)), .val (.ref (f1 p1 wT wF wU wJ)), .val (.ref (f2 (f1 p0 wT wF wU wJ) wT wF)), .val (.ref (f2 (f1 p1 wT wF wU wJ) wT wF)), .unset, .unset, .unset] [(.ref wF), (.ref (f2 wT wT wF))])) X24 hx rfl rfl rfl (pc0 := 43) (pc' := 46) (same := true) rfl (hb hby at_43) rfl (decide_eq_true (congrArg Value.ref hc43_1)) (by decide) (by decide) ?_
        show Steps p.tables e below (T24.setTop (mkF m 46 #[.val (.int p0), .val (.int p1), .val (.ref (f1 p0 wT wF wU wJ)), .val (.ref (f1 p1 wT wF wU wJ)), .val (.ref (f2 (f1 p0 wT wF wU wJ) wT wF)), .val (.ref (f2 (f1 p1 wT wF wU wJ) wT wF)), .unset, .unset, .unset] [])) _
        refine XS.iconst X24.here hx rfl (hb hby at_46) ?_
        show Steps p.tables e below (T24.setTop (mkF m 47 #[.val (.int p0), .val (.int p1), .val (.ref (f1 p0 wT wF wU wJ)), .val (.ref (f1 p1 wT wF wU wJ)), .val (.ref (f2 (f1 p0 wT wF wU wJ) wT wF)), .val (.ref (f2 (f1 p1 wT wF wU wJ) wT wF)), .unset, .unset, .unset] [(.int (1 : Int32))])) _
        refine XS.goto X24.here hx rfl (pc0 := 47) (pc' := 51) rfl (hb hby at_47) (by decide) (by decide) ?_
        exact k)
      exact ⟨T24, _, X24, e24, N22, fun t k => pre27 t (by simpa only [v0_51_s0, if_pos hc43_1] using k)⟩
    · have pre28 : ∀ t, Steps p.tables e below (T24.setTop (mkF m 51 #[.val (.int p0), .val (.int p1), .val (.ref (f1 p0 wT wF wU wJ)), .val (.ref (f1 p1 wT wF wU wJ)), .val (.ref (f2 (f1 p0 wT wF wU wJ) wT wF)), .val (.ref (f2 (f1 p1 wT wF wU wJ) wT wF)), .unset, .unset, .unset] [(.int (0 : Int32))])) t → Steps p.tables e below (s₁.setTop (entryFrame m #[(.int p0), (.int p1)] maxLocals)) t := fun t k => pre25 t (by
        show Steps p.tables e below (T24.setTop (mkF m 43 #[.val (.int p0), .val (.int p1), .val (.ref (f1 p0 wT wF wU wJ)), .val (.ref (f1 p1 wT wF wU wJ)), .val (.ref (f2 (f1 p0 wT wF wU wJ) wT wF)), .val (.ref (f2 (f1 p1 wT wF wU wJ) wT wF)), .unset, .unset, .unset] [(.ref wF), (.ref (f2 wT wT wF))])) _
        refine Jvm.RoadKit.acmp (g := (mkF m 43 #[.val (.int p0), .val (.int p1), .val (.ref (f1 p0 wT wF wU wJ)), .val (.ref (f1 p1 wT wF wU wJ)), .val (.ref (f2 (f1 p0 wT wF wU wJ) wT wF)), .val (.ref (f2 (f1 p1 wT wF wU wJ) wT wF)), .unset, .unset, .unset] [(.ref wF), (.ref (f2 wT wT wF))])) X24 hx rfl rfl rfl (pc0 := 43) (pc' := 50) (same := false) rfl (hb hby at_43) rfl (decide_eq_false fun q => hc43_1 (Value.ref.inj q)) (by decide) (by decide) ?_
        show Steps p.tables e below (T24.setTop (mkF m 50 #[.val (.int p0), .val (.int p1), .val (.ref (f1 p0 wT wF wU wJ)), .val (.ref (f1 p1 wT wF wU wJ)), .val (.ref (f2 (f1 p0 wT wF wU wJ) wT wF)), .val (.ref (f2 (f1 p1 wT wF wU wJ) wT wF)), .unset, .unset, .unset] [])) _
        refine XS.iconst X24.here hx rfl (hb hby at_50) ?_
        exact k)
      exact ⟨T24, _, X24, e24, N22, fun t k => pre28 t (by simpa only [v0_51_s0, if_neg hc43_1] using k)⟩
  have pre29 : ∀ t, Steps p.tables e below (T26.setTop (mkF m 55 #[.val (.int p0), .val (.int p1), .val (.ref (f1 p0 wT wF wU wJ)), .val (.ref (f1 p1 wT wF wU wJ)), .val (.ref (f2 (f1 p0 wT wF wU wJ) wT wF)), .val (.ref (f2 (f1 p1 wT wF wU wJ) wT wF)), .val (.int (v0_51_s0 wT wF)), .unset, .unset] [(.ref (f2 (f1 p0 wT wF wU wJ) wT wF))])) t → Steps p.tables e below (s₁.setTop (entryFrame m #[(.int p0), (.int p1)] maxLocals)) t := fun t k => pre26 t (by
    show Steps p.tables e below (T26.setTop (mkF m 51 #[.val (.int p0), .val (.int p1), .val (.ref (f1 p0 wT wF wU wJ)), .val (.ref (f1 p1 wT wF wU wJ)), .val (.ref (f2 (f1 p0 wT wF wU wJ) wT wF)), .val (.ref (f2 (f1 p1 wT wF wU wJ) wT wF)), .unset, .unset, .unset] [(.int (v0_51_s0 wT wF))])) _
    refine XS.istore X26.here hx rfl (hb hby at_51) rfl (l' := #[.val (.int p0), .val (.int p1), .val (.ref (f1 p0 wT wF wU wJ)), .val (.ref (f1 p1 wT wF wU wJ)), .val (.ref (f2 (f1 p0 wT wF wU wJ) wT wF)), .val (.ref (f2 (f1 p1 wT wF wU wJ) wT wF)), .val (.int (v0_51_s0 wT wF)), .unset, .unset]) rfl ?_
    show Steps p.tables e below (T26.setTop (mkF m 53 #[.val (.int p0), .val (.int p1), .val (.ref (f1 p0 wT wF wU wJ)), .val (.ref (f1 p1 wT wF wU wJ)), .val (.ref (f2 (f1 p0 wT wF wU wJ) wT wF)), .val (.ref (f2 (f1 p1 wT wF wU wJ) wT wF)), .val (.int (v0_51_s0 wT wF)), .unset, .unset] [])) _
    refine XS.aload X26.here hx rfl (hb hby at_53) rfl rfl ?_
    exact k)
  obtain ⟨cq30, kq30, q30a, q30b, q30c⟩ := isOf hZ e26 (own_n (P := fun a => Exa Z _ a "com/example/pedantic_conformance/pedanticconformance/rules/safetycenter/Truth") (own_p (P := fun a => Exa Z _ a "com/example/pedantic_conformance/pedanticconformance/rules/safetycenter/Truth") I4 I5 I6 I7) I4 I5)
  obtain ⟨_, _, ⟨T30, L30, k30, n30⟩, -, X30, ⟨Lc30, hQ30, l30, y30, z30⟩, st30⟩ := X26.virtualBack hx (y := (⟨"com/example/pedantic_conformance/pedanticconformance/rules/safetycenter/Truth", "not", "()Lcom/example/pedantic_conformance/pedanticconformance/rules/safetycenter/Truth;"⟩ : MethodName)) (z := (⟨"com/example/pedantic_conformance/pedanticconformance/rules/safetycenter/Truth", "not", "()Lcom/example/pedantic_conformance/pedanticconformance/rules/safetycenter/Truth;"⟩ : MethodName)) hown (mvT hZ (hw _ (List.mem_of_getElem? (i := 9) rfl))) (mvT hZ (hw _ (List.mem_of_getElem? (i := 10) rfl))) (notFace_of_selects (args := #[]) (mvT hZ (hw _ (List.mem_of_getElem? (i := 12) rfl)))) (mvT hZ (hw _ (List.mem_of_getElem? (i := 12) rfl))) (mvT hZ (hw _ (List.mem_of_getElem? (i := 11) rfl))) (by decide) (backOf (W := 0) (rm2 l Z a0 hw [] (f2 (f1 p0 wT wF wU wJ) wT wF) wT wF wU wJ h0 n0 Z0 I0 I1 I2 I3) hZ (hw _ (List.mem_of_getElem? (i := 13) rfl)) (hw _ (List.mem_of_getElem? (i := 5) rfl)) (by decide) (by decide)) q30a q30c (g := (mkF m 55 #[.val (.int p0), .val (.int p1), .val (.ref (f1 p0 wT wF wU wJ)), .val (.ref (f1 p1 wT wF wU wJ)), .val (.ref (f2 (f1 p0 wT wF wU wJ) wT wF)), .val (.ref (f2 (f1 p1 wT wF wU wJ) wT wF)), .val (.int (v0_51_s0 wT wF)), .unset, .unset] [(.ref (f2 (f1 p0 wT wF wU wJ) wT wF))])) rfl (by rw [hml]; rfl) (Steps.refl _) (argsL := []) (rest := []) (lenOf pd___Lcom_example_pedantic_conformance_pedanticconformance_rules_safetycenter_Truth_ rfl) rfl (by show 2 * 0 + _ ≤ _; exact Nat.le_of_eq rfl) (hb hby at_55) (fun _ _ => ⟨rfl, e26, (by decide : 0 + 0 ≤ _), (by decide : 0 + 0 ≤ _)⟩)
  dsimp only [Pt.U, Pt.locs, Pt.cells, Pt.slots] at X30 l30 y30 z30 st30 hQ30
  subst l30 y30 z30
  obtain ⟨rfl, Nq30, e30⟩ := hQ30
  have N30 := Fr.app N26 Nq30
  have pre31 : ∀ t, Steps p.tables e below (T30.setTop (mkF m 58 #[.val (.int p0), .val (.int p1), .val (.ref (f1 p0 wT wF wU wJ)), .val (.ref (f1 p1 wT wF wU wJ)), .val (.ref (f2 (f1 p0 wT wF wU wJ) wT wF)), .val (.ref (f2 (f1 p1 wT wF wU wJ) wT wF)), .val (.int (v0_51_s0 wT wF)), .unset, .unset] [(.ref (f2 (f2 (f1 p0 wT wF wU wJ) wT wF) wT wF))])) t → Steps p.tables e below (s₁.setTop (entryFrame m #[(.int p0), (.int p1)] maxLocals)) t := fun t k => pre29 t (st30.trans k)
  have pre32 : ∀ t, Steps p.tables e below (T30.setTop (mkF m 59 #[.val (.int p0), .val (.int p1), .val (.ref (f1 p0 wT wF wU wJ)), .val (.ref (f1 p1 wT wF wU wJ)), .val (.ref (f2 (f1 p0 wT wF wU wJ) wT wF)), .val (.ref (f2 (f1 p1 wT wF wU wJ) wT wF)), .val (.int (v0_51_s0 wT wF)), .unset, .unset] [(.ref (f1 p0 wT wF wU wJ)), (.ref (f2 (f2 (f1 p0 wT wF wU wJ) wT wF) wT wF))])) t → Steps p.tables e below (s₁.setTop (entryFrame m #[(.int p0), (.int p1)] maxLocals)) t := fun t k => pre31 t (by
    show Steps p.tables e below (T30.setTop (mkF m 58 #[.val (.int p0), .val (.int p1), .val (.ref (f1 p0 wT wF wU wJ)), .val (.ref (f1 p1 wT wF wU wJ)), .val (.ref (f2 (f1 p0 wT wF wU wJ) wT wF)), .val (.ref (f2 (f1 p1 wT wF wU wJ) wT wF)), .val (.int (v0_51_s0 wT wF)), .unset, .unset] [(.ref (f2 (f2 (f1 p0 wT wF wU wJ) wT wF) wT wF))])) _
    refine XS.aloadN X30.here hx rfl (hb hby at_58) rfl rfl ?_
    exact k)
  obtain ⟨T33, L33, X33, e33, N33, pre33⟩ : ∃ (T' : State) (L' : List Loc), Stand p l e room_1 s m #[(.int p0), (.int p1)] below meth c T' L' 0 0 ∧ T'.heap = h0 ∧ Fr n0 L' ∧ ∀ t, Steps p.tables e below (T'.setTop (mkF m 67 #[.val (.int p0), .val (.int p1), .val (.ref (f1 p0 wT wF wU wJ)), .val (.ref (f1 p1 wT wF wU wJ)), .val (.ref (f2 (f1 p0 wT wF wU wJ) wT wF)), .val (.ref (f2 (f1 p1 wT wF wU wJ) wT wF)), .val (.int (v0_51_s0 wT wF)), .unset, .unset] [(.int (v0_67_s0 p0 wT wF wU wJ))])) t → Steps p.tables e below (s₁.setTop (entryFrame m #[(.int p0), (.int p1)] maxLocals)) t := by
    by_cases hc59_2 : (f2 (f2 (f1 p0 wT wF wU wJ) wT wF) wT wF) = (f1 p0 wT wF wU wJ)
    · have pre34 : ∀ t, Steps p.tables e below (T30.setTop (mkF m 67 #[.val (.int p0), .val (.int p1), .val (.ref (f1 p0 wT wF wU wJ)), .val (.ref (f1 p1 wT wF wU wJ)), .val (.ref (f2 (f1 p0 wT wF wU wJ) wT wF)), .val (.ref (f2 (f1 p1 wT wF wU wJ) wT wF)), .val (.int (v0_51_s0 wT wF)), .unset, .unset] [(.int (1 : Int32))])) t → Steps p.tables e below (s₁.setTop (entryFrame m #[(.int p0), (.int p1)] maxLocals)) t := fun t k => pre32 t (by
        show Steps p.tables e below (T30.setTop (mkF m 59 #[.val (.int p0), .val (.int p1), .val (.ref (f1 p0 wT wF wU wJ)), .val (.ref (f1 p1 wT wF wU wJ)), .val (.ref (f2 (f1 p0 wT wF wU wJ) wT wF)), .val (.ref (f2 (f1 p1 wT wF wU wJ) wT wF)), .val (.int (v0_51_s0 wT wF)), .unset, .unset] [(.ref (f1 p0 wT wF wU wJ)), (.ref (f2 (f2 (f1 p0 wT wF wU wJ) wT wF) wT wF))])) _
        refine Jvm.RoadKit.acmp (g := (mkF m 59 #[.val (.int p0), .val (.int p1), .val (.ref (f1 p0 wT wF wU wJ)), .val (.ref (f1 p1 wT wF wU wJ)), .val (.ref (f2 (f1 p0 wT wF wU wJ) wT wF)), .val (.ref (f2 (f1 p1 wT wF wU wJ) wT wF)), .val (.int (v0_51_s0 wT wF)), .unset, .unset] [(.ref (f1 p0 wT wF wU wJ)), (.ref (f2 (f2 (f1 p0 wT wF wU wJ) wT wF) wT wF))])) X30 hx rfl rfl rfl (pc0 := 59) (pc' := 62) (same := true) rfl (hb hby at_59) rfl (decide_eq_true (congrArg Value.ref hc59_2)) (by decide) (by decide) ?_
        show Steps p.tables e below (T30.setTop (mkF m 62 #[.val (.int p0), .val (.int p1), .val (.ref (f1 p0 wT wF wU wJ)), .val (.ref (f1 p1 wT wF wU wJ)), .val (.ref (f2 (f1 p0 wT wF wU wJ) wT wF)), .val (.ref (f2 (f1 p1 wT wF wU wJ) wT wF)), .val (.int (v0_51_s0 wT wF)), .unset, .unset] [])) _
        refine XS.iconst X30.here hx rfl (hb hby at_62) ?_
        show Steps p.tables e below (T30.setTop (mkF m 63 #[.val (.int p0), .val (.int p1), .val (.ref (f1 p0 wT wF wU wJ)), .val (.ref (f1 p1 wT wF wU wJ)), .val (.ref (f2 (f1 p0 wT wF wU wJ) wT wF)), .val (.ref (f2 (f1 p1 wT wF wU wJ) wT wF)), .val (.int (v0_51_s0 wT wF)), .unset, .unset] [(.int (1 : Int32))])) _
        refine XS.goto X30.here hx rfl (pc0 := 63) (pc' := 67) rfl (hb hby at_63) (by decide) (by decide) ?_
        exact k)
      exact ⟨T30, _, X30, e30, N30, fun t k => pre34 t (by simpa only [v0_67_s0, if_pos hc59_2] using k)⟩
    · have pre35 : ∀ t, Steps p.tables e below (T30.setTop (mkF m 67 #[.val (.int p0), .val (.int p1), .val (.ref (f1 p0 wT wF wU wJ)), .val (.ref (f1 p1 wT wF wU wJ)), .val (.ref (f2 (f1 p0 wT wF wU wJ) wT wF)), .val (.ref (f2 (f1 p1 wT wF wU wJ) wT wF)), .val (.int (v0_51_s0 wT wF)), .unset, .unset] [(.int (0 : Int32))])) t → Steps p.tables e below (s₁.setTop (entryFrame m #[(.int p0), (.int p1)] maxLocals)) t := fun t k => pre32 t (by
        show Steps p.tables e below (T30.setTop (mkF m 59 #[.val (.int p0), .val (.int p1), .val (.ref (f1 p0 wT wF wU wJ)), .val (.ref (f1 p1 wT wF wU wJ)), .val (.ref (f2 (f1 p0 wT wF wU wJ) wT wF)), .val (.ref (f2 (f1 p1 wT wF wU wJ) wT wF)), .val (.int (v0_51_s0 wT wF)), .unset, .unset] [(.ref (f1 p0 wT wF wU wJ)), (.ref (f2 (f2 (f1 p0 wT wF wU wJ) wT wF) wT wF))])) _
        refine Jvm.RoadKit.acmp (g := (mkF m 59 #[.val (.int p0), .val (.int p1), .val (.ref (f1 p0 wT wF wU wJ)), .val (.ref (f1 p1 wT wF wU wJ)), .val (.ref (f2 (f1 p0 wT wF wU wJ) wT wF)), .val (.ref (f2 (f1 p1 wT wF wU wJ) wT wF)), .val (.int (v0_51_s0 wT wF)), .unset, .unset] [(.ref (f1 p0 wT wF wU wJ)), (.ref (f2 (f2 (f1 p0 wT wF wU wJ) wT wF) wT wF))])) X30 hx rfl rfl rfl (pc0 := 59) (pc' := 66) (same := false) rfl (hb hby at_59) rfl (decide_eq_false fun q => hc59_2 (Value.ref.inj q)) (by decide) (by decide) ?_
        show Steps p.tables e below (T30.setTop (mkF m 66 #[.val (.int p0), .val (.int p1), .val (.ref (f1 p0 wT wF wU wJ)), .val (.ref (f1 p1 wT wF wU wJ)), .val (.ref (f2 (f1 p0 wT wF wU wJ) wT wF)), .val (.ref (f2 (f1 p1 wT wF wU wJ) wT wF)), .val (.int (v0_51_s0 wT wF)), .unset, .unset] [])) _
        refine XS.iconst X30.here hx rfl (hb hby at_66) ?_
        exact k)
      exact ⟨T30, _, X30, e30, N30, fun t k => pre35 t (by simpa only [v0_67_s0, if_neg hc59_2] using k)⟩
  have pre36 : ∀ t, Steps p.tables e below (T33.setTop (mkF m 71 #[.val (.int p0), .val (.int p1), .val (.ref (f1 p0 wT wF wU wJ)), .val (.ref (f1 p1 wT wF wU wJ)), .val (.ref (f2 (f1 p0 wT wF wU wJ) wT wF)), .val (.ref (f2 (f1 p1 wT wF wU wJ) wT wF)), .val (.int (v0_51_s0 wT wF)), .val (.int (v0_67_s0 p0 wT wF wU wJ)), .unset] [(.ref (f1 p1 wT wF wU wJ)), (.ref (f1 p0 wT wF wU wJ))])) t → Steps p.tables e below (s₁.setTop (entryFrame m #[(.int p0), (.int p1)] maxLocals)) t := fun t k => pre33 t (by
    show Steps p.tables e below (T33.setTop (mkF m 67 #[.val (.int p0), .val (.int p1), .val (.ref (f1 p0 wT wF wU wJ)), .val (.ref (f1 p1 wT wF wU wJ)), .val (.ref (f2 (f1 p0 wT wF wU wJ) wT wF)), .val (.ref (f2 (f1 p1 wT wF wU wJ) wT wF)), .val (.int (v0_51_s0 wT wF)), .unset, .unset] [(.int (v0_67_s0 p0 wT wF wU wJ))])) _
    refine XS.istore X33.here hx rfl (hb hby at_67) rfl (l' := #[.val (.int p0), .val (.int p1), .val (.ref (f1 p0 wT wF wU wJ)), .val (.ref (f1 p1 wT wF wU wJ)), .val (.ref (f2 (f1 p0 wT wF wU wJ) wT wF)), .val (.ref (f2 (f1 p1 wT wF wU wJ) wT wF)), .val (.int (v0_51_s0 wT wF)), .val (.int (v0_67_s0 p0 wT wF wU wJ)), .unset]) rfl ?_
    show Steps p.tables e below (T33.setTop (mkF m 69 #[.val (.int p0), .val (.int p1), .val (.ref (f1 p0 wT wF wU wJ)), .val (.ref (f1 p1 wT wF wU wJ)), .val (.ref (f2 (f1 p0 wT wF wU wJ) wT wF)), .val (.ref (f2 (f1 p1 wT wF wU wJ) wT wF)), .val (.int (v0_51_s0 wT wF)), .val (.int (v0_67_s0 p0 wT wF wU wJ)), .unset] [])) _
    refine XS.aloadN X33.here hx rfl (hb hby at_69) rfl rfl ?_
    show Steps p.tables e below (T33.setTop (mkF m 70 #[.val (.int p0), .val (.int p1), .val (.ref (f1 p0 wT wF wU wJ)), .val (.ref (f1 p1 wT wF wU wJ)), .val (.ref (f2 (f1 p0 wT wF wU wJ) wT wF)), .val (.ref (f2 (f1 p1 wT wF wU wJ) wT wF)), .val (.int (v0_51_s0 wT wF)), .val (.int (v0_67_s0 p0 wT wF wU wJ)), .unset] [(.ref (f1 p0 wT wF wU wJ))])) _
    refine XS.aloadN X33.here hx rfl (hb hby at_70) rfl rfl ?_
    exact k)
  obtain ⟨cq37, kq37, q37a, q37b, q37c⟩ := isOf hZ e33 (own_p (P := fun a => Exa Z _ a "com/example/pedantic_conformance/pedanticconformance/rules/safetycenter/Truth") I4 I5 I6 I7)
  obtain ⟨_, _, ⟨T37, L37, k37, n37⟩, -, X37, ⟨Lc37, hQ37, l37, y37, z37⟩, st37⟩ := X33.virtualBack hx (y := (⟨"com/example/pedantic_conformance/pedanticconformance/rules/safetycenter/Truth", "and", "(Lcom/example/pedantic_conformance/pedanticconformance/rules/safetycenter/Truth;)Lcom/example/pedantic_conformance/pedanticconformance/rules/safetycenter/Truth;"⟩ : MethodName)) (z := (⟨"com/example/pedantic_conformance/pedanticconformance/rules/safetycenter/Truth", "and", "(Lcom/example/pedantic_conformance/pedanticconformance/rules/safetycenter/Truth;)Lcom/example/pedantic_conformance/pedanticconformance/rules/safetycenter/Truth;"⟩ : MethodName)) hown (mvT hZ (hw _ (List.mem_of_getElem? (i := 18) rfl))) (mvT hZ (hw _ (List.mem_of_getElem? (i := 19) rfl))) (notFace_of_selects (args := #[]) (mvT hZ (hw _ (List.mem_of_getElem? (i := 21) rfl)))) (mvT hZ (hw _ (List.mem_of_getElem? (i := 21) rfl))) (mvT hZ (hw _ (List.mem_of_getElem? (i := 20) rfl))) (by decide) (backOf (W := 0) (rm3 l Z a0 hw [] (f1 p0 wT wF wU wJ) (f1 p1 wT wF wU wJ) wT wF wU wJ h0 n0 Z0 I0 I1 I2 I3 (own_p (P := fun a => Exa Z _ a "com/example/pedantic_conformance/pedanticconformance/rules/safetycenter/Truth") I4 I5 I6 I7)) hZ (hw _ (List.mem_of_getElem? (i := 22) rfl)) (hw _ (List.mem_of_getElem? (i := 5) rfl)) (by decide) (by decide)) q37a q37c (g := (mkF m 71 #[.val (.int p0), .val (.int p1), .val (.ref (f1 p0 wT wF wU wJ)), .val (.ref (f1 p1 wT wF wU wJ)), .val (.ref (f2 (f1 p0 wT wF wU wJ) wT wF)), .val (.ref (f2 (f1 p1 wT wF wU wJ) wT wF)), .val (.int (v0_51_s0 wT wF)), .val (.int (v0_67_s0 p0 wT wF wU wJ)), .unset] [(.ref (f1 p1 wT wF wU wJ)), (.ref (f1 p0 wT wF wU wJ))])) rfl (by rw [hml]; rfl) (Steps.refl _) (argsL := [(.ref (f1 p1 wT wF wU wJ))]) (rest := []) (lenOf pd__Lcom_example_pedantic_conformance_pedanticconformance_rules_safetycenter_Truth__Lcom_example_pedantic_conformance_pedanticconformance_rules_safetycenter_Truth_ rfl) rfl (by show 2 * 0 + _ ≤ _; exact Nat.le_of_eq rfl) (hb hby at_71) (fun _ _ => ⟨rfl, e33, (by decide : 0 + 0 ≤ _), (by decide : 0 + 0 ≤ _)⟩)
  dsimp only [Pt.U, Pt.locs, Pt.cells, Pt.slots] at X37 l37 y37 z37 st37 hQ37
  subst l37 y37 z37
  obtain ⟨rfl, Nq37, e37⟩ := hQ37
  have N37 := Fr.app N33 Nq37
  have pre38 : ∀ t, Steps p.tables e below (T37.setTop (mkF m 74 #[.val (.int p0), .val (.int p1), .val (.ref (f1 p0 wT wF wU wJ)), .val (.ref (f1 p1 wT wF wU wJ)), .val (.ref (f2 (f1 p0 wT wF wU wJ) wT wF)), .val (.ref (f2 (f1 p1 wT wF wU wJ) wT wF)), .val (.int (v0_51_s0 wT wF)), .val (.int (v0_67_s0 p0 wT wF wU wJ)), .unset] [(.ref (f3 (f1 p0 wT wF wU wJ) (f1 p1 wT wF wU wJ) wT wF wU wJ))])) t → Steps p.tables e below (s₁.setTop (entryFrame m #[(.int p0), (.int p1)] maxLocals)) t := fun t k => pre36 t (st37.trans k)
  obtain ⟨cq39, kq39, q39a, q39b, q39c⟩ := isOf hZ e37 (own_ao3 (P := fun a => Exa Z _ a "com/example/pedantic_conformance/pedanticconformance/rules/safetycenter/Truth") (own_p (P := fun a => Exa Z _ a "com/example/pedantic_conformance/pedanticconformance/rules/safetycenter/Truth") I4 I5 I6 I7) (own_p (P := fun a => Exa Z _ a "com/example/pedantic_conformance/pedanticconformance/rules/safetycenter/Truth") I4 I5 I6 I7) I4 I5 I6 I7)
  obtain ⟨_, _, ⟨T39, L39, k39, n39⟩, -, X39, ⟨Lc39, hQ39, l39, y39, z39⟩, st39⟩ := X37.virtualBack hx (y := (⟨"com/example/pedantic_conformance/pedanticconformance/rules/safetycenter/Truth", "not", "()Lcom/example/pedantic_conformance/pedanticconformance/rules/safetycenter/Truth;"⟩ : MethodName)) (z := (⟨"com/example/pedantic_conformance/pedanticconformance/rules/safetycenter/Truth", "not", "()Lcom/example/pedantic_conformance/pedanticconformance/rules/safetycenter/Truth;"⟩ : MethodName)) hown (mvT hZ (hw _ (List.mem_of_getElem? (i := 9) rfl))) (mvT hZ (hw _ (List.mem_of_getElem? (i := 10) rfl))) (notFace_of_selects (args := #[]) (mvT hZ (hw _ (List.mem_of_getElem? (i := 12) rfl)))) (mvT hZ (hw _ (List.mem_of_getElem? (i := 12) rfl))) (mvT hZ (hw _ (List.mem_of_getElem? (i := 11) rfl))) (by decide) (backOf (W := 0) (rm2 l Z a0 hw [] (f3 (f1 p0 wT wF wU wJ) (f1 p1 wT wF wU wJ) wT wF wU wJ) wT wF wU wJ h0 n0 Z0 I0 I1 I2 I3) hZ (hw _ (List.mem_of_getElem? (i := 13) rfl)) (hw _ (List.mem_of_getElem? (i := 5) rfl)) (by decide) (by decide)) q39a q39c (g := (mkF m 74 #[.val (.int p0), .val (.int p1), .val (.ref (f1 p0 wT wF wU wJ)), .val (.ref (f1 p1 wT wF wU wJ)), .val (.ref (f2 (f1 p0 wT wF wU wJ) wT wF)), .val (.ref (f2 (f1 p1 wT wF wU wJ) wT wF)), .val (.int (v0_51_s0 wT wF)), .val (.int (v0_67_s0 p0 wT wF wU wJ)), .unset] [(.ref (f3 (f1 p0 wT wF wU wJ) (f1 p1 wT wF wU wJ) wT wF wU wJ))])) rfl (by rw [hml]; rfl) (Steps.refl _) (argsL := []) (rest := []) (lenOf pd___Lcom_example_pedantic_conformance_pedanticconformance_rules_safetycenter_Truth_ rfl) rfl (by show 2 * 0 + _ ≤ _; exact Nat.le_of_eq rfl) (hb hby at_74) (fun _ _ => ⟨rfl, e37, (by decide : 0 + 0 ≤ _), (by decide : 0 + 0 ≤ _)⟩)
  dsimp only [Pt.U, Pt.locs, Pt.cells, Pt.slots] at X39 l39 y39 z39 st39 hQ39
  subst l39 y39 z39
  obtain ⟨rfl, Nq39, e39⟩ := hQ39
  have N39 := Fr.app N37 Nq39
  have pre40 : ∀ t, Steps p.tables e below (T39.setTop (mkF m 77 #[.val (.int p0), .val (.int p1), .val (.ref (f1 p0 wT wF wU wJ)), .val (.ref (f1 p1 wT wF wU wJ)), .val (.ref (f2 (f1 p0 wT wF wU wJ) wT wF)), .val (.ref (f2 (f1 p1 wT wF wU wJ) wT wF)), .val (.int (v0_51_s0 wT wF)), .val (.int (v0_67_s0 p0 wT wF wU wJ)), .unset] [(.ref (f2 (f3 (f1 p0 wT wF wU wJ) (f1 p1 wT wF wU wJ) wT wF wU wJ) wT wF))])) t → Steps p.tables e below (s₁.setTop (entryFrame m #[(.int p0), (.int p1)] maxLocals)) t := fun t k => pre38 t (st39.trans k)
  have pre41 : ∀ t, Steps p.tables e below (T39.setTop (mkF m 81 #[.val (.int p0), .val (.int p1), .val (.ref (f1 p0 wT wF wU wJ)), .val (.ref (f1 p1 wT wF wU wJ)), .val (.ref (f2 (f1 p0 wT wF wU wJ) wT wF)), .val (.ref (f2 (f1 p1 wT wF wU wJ) wT wF)), .val (.int (v0_51_s0 wT wF)), .val (.int (v0_67_s0 p0 wT wF wU wJ)), .unset] [(.ref (f2 (f1 p1 wT wF wU wJ) wT wF)), (.ref (f2 (f1 p0 wT wF wU wJ) wT wF)), (.ref (f2 (f3 (f1 p0 wT wF wU wJ) (f1 p1 wT wF wU wJ) wT wF wU wJ) wT wF))])) t → Steps p.tables e below (s₁.setTop (entryFrame m #[(.int p0), (.int p1)] maxLocals)) t := fun t k => pre40 t (by
    show Steps p.tables e below (T39.setTop (mkF m 77 #[.val (.int p0), .val (.int p1), .val (.ref (f1 p0 wT wF wU wJ)), .val (.ref (f1 p1 wT wF wU wJ)), .val (.ref (f2 (f1 p0 wT wF wU wJ) wT wF)), .val (.ref (f2 (f1 p1 wT wF wU wJ) wT wF)), .val (.int (v0_51_s0 wT wF)), .val (.int (v0_67_s0 p0 wT wF wU wJ)), .unset] [(.ref (f2 (f3 (f1 p0 wT wF wU wJ) (f1 p1 wT wF wU wJ) wT wF wU wJ) wT wF))])) _
    refine XS.aload X39.here hx rfl (hb hby at_77) rfl rfl ?_
    show Steps p.tables e below (T39.setTop (mkF m 79 #[.val (.int p0), .val (.int p1), .val (.ref (f1 p0 wT wF wU wJ)), .val (.ref (f1 p1 wT wF wU wJ)), .val (.ref (f2 (f1 p0 wT wF wU wJ) wT wF)), .val (.ref (f2 (f1 p1 wT wF wU wJ) wT wF)), .val (.int (v0_51_s0 wT wF)), .val (.int (v0_67_s0 p0 wT wF wU wJ)), .unset] [(.ref (f2 (f1 p0 wT wF wU wJ) wT wF)), (.ref (f2 (f3 (f1 p0 wT wF wU wJ) (f1 p1 wT wF wU wJ) wT wF wU wJ) wT wF))])) _
    refine XS.aload X39.here hx rfl (hb hby at_79) rfl rfl ?_
    exact k)
  obtain ⟨cq42, kq42, q42a, q42b, q42c⟩ := isOf hZ e39 (own_n (P := fun a => Exa Z _ a "com/example/pedantic_conformance/pedanticconformance/rules/safetycenter/Truth") (own_p (P := fun a => Exa Z _ a "com/example/pedantic_conformance/pedanticconformance/rules/safetycenter/Truth") I4 I5 I6 I7) I4 I5)
  obtain ⟨_, _, ⟨T42, L42, k42, n42⟩, -, X42, ⟨Lc42, hQ42, l42, y42, z42⟩, st42⟩ := X39.virtualBack hx (y := (⟨"com/example/pedantic_conformance/pedanticconformance/rules/safetycenter/Truth", "or", "(Lcom/example/pedantic_conformance/pedanticconformance/rules/safetycenter/Truth;)Lcom/example/pedantic_conformance/pedanticconformance/rules/safetycenter/Truth;"⟩ : MethodName)) (z := (⟨"com/example/pedantic_conformance/pedanticconformance/rules/safetycenter/Truth", "or", "(Lcom/example/pedantic_conformance/pedanticconformance/rules/safetycenter/Truth;)Lcom/example/pedantic_conformance/pedanticconformance/rules/safetycenter/Truth;"⟩ : MethodName)) hown (mvT hZ (hw _ (List.mem_of_getElem? (i := 23) rfl))) (mvT hZ (hw _ (List.mem_of_getElem? (i := 24) rfl))) (notFace_of_selects (args := #[]) (mvT hZ (hw _ (List.mem_of_getElem? (i := 26) rfl)))) (mvT hZ (hw _ (List.mem_of_getElem? (i := 26) rfl))) (mvT hZ (hw _ (List.mem_of_getElem? (i := 25) rfl))) (by decide) (backOf (W := 1) (rm4 l Z a0 hw [] (f2 (f1 p0 wT wF wU wJ) wT wF) (f2 (f1 p1 wT wF wU wJ) wT wF) wT wF wU wJ h0 n0 Z0 I0 I1 I2 I3 (own_n (P := fun a => Exa Z _ a "com/example/pedantic_conformance/pedanticconformance/rules/safetycenter/Truth") (own_p (P := fun a => Exa Z _ a "com/example/pedantic_conformance/pedanticconformance/rules/safetycenter/Truth") I4 I5 I6 I7) I4 I5)) hZ (hw _ (List.mem_of_getElem? (i := 27) rfl)) (hw _ (List.mem_of_getElem? (i := 5) rfl)) (by decide) (by decide)) q42a q42c (g := (mkF m 81 #[.val (.int p0), .val (.int p1), .val (.ref (f1 p0 wT wF wU wJ)), .val (.ref (f1 p1 wT wF wU wJ)), .val (.ref (f2 (f1 p0 wT wF wU wJ) wT wF)), .val (.ref (f2 (f1 p1 wT wF wU wJ) wT wF)), .val (.int (v0_51_s0 wT wF)), .val (.int (v0_67_s0 p0 wT wF wU wJ)), .unset] [(.ref (f2 (f1 p1 wT wF wU wJ) wT wF)), (.ref (f2 (f1 p0 wT wF wU wJ) wT wF)), (.ref (f2 (f3 (f1 p0 wT wF wU wJ) (f1 p1 wT wF wU wJ) wT wF wU wJ) wT wF))])) rfl (by rw [hml]; rfl) (Steps.refl _) (argsL := [(.ref (f2 (f1 p1 wT wF wU wJ) wT wF))]) (rest := [(.ref (f2 (f3 (f1 p0 wT wF wU wJ) (f1 p1 wT wF wU wJ) wT wF wU wJ) wT wF))]) (lenOf pd__Lcom_example_pedantic_conformance_pedanticconformance_rules_safetycenter_Truth__Lcom_example_pedantic_conformance_pedanticconformance_rules_safetycenter_Truth_ rfl) rfl (by show 2 * 0 + _ ≤ _; exact Nat.le_of_eq rfl) (hb hby at_81) (fun _ _ => ⟨rfl, e39, (by decide : 0 + 0 ≤ _), (by decide : 0 + 0 ≤ _)⟩)
  dsimp only [Pt.U, Pt.locs, Pt.cells, Pt.slots] at X42 l42 y42 z42 st42 hQ42
  subst l42 y42 z42
  obtain ⟨rfl, Nq42, e42⟩ := hQ42
  have N42 := Fr.app N39 Nq42
  have pre43 : ∀ t, Steps p.tables e below (T42.setTop (mkF m 84 #[.val (.int p0), .val (.int p1), .val (.ref (f1 p0 wT wF wU wJ)), .val (.ref (f1 p1 wT wF wU wJ)), .val (.ref (f2 (f1 p0 wT wF wU wJ) wT wF)), .val (.ref (f2 (f1 p1 wT wF wU wJ) wT wF)), .val (.int (v0_51_s0 wT wF)), .val (.int (v0_67_s0 p0 wT wF wU wJ)), .unset] [(.ref (f4 (f2 (f1 p0 wT wF wU wJ) wT wF) (f2 (f1 p1 wT wF wU wJ) wT wF) wT wF wU wJ)), (.ref (f2 (f3 (f1 p0 wT wF wU wJ) (f1 p1 wT wF wU wJ) wT wF wU wJ) wT wF))])) t → Steps p.tables e below (s₁.setTop (entryFrame m #[(.int p0), (.int p1)] maxLocals)) t := fun t k => pre41 t (st42.trans k)
  obtain ⟨T44, L44, X44, e44, N44, pre44⟩ : ∃ (T' : State) (L' : List Loc), Stand p l e room_1 s m #[(.int p0), (.int p1)] below meth c T' L' 0 0 ∧ T'.heap = h0 ∧ Fr n0 L' ∧ ∀ t, Steps p.tables e below (T'.setTop (mkF m 92 #[.val (.int p0), .val (.int p1), .val (.ref (f1 p0 wT wF wU wJ)), .val (.ref (f1 p1 wT wF wU wJ)), .val (.ref (f2 (f1 p0 wT wF wU wJ) wT wF)), .val (.ref (f2 (f1 p1 wT wF wU wJ) wT wF)), .val (.int (v0_51_s0 wT wF)), .val (.int (v0_67_s0 p0 wT wF wU wJ)), .unset] [(.int (v0_92_s0 p0 p1 wT wF wU wJ))])) t → Steps p.tables e below (s₁.setTop (entryFrame m #[(.int p0), (.int p1)] maxLocals)) t := by
    by_cases hc84_3 : (f2 (f3 (f1 p0 wT wF wU wJ) (f1 p1 wT wF wU wJ) wT wF wU wJ) wT wF) = (f4 (f2 (f1 p0 wT wF wU wJ) wT wF) (f2 (f1 p1 wT wF wU wJ) wT wF) wT wF wU wJ)
    · have pre45 : ∀ t, Steps p.tables e below (T42.setTop (mkF m 92 #[.val (.int p0), .val (.int p1), .val (.ref (f1 p0 wT wF wU wJ)), .val (.ref (f1 p1 wT wF wU wJ)), .val (.ref (f2 (f1 p0 wT wF wU wJ) wT wF)), .val (.ref (f2 (f1 p1 wT wF wU wJ) wT wF)), .val (.int (v0_51_s0 wT wF)), .val (.int (v0_67_s0 p0 wT wF wU wJ)), .unset] [(.int (1 : Int32))])) t → Steps p.tables e below (s₁.setTop (entryFrame m #[(.int p0), (.int p1)] maxLocals)) t := fun t k => pre43 t (by
        show Steps p.tables e below (T42.setTop (mkF m 84 #[.val (.int p0), .val (.int p1), .val (.ref (f1 p0 wT wF wU wJ)), .val (.ref (f1 p1 wT wF wU wJ)), .val (.ref (f2 (f1 p0 wT wF wU wJ) wT wF)), .val (.ref (f2 (f1 p1 wT wF wU wJ) wT wF)), .val (.int (v0_51_s0 wT wF)), .val (.int (v0_67_s0 p0 wT wF wU wJ)), .unset] [(.ref (f4 (f2 (f1 p0 wT wF wU wJ) wT wF) (f2 (f1 p1 wT wF wU wJ) wT wF) wT wF wU wJ)), (.ref (f2 (f3 (f1 p0 wT wF wU wJ) (f1 p1 wT wF wU wJ) wT wF wU wJ) wT wF))])) _
        refine Jvm.RoadKit.acmp (g := (mkF m 84 #[.val (.int p0), .val (.int p1), .val (.ref (f1 p0 wT wF wU wJ)), .val (.ref (f1 p1 wT wF wU wJ)), .val (.ref (f2 (f1 p0 wT wF wU wJ) wT wF)), .val (.ref (f2 (f1 p1 wT wF wU wJ) wT wF)), .val (.int (v0_51_s0 wT wF)), .val (.int (v0_67_s0 p0 wT wF wU wJ)), .unset] [(.ref (f4 (f2 (f1 p0 wT wF wU wJ) wT wF) (f2 (f1 p1 wT wF wU wJ) wT wF) wT wF wU wJ)), (.ref (f2 (f3 (f1 p0 wT wF wU wJ) (f1 p1 wT wF wU wJ) wT wF wU wJ) wT wF))])) X42 hx rfl rfl rfl (pc0 := 84) (pc' := 87) (same := true) rfl (hb hby at_84) rfl (decide_eq_true (congrArg Value.ref hc84_3)) (by decide) (by decide) ?_
        show Steps p.tables e below (T42.setTop (mkF m 87 #[.val (.int p0), .val (.int p1), .val (.ref (f1 p0 wT wF wU wJ)), .val (.ref (f1 p1 wT wF wU wJ)), .val (.ref (f2 (f1 p0 wT wF wU wJ) wT wF)), .val (.ref (f2 (f1 p1 wT wF wU wJ) wT wF)), .val (.int (v0_51_s0 wT wF)), .val (.int (v0_67_s0 p0 wT wF wU wJ)), .unset] [])) _
        refine XS.iconst X42.here hx rfl (hb hby at_87) ?_
        show Steps p.tables e below (T42.setTop (mkF m 88 #[.val (.int p0), .val (.int p1), .val (.ref (f1 p0 wT wF wU wJ)), .val (.ref (f1 p1 wT wF wU wJ)), .val (.ref (f2 (f1 p0 wT wF wU wJ) wT wF)), .val (.ref (f2 (f1 p1 wT wF wU wJ) wT wF)), .val (.int (v0_51_s0 wT wF)), .val (.int (v0_67_s0 p0 wT wF wU wJ)), .unset] [(.int (1 : Int32))])) _
        refine XS.goto X42.here hx rfl (pc0 := 88) (pc' := 92) rfl (hb hby at_88) (by decide) (by decide) ?_
        exact k)
      exact ⟨T42, _, X42, e42, N42, fun t k => pre45 t (by simpa only [v0_92_s0, if_pos hc84_3] using k)⟩
    · have pre46 : ∀ t, Steps p.tables e below (T42.setTop (mkF m 92 #[.val (.int p0), .val (.int p1), .val (.ref (f1 p0 wT wF wU wJ)), .val (.ref (f1 p1 wT wF wU wJ)), .val (.ref (f2 (f1 p0 wT wF wU wJ) wT wF)), .val (.ref (f2 (f1 p1 wT wF wU wJ) wT wF)), .val (.int (v0_51_s0 wT wF)), .val (.int (v0_67_s0 p0 wT wF wU wJ)), .unset] [(.int (0 : Int32))])) t → Steps p.tables e below (s₁.setTop (entryFrame m #[(.int p0), (.int p1)] maxLocals)) t := fun t k => pre43 t (by
        show Steps p.tables e below (T42.setTop (mkF m 84 #[.val (.int p0), .val (.int p1), .val (.ref (f1 p0 wT wF wU wJ)), .val (.ref (f1 p1 wT wF wU wJ)), .val (.ref (f2 (f1 p0 wT wF wU wJ) wT wF)), .val (.ref (f2 (f1 p1 wT wF wU wJ) wT wF)), .val (.int (v0_51_s0 wT wF)), .val (.int (v0_67_s0 p0 wT wF wU wJ)), .unset] [(.ref (f4 (f2 (f1 p0 wT wF wU wJ) wT wF) (f2 (f1 p1 wT wF wU wJ) wT wF) wT wF wU wJ)), (.ref (f2 (f3 (f1 p0 wT wF wU wJ) (f1 p1 wT wF wU wJ) wT wF wU wJ) wT wF))])) _
        refine Jvm.RoadKit.acmp (g := (mkF m 84 #[.val (.int p0), .val (.int p1), .val (.ref (f1 p0 wT wF wU wJ)), .val (.ref (f1 p1 wT wF wU wJ)), .val (.ref (f2 (f1 p0 wT wF wU wJ) wT wF)), .val (.ref (f2 (f1 p1 wT wF wU wJ) wT wF)), .val (.int (v0_51_s0 wT wF)), .val (.int (v0_67_s0 p0 wT wF wU wJ)), .unset] [(.ref (f4 (f2 (f1 p0 wT wF wU wJ) wT wF) (f2 (f1 p1 wT wF wU wJ) wT wF) wT wF wU wJ)), (.ref (f2 (f3 (f1 p0 wT wF wU wJ) (f1 p1 wT wF wU wJ) wT wF wU wJ) wT wF))])) X42 hx rfl rfl rfl (pc0 := 84) (pc' := 91) (same := false) rfl (hb hby at_84) rfl (decide_eq_false fun q => hc84_3 (Value.ref.inj q)) (by decide) (by decide) ?_
        show Steps p.tables e below (T42.setTop (mkF m 91 #[.val (.int p0), .val (.int p1), .val (.ref (f1 p0 wT wF wU wJ)), .val (.ref (f1 p1 wT wF wU wJ)), .val (.ref (f2 (f1 p0 wT wF wU wJ) wT wF)), .val (.ref (f2 (f1 p1 wT wF wU wJ) wT wF)), .val (.int (v0_51_s0 wT wF)), .val (.int (v0_67_s0 p0 wT wF wU wJ)), .unset] [])) _
        refine XS.iconst X42.here hx rfl (hb hby at_91) ?_
        exact k)
      exact ⟨T42, _, X42, e42, N42, fun t k => pre46 t (by simpa only [v0_92_s0, if_neg hc84_3] using k)⟩
  have pre47 : ∀ t, Steps p.tables e below (T44.setTop (mkF m 96 #[.val (.int p0), .val (.int p1), .val (.ref (f1 p0 wT wF wU wJ)), .val (.ref (f1 p1 wT wF wU wJ)), .val (.ref (f2 (f1 p0 wT wF wU wJ) wT wF)), .val (.ref (f2 (f1 p1 wT wF wU wJ) wT wF)), .val (.int (v0_51_s0 wT wF)), .val (.int (v0_67_s0 p0 wT wF wU wJ)), .val (.int (v0_92_s0 p0 p1 wT wF wU wJ))] [(.int (v0_51_s0 wT wF))])) t → Steps p.tables e below (s₁.setTop (entryFrame m #[(.int p0), (.int p1)] maxLocals)) t := fun t k => pre44 t (by
    show Steps p.tables e below (T44.setTop (mkF m 92 #[.val (.int p0), .val (.int p1), .val (.ref (f1 p0 wT wF wU wJ)), .val (.ref (f1 p1 wT wF wU wJ)), .val (.ref (f2 (f1 p0 wT wF wU wJ) wT wF)), .val (.ref (f2 (f1 p1 wT wF wU wJ) wT wF)), .val (.int (v0_51_s0 wT wF)), .val (.int (v0_67_s0 p0 wT wF wU wJ)), .unset] [(.int (v0_92_s0 p0 p1 wT wF wU wJ))])) _
    refine XS.istore X44.here hx rfl (hb hby at_92) rfl (l' := #[.val (.int p0), .val (.int p1), .val (.ref (f1 p0 wT wF wU wJ)), .val (.ref (f1 p1 wT wF wU wJ)), .val (.ref (f2 (f1 p0 wT wF wU wJ) wT wF)), .val (.ref (f2 (f1 p1 wT wF wU wJ) wT wF)), .val (.int (v0_51_s0 wT wF)), .val (.int (v0_67_s0 p0 wT wF wU wJ)), .val (.int (v0_92_s0 p0 p1 wT wF wU wJ))]) rfl ?_
    show Steps p.tables e below (T44.setTop (mkF m 94 #[.val (.int p0), .val (.int p1), .val (.ref (f1 p0 wT wF wU wJ)), .val (.ref (f1 p1 wT wF wU wJ)), .val (.ref (f2 (f1 p0 wT wF wU wJ) wT wF)), .val (.ref (f2 (f1 p1 wT wF wU wJ) wT wF)), .val (.int (v0_51_s0 wT wF)), .val (.int (v0_67_s0 p0 wT wF wU wJ)), .val (.int (v0_92_s0 p0 p1 wT wF wU wJ))] [])) _
    refine XS.iload X44.here hx rfl (hb hby at_94) rfl ?_
    exact k)
  by_cases hc96_4 : (v0_51_s0 wT wF) = (0 : Int32)
  · have pre48 : ∀ t, Steps p.tables e below (T44.setTop (mkF m 114 #[.val (.int p0), .val (.int p1), .val (.ref (f1 p0 wT wF wU wJ)), .val (.ref (f1 p1 wT wF wU wJ)), .val (.ref (f2 (f1 p0 wT wF wU wJ) wT wF)), .val (.ref (f2 (f1 p1 wT wF wU wJ) wT wF)), .val (.int (v0_51_s0 wT wF)), .val (.int (v0_67_s0 p0 wT wF wU wJ)), .val (.int (v0_92_s0 p0 p1 wT wF wU wJ))] [(.int (0 : Int32))])) t → Steps p.tables e below (s₁.setTop (entryFrame m #[(.int p0), (.int p1)] maxLocals)) t := fun t k => pre47 t (by
      show Steps p.tables e below (T44.setTop (mkF m 96 #[.val (.int p0), .val (.int p1), .val (.ref (f1 p0 wT wF wU wJ)), .val (.ref (f1 p1 wT wF wU wJ)), .val (.ref (f2 (f1 p0 wT wF wU wJ) wT wF)), .val (.ref (f2 (f1 p1 wT wF wU wJ) wT wF)), .val (.int (v0_51_s0 wT wF)), .val (.int (v0_67_s0 p0 wT wF wU wJ)), .val (.int (v0_92_s0 p0 p1 wT wF wU wJ))] [(.int (v0_51_s0 wT wF))])) _
      refine XS.ifYes X44.here hx rfl (pc0 := 96) (pc' := 113) rfl (hb hby at_96) rfl ((if0 _ _).trans (teq hc96_4).1) (by decide) (by decide) ?_
      show Steps p.tables e below (T44.setTop (mkF m 113 #[.val (.int p0), .val (.int p1), .val (.ref (f1 p0 wT wF wU wJ)), .val (.ref (f1 p1 wT wF wU wJ)), .val (.ref (f2 (f1 p0 wT wF wU wJ) wT wF)), .val (.ref (f2 (f1 p1 wT wF wU wJ) wT wF)), .val (.int (v0_51_s0 wT wF)), .val (.int (v0_67_s0 p0 wT wF wU wJ)), .val (.int (v0_92_s0 p0 p1 wT wF wU wJ))] [])) _
      refine XS.iconst X44.here hx rfl (hb hby at_113) ?_
      exact k)
    obtain ⟨fs, hr, hrun, hended, hW, hsame⟩ := X44.leave (v := some (.int (0 : Int32))) (fun h => by rw [Bd.returns] at h; cases h)
    refine ⟨_, _, ?_, hrun, hended, _, _, rfl, ?_, ⟨_, rfl⟩, hW, hsame.mono (by decide) (by decide)⟩
    · exact pre48 _ (retN X44 hx (t := .boolean) Bd.returns (by simp) (hb hby at_114) hr)
    · exact ⟨by simp only [f0, if_pos hc96_4], N44, trivial⟩
  · have pre49 : ∀ t, Steps p.tables e below (T44.setTop (mkF m 101 #[.val (.int p0), .val (.int p1), .val (.ref (f1 p0 wT wF wU wJ)), .val (.ref (f1 p1 wT wF wU wJ)), .val (.ref (f2 (f1 p0 wT wF wU wJ) wT wF)), .val (.ref (f2 (f1 p1 wT wF wU wJ) wT wF)), .val (.int (v0_51_s0 wT wF)), .val (.int (v0_67_s0 p0 wT wF wU wJ)), .val (.int (v0_92_s0 p0 p1 wT wF wU wJ))] [(.int (v0_67_s0 p0 wT wF wU wJ))])) t → Steps p.tables e below (s₁.setTop (entryFrame m #[(.int p0), (.int p1)] maxLocals)) t := fun t k => pre47 t (by
      show Steps p.tables e below (T44.setTop (mkF m 96 #[.val (.int p0), .val (.int p1), .val (.ref (f1 p0 wT wF wU wJ)), .val (.ref (f1 p1 wT wF wU wJ)), .val (.ref (f2 (f1 p0 wT wF wU wJ) wT wF)), .val (.ref (f2 (f1 p1 wT wF wU wJ) wT wF)), .val (.int (v0_51_s0 wT wF)), .val (.int (v0_67_s0 p0 wT wF wU wJ)), .val (.int (v0_92_s0 p0 p1 wT wF wU wJ))] [(.int (v0_51_s0 wT wF))])) _
      refine XS.ifNo X44.here hx rfl (hb hby at_96) rfl ((if0 _ _).trans (feq hc96_4).1) ?_
      show Steps p.tables e below (T44.setTop (mkF m 99 #[.val (.int p0), .val (.int p1), .val (.ref (f1 p0 wT wF wU wJ)), .val (.ref (f1 p1 wT wF wU wJ)), .val (.ref (f2 (f1 p0 wT wF wU wJ) wT wF)), .val (.ref (f2 (f1 p1 wT wF wU wJ) wT wF)), .val (.int (v0_51_s0 wT wF)), .val (.int (v0_67_s0 p0 wT wF wU wJ)), .val (.int (v0_92_s0 p0 p1 wT wF wU wJ))] [])) _
      refine XS.iload X44.here hx rfl (hb hby at_99) rfl ?_
      exact k)
    by_cases hc101_5 : (v0_67_s0 p0 wT wF wU wJ) = (0 : Int32)
    · have pre50 : ∀ t, Steps p.tables e below (T44.setTop (mkF m 114 #[.val (.int p0), .val (.int p1), .val (.ref (f1 p0 wT wF wU wJ)), .val (.ref (f1 p1 wT wF wU wJ)), .val (.ref (f2 (f1 p0 wT wF wU wJ) wT wF)), .val (.ref (f2 (f1 p1 wT wF wU wJ) wT wF)), .val (.int (v0_51_s0 wT wF)), .val (.int (v0_67_s0 p0 wT wF wU wJ)), .val (.int (v0_92_s0 p0 p1 wT wF wU wJ))] [(.int (0 : Int32))])) t → Steps p.tables e below (s₁.setTop (entryFrame m #[(.int p0), (.int p1)] maxLocals)) t := fun t k => pre49 t (by
        show Steps p.tables e below (T44.setTop (mkF m 101 #[.val (.int p0), .val (.int p1), .val (.ref (f1 p0 wT wF wU wJ)), .val (.ref (f1 p1 wT wF wU wJ)), .val (.ref (f2 (f1 p0 wT wF wU wJ) wT wF)), .val (.ref (f2 (f1 p1 wT wF wU wJ) wT wF)), .val (.int (v0_51_s0 wT wF)), .val (.int (v0_67_s0 p0 wT wF wU wJ)), .val (.int (v0_92_s0 p0 p1 wT wF wU wJ))] [(.int (v0_67_s0 p0 wT wF wU wJ))])) _
        refine XS.ifYes X44.here hx rfl (pc0 := 101) (pc' := 113) rfl (hb hby at_101) rfl ((if0 _ _).trans (teq hc101_5).1) (by decide) (by decide) ?_
        show Steps p.tables e below (T44.setTop (mkF m 113 #[.val (.int p0), .val (.int p1), .val (.ref (f1 p0 wT wF wU wJ)), .val (.ref (f1 p1 wT wF wU wJ)), .val (.ref (f2 (f1 p0 wT wF wU wJ) wT wF)), .val (.ref (f2 (f1 p1 wT wF wU wJ) wT wF)), .val (.int (v0_51_s0 wT wF)), .val (.int (v0_67_s0 p0 wT wF wU wJ)), .val (.int (v0_92_s0 p0 p1 wT wF wU wJ))] [])) _
        refine XS.iconst X44.here hx rfl (hb hby at_113) ?_
        exact k)
      obtain ⟨fs, hr, hrun, hended, hW, hsame⟩ := X44.leave (v := some (.int (0 : Int32))) (fun h => by rw [Bd.returns] at h; cases h)
      refine ⟨_, _, ?_, hrun, hended, _, _, rfl, ?_, ⟨_, rfl⟩, hW, hsame.mono (by decide) (by decide)⟩
      · exact pre50 _ (retN X44 hx (t := .boolean) Bd.returns (by simp) (hb hby at_114) hr)
      · exact ⟨by simp only [f0, if_neg hc96_4, if_pos hc101_5], N44, trivial⟩
    · have pre51 : ∀ t, Steps p.tables e below (T44.setTop (mkF m 106 #[.val (.int p0), .val (.int p1), .val (.ref (f1 p0 wT wF wU wJ)), .val (.ref (f1 p1 wT wF wU wJ)), .val (.ref (f2 (f1 p0 wT wF wU wJ) wT wF)), .val (.ref (f2 (f1 p1 wT wF wU wJ) wT wF)), .val (.int (v0_51_s0 wT wF)), .val (.int (v0_67_s0 p0 wT wF wU wJ)), .val (.int (v0_92_s0 p0 p1 wT wF wU wJ))] [(.int (v0_92_s0 p0 p1 wT wF wU wJ))])) t → Steps p.tables e below (s₁.setTop (entryFrame m #[(.int p0), (.int p1)] maxLocals)) t := fun t k => pre49 t (by
        show Steps p.tables e below (T44.setTop (mkF m 101 #[.val (.int p0), .val (.int p1), .val (.ref (f1 p0 wT wF wU wJ)), .val (.ref (f1 p1 wT wF wU wJ)), .val (.ref (f2 (f1 p0 wT wF wU wJ) wT wF)), .val (.ref (f2 (f1 p1 wT wF wU wJ) wT wF)), .val (.int (v0_51_s0 wT wF)), .val (.int (v0_67_s0 p0 wT wF wU wJ)), .val (.int (v0_92_s0 p0 p1 wT wF wU wJ))] [(.int (v0_67_s0 p0 wT wF wU wJ))])) _
        refine XS.ifNo X44.here hx rfl (hb hby at_101) rfl ((if0 _ _).trans (feq hc101_5).1) ?_
        show Steps p.tables e below (T44.setTop (mkF m 104 #[.val (.int p0), .val (.int p1), .val (.ref (f1 p0 wT wF wU wJ)), .val (.ref (f1 p1 wT wF wU wJ)), .val (.ref (f2 (f1 p0 wT wF wU wJ) wT wF)), .val (.ref (f2 (f1 p1 wT wF wU wJ) wT wF)), .val (.int (v0_51_s0 wT wF)), .val (.int (v0_67_s0 p0 wT wF wU wJ)), .val (.int (v0_92_s0 p0 p1 wT wF wU wJ))] [])) _
        refine XS.iload X44.here hx rfl (hb hby at_104) rfl ?_
        exact k)
      by_cases hc106_6 : (v0_92_s0 p0 p1 wT wF wU wJ) = (0 : Int32)
      · have pre52 : ∀ t, Steps p.tables e below (T44.setTop (mkF m 114 #[.val (.int p0), .val (.int p1), .val (.ref (f1 p0 wT wF wU wJ)), .val (.ref (f1 p1 wT wF wU wJ)), .val (.ref (f2 (f1 p0 wT wF wU wJ) wT wF)), .val (.ref (f2 (f1 p1 wT wF wU wJ) wT wF)), .val (.int (v0_51_s0 wT wF)), .val (.int (v0_67_s0 p0 wT wF wU wJ)), .val (.int (v0_92_s0 p0 p1 wT wF wU wJ))] [(.int (0 : Int32))])) t → Steps p.tables e below (s₁.setTop (entryFrame m #[(.int p0), (.int p1)] maxLocals)) t := fun t k => pre51 t (by
          show Steps p.tables e below (T44.setTop (mkF m 106 #[.val (.int p0), .val (.int p1), .val (.ref (f1 p0 wT wF wU wJ)), .val (.ref (f1 p1 wT wF wU wJ)), .val (.ref (f2 (f1 p0 wT wF wU wJ) wT wF)), .val (.ref (f2 (f1 p1 wT wF wU wJ) wT wF)), .val (.int (v0_51_s0 wT wF)), .val (.int (v0_67_s0 p0 wT wF wU wJ)), .val (.int (v0_92_s0 p0 p1 wT wF wU wJ))] [(.int (v0_92_s0 p0 p1 wT wF wU wJ))])) _
          refine XS.ifYes X44.here hx rfl (pc0 := 106) (pc' := 113) rfl (hb hby at_106) rfl ((if0 _ _).trans (teq hc106_6).1) (by decide) (by decide) ?_
          show Steps p.tables e below (T44.setTop (mkF m 113 #[.val (.int p0), .val (.int p1), .val (.ref (f1 p0 wT wF wU wJ)), .val (.ref (f1 p1 wT wF wU wJ)), .val (.ref (f2 (f1 p0 wT wF wU wJ) wT wF)), .val (.ref (f2 (f1 p1 wT wF wU wJ) wT wF)), .val (.int (v0_51_s0 wT wF)), .val (.int (v0_67_s0 p0 wT wF wU wJ)), .val (.int (v0_92_s0 p0 p1 wT wF wU wJ))] [])) _
          refine XS.iconst X44.here hx rfl (hb hby at_113) ?_
          exact k)
        obtain ⟨fs, hr, hrun, hended, hW, hsame⟩ := X44.leave (v := some (.int (0 : Int32))) (fun h => by rw [Bd.returns] at h; cases h)
        refine ⟨_, _, ?_, hrun, hended, _, _, rfl, ?_, ⟨_, rfl⟩, hW, hsame.mono (by decide) (by decide)⟩
        · exact pre52 _ (retN X44 hx (t := .boolean) Bd.returns (by simp) (hb hby at_114) hr)
        · exact ⟨by simp only [f0, if_neg hc96_4, if_neg hc101_5, if_pos hc106_6], N44, trivial⟩
      · have pre53 : ∀ t, Steps p.tables e below (T44.setTop (mkF m 114 #[.val (.int p0), .val (.int p1), .val (.ref (f1 p0 wT wF wU wJ)), .val (.ref (f1 p1 wT wF wU wJ)), .val (.ref (f2 (f1 p0 wT wF wU wJ) wT wF)), .val (.ref (f2 (f1 p1 wT wF wU wJ) wT wF)), .val (.int (v0_51_s0 wT wF)), .val (.int (v0_67_s0 p0 wT wF wU wJ)), .val (.int (v0_92_s0 p0 p1 wT wF wU wJ))] [(.int (1 : Int32))])) t → Steps p.tables e below (s₁.setTop (entryFrame m #[(.int p0), (.int p1)] maxLocals)) t := fun t k => pre51 t (by
          show Steps p.tables e below (T44.setTop (mkF m 106 #[.val (.int p0), .val (.int p1), .val (.ref (f1 p0 wT wF wU wJ)), .val (.ref (f1 p1 wT wF wU wJ)), .val (.ref (f2 (f1 p0 wT wF wU wJ) wT wF)), .val (.ref (f2 (f1 p1 wT wF wU wJ) wT wF)), .val (.int (v0_51_s0 wT wF)), .val (.int (v0_67_s0 p0 wT wF wU wJ)), .val (.int (v0_92_s0 p0 p1 wT wF wU wJ))] [(.int (v0_92_s0 p0 p1 wT wF wU wJ))])) _
          refine XS.ifNo X44.here hx rfl (hb hby at_106) rfl ((if0 _ _).trans (feq hc106_6).1) ?_
          show Steps p.tables e below (T44.setTop (mkF m 109 #[.val (.int p0), .val (.int p1), .val (.ref (f1 p0 wT wF wU wJ)), .val (.ref (f1 p1 wT wF wU wJ)), .val (.ref (f2 (f1 p0 wT wF wU wJ) wT wF)), .val (.ref (f2 (f1 p1 wT wF wU wJ) wT wF)), .val (.int (v0_51_s0 wT wF)), .val (.int (v0_67_s0 p0 wT wF wU wJ)), .val (.int (v0_92_s0 p0 p1 wT wF wU wJ))] [])) _
          refine XS.iconst X44.here hx rfl (hb hby at_109) ?_
          show Steps p.tables e below (T44.setTop (mkF m 110 #[.val (.int p0), .val (.int p1), .val (.ref (f1 p0 wT wF wU wJ)), .val (.ref (f1 p1 wT wF wU wJ)), .val (.ref (f2 (f1 p0 wT wF wU wJ) wT wF)), .val (.ref (f2 (f1 p1 wT wF wU wJ) wT wF)), .val (.int (v0_51_s0 wT wF)), .val (.int (v0_67_s0 p0 wT wF wU wJ)), .val (.int (v0_92_s0 p0 p1 wT wF wU wJ))] [(.int (1 : Int32))])) _
          refine XS.goto X44.here hx rfl (pc0 := 110) (pc' := 114) rfl (hb hby at_110) (by decide) (by decide) ?_
          exact k)
        obtain ⟨fs, hr, hrun, hended, hW, hsame⟩ := X44.leave (v := some (.int (1 : Int32))) (fun h => by rw [Bd.returns] at h; cases h)
        refine ⟨_, _, ?_, hrun, hended, _, _, rfl, ?_, ⟨_, rfl⟩, hW, hsame.mono (by decide) (by decide)⟩
        · exact pre53 _ (retN X44 hx (t := .boolean) Bd.returns (by simp) (hb hby at_114) hr)
        · exact ⟨by simp only [f0, if_neg hc96_4, if_neg hc101_5, if_neg hc106_6], N44, trivial⟩
theorem own_one (i : Int32) (wT wF wU wJ : Addr) : f1 i wT wF wU wJ = wT ∨ f1 i wT wF wU wJ = wF ∨ f1 i wT wF wU wJ = wU ∨ f1 i wT wF wU wJ = wJ := by
  unfold f1
  repeat' split
  · exact Or.inl rfl
  · exact Or.inr (Or.inl rfl)
  · exact Or.inr (Or.inr (Or.inl rfl))
  · exact Or.inr (Or.inr (Or.inr rfl))
theorem own_law (i0 i1 : Int32) {wT wF wU wJ : Addr} (h1 : wT ≠ wF) (h2 : wT ≠ wU) (h3 : wT ≠ wJ) (h4 : wF ≠ wU) (h5 : wF ≠ wJ) (h6 : wU ≠ wJ) : f0 i0 i1 wT wF wU wJ = 1 := by
  have t1 : v0_51_s0 wT wF = 1 := by
    refine if_pos ?_
    unfold f2
    rw [if_pos rfl]
  have t2 : v0_67_s0 i0 wT wF wU wJ = 1 := by
    refine if_pos ?_
    rcases own_one i0 wT wF wU wJ with e | e | e | e <;> rw [e] <;>
      simp only [f2, h1, h2, h3, h4, h5, h6, Ne.symm h1, Ne.symm h2, Ne.symm h3, Ne.symm h4, Ne.symm h5, Ne.symm h6, if_true, if_false]
  have t3 : v0_92_s0 i0 i1 wT wF wU wJ = 1 := by
    refine if_pos ?_
    rcases own_one i0 wT wF wU wJ with e | e | e | e <;> rcases own_one i1 wT wF wU wJ with q | q | q | q <;> rw [e, q] <;>
      simp only [f2, f3, f4, f5, h1, h2, h3, h4, h5, h6, Ne.symm h1, Ne.symm h2, Ne.symm h3, Ne.symm h4, Ne.symm h5, Ne.symm h6, if_true, if_false]
  unfold f0
  rw [t1, t2, t3]
  decide
set_option maxRecDepth 65536 in
set_option maxHeartbeats 40000000 in
theorem comes_1 {Post : Tables → Env → Array Value → State → Outcome → State → Prop} (hpost : ∀ tb e args s v u, (limb_1_1.after args s (.returned v) u = true ∧ limb_1_2.after args s (.returned v) u = true ∧ True) → FrameEnd s (.returned v) u (Jvm.fieldLocs frame_1_writes args s ++ Jvm.arrayLocs frame_1_arrays args s ++ Jvm.staticLocs frame_1_statics s) 0 0 → Post tb e args s (.returned v) u) :
    ArmFor flags0 classFile x code maxLocals ret World_1 tables_1 room_1 Calls_1 rest_1 Pre_1 Post := by
  intro l hfl _ _ p e ha hc hk s m args below hf hA hF happ hP
  obtain ⟨hcalls, hrest, hpre⟩ := hP
  obtain ⟨-, -, -, hnamed, -, -, -, hat⟩ := (Spec.applies_iff hf).mp happ
  obtain ⟨hg, hn⟩ := and_e (Cond.before_iff.mp (show (Jvm.Cond.and given_1 narrow_1).before args s = true from hpre))
  obtain ⟨g1, g2⟩ := and_e hg
  obtain ⟨g3, g4⟩ := and_e g2
  obtain ⟨w0, w1, rfl⟩ : ∃ w0 w1 : Value, args = #[w0, w1] := by
    have hs : args.size = 2 := by simpa [Cond.value, given_1] using g1
    obtain ⟨L⟩ := args
    match L, hs with
    | [w0, w1], _ => exact ⟨w0, w1, rfl⟩
  have hw := fun d (hd : d ∈ tables_1) => atoms_spec (ws := Jvm.Cond.code x code maxLocals ret :: tables_1) hat d (List.mem_cons_of_mem _ hd)
  obtain ⟨i0, ei0⟩ := is_v g3
  obtain rfl : w0 = (.int i0) := Option.some.inj ei0
  obtain ⟨i1, ei1⟩ := is_v g4
  obtain rfl : w1 = (.int i1) := Option.some.inj ei1
  obtain ⟨u1, u2⟩ := and_e hn
  obtain ⟨u3, u4⟩ := and_e u2
  obtain ⟨u5, u6⟩ := and_e u4
  obtain ⟨u7, u8⟩ := and_e u6
  obtain ⟨u9, u10⟩ := and_e u8
  obtain ⟨u11, u12⟩ := and_e u10
  obtain ⟨u13, u14⟩ := and_e u12
  obtain ⟨wT, ev_wT⟩ := exa_v u1
  have E_wT := Exa.start ev_wT u1
  have S_wT := Sta.start ev_wT (Or.inr ⟨(hw _ (List.mem_of_getElem? (i := 5) rfl)), (hw _ (List.mem_of_getElem? (i := 6) rfl))⟩)
  have O_wT := own_ord ev_wT u9
  obtain ⟨wF, ev_wF⟩ := exa_v u5
  have E_wF := Exa.start ev_wF u5
  have S_wF := Sta.start ev_wF (Or.inr ⟨(hw _ (List.mem_of_getElem? (i := 5) rfl)), (hw _ (List.mem_of_getElem? (i := 16) rfl))⟩)
  have O_wF := own_ord ev_wF u11
  obtain ⟨wU, ev_wU⟩ := exa_v u13
  have E_wU := Exa.start ev_wU u13
  have S_wU := Sta.start ev_wU (Or.inr ⟨(hw _ (List.mem_of_getElem? (i := 5) rfl)), (hw _ (List.mem_of_getElem? (i := 29) rfl))⟩)
  have O_wU := own_ord ev_wU u14
  obtain ⟨wJ, ev_wJ⟩ := exa_v u3
  have E_wJ := Exa.start ev_wJ u3
  have S_wJ := Sta.start ev_wJ (Or.inr ⟨(hw _ (List.mem_of_getElem? (i := 5) rfl)), (hw _ (List.mem_of_getElem? (i := 8) rfl))⟩)
  have O_wJ := own_ord ev_wJ u7
  have ne_wT_wF : wT ≠ wF := Fld.ne O_wT O_wF (by decide)
  have ne_wT_wU : wT ≠ wU := Fld.ne O_wT O_wU (by decide)
  have ne_wT_wJ : wT ≠ wJ := Fld.ne O_wT O_wJ (by decide)
  have ne_wF_wU : wF ≠ wU := Fld.ne O_wF O_wU (by decide)
  have ne_wF_wJ : wF ≠ wJ := Fld.ne O_wF O_wJ (by decide)
  have ne_wU_wJ : wU ≠ wJ := Fld.ne O_wU O_wJ (by decide)
  obtain ⟨n, o, h1, h2, h3, _, L, rfl, ⟨rfl, N, -⟩, hq⟩ := rm0 l s _ hw tables_1 i0 i1 wT wF wU wJ s.heap s.heap.size (Nat.le_refl _) S_wT S_wF S_wU S_wJ E_wT E_wF E_wU E_wJ p e ha hc hk s m _ below hf ((Spec.applies_iff_loose hf).mp happ).1 ⟨rfl, State.Warmed39.refl s, rfl⟩ trivial
  rw [own_law i0 i1 ne_wT_wF ne_wT_wU ne_wT_wJ ne_wF_wU ne_wF_wJ ne_wU_wJ] at h3 hq
  refine ⟨n, _, h1, h2, h3, hpost _ _ _ _ _ _ ⟨Cond.after_iff.mpr rfl, Cond.after_iff.mpr (eq_i res_at (Term.int_eval (1)) rfl), trivial⟩ ⟨hq.1, hq.2.1, (hq.2.2.sift fun y hy => Or.inr (N y hy)).mono (by decide) (by decide)⟩⟩
theorem main_1_1 : Claimed_1_1 := comes_1 fun _ _ _ _ _ _ h hF => ⟨h.1, hF⟩
theorem main_1_2 : Claimed_1_2 := comes_1 fun _ _ _ _ _ _ h hF => ⟨h.2.1, hF⟩
end Jvm.Pilot.@@N@@
namespace Jvm.Pilot.@@N@@
open Jvm Jvm.ClassFile Sem Op Lib Jvm.Free Jvm.Stand Jvm.Pilot.@@N@@.Jvm.D
/-! MADE BY PROGRAM (witnessworld.py) out of the Statement's table words and the real class files: 12 classes; the members and pool entries that the words name. The judged class is class 1, her method 2. -/
namespace start1
open Jvm.ClassFile
def u (s : String) : CpInfo := .utf8 (stringToUtf16 s)
/-- a pool by its gaps: so many unusable entries, then the entry; so many at the end -/
def gap : Nat → List CpInfo → List CpInfo
  | 0, r => r
  | n + 1, r => .unusable :: gap n r
def poolList (es : List (Nat × CpInfo)) (last : Nat) : List CpInfo := es.foldr (fun e r => gap e.1 (e.2 :: r)) (gap last [])
def pool (es : List (Nat × CpInfo)) (last : Nat) : Array CpInfo := ⟨poolList es last⟩
def fileOf (pool : Array CpInfo) (this : Nat) (attrs : Array Attribute := #[]) (ms : Array MethodInfo := #[]) (fl : Nat := 33) (sup : Nat := 0) (ifs : Array Nat := #[]) (fds : Array FieldInfo := #[]) : ClassFile where
  minorVersion := 0
  majorVersion := 65
  constantPool := pool
  accessFlags := fl
  thisClass := this
  superClass := sup
  interfaces := ifs
  fields := fds
  methods := ms
  attributes := attrs
def plain (name : String) (sup : Option ClassId) : Class where
  name := name
  kind := .ordinary
  loader := none
  accessFlags := 33
  super := sup
  interfaces := #[]
  cf := none
  fields := #[]
  methods := #[]
  instanceTypes := #[]
  staticTypes := #[]
  resolved := #[]
  callSites := []
  init := .initialized
  statics := none
  mirror := none

def pool0 : Array CpInfo := pool [(5, u "<init>"), (0, u "()V"), (1, .class_ 10), (1, u "java/lang/Object")] 113

def k0m0 : Method := { name := "<init>", desc := "()V", sig := { parameters := [], returnType := none }, accessFlags := 1, code := none }
/-- java/lang/Object -/
def k0 : Class := { plain "java/lang/Object" none with
  accessFlags := 33
  interfaces := #[]
  cf := some (fileOf pool0 8 #[] #[{ accessFlags := 1, nameIndex := 5, descriptorIndex := 6, attributes := #[] }] 33 0 #[] #[])
  fields := #[]
  methods := #[k0m0]
  instanceTypes := #[]
  staticTypes := #[]
  resolved := Array.replicate 124 none
  statics := none }

def pool1 : Array CpInfo := pool [(2, .class_ 4), (1, u "java/lang/Object"), (0, u "<init>"), (0, u "()V"), (0, .fieldref 8 9), (0, .class_ 10), (0, .nameAndType 11 12), (0, u "com/example/pedantic_conformance/pedanticconformance/rules/safetycenter/Truth"), (0, u "TRUE"), (0, u "Lcom/example/pedantic_conformance/pedanticconformance/rules/safetycenter/Truth;"), (0, .fieldref 8 14), (0, .nameAndType 15 12), (0, u "FALSE"), (0, .fieldref 8 17), (0, .nameAndType 18 12), (0, u "UNKNOWN"), (0, .fieldref 8 20), (0, .nameAndType 21 12), (0, u "UNJUDGED"), (0, .methodref 23 24), (0, .class_ 25), (0, .nameAndType 26 27), (0, u "com/example/pedantic_conformance/pedanticconformance/rules/safetycenter/TruthNotPinLaw"), (0, u "pick"), (0, u "(I)Lcom/example/pedantic_conformance/pedanticconformance/rules/safetycenter/Truth;"), (0, .methodref 8 29), (0, .nameAndType 30 31), (0, u "not"), (0, u "()Lcom/example/pedantic_conformance/pedanticconformance/rules/safetycenter/Truth;"), (0, .methodref 8 33), (0, .nameAndType 34 35), (0, u "and"), (0, u "(Lcom/example/pedantic_conformance/pedanticconformance/rules/safetycenter/Truth;)Lcom/example/pedantic_conformance/pedanticconformance/rules/safetycenter/Truth;"), (0, .methodref 8 37), (0, .nameAndType 38 35), (0, u "or"), (3, u "law"), (0, u "(II)Z")] 2

def k1m0 : Method := { name := "<init>", desc := "()V", sig := { parameters := [], returnType := none }, accessFlags := 1, code := none }
def k1c1 : Code := { maxStack := 2, maxLocals := 2, code := method_2_code, exceptionTable := #[], attributes := #[] }
def k1m1 : Method := { name := "pick", desc := "(I)Lcom/example/pedantic_conformance/pedanticconformance/rules/safetycenter/Truth;", sig := { parameters := [.int], returnType := some (.object "com/example/pedantic_conformance/pedanticconformance/rules/safetycenter/Truth") }, accessFlags := 10, code := some k1c1 }
def k1c2 : Code := { maxStack := 3, maxLocals := 9, code := code, exceptionTable := #[], attributes := #[] }
def k1m2 : Method := { name := "law", desc := "(II)Z", sig := { parameters := [.int, .int], returnType := some .boolean }, accessFlags := 9, code := some k1c2 }
/-- com/example/pedantic_conformance/pedanticconformance/rules/safetycenter/TruthNotPinLaw -/
def k1 : Class := { plain "com/example/pedantic_conformance/pedanticconformance/rules/safetycenter/TruthNotPinLaw" (some 0) with
  accessFlags := 49
  interfaces := #[]
  cf := some (fileOf pool1 23 #[] #[{ accessFlags := 1, nameIndex := 5, descriptorIndex := 6, attributes := #[] }, { accessFlags := 10, nameIndex := 26, descriptorIndex := 27, attributes := #[] }, { accessFlags := 9, nameIndex := 42, descriptorIndex := 43, attributes := #[] }] 49 2 #[] #[])
  fields := #[]
  methods := #[k1m0, k1m1, k1m2]
  instanceTypes := #[]
  staticTypes := #[]
  resolved := Array.replicate 46 none
  statics := none }

def pool2 : Array CpInfo := pool [(1, .class_ 2), (0, u "java/lang/constant/Constable"), (0, .class_ 4), (0, u "java/lang/Object")] 6

/-- java/lang/constant/Constable -/
def k2 : Class := { plain "java/lang/constant/Constable" (some 0) with
  accessFlags := 1537
  interfaces := #[]
  cf := some (fileOf pool2 1 #[] #[] 1537 3 #[] #[])
  fields := #[]
  methods := #[]
  instanceTypes := #[]
  staticTypes := #[]
  resolved := Array.replicate 11 none
  statics := none }

def pool3 : Array CpInfo := pool [(1, .class_ 2), (0, u "java/lang/Comparable"), (0, .class_ 4), (0, u "java/lang/Object")] 7

/-- java/lang/Comparable -/
def k3 : Class := { plain "java/lang/Comparable" (some 0) with
  accessFlags := 1537
  interfaces := #[]
  cf := some (fileOf pool3 1 #[] #[] 1537 3 #[] #[])
  fields := #[]
  methods := #[]
  instanceTypes := #[]
  staticTypes := #[]
  resolved := Array.replicate 12 none
  statics := none }

def pool4 : Array CpInfo := pool [(1, .class_ 2), (0, u "java/io/Serializable"), (0, .class_ 4), (0, u "java/lang/Object")] 2

/-- java/io/Serializable -/
def k4 : Class := { plain "java/io/Serializable" (some 0) with
  accessFlags := 1537
  interfaces := #[]
  cf := some (fileOf pool4 1 #[] #[] 1537 3 #[] #[])
  fields := #[]
  methods := #[]
  instanceTypes := #[]
  staticTypes := #[]
  resolved := Array.replicate 7 none
  statics := none }

def pool5 : Array CpInfo := pool [(2, .class_ 4), (1, u "java/lang/Enum"), (0, u "name"), (0, u "Ljava/lang/String;"), (2, u "ordinal"), (0, u "I"), (1, .class_ 14), (1, u "java/lang/Object"), (4, u "hash"), (86, .class_ 108), (1, u "java/lang/Enum$EnumDesc"), (2, .class_ 112), (0, u "java/lang/constant/Constable"), (0, .class_ 114), (0, u "java/lang/Comparable"), (0, .class_ 116), (0, u "java/io/Serializable")] 87

/-- java/lang/Enum -/
def k5 : Class := { plain "java/lang/Enum" (some 0) with
  accessFlags := 1057
  interfaces := #[2, 3, 4]
  cf := some (fileOf pool5 2 #[.nestMembers #[106]] #[] 1057 12 #[111, 113, 115] #[{ accessFlags := 18, nameIndex := 5, descriptorIndex := 6, attributes := #[] }, { accessFlags := 18, nameIndex := 9, descriptorIndex := 10, attributes := #[] }, { accessFlags := 2, nameIndex := 19, descriptorIndex := 10, attributes := #[] }])
  fields := #[{ name := "name", type := (.object "java/lang/String"), accessFlags := 18, slot := 0, constantValue := 0 }, { name := "ordinal", type := .int, accessFlags := 18, slot := 1, constantValue := 0 }, { name := "hash", type := .int, accessFlags := 2, slot := 2, constantValue := 0 }]
  methods := #[]
  instanceTypes := #[(.object "java/lang/String"), .int, .int]
  staticTypes := #[]
  resolved := Array.replicate 204 none
  statics := none }

def pool6 : Array CpInfo := pool [(1, .class_ 2), (0, u "com/example/pedantic_conformance/pedanticconformance/rules/safetycenter/Truth"), (0, .fieldref 1 4), (0, .nameAndType 5 6), (0, u "TRUE"), (0, u "Lcom/example/pedantic_conformance/pedanticconformance/rules/safetycenter/Truth;"), (0, .fieldref 1 8), (0, .nameAndType 9 6), (0, u "FALSE"), (0, .fieldref 1 11), (0, .nameAndType 12 6), (0, u "UNKNOWN"), (0, .fieldref 1 14), (0, .nameAndType 15 6), (0, u "UNJUDGED"), (2, u "$VALUES"), (0, u "[Lcom/example/pedantic_conformance/pedanticconformance/rules/safetycenter/Truth;"), (6, .class_ 28), (1, u "java/lang/Enum"), (6, .methodref 1 36), (0, .nameAndType 37 38), (0, u "weaker"), (0, u "(Lcom/example/pedantic_conformance/pedanticconformance/rules/safetycenter/Truth;)Lcom/example/pedantic_conformance/pedanticconformance/rules/safetycenter/Truth;"), (16, u "not"), (0, u "()Lcom/example/pedantic_conformance/pedanticconformance/rules/safetycenter/Truth;"), (1, u "and"), (0, u "or")] 4

def k6c0 : Code := { maxStack := 2, maxLocals := 1, code := prog_171_method_4_code, exceptionTable := #[], attributes := #[] }
def k6m0 : Method := { name := "not", desc := "()Lcom/example/pedantic_conformance/pedanticconformance/rules/safetycenter/Truth;", sig := { parameters := [], returnType := some (.object "com/example/pedantic_conformance/pedanticconformance/rules/safetycenter/Truth") }, accessFlags := 0, code := some k6c0 }
def k6c1 : Code := { maxStack := 2, maxLocals := 2, code := prog_171_method_5_code, exceptionTable := #[], attributes := #[] }
def k6m1 : Method := { name := "and", desc := "(Lcom/example/pedantic_conformance/pedanticconformance/rules/safetycenter/Truth;)Lcom/example/pedantic_conformance/pedanticconformance/rules/safetycenter/Truth;", sig := { parameters := [(.object "com/example/pedantic_conformance/pedanticconformance/rules/safetycenter/Truth")], returnType := some (.object "com/example/pedantic_conformance/pedanticconformance/rules/safetycenter/Truth") }, accessFlags := 0, code := some k6c1 }
def k6c2 : Code := { maxStack := 2, maxLocals := 2, code := prog_171_method_6_code, exceptionTable := #[], attributes := #[] }
def k6m2 : Method := { name := "or", desc := "(Lcom/example/pedantic_conformance/pedanticconformance/rules/safetycenter/Truth;)Lcom/example/pedantic_conformance/pedanticconformance/rules/safetycenter/Truth;", sig := { parameters := [(.object "com/example/pedantic_conformance/pedanticconformance/rules/safetycenter/Truth")], returnType := some (.object "com/example/pedantic_conformance/pedanticconformance/rules/safetycenter/Truth") }, accessFlags := 0, code := some k6c2 }
def k6c3 : Code := { maxStack := 2, maxLocals := 2, code := prog_171_method_7_code, exceptionTable := #[], attributes := #[] }
def k6m3 : Method := { name := "weaker", desc := "(Lcom/example/pedantic_conformance/pedanticconformance/rules/safetycenter/Truth;)Lcom/example/pedantic_conformance/pedanticconformance/rules/safetycenter/Truth;", sig := { parameters := [(.object "com/example/pedantic_conformance/pedanticconformance/rules/safetycenter/Truth")], returnType := some (.object "com/example/pedantic_conformance/pedanticconformance/rules/safetycenter/Truth") }, accessFlags := 2, code := some k6c3 }
/-- com/example/pedantic_conformance/pedanticconformance/rules/safetycenter/Truth -/
def k6 : Class := { plain "com/example/pedantic_conformance/pedanticconformance/rules/safetycenter/Truth" (some 5) with
  accessFlags := 16432
  interfaces := #[]
  cf := some (fileOf pool6 1 #[] #[{ accessFlags := 0, nameIndex := 55, descriptorIndex := 56, attributes := #[] }, { accessFlags := 0, nameIndex := 58, descriptorIndex := 38, attributes := #[] }, { accessFlags := 0, nameIndex := 59, descriptorIndex := 38, attributes := #[] }, { accessFlags := 2, nameIndex := 37, descriptorIndex := 38, attributes := #[] }] 16432 26 #[] #[{ accessFlags := 16409, nameIndex := 5, descriptorIndex := 6, attributes := #[] }, { accessFlags := 16409, nameIndex := 9, descriptorIndex := 6, attributes := #[] }, { accessFlags := 16409, nameIndex := 12, descriptorIndex := 6, attributes := #[] }, { accessFlags := 16409, nameIndex := 15, descriptorIndex := 6, attributes := #[] }, { accessFlags := 4122, nameIndex := 18, descriptorIndex := 19, attributes := #[] }])
  fields := #[{ name := "TRUE", type := (.object "com/example/pedantic_conformance/pedanticconformance/rules/safetycenter/Truth"), accessFlags := 16409, slot := 0, constantValue := 0 }, { name := "FALSE", type := (.object "com/example/pedantic_conformance/pedanticconformance/rules/safetycenter/Truth"), accessFlags := 16409, slot := 1, constantValue := 0 }, { name := "UNKNOWN", type := (.object "com/example/pedantic_conformance/pedanticconformance/rules/safetycenter/Truth"), accessFlags := 16409, slot := 2, constantValue := 0 }, { name := "UNJUDGED", type := (.object "com/example/pedantic_conformance/pedanticconformance/rules/safetycenter/Truth"), accessFlags := 16409, slot := 3, constantValue := 0 }, { name := "$VALUES", type := (.array (.object "com/example/pedantic_conformance/pedanticconformance/rules/safetycenter/Truth")), accessFlags := 4122, slot := 4, constantValue := 0 }]
  methods := #[k6m0, k6m1, k6m2, k6m3]
  instanceTypes := #[(.object "java/lang/String"), .int, .int]
  staticTypes := #[(.object "com/example/pedantic_conformance/pedanticconformance/rules/safetycenter/Truth"), (.object "com/example/pedantic_conformance/pedanticconformance/rules/safetycenter/Truth"), (.object "com/example/pedantic_conformance/pedanticconformance/rules/safetycenter/Truth"), (.object "com/example/pedantic_conformance/pedanticconformance/rules/safetycenter/Truth"), (.array (.object "com/example/pedantic_conformance/pedanticconformance/rules/safetycenter/Truth"))]
  resolved := Array.replicate 64 none
  statics := some 0 }

def pool7 : Array CpInfo := pool [(1, u "java/lang/Cloneable"), (0, .class_ 1), (0, u "java/lang/Object"), (0, .class_ 3)] 3

/-- java/lang/Cloneable -/
def k7 : Class := { plain "java/lang/Cloneable" (some 0) with
  accessFlags := 1537
  interfaces := #[]
  cf := some (fileOf pool7 2 #[] #[] 1537 4 #[] #[])
  fields := #[]
  methods := #[]
  instanceTypes := #[]
  staticTypes := #[]
  resolved := Array.replicate 8 none
  statics := none }

/-- the primitive byte -/
def k8 : Class := { plain "byte" none with kind := .primitive 'B', accessFlags := 0x411 }
/-- [B -/
def k9 : Class := { plain "[B" (some 0) with kind := .array 8 .byte, interfaces := #[7, 4], accessFlags := 1041 }

/-- the primitive int -/
def k10 : Class := { plain "int" none with kind := .primitive 'I', accessFlags := 0x411 }
/-- [I -/
def k11 : Class := { plain "[I" (some 0) with kind := .array 10 .int, interfaces := #[7, 4], accessFlags := 1041 }

def heap : Heap := #[{ cls := 6, slots := #[.ref 1, .ref 2, .ref 3, .ref 4, .null], vm := .statics 6 },
  { cls := 6, slots := #[.null, .int 0, .int 0], vm := .none },
  { cls := 6, slots := #[.null, .int 1, .int 0], vm := .none },
  { cls := 6, slots := #[.null, .int 2, .int 0], vm := .none },
  { cls := 6, slots := #[.null, .int 3, .int 0], vm := .none }]
def classes : Array Class := #[k0, k1, k2, k3, k4, k5, k6, k7, k8, k9, k10, k11]
def interned : List (Array UInt16 × Addr) := []
def slotsUsed : Nat := 17
def theMethod : MethodId := ⟨1, 2⟩
def args0 : Array Value := #[.int 3, .int 7]
def aboutOver (below : List Frame) : State where
  vm := { classes := classes, interned := interned.toArray }
  heap := heap
  slotsUsed := slotsUsed
  threads := #[{ frames := .invoking theMethod args0 :: below }]
def below0 : List Frame := [.native { method := ⟨0, 0⟩, args := #[] }]
def about1 : State := aboutOver below0
def p0 : Program := .bare "" "" ""
def e0 : Env := launch0.env 0 0 0
theorem w_frames : about1.frames = Frame.invoking theMethod args0 :: below0 := rfl
set_option maxRecDepth 65536 in
theorem w_args : argsFit about1.vm theMethod args0 = true := by decide +kernel
set_option maxRecDepth 65536 in
theorem w_heap : heapFits about1 = true := by decide +kernel
set_option maxRecDepth 65536 in
theorem w_runnable : about1.curStatus? = some .runnable := by decide +kernel
set_option maxRecDepth 65536 in
theorem w_alone : about1.alone = true := by decide +kernel
set_option maxRecDepth 65536 in
theorem w_named : about1.methodNamed? x = some theMethod := by decide +kernel
set_option maxRecDepth 65536 in
theorem w_hears : about1.hears theMethod below0 = true := by decide +kernel
set_option maxRecDepth 65536 in
theorem w_ripe : about1.ripe theMethod args0 below0 = true := by decide +kernel
theorem w_running : about1.status = .running := rfl
set_option maxRecDepth 65536 in
theorem w_room : about1.hasRoom e0.platform room_1 = true :=
  launch0.hasRoom_least _ room_1 (by decide +kernel) (by decide +kernel) (by decide +kernel) (by decide +kernel) (by decide +kernel) (by decide +kernel)
theorem allAtoms_all (ts : List Jvm.Cond) (a : Array Jvm.Value) (st : Jvm.State) : (allAtoms ts).before a st = ts.all (fun c => c.before a st) := by
  induction ts with
  | nil => rfl
  | cons c t ih =>
    show (Jvm.Cond.and c (allAtoms t)).before a st = _
    rw [Jvm.Cond.before_and, ih, List.all_cons]
def words1 : List Jvm.Cond := Jvm.Cond.code x code maxLocals ret :: tables_1
/-- a 'code' word, met by the world's own term for the bytes: nothing is compared byte by byte -/
theorem code_word {y : MethodName} {bytes : ByteArray} {mx : Nat} {rt : Option FieldType} {a : Array Value} {s : State} {m : MethodId} {meth : Method} {c : Code} (h1 : s.methodNamed? y = some m) (h2 : s.vm.method? m = some meth) (h3 : meth.code = some c) (h4 : c.code = bytes)
    (h5 : (c.maxLocals == mx && c.exceptionTable.isEmpty && decide (c.maxStack ≤ mostOperands) && decide (meth.sig.returnType = rt) && !meth.locks && decide (parseMethodDescriptor y.desc = some meth.sig)) = true) : (Jvm.Cond.code y bytes mx rt).before a s = true := by
  simp only [Bool.and_eq_true, beq_iff_eq, Bool.not_eq_true', decide_eq_true_eq] at h5
  obtain ⟨⟨⟨⟨⟨g1, g2⟩, g3⟩, g4⟩, g5⟩, g6⟩ := h5
  simp [Cond.before, Cond.holds, Cond.value, h1, h2, h3, h4, g1, g2, g3, g4, g5, g6]
def isCode : Jvm.Cond → Bool
  | .code _ _ _ _ => true
  | _ => false
theorem all_split {L : List Jvm.Cond} {P : Jvm.Cond → Bool} (h1 : L.all (fun c => isCode c || P c) = true) (h2 : ∀ c ∈ L.filter isCode, P c = true) : L.all P = true := by
  refine List.all_eq_true.mpr fun c hc => ?_
  have h := List.all_eq_true.mp h1 c hc
  rcases Bool.eq_false_or_eq_true (isCode c) with hi | hi
  · exact h2 c (List.mem_filter.mpr ⟨hc, hi⟩)
  · simpa [hi] using h
set_option maxRecDepth 65536 in
theorem w_c0 : (Jvm.Cond.code x code maxLocals ret).before args0 about1 = true := code_word (m := ⟨1, 2⟩) (meth := k1m2) (c := k1c2) (by decide +kernel) rfl rfl rfl (by decide +kernel)
set_option maxRecDepth 65536 in
theorem w_c1 : (Jvm.Cond.code ({ cls := "com/example/pedantic_conformance/pedanticconformance/rules/safetycenter/TruthNotPinLaw", name := "pick", desc := "(I)Lcom/example/pedantic_conformance/pedanticconformance/rules/safetycenter/Truth;" } : Jvm.MethodName) method_2_code (2 : Nat) (Option.some (Jvm.ClassFile.FieldType.object "com/example/pedantic_conformance/pedanticconformance/rules/safetycenter/Truth"))).before args0 about1 = true := code_word (m := ⟨1, 1⟩) (meth := k1m1) (c := k1c1) (by decide +kernel) rfl rfl rfl (by decide +kernel)
set_option maxRecDepth 65536 in
theorem w_c2 : (Jvm.Cond.code ({ cls := "com/example/pedantic_conformance/pedanticconformance/rules/safetycenter/Truth", name := "not", desc := "()Lcom/example/pedantic_conformance/pedanticconformance/rules/safetycenter/Truth;" } : Jvm.MethodName) prog_171_method_4_code (1 : Nat) (Option.some (Jvm.ClassFile.FieldType.object "com/example/pedantic_conformance/pedanticconformance/rules/safetycenter/Truth"))).before args0 about1 = true := code_word (m := ⟨6, 0⟩) (meth := k6m0) (c := k6c0) (by decide +kernel) rfl rfl rfl (by decide +kernel)
set_option maxRecDepth 65536 in
theorem w_c3 : (Jvm.Cond.code ({ cls := "com/example/pedantic_conformance/pedanticconformance/rules/safetycenter/Truth", name := "and", desc := "(Lcom/example/pedantic_conformance/pedanticconformance/rules/safetycenter/Truth;)Lcom/example/pedantic_conformance/pedanticconformance/rules/safetycenter/Truth;" } : Jvm.MethodName) prog_171_method_5_code (2 : Nat) (Option.some (Jvm.ClassFile.FieldType.object "com/example/pedantic_conformance/pedanticconformance/rules/safetycenter/Truth"))).before args0 about1 = true := code_word (m := ⟨6, 1⟩) (meth := k6m1) (c := k6c1) (by decide +kernel) rfl rfl rfl (by decide +kernel)
set_option maxRecDepth 65536 in
theorem w_c4 : (Jvm.Cond.code ({ cls := "com/example/pedantic_conformance/pedanticconformance/rules/safetycenter/Truth", name := "or", desc := "(Lcom/example/pedantic_conformance/pedanticconformance/rules/safetycenter/Truth;)Lcom/example/pedantic_conformance/pedanticconformance/rules/safetycenter/Truth;" } : Jvm.MethodName) prog_171_method_6_code (2 : Nat) (Option.some (Jvm.ClassFile.FieldType.object "com/example/pedantic_conformance/pedanticconformance/rules/safetycenter/Truth"))).before args0 about1 = true := code_word (m := ⟨6, 2⟩) (meth := k6m2) (c := k6c2) (by decide +kernel) rfl rfl rfl (by decide +kernel)
set_option maxRecDepth 65536 in
theorem w_c5 : (Jvm.Cond.code ({ cls := "com/example/pedantic_conformance/pedanticconformance/rules/safetycenter/Truth", name := "weaker", desc := "(Lcom/example/pedantic_conformance/pedanticconformance/rules/safetycenter/Truth;)Lcom/example/pedantic_conformance/pedanticconformance/rules/safetycenter/Truth;" } : Jvm.MethodName) prog_171_method_7_code (2 : Nat) (Option.some (Jvm.ClassFile.FieldType.object "com/example/pedantic_conformance/pedanticconformance/rules/safetycenter/Truth"))).before args0 about1 = true := code_word (m := ⟨6, 3⟩) (meth := k6m3) (c := k6c3) (by decide +kernel) rfl rfl rfl (by decide +kernel)
def codes1 : List Jvm.Cond := [Jvm.Cond.code x code maxLocals ret, Jvm.Cond.code ({ cls := "com/example/pedantic_conformance/pedanticconformance/rules/safetycenter/TruthNotPinLaw", name := "pick", desc := "(I)Lcom/example/pedantic_conformance/pedanticconformance/rules/safetycenter/Truth;" } : Jvm.MethodName) method_2_code (2 : Nat) (Option.some (Jvm.ClassFile.FieldType.object "com/example/pedantic_conformance/pedanticconformance/rules/safetycenter/Truth")), Jvm.Cond.code ({ cls := "com/example/pedantic_conformance/pedanticconformance/rules/safetycenter/Truth", name := "not", desc := "()Lcom/example/pedantic_conformance/pedanticconformance/rules/safetycenter/Truth;" } : Jvm.MethodName) prog_171_method_4_code (1 : Nat) (Option.some (Jvm.ClassFile.FieldType.object "com/example/pedantic_conformance/pedanticconformance/rules/safetycenter/Truth")), Jvm.Cond.code ({ cls := "com/example/pedantic_conformance/pedanticconformance/rules/safetycenter/Truth", name := "and", desc := "(Lcom/example/pedantic_conformance/pedanticconformance/rules/safetycenter/Truth;)Lcom/example/pedantic_conformance/pedanticconformance/rules/safetycenter/Truth;" } : Jvm.MethodName) prog_171_method_5_code (2 : Nat) (Option.some (Jvm.ClassFile.FieldType.object "com/example/pedantic_conformance/pedanticconformance/rules/safetycenter/Truth")), Jvm.Cond.code ({ cls := "com/example/pedantic_conformance/pedanticconformance/rules/safetycenter/Truth", name := "or", desc := "(Lcom/example/pedantic_conformance/pedanticconformance/rules/safetycenter/Truth;)Lcom/example/pedantic_conformance/pedanticconformance/rules/safetycenter/Truth;" } : Jvm.MethodName) prog_171_method_6_code (2 : Nat) (Option.some (Jvm.ClassFile.FieldType.object "com/example/pedantic_conformance/pedanticconformance/rules/safetycenter/Truth")), Jvm.Cond.code ({ cls := "com/example/pedantic_conformance/pedanticconformance/rules/safetycenter/Truth", name := "weaker", desc := "(Lcom/example/pedantic_conformance/pedanticconformance/rules/safetycenter/Truth;)Lcom/example/pedantic_conformance/pedanticconformance/rules/safetycenter/Truth;" } : Jvm.MethodName) prog_171_method_7_code (2 : Nat) (Option.some (Jvm.ClassFile.FieldType.object "com/example/pedantic_conformance/pedanticconformance/rules/safetycenter/Truth"))]
set_option maxRecDepth 65536 in
theorem codes_eq : words1.filter isCode = codes1 := rfl
theorem w_codes : ∀ c ∈ words1.filter isCode, c.before args0 about1 = true := by
  rw [codes_eq]
  intro c hc
  simp only [codes1, List.mem_cons, List.not_mem_nil, or_false] at hc
  rcases hc with rfl | rfl | rfl | rfl | rfl | rfl
  · exact w_c0
  · exact w_c1
  · exact w_c2
  · exact w_c3
  · exact w_c4
  · exact w_c5
set_option maxRecDepth 65536 in
theorem w_t1 : (words1.take 24).all (fun c => isCode c || c.before args0 about1) = true := by decide +kernel
set_option maxRecDepth 65536 in
theorem w_t2 : (words1.drop 24).all (fun c => isCode c || c.before args0 about1) = true := by decide +kernel
theorem w_tables : (allAtoms (Jvm.Cond.code x code maxLocals ret :: tables_1)).before args0 about1 = true := by
  rw [allAtoms_all]
  show words1.all (fun c => c.before args0 about1) = true
  refine all_split ?_ w_codes
  rw [← List.take_append_drop 24 words1, List.all_append, w_t1, w_t2]
  rfl
set_option maxRecDepth 65536 in
theorem w_case : (Jvm.Cond.and given_1 narrow_1).before args0 about1 = true := by decide +kernel
theorem w_applies : (headSpec (Jvm.Cond.code x code maxLocals ret :: tables_1) room_1).applies x e0.platform about1 = true :=
  (Spec.applies_iff w_frames).mpr ⟨w_running, w_runnable, w_alone, w_named, w_hears, w_ripe, w_room, w_tables⟩
theorem atStart : AtStart classFile x code maxLocals ret World_1 tables_1 room_1 Calls_1 rest_1 Pre_1 launch0 p0 e0 about1 theMethod args0 below0 :=
  ⟨lists_1, trivial, launch0.admits_env _ _ _, launch0.least_env, fairChoices_fair.cas, fairChoices_fair.clock, w_frames, w_args, w_heap, w_applies, trivial, trivial, w_case⟩
end start1
theorem witness_1 : WitnessClaimed_1 := ⟨start1.p0, start1.e0, start1.about1, start1.theMethod, start1.args0, start1.below0, start1.atStart⟩
end Jvm.Pilot.@@N@@
