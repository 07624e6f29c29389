import JvmDerived
import JvmDerived.Pilot.@@N@@Statement
import JvmDerived.Pilot.@@N@@Code
set_option linter.unusedVariables false
set_option linter.unusedSimpArgs false
namespace Jvm.RoadKit
open Sem ClassFile Op Lib Jvm.Stand Jvm.Free Jvm.LawKit
section New
variable {p : Program} {l : Launch} {e : Env} {R : Room} {s : State} {m : MethodId} {args : Array Value} {below : List Frame} {meth : Method} {c : Code} {T : State} {locs : List Loc} {cells slots : Nat}
theorem retI (X : Stand p l e R s m args below meth c T locs cells slots) (hx : p.tables.exec = Jvm.exec) {pc : Nat} {Ls : Array Slot} {z : Int32} {rest : List Value} (hret : meth.sig.returnType = some .int) (hd : decode c.code pc = .ok (.ireturn, 1)) {fs : List Frame}
    (hl : ∀ (f : JFrame) (acts : List Action), f.method = m → f.locked = none → f.entered = [] → (doReturn e (T.setTop f) acts (some (.int z))).1 = T.setFrames fs) : Steps p.tables e below (T.setTop (mkF m pc Ls (.int z :: rest))) (T.setFrames fs) := by
  have hm' : T.vm.method? m = some meth := X.method'
  have hn : narrow .int (.int z) = .int z := rfl
  show Steps p.tables e below (T.setTop { method := m, pc := pc, locals := Ls, stack := _ :: rest, locked := none }) _
  jvm_step X.here [X.here.top, hx, hd, hm', hret, hn]
  first | (intro acts; rw [hl _ acts rfl rfl rfl]) | rw [hl _ _ rfl rfl rfl]
  exact Steps.refl _
end New
end Jvm.RoadKit
namespace Jvm.Pilot.@@N@@
open Jvm Jvm.ClassFile Sem Op Lib Jvm.Free Jvm.Stand Jvm.LawKit Jvm.RoadKit Bundle Jvm.Pilot.@@N@@.Jvm.D
def QP (w : Option Value) (h0 : Heap) (n0 : Nat) (v : Option Value) (h : Heap) (L : List Loc) : Prop := v = w ∧ Fr n0 L ∧ h = h0
def QL (w : Option Value) (n0 : Nat) (v : Option Value) (h : Heap) (L : List Loc) : Prop := v = w ∧ Fr n0 L ∧ True
theorem d1_0 : decode prog_90_method_5_code 0 = .ok (.iload_n 0, 1) := by decide +kernel
theorem d1_1 : decode prog_90_method_5_code 1 = .ok (.bipush 65, 2) := by decide +kernel
theorem d1_3 : decode prog_90_method_5_code 3 = .ok (.if_icmp .lt 9, 3) := by decide +kernel
theorem d1_6 : decode prog_90_method_5_code 6 = .ok (.iload_n 0, 1) := by decide +kernel
theorem d1_7 : decode prog_90_method_5_code 7 = .ok (.bipush 90, 2) := by decide +kernel
theorem d1_9 : decode prog_90_method_5_code 9 = .ok (.if_icmp .le 21, 3) := by decide +kernel
theorem d1_12 : decode prog_90_method_5_code 12 = .ok (.iload_n 0, 1) := by decide +kernel
theorem d1_13 : decode prog_90_method_5_code 13 = .ok (.bipush 97, 2) := by decide +kernel
theorem d1_15 : decode prog_90_method_5_code 15 = .ok (.if_icmp .lt 9, 3) := by decide +kernel
theorem d1_18 : decode prog_90_method_5_code 18 = .ok (.iload_n 0, 1) := by decide +kernel
theorem d1_19 : decode prog_90_method_5_code 19 = .ok (.bipush 122, 2) := by decide +kernel
theorem d1_21 : decode prog_90_method_5_code 21 = .ok (.if_icmp .le 9, 3) := by decide +kernel
theorem d1_24 : decode prog_90_method_5_code 24 = .ok (.iload_n 0, 1) := by decide +kernel
theorem d1_25 : decode prog_90_method_5_code 25 = .ok (.bipush 95, 2) := by decide +kernel
theorem d1_27 : decode prog_90_method_5_code 27 = .ok (.if_icmp .ne 7, 3) := by decide +kernel
theorem d1_30 : decode prog_90_method_5_code 30 = .ok (.iconst 1, 1) := by decide +kernel
theorem d1_31 : decode prog_90_method_5_code 31 = .ok (.goto 4, 3) := by decide +kernel
theorem d1_34 : decode prog_90_method_5_code 34 = .ok (.iconst 0, 1) := by decide +kernel
theorem d1_35 : decode prog_90_method_5_code 35 = .ok (.ireturn, 1) := by decide +kernel
theorem pn_1 : plainName "com/example/slim_kripke/slimkripke/smv/TokenKind" = true := by first | (simp [plainName, overriddenIn]; done) | decide +kernel
theorem ef_1 (m : MethodId) (x0 : Int32) : entryFrame m #[(.int x0)] 1 = mkF m 0 #[.val (.int x0)] [] := by first | (simp [entryFrame, mkF, argsToLocals, Value.category]; done) | rfl
def f1 (p0 : Int32) : Int32 := (if p0 < (65 : Int32) then (if p0 < (97 : Int32) then (if p0 = (95 : Int32) then (1 : Int32) else (0 : Int32)) else (if (122 : Int32) < p0 then (if p0 = (95 : Int32) then (1 : Int32) else (0 : Int32)) else (1 : Int32))) else (if (90 : Int32) < p0 then (if p0 < (97 : Int32) then (if p0 = (95 : Int32) then (1 : Int32) else (0 : Int32)) else (if (122 : Int32) < p0 then (if p0 = (95 : Int32) then (1 : Int32) else (0 : Int32)) else (1 : Int32))) else (1 : Int32)))
set_option maxRecDepth 65536 in
set_option maxHeartbeats 40000000 in
theorem rm1 (l : Launch) (Z : State) (a0 : Array Value) (hw : ∀ d ∈ tables_1, d.before a0 Z = true) (ws : List Jvm.Cond) (p0 : Int32) (h0 : Heap) (n0 : Nat) (Z0 : n0 ≤ h0.size) :
    MetFree l (⟨"com/example/slim_kripke/slimkripke/smv/TokenKind", "isWordStart", "(I)Z"⟩ : MethodName) (head1 (Jvm.Cond.code (⟨"com/example/slim_kripke/slimkripke/smv/TokenKind", "isWordStart", "(I)Z"⟩ : MethodName) prog_90_method_5_code 1 (some .boolean) :: ws) ({ frames := 0, cells := 0, slots := 0, locals := 0 } : Room)) (fun a U => a = #[(.int p0)] ∧ Z.Warmed39 U.vm ∧ U.heap = h0) (fun _ _ _ _ _ => True) (fun _ U o U' => ∃ v L, o = .returned v ∧ QP (some (.int (f1 p0))) h0 n0 v U'.heap L ∧ FrameEnd U o U' L ({ frames := 0, cells := 0, slots := 0, locals := 0 } : Room).cells ({ frames := 0, cells := 0, slots := 0, locals := 0 } : Room).slots) := by
  refine MetFree.of_bodySF (plainFor_of_name pn_1) hisR ?_
  intro p e s m args below meth c s₁ Bd hml0 hP hK
  obtain ⟨rfl, hZ, hh⟩ := hP
  have hx := Bd.exec
  have hby := Bd.bytes
  have hml : c.maxLocals = 1 := hml0
  have hown : s.vm.findClass "com/example/slim_kripke/slimkripke/smv/TokenKind" = some m.cls := findClass_of_methodNamed Bd.named
  have hnm := (name_of_methodNamed Bd.named Bd.method).1
  have X0 : Stand p l e ({ frames := 0, cells := 0, slots := 0, locals := 0 } : Room) s m #[(.int p0)] below meth c s₁ [] 0 0 := Stand.of_body Bd
  have e0 : s₁.heap = h0 := by rw [← hh, Bd.state]; rfl
  have N0 := Fr.nil n0
  have K0 : Keep h0 h0 [] := Keep.refl _ _
  have pre0 : ∀ t, Steps p.tables e below (s₁.setTop (mkF m 0 #[.val (.int p0)] [])) t → Steps p.tables e below (s₁.setTop (entryFrame m #[(.int p0)] 1)) t := fun t k => castTop (ef_1 m p0) k
  have pre11 : ∀ t, Steps p.tables e below (s₁.setTop (mkF m 3 #[.val (.int p0)] [(.int (65 : Int32)), (.int p0)])) t → Steps p.tables e below (s₁.setTop (entryFrame m #[(.int p0)] 1)) t := fun t k => pre0 t (by
    show Steps p.tables e below (s₁.setTop (mkF m 0 #[.val (.int p0)] [])) _
    refine XS.iloadN X0.here hx rfl (hb hby d1_0) rfl ?_
    show Steps p.tables e below (s₁.setTop (mkF m 1 #[.val (.int p0)] [(.int p0)])) _
    refine XS.bipush X0.here hx rfl (hb hby d1_1) ?_
    exact k)
  by_cases hc3_1 : p0 < (65 : Int32)
  · have pre12 : ∀ t, Steps p.tables e below (s₁.setTop (mkF m 15 #[.val (.int p0)] [(.int (97 : Int32)), (.int p0)])) t → Steps p.tables e below (s₁.setTop (entryFrame m #[(.int p0)] 1)) t := fun t k => pre11 t (by
      show Steps p.tables e below (s₁.setTop (mkF m 3 #[.val (.int p0)] [(.int (65 : Int32)), (.int p0)])) _
      refine XS.icmpYes X0.here hx rfl (pc0 := 3) (pc' := 12) rfl (hb hby d1_3) rfl (tlt hc3_1).1 (by decide) (by decide) ?_
      show Steps p.tables e below (s₁.setTop (mkF m 12 #[.val (.int p0)] [])) _
      refine XS.iloadN X0.here hx rfl (hb hby d1_12) rfl ?_
      show Steps p.tables e below (s₁.setTop (mkF m 13 #[.val (.int p0)] [(.int p0)])) _
      refine XS.bipush X0.here hx rfl (hb hby d1_13) ?_
      exact k)
    by_cases hc15_2 : p0 < (97 : Int32)
    · have pre13 : ∀ t, Steps p.tables e below (s₁.setTop (mkF m 27 #[.val (.int p0)] [(.int (95 : Int32)), (.int p0)])) t → Steps p.tables e below (s₁.setTop (entryFrame m #[(.int p0)] 1)) t := fun t k => pre12 t (by
        show Steps p.tables e below (s₁.setTop (mkF m 15 #[.val (.int p0)] [(.int (97 : Int32)), (.int p0)])) _
        refine XS.icmpYes X0.here hx rfl (pc0 := 15) (pc' := 24) rfl (hb hby d1_15) rfl (tlt hc15_2).1 (by decide) (by decide) ?_
        show Steps p.tables e below (s₁.setTop (mkF m 24 #[.val (.int p0)] [])) _
        refine XS.iloadN X0.here hx rfl (hb hby d1_24) rfl ?_
        show Steps p.tables e below (s₁.setTop (mkF m 25 #[.val (.int p0)] [(.int p0)])) _
        refine XS.bipush X0.here hx rfl (hb hby d1_25) ?_
        exact k)
      by_cases hc27_3 : p0 = (95 : Int32)
      · have pre14 : ∀ t, Steps p.tables e below (s₁.setTop (mkF m 35 #[.val (.int p0)] [(.int (1 : Int32))])) t → Steps p.tables e below (s₁.setTop (entryFrame m #[(.int p0)] 1)) t := fun t k => pre13 t (by
          show Steps p.tables e below (s₁.setTop (mkF m 27 #[.val (.int p0)] [(.int (95 : Int32)), (.int p0)])) _
          refine XS.icmpNo X0.here hx rfl (hb hby d1_27) rfl (teq hc27_3).2 ?_
          show Steps p.tables e below (s₁.setTop (mkF m 30 #[.val (.int p0)] [])) _
          refine XS.iconst X0.here hx rfl (hb hby d1_30) ?_
          show Steps p.tables e below (s₁.setTop (mkF m 31 #[.val (.int p0)] [(.int (1 : Int32))])) _
          refine XS.goto X0.here hx rfl (pc0 := 31) (pc' := 35) rfl (hb hby d1_31) (by decide) (by decide) ?_
          exact k)
        obtain ⟨fs, hr, hrun, hended, hW, hsame⟩ := X0.leave (v := some (.int (1 : Int32))) (fun h => by rw [Bd.returns] at h; cases h)
        refine ⟨_, _, ?_, hrun, hended, _, _, rfl, ?_, ⟨_, rfl⟩, hW, hsame.mono (by decide) (by decide)⟩
        · exact pre14 _ (retN X0 hx (t := .boolean) Bd.returns (by simp) (hb hby d1_35) hr)
        · exact ⟨by simp only [f1, if_pos hc3_1, if_pos hc15_2, if_pos hc27_3], N0, e0⟩
      · have pre15 : ∀ t, Steps p.tables e below (s₁.setTop (mkF m 35 #[.val (.int p0)] [(.int (0 : Int32))])) t → Steps p.tables e below (s₁.setTop (entryFrame m #[(.int p0)] 1)) t := fun t k => pre13 t (by
          show Steps p.tables e below (s₁.setTop (mkF m 27 #[.val (.int p0)] [(.int (95 : Int32)), (.int p0)])) _
          refine XS.icmpYes X0.here hx rfl (pc0 := 27) (pc' := 34) rfl (hb hby d1_27) rfl (feq hc27_3).2 (by decide) (by decide) ?_
          show Steps p.tables e below (s₁.setTop (mkF m 34 #[.val (.int p0)] [])) _
          refine XS.iconst X0.here hx rfl (hb hby d1_34) ?_
          exact k)
        obtain ⟨fs, hr, hrun, hended, hW, hsame⟩ := X0.leave (v := some (.int (0 : Int32))) (fun h => by rw [Bd.returns] at h; cases h)
        refine ⟨_, _, ?_, hrun, hended, _, _, rfl, ?_, ⟨_, rfl⟩, hW, hsame.mono (by decide) (by decide)⟩
        · exact pre15 _ (retN X0 hx (t := .boolean) Bd.returns (by simp) (hb hby d1_35) hr)
        · exact ⟨by simp only [f1, if_pos hc3_1, if_pos hc15_2, if_neg hc27_3], N0, e0⟩
    · have pre16 : ∀ t, Steps p.tables e below (s₁.setTop (mkF m 21 #[.val (.int p0)] [(.int (122 : Int32)), (.int p0)])) t → Steps p.tables e below (s₁.setTop (entryFrame m #[(.int p0)] 1)) t := fun t k => pre12 t (by
        show Steps p.tables e below (s₁.setTop (mkF m 15 #[.val (.int p0)] [(.int (97 : Int32)), (.int p0)])) _
        refine XS.icmpNo X0.here hx rfl (hb hby d1_15) rfl (flt hc15_2).1 ?_
        show Steps p.tables e below (s₁.setTop (mkF m 18 #[.val (.int p0)] [])) _
        refine XS.iloadN X0.here hx rfl (hb hby d1_18) rfl ?_
        show Steps p.tables e below (s₁.setTop (mkF m 19 #[.val (.int p0)] [(.int p0)])) _
        refine XS.bipush X0.here hx rfl (hb hby d1_19) ?_
        exact k)
      by_cases hc21_4 : (122 : Int32) < p0
      · have pre17 : ∀ t, Steps p.tables e below (s₁.setTop (mkF m 27 #[.val (.int p0)] [(.int (95 : Int32)), (.int p0)])) t → Steps p.tables e below (s₁.setTop (entryFrame m #[(.int p0)] 1)) t := fun t k => pre16 t (by
          show Steps p.tables e below (s₁.setTop (mkF m 21 #[.val (.int p0)] [(.int (122 : Int32)), (.int p0)])) _
          refine XS.icmpNo X0.here hx rfl (hb hby d1_21) rfl (tlt hc21_4).2.2.2 ?_
          show Steps p.tables e below (s₁.setTop (mkF m 24 #[.val (.int p0)] [])) _
          refine XS.iloadN X0.here hx rfl (hb hby d1_24) rfl ?_
          show Steps p.tables e below (s₁.setTop (mkF m 25 #[.val (.int p0)] [(.int p0)])) _
          refine XS.bipush X0.here hx rfl (hb hby d1_25) ?_
          exact k)
        by_cases hc27_5 : p0 = (95 : Int32)
        · have pre18 : ∀ t, Steps p.tables e below (s₁.setTop (mkF m 35 #[.val (.int p0)] [(.int (1 : Int32))])) t → Steps p.tables e below (s₁.setTop (entryFrame m #[(.int p0)] 1)) t := fun t k => pre17 t (by
            show Steps p.tables e below (s₁.setTop (mkF m 27 #[.val (.int p0)] [(.int (95 : Int32)), (.int p0)])) _
            refine XS.icmpNo X0.here hx rfl (hb hby d1_27) rfl (teq hc27_5).2 ?_
            show Steps p.tables e below (s₁.setTop (mkF m 30 #[.val (.int p0)] [])) _
            refine XS.iconst X0.here hx rfl (hb hby d1_30) ?_
            show Steps p.tables e below (s₁.setTop (mkF m 31 #[.val (.int p0)] [(.int (1 : Int32))])) _
            refine XS.goto X0.here hx rfl (pc0 := 31) (pc' := 35) rfl (hb hby d1_31) (by decide) (by decide) ?_
            exact k)
          obtain ⟨fs, hr, hrun, hended, hW, hsame⟩ := X0.leave (v := some (.int (1 : Int32))) (fun h => by rw [Bd.returns] at h; cases h)
          refine ⟨_, _, ?_, hrun, hended, _, _, rfl, ?_, ⟨_, rfl⟩, hW, hsame.mono (by decide) (by decide)⟩
          · exact pre18 _ (retN X0 hx (t := .boolean) Bd.returns (by simp) (hb hby d1_35) hr)
          · exact ⟨by simp only [f1, if_pos hc3_1, if_neg hc15_2, if_pos hc21_4, if_pos hc27_5], N0, e0⟩
        · have pre19 : ∀ t, Steps p.tables e below (s₁.setTop (mkF m 35 #[.val (.int p0)] [(.int (0 : Int32))])) t → Steps p.tables e below (s₁.setTop (entryFrame m #[(.int p0)] 1)) t := fun t k => pre17 t (by
            show Steps p.tables e below (s₁.setTop (mkF m 27 #[.val (.int p0)] [(.int (95 : Int32)), (.int p0)])) _
            refine XS.icmpYes X0.here hx rfl (pc0 := 27) (pc' := 34) rfl (hb hby d1_27) rfl (feq hc27_5).2 (by decide) (by decide) ?_
            show Steps p.tables e below (s₁.setTop (mkF m 34 #[.val (.int p0)] [])) _
            refine XS.iconst X0.here hx rfl (hb hby d1_34) ?_
            exact k)
          obtain ⟨fs, hr, hrun, hended, hW, hsame⟩ := X0.leave (v := some (.int (0 : Int32))) (fun h => by rw [Bd.returns] at h; cases h)
          refine ⟨_, _, ?_, hrun, hended, _, _, rfl, ?_, ⟨_, rfl⟩, hW, hsame.mono (by decide) (by decide)⟩
          · exact pre19 _ (retN X0 hx (t := .boolean) Bd.returns (by simp) (hb hby d1_35) hr)
          · exact ⟨by simp only [f1, if_pos hc3_1, if_neg hc15_2, if_pos hc21_4, if_neg hc27_5], N0, e0⟩
      · have pre20 : ∀ t, Steps p.tables e below (s₁.setTop (mkF m 35 #[.val (.int p0)] [(.int (1 : Int32))])) t → Steps p.tables e below (s₁.setTop (entryFrame m #[(.int p0)] 1)) t := fun t k => pre16 t (by
          show Steps p.tables e below (s₁.setTop (mkF m 21 #[.val (.int p0)] [(.int (122 : Int32)), (.int p0)])) _
          refine XS.icmpYes X0.here hx rfl (pc0 := 21) (pc' := 30) rfl (hb hby d1_21) rfl (flt hc21_4).2.2.2 (by decide) (by decide) ?_
          show Steps p.tables e below (s₁.setTop (mkF m 30 #[.val (.int p0)] [])) _
          refine XS.iconst X0.here hx rfl (hb hby d1_30) ?_
          show Steps p.tables e below (s₁.setTop (mkF m 31 #[.val (.int p0)] [(.int (1 : Int32))])) _
          refine XS.goto X0.here hx rfl (pc0 := 31) (pc' := 35) rfl (hb hby d1_31) (by decide) (by decide) ?_
          exact k)
        obtain ⟨fs, hr, hrun, hended, hW, hsame⟩ := X0.leave (v := some (.int (1 : Int32))) (fun h => by rw [Bd.returns] at h; cases h)
        refine ⟨_, _, ?_, hrun, hended, _, _, rfl, ?_, ⟨_, rfl⟩, hW, hsame.mono (by decide) (by decide)⟩
        · exact pre20 _ (retN X0 hx (t := .boolean) Bd.returns (by simp) (hb hby d1_35) hr)
        · exact ⟨by simp only [f1, if_pos hc3_1, if_neg hc15_2, if_neg hc21_4], N0, e0⟩
  · have pre21 : ∀ t, Steps p.tables e below (s₁.setTop (mkF m 9 #[.val (.int p0)] [(.int (90 : Int32)), (.int p0)])) t → Steps p.tables e below (s₁.setTop (entryFrame m #[(.int p0)] 1)) t := fun t k => pre11 t (by
      show Steps p.tables e below (s₁.setTop (mkF m 3 #[.val (.int p0)] [(.int (65 : Int32)), (.int p0)])) _
      refine XS.icmpNo X0.here hx rfl (hb hby d1_3) rfl (flt hc3_1).1 ?_
      show Steps p.tables e below (s₁.setTop (mkF m 6 #[.val (.int p0)] [])) _
      refine XS.iloadN X0.here hx rfl (hb hby d1_6) rfl ?_
      show Steps p.tables e below (s₁.setTop (mkF m 7 #[.val (.int p0)] [(.int p0)])) _
      refine XS.bipush X0.here hx rfl (hb hby d1_7) ?_
      exact k)
    by_cases hc9_6 : (90 : Int32) < p0
    · have pre22 : ∀ t, Steps p.tables e below (s₁.setTop (mkF m 15 #[.val (.int p0)] [(.int (97 : Int32)), (.int p0)])) t → Steps p.tables e below (s₁.setTop (entryFrame m #[(.int p0)] 1)) t := fun t k => pre21 t (by
        show Steps p.tables e below (s₁.setTop (mkF m 9 #[.val (.int p0)] [(.int (90 : Int32)), (.int p0)])) _
        refine XS.icmpNo X0.here hx rfl (hb hby d1_9) rfl (tlt hc9_6).2.2.2 ?_
        show Steps p.tables e below (s₁.setTop (mkF m 12 #[.val (.int p0)] [])) _
        refine XS.iloadN X0.here hx rfl (hb hby d1_12) rfl ?_
        show Steps p.tables e below (s₁.setTop (mkF m 13 #[.val (.int p0)] [(.int p0)])) _
        refine XS.bipush X0.here hx rfl (hb hby d1_13) ?_
        exact k)
      by_cases hc15_7 : p0 < (97 : Int32)
      · have pre23 : ∀ t, Steps p.tables e below (s₁.setTop (mkF m 27 #[.val (.int p0)] [(.int (95 : Int32)), (.int p0)])) t → Steps p.tables e below (s₁.setTop (entryFrame m #[(.int p0)] 1)) t := fun t k => pre22 t (by
          show Steps p.tables e below (s₁.setTop (mkF m 15 #[.val (.int p0)] [(.int (97 : Int32)), (.int p0)])) _
          refine XS.icmpYes X0.here hx rfl (pc0 := 15) (pc' := 24) rfl (hb hby d1_15) rfl (tlt hc15_7).1 (by decide) (by decide) ?_
          show Steps p.tables e below (s₁.setTop (mkF m 24 #[.val (.int p0)] [])) _
          refine XS.iloadN X0.here hx rfl (hb hby d1_24) rfl ?_
          show Steps p.tables e below (s₁.setTop (mkF m 25 #[.val (.int p0)] [(.int p0)])) _
          refine XS.bipush X0.here hx rfl (hb hby d1_25) ?_
          exact k)
        by_cases hc27_8 : p0 = (95 : Int32)
        · have pre24 : ∀ t, Steps p.tables e below (s₁.setTop (mkF m 35 #[.val (.int p0)] [(.int (1 : Int32))])) t → Steps p.tables e below (s₁.setTop (entryFrame m #[(.int p0)] 1)) t := fun t k => pre23 t (by
            show Steps p.tables e below (s₁.setTop (mkF m 27 #[.val (.int p0)] [(.int (95 : Int32)), (.int p0)])) _
            refine XS.icmpNo X0.here hx rfl (hb hby d1_27) rfl (teq hc27_8).2 ?_
            show Steps p.tables e below (s₁.setTop (mkF m 30 #[.val (.int p0)] [])) _
            refine XS.iconst X0.here hx rfl (hb hby d1_30) ?_
            show Steps p.tables e below (s₁.setTop (mkF m 31 #[.val (.int p0)] [(.int (1 : Int32))])) _
            refine XS.goto X0.here hx rfl (pc0 := 31) (pc' := 35) rfl (hb hby d1_31) (by decide) (by decide) ?_
            exact k)
          obtain ⟨fs, hr, hrun, hended, hW, hsame⟩ := X0.leave (v := some (.int (1 : Int32))) (fun h => by rw [Bd.returns] at h; cases h)
          refine ⟨_, _, ?_, hrun, hended, _, _, rfl, ?_, ⟨_, rfl⟩, hW, hsame.mono (by decide) (by decide)⟩
          · exact pre24 _ (retN X0 hx (t := .boolean) Bd.returns (by simp) (hb hby d1_35) hr)
          · exact ⟨by simp only [f1, if_neg hc3_1, if_pos hc9_6, if_pos hc15_7, if_pos hc27_8], N0, e0⟩
        · have pre25 : ∀ t, Steps p.tables e below (s₁.setTop (mkF m 35 #[.val (.int p0)] [(.int (0 : Int32))])) t → Steps p.tables e below (s₁.setTop (entryFrame m #[(.int p0)] 1)) t := fun t k => pre23 t (by
            show Steps p.tables e below (s₁.setTop (mkF m 27 #[.val (.int p0)] [(.int (95 : Int32)), (.int p0)])) _
            refine XS.icmpYes X0.here hx rfl (pc0 := 27) (pc' := 34) rfl (hb hby d1_27) rfl (feq hc27_8).2 (by decide) (by decide) ?_
            show Steps p.tables e below (s₁.setTop (mkF m 34 #[.val (.int p0)] [])) _
            refine XS.iconst X0.here hx rfl (hb hby d1_34) ?_
            exact k)
          obtain ⟨fs, hr, hrun, hended, hW, hsame⟩ := X0.leave (v := some (.int (0 : Int32))) (fun h => by rw [Bd.returns] at h; cases h)
          refine ⟨_, _, ?_, hrun, hended, _, _, rfl, ?_, ⟨_, rfl⟩, hW, hsame.mono (by decide) (by decide)⟩
          · exact pre25 _ (retN X0 hx (t := .boolean) Bd.returns (by simp) (hb hby d1_35) hr)
          · exact ⟨by simp only [f1, if_neg hc3_1, if_pos hc9_6, if_pos hc15_7, if_neg hc27_8], N0, e0⟩
      · have pre26 : ∀ t, Steps p.tables e below (s₁.setTop (mkF m 21 #[.val (.int p0)] [(.int (122 : Int32)), (.int p0)])) t → Steps p.tables e below (s₁.setTop (entryFrame m #[(.int p0)] 1)) t := fun t k => pre22 t (by
          show Steps p.tables e below (s₁.setTop (mkF m 15 #[.val (.int p0)] [(.int (97 : Int32)), (.int p0)])) _
          refine XS.icmpNo X0.here hx rfl (hb hby d1_15) rfl (flt hc15_7).1 ?_
          show Steps p.tables e below (s₁.setTop (mkF m 18 #[.val (.int p0)] [])) _
          refine XS.iloadN X0.here hx rfl (hb hby d1_18) rfl ?_
          show Steps p.tables e below (s₁.setTop (mkF m 19 #[.val (.int p0)] [(.int p0)])) _
          refine XS.bipush X0.here hx rfl (hb hby d1_19) ?_
          exact k)
        by_cases hc21_9 : (122 : Int32) < p0
        · have pre27 : ∀ t, Steps p.tables e below (s₁.setTop (mkF m 27 #[.val (.int p0)] [(.int (95 : Int32)), (.int p0)])) t → Steps p.tables e below (s₁.setTop (entryFrame m #[(.int p0)] 1)) t := fun t k => pre26 t (by
            show Steps p.tables e below (s₁.setTop (mkF m 21 #[.val (.int p0)] [(.int (122 : Int32)), (.int p0)])) _
            refine XS.icmpNo X0.here hx rfl (hb hby d1_21) rfl (tlt hc21_9).2.2.2 ?_
            show Steps p.tables e below (s₁.setTop (mkF m 24 #[.val (.int p0)] [])) _
            refine XS.iloadN X0.here hx rfl (hb hby d1_24) rfl ?_
            show Steps p.tables e below (s₁.setTop (mkF m 25 #[.val (.int p0)] [(.int p0)])) _
            refine XS.bipush X0.here hx rfl (hb hby d1_25) ?_
            exact k)
          by_cases hc27_10 : p0 = (95 : Int32)
          · have pre28 : ∀ t, Steps p.tables e below (s₁.setTop (mkF m 35 #[.val (.int p0)] [(.int (1 : Int32))])) t → Steps p.tables e below (s₁.setTop (entryFrame m #[(.int p0)] 1)) t := fun t k => pre27 t (by
              show Steps p.tables e below (s₁.setTop (mkF m 27 #[.val (.int p0)] [(.int (95 : Int32)), (.int p0)])) _
              refine XS.icmpNo X0.here hx rfl (hb hby d1_27) rfl (teq hc27_10).2 ?_
              show Steps p.tables e below (s₁.setTop (mkF m 30 #[.val (.int p0)] [])) _
              refine XS.iconst X0.here hx rfl (hb hby d1_30) ?_
              show Steps p.tables e below (s₁.setTop (mkF m 31 #[.val (.int p0)] [(.int (1 : Int32))])) _
              refine XS.goto X0.here hx rfl (pc0 := 31) (pc' := 35) rfl (hb hby d1_31) (by decide) (by decide) ?_
              exact k)
            obtain ⟨fs, hr, hrun, hended, hW, hsame⟩ := X0.leave (v := some (.int (1 : Int32))) (fun h => by rw [Bd.returns] at h; cases h)
            refine ⟨_, _, ?_, hrun, hended, _, _, rfl, ?_, ⟨_, rfl⟩, hW, hsame.mono (by decide) (by decide)⟩
            · exact pre28 _ (retN X0 hx (t := .boolean) Bd.returns (by simp) (hb hby d1_35) hr)
            · exact ⟨by simp only [f1, if_neg hc3_1, if_pos hc9_6, if_neg hc15_7, if_pos hc21_9, if_pos hc27_10], N0, e0⟩
          · have pre29 : ∀ t, Steps p.tables e below (s₁.setTop (mkF m 35 #[.val (.int p0)] [(.int (0 : Int32))])) t → Steps p.tables e below (s₁.setTop (entryFrame m #[(.int p0)] 1)) t := fun t k => pre27 t (by
              show Steps p.tables e below (s₁.setTop (mkF m 27 #[.val (.int p0)] [(.int (95 : Int32)), (.int p0)])) _
              refine XS.icmpYes X0.here hx rfl (pc0 := 27) (pc' := 34) rfl (hb hby d1_27) rfl (feq hc27_10).2 (by decide) (by decide) ?_
              show Steps p.tables e below (s₁.setTop (mkF m 34 #[.val (.int p0)] [])) _
              refine XS.iconst X0.here hx rfl (hb hby d1_34) ?_
              exact k)
            obtain ⟨fs, hr, hrun, hended, hW, hsame⟩ := X0.leave (v := some (.int (0 : Int32))) (fun h => by rw [Bd.returns] at h; cases h)
            refine ⟨_, _, ?_, hrun, hended, _, _, rfl, ?_, ⟨_, rfl⟩, hW, hsame.mono (by decide) (by decide)⟩
            · exact pre29 _ (retN X0 hx (t := .boolean) Bd.returns (by simp) (hb hby d1_35) hr)
            · exact ⟨by simp only [f1, if_neg hc3_1, if_pos hc9_6, if_neg hc15_7, if_pos hc21_9, if_neg hc27_10], N0, e0⟩
        · have pre30 : ∀ t, Steps p.tables e below (s₁.setTop (mkF m 35 #[.val (.int p0)] [(.int (1 : Int32))])) t → Steps p.tables e below (s₁.setTop (entryFrame m #[(.int p0)] 1)) t := fun t k => pre26 t (by
            show Steps p.tables e below (s₁.setTop (mkF m 21 #[.val (.int p0)] [(.int (122 : Int32)), (.int p0)])) _
            refine XS.icmpYes X0.here hx rfl (pc0 := 21) (pc' := 30) rfl (hb hby d1_21) rfl (flt hc21_9).2.2.2 (by decide) (by decide) ?_
            show Steps p.tables e below (s₁.setTop (mkF m 30 #[.val (.int p0)] [])) _
            refine XS.iconst X0.here hx rfl (hb hby d1_30) ?_
            show Steps p.tables e below (s₁.setTop (mkF m 31 #[.val (.int p0)] [(.int (1 : Int32))])) _
            refine XS.goto X0.here hx rfl (pc0 := 31) (pc' := 35) rfl (hb hby d1_31) (by decide) (by decide) ?_
            exact k)
          obtain ⟨fs, hr, hrun, hended, hW, hsame⟩ := X0.leave (v := some (.int (1 : Int32))) (fun h => by rw [Bd.returns] at h; cases h)
          refine ⟨_, _, ?_, hrun, hended, _, _, rfl, ?_, ⟨_, rfl⟩, hW, hsame.mono (by decide) (by decide)⟩
          · exact pre30 _ (retN X0 hx (t := .boolean) Bd.returns (by simp) (hb hby d1_35) hr)
          · exact ⟨by simp only [f1, if_neg hc3_1, if_pos hc9_6, if_neg hc15_7, if_neg hc21_9], N0, e0⟩
    · have pre31 : ∀ t, Steps p.tables e below (s₁.setTop (mkF m 35 #[.val (.int p0)] [(.int (1 : Int32))])) t → Steps p.tables e below (s₁.setTop (entryFrame m #[(.int p0)] 1)) t := fun t k => pre21 t (by
        show Steps p.tables e below (s₁.setTop (mkF m 9 #[.val (.int p0)] [(.int (90 : Int32)), (.int p0)])) _
        refine XS.icmpYes X0.here hx rfl (pc0 := 9) (pc' := 30) rfl (hb hby d1_9) rfl (flt hc9_6).2.2.2 (by decide) (by decide) ?_
        show Steps p.tables e below (s₁.setTop (mkF m 30 #[.val (.int p0)] [])) _
        refine XS.iconst X0.here hx rfl (hb hby d1_30) ?_
        show Steps p.tables e below (s₁.setTop (mkF m 31 #[.val (.int p0)] [(.int (1 : Int32))])) _
        refine XS.goto X0.here hx rfl (pc0 := 31) (pc' := 35) rfl (hb hby d1_31) (by decide) (by decide) ?_
        exact k)
      obtain ⟨fs, hr, hrun, hended, hW, hsame⟩ := X0.leave (v := some (.int (1 : Int32))) (fun h => by rw [Bd.returns] at h; cases h)
      refine ⟨_, _, ?_, hrun, hended, _, _, rfl, ?_, ⟨_, rfl⟩, hW, hsame.mono (by decide) (by decide)⟩
      · exact pre31 _ (retN X0 hx (t := .boolean) Bd.returns (by simp) (hb hby d1_35) hr)
      · exact ⟨by simp only [f1, if_neg hc3_1, if_neg hc9_6], N0, e0⟩
theorem d2_0 : decode method_2_code 0 = .ok (.iload_n 0, 1) := by decide +kernel
theorem d2_1 : decode method_2_code 1 = .ok (.bipush 32, 2) := by decide +kernel
theorem d2_3 : decode method_2_code 3 = .ok (.ior, 1) := by decide +kernel
theorem d2_4 : decode method_2_code 4 = .ok (.istore_n 1, 1) := by decide +kernel
theorem d2_5 : decode method_2_code 5 = .ok (.iload_n 1, 1) := by decide +kernel
theorem d2_6 : decode method_2_code 6 = .ok (.bipush 97, 2) := by decide +kernel
theorem d2_8 : decode method_2_code 8 = .ok (.if_icmp .lt 13, 3) := by decide +kernel
theorem d2_11 : decode method_2_code 11 = .ok (.iload_n 1, 1) := by decide +kernel
theorem d2_12 : decode method_2_code 12 = .ok (.bipush 122, 2) := by decide +kernel
theorem d2_14 : decode method_2_code 14 = .ok (.if_icmp .gt 7, 3) := by decide +kernel
theorem d2_17 : decode method_2_code 17 = .ok (.iconst 1, 1) := by decide +kernel
theorem d2_18 : decode method_2_code 18 = .ok (.goto 4, 3) := by decide +kernel
theorem d2_21 : decode method_2_code 21 = .ok (.iconst 0, 1) := by decide +kernel
theorem d2_22 : decode method_2_code 22 = .ok (.istore_n 2, 1) := by decide +kernel
theorem d2_23 : decode method_2_code 23 = .ok (.iload_n 2, 1) := by decide +kernel
theorem d2_24 : decode method_2_code 24 = .ok (.ifCond .ne 9, 3) := by decide +kernel
theorem d2_27 : decode method_2_code 27 = .ok (.iload_n 0, 1) := by decide +kernel
theorem d2_28 : decode method_2_code 28 = .ok (.bipush 95, 2) := by decide +kernel
theorem d2_30 : decode method_2_code 30 = .ok (.if_icmp .ne 7, 3) := by decide +kernel
theorem d2_33 : decode method_2_code 33 = .ok (.iconst 1, 1) := by decide +kernel
theorem d2_34 : decode method_2_code 34 = .ok (.goto 4, 3) := by decide +kernel
theorem d2_37 : decode method_2_code 37 = .ok (.iconst 0, 1) := by decide +kernel
theorem d2_38 : decode method_2_code 38 = .ok (.ireturn, 1) := by decide +kernel
theorem pn_2 : plainName "com/example/slim_kripke/slimkripke/smv/TokenKindIsWordStartPinLaw" = true := by first | (simp [plainName, overriddenIn]; done) | decide +kernel
theorem ef_2 (m : MethodId) (x0 : Int32) : entryFrame m #[(.int x0)] 3 = mkF m 0 #[.val (.int x0), .unset, .unset] [] := by first | (simp [entryFrame, mkF, argsToLocals, Value.category]; done) | rfl
def v2_22_s0 (p0 : Int32) : Int32 := (if (p0 ||| (32 : Int32)) < (97 : Int32) then (0 : Int32) else (if (122 : Int32) < (p0 ||| (32 : Int32)) then (0 : Int32) else (1 : Int32)))
def f2 (p0 : Int32) : Int32 := (if (v2_22_s0 p0) = (0 : Int32) then (if p0 = (95 : Int32) then (1 : Int32) else (0 : Int32)) else (1 : Int32))
set_option maxRecDepth 65536 in
set_option maxHeartbeats 40000000 in
theorem rm2 (l : Launch) (Z : State) (a0 : Array Value) (hw : ∀ d ∈ tables_1, d.before a0 Z = true) (ws : List Jvm.Cond) (p0 : Int32) (h0 : Heap) (n0 : Nat) (Z0 : n0 ≤ h0.size) :
    MetFree l (⟨"com/example/slim_kripke/slimkripke/smv/TokenKindIsWordStartPinLaw", "reference", "(I)Z"⟩ : MethodName) (head1 (Jvm.Cond.code (⟨"com/example/slim_kripke/slimkripke/smv/TokenKindIsWordStartPinLaw", "reference", "(I)Z"⟩ : MethodName) method_2_code 3 (some .boolean) :: ws) ({ frames := 0, cells := 0, slots := 0, locals := 0 } : Room)) (fun a U => a = #[(.int p0)] ∧ Z.Warmed39 U.vm ∧ U.heap = h0) (fun _ _ _ _ _ => True) (fun _ U o U' => ∃ v L, o = .returned v ∧ QP (some (.int (f2 p0))) h0 n0 v U'.heap L ∧ FrameEnd U o U' L ({ frames := 0, cells := 0, slots := 0, locals := 0 } : Room).cells ({ frames := 0, cells := 0, slots := 0, locals := 0 } : Room).slots) := by
  refine MetFree.of_bodySF (plainFor_of_name pn_2) hisR ?_
  intro p e s m args below meth c s₁ Bd hml0 hP hK
  obtain ⟨rfl, hZ, hh⟩ := hP
  have hx := Bd.exec
  have hby := Bd.bytes
  have hml : c.maxLocals = 3 := hml0
  have hown : s.vm.findClass "com/example/slim_kripke/slimkripke/smv/TokenKindIsWordStartPinLaw" = some m.cls := findClass_of_methodNamed Bd.named
  have hnm := (name_of_methodNamed Bd.named Bd.method).1
  have X0 : Stand p l e ({ frames := 0, cells := 0, slots := 0, locals := 0 } : Room) s m #[(.int p0)] below meth c s₁ [] 0 0 := Stand.of_body Bd
  have e0 : s₁.heap = h0 := by rw [← hh, Bd.state]; rfl
  have N0 := Fr.nil n0
  have K0 : Keep h0 h0 [] := Keep.refl _ _
  have pre0 : ∀ t, Steps p.tables e below (s₁.setTop (mkF m 0 #[.val (.int p0), .unset, .unset] [])) t → Steps p.tables e below (s₁.setTop (entryFrame m #[(.int p0)] 3)) t := fun t k => castTop (ef_2 m p0) k
  have pre5 : ∀ t, Steps p.tables e below (s₁.setTop (mkF m 8 #[.val (.int p0), .val (.int (p0 ||| (32 : Int32))), .unset] [(.int (97 : Int32)), (.int (p0 ||| (32 : Int32)))])) t → Steps p.tables e below (s₁.setTop (entryFrame m #[(.int p0)] 3)) t := fun t k => pre0 t (by
    show Steps p.tables e below (s₁.setTop (mkF m 0 #[.val (.int p0), .unset, .unset] [])) _
    refine XS.iloadN X0.here hx rfl (hb hby d2_0) rfl ?_
    show Steps p.tables e below (s₁.setTop (mkF m 1 #[.val (.int p0), .unset, .unset] [(.int p0)])) _
    refine XS.bipush X0.here hx rfl (hb hby d2_1) ?_
    show Steps p.tables e below (s₁.setTop (mkF m 3 #[.val (.int p0), .unset, .unset] [(.int (32 : Int32)), (.int p0)])) _
    refine XS.ior X0.here hx rfl (hb hby d2_3) rfl ?_
    show Steps p.tables e below (s₁.setTop (mkF m 4 #[.val (.int p0), .unset, .unset] [(.int (p0 ||| (32 : Int32)))])) _
    refine XS.istoreN X0.here hx rfl (hb hby d2_4) rfl (l' := #[.val (.int p0), .val (.int (p0 ||| (32 : Int32))), .unset]) rfl ?_
    show Steps p.tables e below (s₁.setTop (mkF m 5 #[.val (.int p0), .val (.int (p0 ||| (32 : Int32))), .unset] [])) _
    refine XS.iloadN X0.here hx rfl (hb hby d2_5) rfl ?_
    show Steps p.tables e below (s₁.setTop (mkF m 6 #[.val (.int p0), .val (.int (p0 ||| (32 : Int32))), .unset] [(.int (p0 ||| (32 : Int32)))])) _
    refine XS.bipush X0.here hx rfl (hb hby d2_6) ?_
    exact k)
  obtain ⟨T6, L6, X6, e6, N6, pre6⟩ : ∃ (T' : State) (L' : List Loc), Stand p l e ({ frames := 0, cells := 0, slots := 0, locals := 0 } : Room) s m #[(.int p0)] below meth c T' L' 0 0 ∧ T'.heap = h0 ∧ Fr n0 L' ∧ ∀ t, Steps p.tables e below (T'.setTop (mkF m 22 #[.val (.int p0), .val (.int (p0 ||| (32 : Int32))), .unset] [(.int (v2_22_s0 p0))])) t → Steps p.tables e below (s₁.setTop (entryFrame m #[(.int p0)] 3)) t := by
    by_cases hc8_1 : (p0 ||| (32 : Int32)) < (97 : Int32)
    · have pre7 : ∀ t, Steps p.tables e below (s₁.setTop (mkF m 22 #[.val (.int p0), .val (.int (p0 ||| (32 : Int32))), .unset] [(.int (0 : Int32))])) t → Steps p.tables e below (s₁.setTop (entryFrame m #[(.int p0)] 3)) t := fun t k => pre5 t (by
        show Steps p.tables e below (s₁.setTop (mkF m 8 #[.val (.int p0), .val (.int (p0 ||| (32 : Int32))), .unset] [(.int (97 : Int32)), (.int (p0 ||| (32 : Int32)))])) _
        refine XS.icmpYes X0.here hx rfl (pc0 := 8) (pc' := 21) rfl (hb hby d2_8) rfl (tlt hc8_1).1 (by decide) (by decide) ?_
        show Steps p.tables e below (s₁.setTop (mkF m 21 #[.val (.int p0), .val (.int (p0 ||| (32 : Int32))), .unset] [])) _
        refine XS.iconst X0.here hx rfl (hb hby d2_21) ?_
        exact k)
      exact ⟨s₁, _, X0, e0, N0, fun t k => pre7 t (by simpa only [v2_22_s0, if_pos hc8_1] using k)⟩
    · have pre8 : ∀ t, Steps p.tables e below (s₁.setTop (mkF m 14 #[.val (.int p0), .val (.int (p0 ||| (32 : Int32))), .unset] [(.int (122 : Int32)), (.int (p0 ||| (32 : Int32)))])) t → Steps p.tables e below (s₁.setTop (entryFrame m #[(.int p0)] 3)) t := fun t k => pre5 t (by
        show Steps p.tables e below (s₁.setTop (mkF m 8 #[.val (.int p0), .val (.int (p0 ||| (32 : Int32))), .unset] [(.int (97 : Int32)), (.int (p0 ||| (32 : Int32)))])) _
        refine XS.icmpNo X0.here hx rfl (hb hby d2_8) rfl (flt hc8_1).1 ?_
        show Steps p.tables e below (s₁.setTop (mkF m 11 #[.val (.int p0), .val (.int (p0 ||| (32 : Int32))), .unset] [])) _
        refine XS.iloadN X0.here hx rfl (hb hby d2_11) rfl ?_
        show Steps p.tables e below (s₁.setTop (mkF m 12 #[.val (.int p0), .val (.int (p0 ||| (32 : Int32))), .unset] [(.int (p0 ||| (32 : Int32)))])) _
        refine XS.bipush X0.here hx rfl (hb hby d2_12) ?_
        exact k)
      by_cases hc14_2 : (122 : Int32) < (p0 ||| (32 : Int32))
      · have pre9 : ∀ t, Steps p.tables e below (s₁.setTop (mkF m 22 #[.val (.int p0), .val (.int (p0 ||| (32 : Int32))), .unset] [(.int (0 : Int32))])) t → Steps p.tables e below (s₁.setTop (entryFrame m #[(.int p0)] 3)) t := fun t k => pre8 t (by
          show Steps p.tables e below (s₁.setTop (mkF m 14 #[.val (.int p0), .val (.int (p0 ||| (32 : Int32))), .unset] [(.int (122 : Int32)), (.int (p0 ||| (32 : Int32)))])) _
          refine XS.icmpYes X0.here hx rfl (pc0 := 14) (pc' := 21) rfl (hb hby d2_14) rfl (tlt hc14_2).2.2.1 (by decide) (by decide) ?_
          show Steps p.tables e below (s₁.setTop (mkF m 21 #[.val (.int p0), .val (.int (p0 ||| (32 : Int32))), .unset] [])) _
          refine XS.iconst X0.here hx rfl (hb hby d2_21) ?_
          exact k)
        exact ⟨s₁, _, X0, e0, N0, fun t k => pre9 t (by simpa only [v2_22_s0, if_neg hc8_1, if_pos hc14_2] using k)⟩
      · have pre10 : ∀ t, Steps p.tables e below (s₁.setTop (mkF m 22 #[.val (.int p0), .val (.int (p0 ||| (32 : Int32))), .unset] [(.int (1 : Int32))])) t → Steps p.tables e below (s₁.setTop (entryFrame m #[(.int p0)] 3)) t := fun t k => pre8 t (by
          show Steps p.tables e below (s₁.setTop (mkF m 14 #[.val (.int p0), .val (.int (p0 ||| (32 : Int32))), .unset] [(.int (122 : Int32)), (.int (p0 ||| (32 : Int32)))])) _
          refine XS.icmpNo X0.here hx rfl (hb hby d2_14) rfl (flt hc14_2).2.2.1 ?_
          show Steps p.tables e below (s₁.setTop (mkF m 17 #[.val (.int p0), .val (.int (p0 ||| (32 : Int32))), .unset] [])) _
          refine XS.iconst X0.here hx rfl (hb hby d2_17) ?_
          show Steps p.tables e below (s₁.setTop (mkF m 18 #[.val (.int p0), .val (.int (p0 ||| (32 : Int32))), .unset] [(.int (1 : Int32))])) _
          refine XS.goto X0.here hx rfl (pc0 := 18) (pc' := 22) rfl (hb hby d2_18) (by decide) (by decide) ?_
          exact k)
        exact ⟨s₁, _, X0, e0, N0, fun t k => pre10 t (by simpa only [v2_22_s0, if_neg hc8_1, if_neg hc14_2] using k)⟩
  have pre11 : ∀ t, Steps p.tables e below (T6.setTop (mkF m 24 #[.val (.int p0), .val (.int (p0 ||| (32 : Int32))), .val (.int (v2_22_s0 p0))] [(.int (v2_22_s0 p0))])) t → Steps p.tables e below (s₁.setTop (entryFrame m #[(.int p0)] 3)) t := fun t k => pre6 t (by
    show Steps p.tables e below (T6.setTop (mkF m 22 #[.val (.int p0), .val (.int (p0 ||| (32 : Int32))), .unset] [(.int (v2_22_s0 p0))])) _
    refine XS.istoreN X6.here hx rfl (hb hby d2_22) rfl (l' := #[.val (.int p0), .val (.int (p0 ||| (32 : Int32))), .val (.int (v2_22_s0 p0))]) rfl ?_
    show Steps p.tables e below (T6.setTop (mkF m 23 #[.val (.int p0), .val (.int (p0 ||| (32 : Int32))), .val (.int (v2_22_s0 p0))] [])) _
    refine XS.iloadN X6.here hx rfl (hb hby d2_23) rfl ?_
    exact k)
  by_cases hc24_3 : (v2_22_s0 p0) = (0 : Int32)
  · have pre12 : ∀ t, Steps p.tables e below (T6.setTop (mkF m 30 #[.val (.int p0), .val (.int (p0 ||| (32 : Int32))), .val (.int (v2_22_s0 p0))] [(.int (95 : Int32)), (.int p0)])) t → Steps p.tables e below (s₁.setTop (entryFrame m #[(.int p0)] 3)) t := fun t k => pre11 t (by
      show Steps p.tables e below (T6.setTop (mkF m 24 #[.val (.int p0), .val (.int (p0 ||| (32 : Int32))), .val (.int (v2_22_s0 p0))] [(.int (v2_22_s0 p0))])) _
      refine XS.ifNo X6.here hx rfl (hb hby d2_24) rfl ((if0 _ _).trans (teq hc24_3).2) ?_
      show Steps p.tables e below (T6.setTop (mkF m 27 #[.val (.int p0), .val (.int (p0 ||| (32 : Int32))), .val (.int (v2_22_s0 p0))] [])) _
      refine XS.iloadN X6.here hx rfl (hb hby d2_27) rfl ?_
      show Steps p.tables e below (T6.setTop (mkF m 28 #[.val (.int p0), .val (.int (p0 ||| (32 : Int32))), .val (.int (v2_22_s0 p0))] [(.int p0)])) _
      refine XS.bipush X6.here hx rfl (hb hby d2_28) ?_
      exact k)
    by_cases hc30_4 : p0 = (95 : Int32)
    · have pre13 : ∀ t, Steps p.tables e below (T6.setTop (mkF m 38 #[.val (.int p0), .val (.int (p0 ||| (32 : Int32))), .val (.int (v2_22_s0 p0))] [(.int (1 : Int32))])) t → Steps p.tables e below (s₁.setTop (entryFrame m #[(.int p0)] 3)) t := fun t k => pre12 t (by
        show Steps p.tables e below (T6.setTop (mkF m 30 #[.val (.int p0), .val (.int (p0 ||| (32 : Int32))), .val (.int (v2_22_s0 p0))] [(.int (95 : Int32)), (.int p0)])) _
        refine XS.icmpNo X6.here hx rfl (hb hby d2_30) rfl (teq hc30_4).2 ?_
        show Steps p.tables e below (T6.setTop (mkF m 33 #[.val (.int p0), .val (.int (p0 ||| (32 : Int32))), .val (.int (v2_22_s0 p0))] [])) _
        refine XS.iconst X6.here hx rfl (hb hby d2_33) ?_
        show Steps p.tables e below (T6.setTop (mkF m 34 #[.val (.int p0), .val (.int (p0 ||| (32 : Int32))), .val (.int (v2_22_s0 p0))] [(.int (1 : Int32))])) _
        refine XS.goto X6.here hx rfl (pc0 := 34) (pc' := 38) rfl (hb hby d2_34) (by decide) (by decide) ?_
        exact k)
      obtain ⟨fs, hr, hrun, hended, hW, hsame⟩ := X6.leave (v := some (.int (1 : Int32))) (fun h => by rw [Bd.returns] at h; cases h)
      refine ⟨_, _, ?_, hrun, hended, _, _, rfl, ?_, ⟨_, rfl⟩, hW, hsame.mono (by decide) (by decide)⟩
      · exact pre13 _ (retN X6 hx (t := .boolean) Bd.returns (by simp) (hb hby d2_38) hr)
      · exact ⟨by simp only [f2, if_pos hc24_3, if_pos hc30_4], N6, e6⟩
    · have pre14 : ∀ t, Steps p.tables e below (T6.setTop (mkF m 38 #[.val (.int p0), .val (.int (p0 ||| (32 : Int32))), .val (.int (v2_22_s0 p0))] [(.int (0 : Int32))])) t → Steps p.tables e below (s₁.setTop (entryFrame m #[(.int p0)] 3)) t := fun t k => pre12 t (by
        show Steps p.tables e below (T6.setTop (mkF m 30 #[.val (.int p0), .val (.int (p0 ||| (32 : Int32))), .val (.int (v2_22_s0 p0))] [(.int (95 : Int32)), (.int p0)])) _
        refine XS.icmpYes X6.here hx rfl (pc0 := 30) (pc' := 37) rfl (hb hby d2_30) rfl (feq hc30_4).2 (by decide) (by decide) ?_
        show Steps p.tables e below (T6.setTop (mkF m 37 #[.val (.int p0), .val (.int (p0 ||| (32 : Int32))), .val (.int (v2_22_s0 p0))] [])) _
        refine XS.iconst X6.here hx rfl (hb hby d2_37) ?_
        exact k)
      obtain ⟨fs, hr, hrun, hended, hW, hsame⟩ := X6.leave (v := some (.int (0 : Int32))) (fun h => by rw [Bd.returns] at h; cases h)
      refine ⟨_, _, ?_, hrun, hended, _, _, rfl, ?_, ⟨_, rfl⟩, hW, hsame.mono (by decide) (by decide)⟩
      · exact pre14 _ (retN X6 hx (t := .boolean) Bd.returns (by simp) (hb hby d2_38) hr)
      · exact ⟨by simp only [f2, if_pos hc24_3, if_neg hc30_4], N6, e6⟩
  · have pre15 : ∀ t, Steps p.tables e below (T6.setTop (mkF m 38 #[.val (.int p0), .val (.int (p0 ||| (32 : Int32))), .val (.int (v2_22_s0 p0))] [(.int (1 : Int32))])) t → Steps p.tables e below (s₁.setTop (entryFrame m #[(.int p0)] 3)) t := fun t k => pre11 t (by
      show Steps p.tables e below (T6.setTop (mkF m 24 #[.val (.int p0), .val (.int (p0 ||| (32 : Int32))), .val (.int (v2_22_s0 p0))] [(.int (v2_22_s0 p0))])) _
      refine XS.ifYes X6.here hx rfl (pc0 := 24) (pc' := 33) rfl (hb hby d2_24) rfl ((if0 _ _).trans (feq hc24_3).2) (by decide) (by decide) ?_
      show Steps p.tables e below (T6.setTop (mkF m 33 #[.val (.int p0), .val (.int (p0 ||| (32 : Int32))), .val (.int (v2_22_s0 p0))] [])) _
      refine XS.iconst X6.here hx rfl (hb hby d2_33) ?_
      show Steps p.tables e below (T6.setTop (mkF m 34 #[.val (.int p0), .val (.int (p0 ||| (32 : Int32))), .val (.int (v2_22_s0 p0))] [(.int (1 : Int32))])) _
      refine XS.goto X6.here hx rfl (pc0 := 34) (pc' := 38) rfl (hb hby d2_34) (by decide) (by decide) ?_
      exact k)
    obtain ⟨fs, hr, hrun, hended, hW, hsame⟩ := X6.leave (v := some (.int (1 : Int32))) (fun h => by rw [Bd.returns] at h; cases h)
    refine ⟨_, _, ?_, hrun, hended, _, _, rfl, ?_, ⟨_, rfl⟩, hW, hsame.mono (by decide) (by decide)⟩
    · exact pre15 _ (retN X6 hx (t := .boolean) Bd.returns (by simp) (hb hby d2_38) hr)
    · exact ⟨by simp only [f2, if_neg hc24_3], N6, e6⟩
theorem pn_0 : plainName "com/example/slim_kripke/slimkripke/smv/TokenKindIsWordStartPinLaw" = true := by first | (simp [plainName, overriddenIn]; done) | decide +kernel
theorem pd__I_Z : parseMethodDescriptor "(I)Z" = some ⟨[.int], some .boolean⟩ := by decide +kernel
theorem ef_0 (m : MethodId) (x0 : Int32) (x1 : Int32) : entryFrame m #[(.int x0), (.int x1)] maxLocals = mkF m 0 #[.val (.int x0), .val (.int x1), .unset, .unset, .unset, .unset] [] := by first | (simp [entryFrame, mkF, argsToLocals, Value.category, maxLocals]; done) | rfl
def v0_24_s0 (p0 : Int32) : Int32 := (if (f1 p0) = (f2 p0) then (1 : Int32) else (0 : Int32))
def v0_42_s0 (p1 : Int32) : Int32 := (if (f1 (p1 &&& (255 : Int32))) = (f2 (p1 &&& (255 : Int32))) then (1 : Int32) else (0 : Int32))
def f0 (p0 : Int32) (p1 : Int32) : Int32 := (if (v0_24_s0 p0) = (0 : Int32) then (0 : Int32) else (if (v0_42_s0 p1) = (0 : Int32) then (0 : Int32) else (1 : Int32)))
set_option maxRecDepth 65536 in
set_option maxHeartbeats 40000000 in
theorem rm0 (l : Launch) (Z : State) (a0 : Array Value) (hw : ∀ d ∈ tables_1, d.before a0 Z = true) (ws : List Jvm.Cond) (p0 : Int32) (p1 : Int32) (h0 : Heap) (n0 : Nat) (Z0 : n0 ≤ h0.size) :
    MetFree l x (head1 (Jvm.Cond.code x code maxLocals ret :: ws) room_1) (fun a U => a = #[(.int p0), (.int p1)] ∧ Z.Warmed39 U.vm ∧ U.heap = h0) (fun _ _ _ _ _ => True) (fun _ U o U' => ∃ v L, o = .returned v ∧ QL (some (.int (f0 p0 p1))) n0 v U'.heap L ∧ FrameEnd U o U' L room_1.cells room_1.slots) := by
  refine MetFree.of_bodySF (plainFor_of_name pn_0) hisR ?_
  intro p e s m args below meth c s₁ Bd hml0 hP hK
  obtain ⟨rfl, hZ, hh⟩ := hP
  have hx := Bd.exec
  have hby := Bd.bytes
  have hml : c.maxLocals = 6 := hml0
  have hown : s.vm.findClass "com/example/slim_kripke/slimkripke/smv/TokenKindIsWordStartPinLaw" = some m.cls := findClass_of_methodNamed Bd.named
  have hnm := (name_of_methodNamed Bd.named Bd.method).1
  have X0 : Stand p l e room_1 s m #[(.int p0), (.int p1)] below meth c s₁ [] 0 0 := Stand.of_body Bd
  have e0 : s₁.heap = h0 := by rw [← hh, Bd.state]; rfl
  have N0 := Fr.nil n0
  have K0 : Keep h0 h0 [] := Keep.refl _ _
  have pre0 : ∀ t, Steps p.tables e below (s₁.setTop (mkF m 0 #[.val (.int p0), .val (.int p1), .unset, .unset, .unset, .unset] [])) t → Steps p.tables e below (s₁.setTop (entryFrame m #[(.int p0), (.int p1)] maxLocals)) t := fun t k => castTop (ef_0 m p0 p1) k
  have pre5 : ∀ t, Steps p.tables e below (s₁.setTop (mkF m 9 #[.val (.int p0), .val (.int p1), .val (.int p0), .val (.int (p1 &&& (255 : Int32))), .unset, .unset] [(.int p0)])) t → Steps p.tables e below (s₁.setTop (entryFrame m #[(.int p0), (.int p1)] maxLocals)) t := fun t k => pre0 t (by
    show Steps p.tables e below (s₁.setTop (mkF m 0 #[.val (.int p0), .val (.int p1), .unset, .unset, .unset, .unset] [])) _
    refine XS.iloadN X0.here hx rfl (hb hby at_0) rfl ?_
    show Steps p.tables e below (s₁.setTop (mkF m 1 #[.val (.int p0), .val (.int p1), .unset, .unset, .unset, .unset] [(.int p0)])) _
    refine XS.istoreN X0.here hx rfl (hb hby at_1) rfl (l' := #[.val (.int p0), .val (.int p1), .val (.int p0), .unset, .unset, .unset]) rfl ?_
    show Steps p.tables e below (s₁.setTop (mkF m 2 #[.val (.int p0), .val (.int p1), .val (.int p0), .unset, .unset, .unset] [])) _
    refine XS.iloadN X0.here hx rfl (hb hby at_2) rfl ?_
    show Steps p.tables e below (s₁.setTop (mkF m 3 #[.val (.int p0), .val (.int p1), .val (.int p0), .unset, .unset, .unset] [(.int p1)])) _
    refine XS.sipush X0.here hx rfl (hb hby at_3) ?_
    show Steps p.tables e below (s₁.setTop (mkF m 6 #[.val (.int p0), .val (.int p1), .val (.int p0), .unset, .unset, .unset] [(.int (255 : Int32)), (.int p1)])) _
    refine XS.iand X0.here hx rfl (hb hby at_6) rfl ?_
    show Steps p.tables e below (s₁.setTop (mkF m 7 #[.val (.int p0), .val (.int p1), .val (.int p0), .unset, .unset, .unset] [(.int (p1 &&& (255 : Int32)))])) _
    refine XS.istoreN X0.here hx rfl (hb hby at_7) rfl (l' := #[.val (.int p0), .val (.int p1), .val (.int p0), .val (.int (p1 &&& (255 : Int32))), .unset, .unset]) rfl ?_
    show Steps p.tables e below (s₁.setTop (mkF m 8 #[.val (.int p0), .val (.int p1), .val (.int p0), .val (.int (p1 &&& (255 : Int32))), .unset, .unset] [])) _
    refine XS.iloadN X0.here hx rfl (hb hby at_8) rfl ?_
    exact k)
  obtain ⟨_, _, ⟨T6, L6, k6, n6⟩, -, X6, ⟨Lc6, hQ6, l6, y6, z6⟩, st6⟩ := Jvm.LawKit.callS X0 hx (y := (⟨"com/example/slim_kripke/slimkripke/smv/TokenKind", "isWordStart", "(I)Z"⟩ : MethodName)) hown (mvT hZ (hw _ (List.mem_of_getElem? (i := 0) rfl))) (mvT hZ (hw _ (List.mem_of_getElem? (i := 1) rfl))) (mvT hZ (hw _ (List.mem_of_getElem? (i := 2) rfl))) (mvT hZ (hw _ (List.mem_of_getElem? (i := 3) rfl))) (by decide) (backOf (W := 0) (rm1 l Z a0 hw [] p0 h0 n0 Z0) hZ (hw _ (List.mem_of_getElem? (i := 3) rfl)) (hw _ (List.mem_of_getElem? (i := 2) rfl)) (by decide) (by decide)) (g := (mkF m 9 #[.val (.int p0), .val (.int p1), .val (.int p0), .val (.int (p1 &&& (255 : Int32))), .unset, .unset] [(.int p0)])) rfl (by rw [hml]; rfl) (argsL := [(.int p0)]) (rest := []) (lenOf pd__I_Z rfl) rfl (by show 2 * 0 + _ ≤ _; exact Nat.le_of_eq rfl) (hb hby at_9) (fun _ _ => ⟨rfl, e0, (by decide : 0 + 0 ≤ _), (by decide : 0 + 0 ≤ _)⟩)
  dsimp only [Pt.U, Pt.locs, Pt.cells, Pt.slots] at X6 l6 y6 z6 st6 hQ6
  subst l6 y6 z6
  obtain ⟨rfl, Nq6, e6⟩ := hQ6
  have N6 := Fr.app N0 Nq6
  have pre7 : ∀ t, Steps p.tables e below (T6.setTop (mkF m 12 #[.val (.int p0), .val (.int p1), .val (.int p0), .val (.int (p1 &&& (255 : Int32))), .unset, .unset] [(.int (f1 p0))])) t → Steps p.tables e below (s₁.setTop (entryFrame m #[(.int p0), (.int p1)] maxLocals)) t := fun t k => pre5 t (st6 _ k)
  have pre8 : ∀ t, Steps p.tables e below (T6.setTop (mkF m 13 #[.val (.int p0), .val (.int p1), .val (.int p0), .val (.int (p1 &&& (255 : Int32))), .unset, .unset] [(.int p0), (.int (f1 p0))])) t → Steps p.tables e below (s₁.setTop (entryFrame m #[(.int p0), (.int p1)] maxLocals)) t := fun t k => pre7 t (by
    show Steps p.tables e below (T6.setTop (mkF m 12 #[.val (.int p0), .val (.int p1), .val (.int p0), .val (.int (p1 &&& (255 : Int32))), .unset, .unset] [(.int (f1 p0))])) _
    refine XS.iloadN X6.here hx rfl (hb hby at_12) rfl ?_
    exact k)
  obtain ⟨_, _, ⟨T9, L9, k9, n9⟩, -, X9, ⟨Lc9, hQ9, l9, y9, z9⟩, st9⟩ := Jvm.LawKit.callS X6 hx (y := (⟨"com/example/slim_kripke/slimkripke/smv/TokenKindIsWordStartPinLaw", "reference", "(I)Z"⟩ : MethodName)) hown (mvT hZ (hw _ (List.mem_of_getElem? (i := 4) rfl))) (mvT hZ (hw _ (List.mem_of_getElem? (i := 5) rfl))) (mvT hZ (hw _ (List.mem_of_getElem? (i := 6) rfl))) (mvT hZ (hw _ (List.mem_of_getElem? (i := 7) rfl))) (by decide) (backOf (W := 1) (rm2 l Z a0 hw [] p0 h0 n0 Z0) hZ (hw _ (List.mem_of_getElem? (i := 7) rfl)) (hw _ (List.mem_of_getElem? (i := 6) rfl)) (by decide) (by decide)) (g := (mkF m 13 #[.val (.int p0), .val (.int p1), .val (.int p0), .val (.int (p1 &&& (255 : Int32))), .unset, .unset] [(.int p0), (.int (f1 p0))])) rfl (by rw [hml]; rfl) (argsL := [(.int p0)]) (rest := [(.int (f1 p0))]) (lenOf pd__I_Z rfl) rfl (by show 2 * 0 + _ ≤ _; exact Nat.le_of_eq rfl) (hb hby at_13) (fun _ _ => ⟨rfl, e6, (by decide : 0 + 0 ≤ _), (by decide : 0 + 0 ≤ _)⟩)
  dsimp only [Pt.U, Pt.locs, Pt.cells, Pt.slots] at X9 l9 y9 z9 st9 hQ9
  subst l9 y9 z9
  obtain ⟨rfl, Nq9, e9⟩ := hQ9
  have N9 := Fr.app N6 Nq9
  have pre10 : ∀ t, Steps p.tables e below (T9.setTop (mkF m 16 #[.val (.int p0), .val (.int p1), .val (.int p0), .val (.int (p1 &&& (255 : Int32))), .unset, .unset] [(.int (f2 p0)), (.int (f1 p0))])) t → Steps p.tables e below (s₁.setTop (entryFrame m #[(.int p0), (.int p1)] maxLocals)) t := fun t k => pre8 t (st9 _ k)
  obtain ⟨T11, L11, X11, e11, N11, pre11⟩ : ∃ (T' : State) (L' : List Loc), Stand p l e room_1 s m #[(.int p0), (.int p1)] below meth c T' L' 0 0 ∧ T'.heap = h0 ∧ Fr n0 L' ∧ ∀ t, Steps p.tables e below (T'.setTop (mkF m 24 #[.val (.int p0), .val (.int p1), .val (.int p0), .val (.int (p1 &&& (255 : Int32))), .unset, .unset] [(.int (v0_24_s0 p0))])) t → Steps p.tables e below (s₁.setTop (entryFrame m #[(.int p0), (.int p1)] maxLocals)) t := by
    by_cases hc16_1 : (f1 p0) = (f2 p0)
    · have pre12 : ∀ t, Steps p.tables e below (T9.setTop (mkF m 24 #[.val (.int p0), .val (.int p1), .val (.int p0), .val (.int (p1 &&& (255 : Int32))), .unset, .unset] [(.int (1 : Int32))])) t → Steps p.tables e below (s₁.setTop (entryFrame m #[(.int p0), (.int p1)] maxLocals)) t := fun t k => pre10 t (by
        show Steps p.tables e below (T9.setTop (mkF m 16 #[.val (.int p0), .val (.int p1), .val (.int p0), .val (.int (p1 &&& (255 : Int32))), .unset, .unset] [(.int (f2 p0)), (.int (f1 p0))])) _
        refine XS.icmpNo X9.here hx rfl (hb hby at_16) rfl (teq hc16_1).2 ?_
        show Steps p.tables e below (T9.setTop (mkF m 19 #[.val (.int p0), .val (.int p1), .val (.int p0), .val (.int (p1 &&& (255 : Int32))), .unset, .unset] [])) _
        refine XS.iconst X9.here hx rfl (hb hby at_19) ?_
        show Steps p.tables e below (T9.setTop (mkF m 20 #[.val (.int p0), .val (.int p1), .val (.int p0), .val (.int (p1 &&& (255 : Int32))), .unset, .unset] [(.int (1 : Int32))])) _
        refine XS.goto X9.here hx rfl (pc0 := 20) (pc' := 24) rfl (hb hby at_20) (by decide) (by decide) ?_
        exact k)
      exact ⟨T9, _, X9, e9, N9, fun t k => pre12 t (by simpa only [v0_24_s0, if_pos hc16_1] using k)⟩
    · have pre13 : ∀ t, Steps p.tables e below (T9.setTop (mkF m 24 #[.val (.int p0), .val (.int p1), .val (.int p0), .val (.int (p1 &&& (255 : Int32))), .unset, .unset] [(.int (0 : Int32))])) t → Steps p.tables e below (s₁.setTop (entryFrame m #[(.int p0), (.int p1)] maxLocals)) t := fun t k => pre10 t (by
        show Steps p.tables e below (T9.setTop (mkF m 16 #[.val (.int p0), .val (.int p1), .val (.int p0), .val (.int (p1 &&& (255 : Int32))), .unset, .unset] [(.int (f2 p0)), (.int (f1 p0))])) _
        refine XS.icmpYes X9.here hx rfl (pc0 := 16) (pc' := 23) rfl (hb hby at_16) rfl (feq hc16_1).2 (by decide) (by decide) ?_
        show Steps p.tables e below (T9.setTop (mkF m 23 #[.val (.int p0), .val (.int p1), .val (.int p0), .val (.int (p1 &&& (255 : Int32))), .unset, .unset] [])) _
        refine XS.iconst X9.here hx rfl (hb hby at_23) ?_
        exact k)
      exact ⟨T9, _, X9, e9, N9, fun t k => pre13 t (by simpa only [v0_24_s0, if_neg hc16_1] using k)⟩
  have pre14 : ∀ t, Steps p.tables e below (T11.setTop (mkF m 27 #[.val (.int p0), .val (.int p1), .val (.int p0), .val (.int (p1 &&& (255 : Int32))), .val (.int (v0_24_s0 p0)), .unset] [(.int (p1 &&& (255 : Int32)))])) t → Steps p.tables e below (s₁.setTop (entryFrame m #[(.int p0), (.int p1)] maxLocals)) t := fun t k => pre11 t (by
    show Steps p.tables e below (T11.setTop (mkF m 24 #[.val (.int p0), .val (.int p1), .val (.int p0), .val (.int (p1 &&& (255 : Int32))), .unset, .unset] [(.int (v0_24_s0 p0))])) _
    refine XS.istore X11.here hx rfl (hb hby at_24) rfl (l' := #[.val (.int p0), .val (.int p1), .val (.int p0), .val (.int (p1 &&& (255 : Int32))), .val (.int (v0_24_s0 p0)), .unset]) rfl ?_
    show Steps p.tables e below (T11.setTop (mkF m 26 #[.val (.int p0), .val (.int p1), .val (.int p0), .val (.int (p1 &&& (255 : Int32))), .val (.int (v0_24_s0 p0)), .unset] [])) _
    refine XS.iloadN X11.here hx rfl (hb hby at_26) rfl ?_
    exact k)
  obtain ⟨_, _, ⟨T15, L15, k15, n15⟩, -, X15, ⟨Lc15, hQ15, l15, y15, z15⟩, st15⟩ := Jvm.LawKit.callS X11 hx (y := (⟨"com/example/slim_kripke/slimkripke/smv/TokenKind", "isWordStart", "(I)Z"⟩ : MethodName)) hown (mvT hZ (hw _ (List.mem_of_getElem? (i := 0) rfl))) (mvT hZ (hw _ (List.mem_of_getElem? (i := 1) rfl))) (mvT hZ (hw _ (List.mem_of_getElem? (i := 2) rfl))) (mvT hZ (hw _ (List.mem_of_getElem? (i := 3) rfl))) (by decide) (backOf (W := 0) (rm1 l Z a0 hw [] (p1 &&& (255 : Int32)) h0 n0 Z0) hZ (hw _ (List.mem_of_getElem? (i := 3) rfl)) (hw _ (List.mem_of_getElem? (i := 2) rfl)) (by decide) (by decide)) (g := (mkF m 27 #[.val (.int p0), .val (.int p1), .val (.int p0), .val (.int (p1 &&& (255 : Int32))), .val (.int (v0_24_s0 p0)), .unset] [(.int (p1 &&& (255 : Int32)))])) rfl (by rw [hml]; rfl) (argsL := [(.int (p1 &&& (255 : Int32)))]) (rest := []) (lenOf pd__I_Z rfl) rfl (by show 2 * 0 + _ ≤ _; exact Nat.le_of_eq rfl) (hb hby at_27) (fun _ _ => ⟨rfl, e11, (by decide : 0 + 0 ≤ _), (by decide : 0 + 0 ≤ _)⟩)
  dsimp only [Pt.U, Pt.locs, Pt.cells, Pt.slots] at X15 l15 y15 z15 st15 hQ15
  subst l15 y15 z15
  obtain ⟨rfl, Nq15, e15⟩ := hQ15
  have N15 := Fr.app N11 Nq15
  have pre16 : ∀ t, Steps p.tables e below (T15.setTop (mkF m 30 #[.val (.int p0), .val (.int p1), .val (.int p0), .val (.int (p1 &&& (255 : Int32))), .val (.int (v0_24_s0 p0)), .unset] [(.int (f1 (p1 &&& (255 : Int32))))])) t → Steps p.tables e below (s₁.setTop (entryFrame m #[(.int p0), (.int p1)] maxLocals)) t := fun t k => pre14 t (st15 _ k)
  have pre17 : ∀ t, Steps p.tables e below (T15.setTop (mkF m 31 #[.val (.int p0), .val (.int p1), .val (.int p0), .val (.int (p1 &&& (255 : Int32))), .val (.int (v0_24_s0 p0)), .unset] [(.int (p1 &&& (255 : Int32))), (.int (f1 (p1 &&& (255 : Int32))))])) t → Steps p.tables e below (s₁.setTop (entryFrame m #[(.int p0), (.int p1)] maxLocals)) t := fun t k => pre16 t (by
    show Steps p.tables e below (T15.setTop (mkF m 30 #[.val (.int p0), .val (.int p1), .val (.int p0), .val (.int (p1 &&& (255 : Int32))), .val (.int (v0_24_s0 p0)), .unset] [(.int (f1 (p1 &&& (255 : Int32))))])) _
    refine XS.iloadN X15.here hx rfl (hb hby at_30) rfl ?_
    exact k)
  obtain ⟨_, _, ⟨T18, L18, k18, n18⟩, -, X18, ⟨Lc18, hQ18, l18, y18, z18⟩, st18⟩ := Jvm.LawKit.callS X15 hx (y := (⟨"com/example/slim_kripke/slimkripke/smv/TokenKindIsWordStartPinLaw", "reference", "(I)Z"⟩ : MethodName)) hown (mvT hZ (hw _ (List.mem_of_getElem? (i := 4) rfl))) (mvT hZ (hw _ (List.mem_of_getElem? (i := 5) rfl))) (mvT hZ (hw _ (List.mem_of_getElem? (i := 6) rfl))) (mvT hZ (hw _ (List.mem_of_getElem? (i := 7) rfl))) (by decide) (backOf (W := 1) (rm2 l Z a0 hw [] (p1 &&& (255 : Int32)) h0 n0 Z0) hZ (hw _ (List.mem_of_getElem? (i := 7) rfl)) (hw _ (List.mem_of_getElem? (i := 6) rfl)) (by decide) (by decide)) (g := (mkF m 31 #[.val (.int p0), .val (.int p1), .val (.int p0), .val (.int (p1 &&& (255 : Int32))), .val (.int (v0_24_s0 p0)), .unset] [(.int (p1 &&& (255 : Int32))), (.int (f1 (p1 &&& (255 : Int32))))])) rfl (by rw [hml]; rfl) (argsL := [(.int (p1 &&& (255 : Int32)))]) (rest := [(.int (f1 (p1 &&& (255 : Int32))))]) (lenOf pd__I_Z rfl) rfl (by show 2 * 0 + _ ≤ _; exact Nat.le_of_eq rfl) (hb hby at_31) (fun _ _ => ⟨rfl, e15, (by decide : 0 + 0 ≤ _), (by decide : 0 + 0 ≤ _)⟩)
  dsimp only [Pt.U, Pt.locs, Pt.cells, Pt.slots] at X18 l18 y18 z18 st18 hQ18
  subst l18 y18 z18
  obtain ⟨rfl, Nq18, e18⟩ := hQ18
  have N18 := Fr.app N15 Nq18
  have pre19 : ∀ t, Steps p.tables e below (T18.setTop (mkF m 34 #[.val (.int p0), .val (.int p1), .val (.int p0), .val (.int (p1 &&& (255 : Int32))), .val (.int (v0_24_s0 p0)), .unset] [(.int (f2 (p1 &&& (255 : Int32)))), (.int (f1 (p1 &&& (255 : Int32))))])) t → Steps p.tables e below (s₁.setTop (entryFrame m #[(.int p0), (.int p1)] maxLocals)) t := fun t k => pre17 t (st18 _ k)
  obtain ⟨T20, L20, X20, e20, N20, pre20⟩ : ∃ (T' : State) (L' : List Loc), Stand p l e room_1 s m #[(.int p0), (.int p1)] below meth c T' L' 0 0 ∧ T'.heap = h0 ∧ Fr n0 L' ∧ ∀ t, Steps p.tables e below (T'.setTop (mkF m 42 #[.val (.int p0), .val (.int p1), .val (.int p0), .val (.int (p1 &&& (255 : Int32))), .val (.int (v0_24_s0 p0)), .unset] [(.int (v0_42_s0 p1))])) t → Steps p.tables e below (s₁.setTop (entryFrame m #[(.int p0), (.int p1)] maxLocals)) t := by
    by_cases hc34_2 : (f1 (p1 &&& (255 : Int32))) = (f2 (p1 &&& (255 : Int32)))
    · have pre21 : ∀ t, Steps p.tables e below (T18.setTop (mkF m 42 #[.val (.int p0), .val (.int p1), .val (.int p0), .val (.int (p1 &&& (255 : Int32))), .val (.int (v0_24_s0 p0)), .unset] [(.int (1 : Int32))])) t → Steps p.tables e below (s₁.setTop (entryFrame m #[(.int p0), (.int p1)] maxLocals)) t := fun t k => pre19 t (by
        show Steps p.tables e below (T18.setTop (mkF m 34 #[.val (.int p0), .val (.int p1), .val (.int p0), .val (.int (p1 &&& (255 : Int32))), .val (.int (v0_24_s0 p0)), .unset] [(.int (f2 (p1 &&& (255 : Int32)))), (.int (f1 (p1 &&& (255 : Int32))))])) _
        refine XS.icmpNo X18.here hx rfl (hb hby at_34) rfl (teq hc34_2).2 ?_
        show Steps p.tables e below (T18.setTop (mkF m 37 #[.val (.int p0), .val (.int p1), .val (.int p0), .val (.int (p1 &&& (255 : Int32))), .val (.int (v0_24_s0 p0)), .unset] [])) _
        refine XS.iconst X18.here hx rfl (hb hby at_37) ?_
        show Steps p.tables e below (T18.setTop (mkF m 38 #[.val (.int p0), .val (.int p1), .val (.int p0), .val (.int (p1 &&& (255 : Int32))), .val (.int (v0_24_s0 p0)), .unset] [(.int (1 : Int32))])) _
        refine XS.goto X18.here hx rfl (pc0 := 38) (pc' := 42) rfl (hb hby at_38) (by decide) (by decide) ?_
        exact k)
      exact ⟨T18, _, X18, e18, N18, fun t k => pre21 t (by simpa only [v0_42_s0, if_pos hc34_2] using k)⟩
    · have pre22 : ∀ t, Steps p.tables e below (T18.setTop (mkF m 42 #[.val (.int p0), .val (.int p1), .val (.int p0), .val (.int (p1 &&& (255 : Int32))), .val (.int (v0_24_s0 p0)), .unset] [(.int (0 : Int32))])) t → Steps p.tables e below (s₁.setTop (entryFrame m #[(.int p0), (.int p1)] maxLocals)) t := fun t k => pre19 t (by
        show Steps p.tables e below (T18.setTop (mkF m 34 #[.val (.int p0), .val (.int p1), .val (.int p0), .val (.int (p1 &&& (255 : Int32))), .val (.int (v0_24_s0 p0)), .unset] [(.int (f2 (p1 &&& (255 : Int32)))), (.int (f1 (p1 &&& (255 : Int32))))])) _
        refine XS.icmpYes X18.here hx rfl (pc0 := 34) (pc' := 41) rfl (hb hby at_34) rfl (feq hc34_2).2 (by decide) (by decide) ?_
        show Steps p.tables e below (T18.setTop (mkF m 41 #[.val (.int p0), .val (.int p1), .val (.int p0), .val (.int (p1 &&& (255 : Int32))), .val (.int (v0_24_s0 p0)), .unset] [])) _
        refine XS.iconst X18.here hx rfl (hb hby at_41) ?_
        exact k)
      exact ⟨T18, _, X18, e18, N18, fun t k => pre22 t (by simpa only [v0_42_s0, if_neg hc34_2] using k)⟩
  have pre23 : ∀ t, Steps p.tables e below (T20.setTop (mkF m 46 #[.val (.int p0), .val (.int p1), .val (.int p0), .val (.int (p1 &&& (255 : Int32))), .val (.int (v0_24_s0 p0)), .val (.int (v0_42_s0 p1))] [(.int (v0_24_s0 p0))])) t → Steps p.tables e below (s₁.setTop (entryFrame m #[(.int p0), (.int p1)] maxLocals)) t := fun t k => pre20 t (by
    show Steps p.tables e below (T20.setTop (mkF m 42 #[.val (.int p0), .val (.int p1), .val (.int p0), .val (.int (p1 &&& (255 : Int32))), .val (.int (v0_24_s0 p0)), .unset] [(.int (v0_42_s0 p1))])) _
    refine XS.istore X20.here hx rfl (hb hby at_42) rfl (l' := #[.val (.int p0), .val (.int p1), .val (.int p0), .val (.int (p1 &&& (255 : Int32))), .val (.int (v0_24_s0 p0)), .val (.int (v0_42_s0 p1))]) rfl ?_
    show Steps p.tables e below (T20.setTop (mkF m 44 #[.val (.int p0), .val (.int p1), .val (.int p0), .val (.int (p1 &&& (255 : Int32))), .val (.int (v0_24_s0 p0)), .val (.int (v0_42_s0 p1))] [])) _
    refine XS.iload X20.here hx rfl (hb hby at_44) rfl ?_
    exact k)
  by_cases hc46_3 : (v0_24_s0 p0) = (0 : Int32)
  · have pre24 : ∀ t, Steps p.tables e below (T20.setTop (mkF m 59 #[.val (.int p0), .val (.int p1), .val (.int p0), .val (.int (p1 &&& (255 : Int32))), .val (.int (v0_24_s0 p0)), .val (.int (v0_42_s0 p1))] [(.int (0 : Int32))])) t → Steps p.tables e below (s₁.setTop (entryFrame m #[(.int p0), (.int p1)] maxLocals)) t := fun t k => pre23 t (by
      show Steps p.tables e below (T20.setTop (mkF m 46 #[.val (.int p0), .val (.int p1), .val (.int p0), .val (.int (p1 &&& (255 : Int32))), .val (.int (v0_24_s0 p0)), .val (.int (v0_42_s0 p1))] [(.int (v0_24_s0 p0))])) _
      refine XS.ifYes X20.here hx rfl (pc0 := 46) (pc' := 58) rfl (hb hby at_46) rfl ((if0 _ _).trans (teq hc46_3).1) (by decide) (by decide) ?_
      show Steps p.tables e below (T20.setTop (mkF m 58 #[.val (.int p0), .val (.int p1), .val (.int p0), .val (.int (p1 &&& (255 : Int32))), .val (.int (v0_24_s0 p0)), .val (.int (v0_42_s0 p1))] [])) _
      refine XS.iconst X20.here hx rfl (hb hby at_58) ?_
      exact k)
    obtain ⟨fs, hr, hrun, hended, hW, hsame⟩ := X20.leave (v := some (.int (0 : Int32))) (fun h => by rw [Bd.returns] at h; cases h)
    refine ⟨_, _, ?_, hrun, hended, _, _, rfl, ?_, ⟨_, rfl⟩, hW, hsame.mono (by decide) (by decide)⟩
    · exact pre24 _ (retN X20 hx (t := .boolean) Bd.returns (by simp) (hb hby at_59) hr)
    · exact ⟨by simp only [f0, if_pos hc46_3], N20, trivial⟩
  · have pre25 : ∀ t, Steps p.tables e below (T20.setTop (mkF m 51 #[.val (.int p0), .val (.int p1), .val (.int p0), .val (.int (p1 &&& (255 : Int32))), .val (.int (v0_24_s0 p0)), .val (.int (v0_42_s0 p1))] [(.int (v0_42_s0 p1))])) t → Steps p.tables e below (s₁.setTop (entryFrame m #[(.int p0), (.int p1)] maxLocals)) t := fun t k => pre23 t (by
      show Steps p.tables e below (T20.setTop (mkF m 46 #[.val (.int p0), .val (.int p1), .val (.int p0), .val (.int (p1 &&& (255 : Int32))), .val (.int (v0_24_s0 p0)), .val (.int (v0_42_s0 p1))] [(.int (v0_24_s0 p0))])) _
      refine XS.ifNo X20.here hx rfl (hb hby at_46) rfl ((if0 _ _).trans (feq hc46_3).1) ?_
      show Steps p.tables e below (T20.setTop (mkF m 49 #[.val (.int p0), .val (.int p1), .val (.int p0), .val (.int (p1 &&& (255 : Int32))), .val (.int (v0_24_s0 p0)), .val (.int (v0_42_s0 p1))] [])) _
      refine XS.iload X20.here hx rfl (hb hby at_49) rfl ?_
      exact k)
    by_cases hc51_4 : (v0_42_s0 p1) = (0 : Int32)
    · have pre26 : ∀ t, Steps p.tables e below (T20.setTop (mkF m 59 #[.val (.int p0), .val (.int p1), .val (.int p0), .val (.int (p1 &&& (255 : Int32))), .val (.int (v0_24_s0 p0)), .val (.int (v0_42_s0 p1))] [(.int (0 : Int32))])) t → Steps p.tables e below (s₁.setTop (entryFrame m #[(.int p0), (.int p1)] maxLocals)) t := fun t k => pre25 t (by
        show Steps p.tables e below (T20.setTop (mkF m 51 #[.val (.int p0), .val (.int p1), .val (.int p0), .val (.int (p1 &&& (255 : Int32))), .val (.int (v0_24_s0 p0)), .val (.int (v0_42_s0 p1))] [(.int (v0_42_s0 p1))])) _
        refine XS.ifYes X20.here hx rfl (pc0 := 51) (pc' := 58) rfl (hb hby at_51) rfl ((if0 _ _).trans (teq hc51_4).1) (by decide) (by decide) ?_
        show Steps p.tables e below (T20.setTop (mkF m 58 #[.val (.int p0), .val (.int p1), .val (.int p0), .val (.int (p1 &&& (255 : Int32))), .val (.int (v0_24_s0 p0)), .val (.int (v0_42_s0 p1))] [])) _
        refine XS.iconst X20.here hx rfl (hb hby at_58) ?_
        exact k)
      obtain ⟨fs, hr, hrun, hended, hW, hsame⟩ := X20.leave (v := some (.int (0 : Int32))) (fun h => by rw [Bd.returns] at h; cases h)
      refine ⟨_, _, ?_, hrun, hended, _, _, rfl, ?_, ⟨_, rfl⟩, hW, hsame.mono (by decide) (by decide)⟩
      · exact pre26 _ (retN X20 hx (t := .boolean) Bd.returns (by simp) (hb hby at_59) hr)
      · exact ⟨by simp only [f0, if_neg hc46_3, if_pos hc51_4], N20, trivial⟩
    · have pre27 : ∀ t, Steps p.tables e below (T20.setTop (mkF m 59 #[.val (.int p0), .val (.int p1), .val (.int p0), .val (.int (p1 &&& (255 : Int32))), .val (.int (v0_24_s0 p0)), .val (.int (v0_42_s0 p1))] [(.int (1 : Int32))])) t → Steps p.tables e below (s₁.setTop (entryFrame m #[(.int p0), (.int p1)] maxLocals)) t := fun t k => pre25 t (by
        show Steps p.tables e below (T20.setTop (mkF m 51 #[.val (.int p0), .val (.int p1), .val (.int p0), .val (.int (p1 &&& (255 : Int32))), .val (.int (v0_24_s0 p0)), .val (.int (v0_42_s0 p1))] [(.int (v0_42_s0 p1))])) _
        refine XS.ifNo X20.here hx rfl (hb hby at_51) rfl ((if0 _ _).trans (feq hc51_4).1) ?_
        show Steps p.tables e below (T20.setTop (mkF m 54 #[.val (.int p0), .val (.int p1), .val (.int p0), .val (.int (p1 &&& (255 : Int32))), .val (.int (v0_24_s0 p0)), .val (.int (v0_42_s0 p1))] [])) _
        refine XS.iconst X20.here hx rfl (hb hby at_54) ?_
        show Steps p.tables e below (T20.setTop (mkF m 55 #[.val (.int p0), .val (.int p1), .val (.int p0), .val (.int (p1 &&& (255 : Int32))), .val (.int (v0_24_s0 p0)), .val (.int (v0_42_s0 p1))] [(.int (1 : Int32))])) _
        refine XS.goto X20.here hx rfl (pc0 := 55) (pc' := 59) rfl (hb hby at_55) (by decide) (by decide) ?_
        exact k)
      obtain ⟨fs, hr, hrun, hended, hW, hsame⟩ := X20.leave (v := some (.int (1 : Int32))) (fun h => by rw [Bd.returns] at h; cases h)
      refine ⟨_, _, ?_, hrun, hended, _, _, rfl, ?_, ⟨_, rfl⟩, hW, hsame.mono (by decide) (by decide)⟩
      · exact pre27 _ (retN X20 hx (t := .boolean) Bd.returns (by simp) (hb hby at_59) hr)
      · exact ⟨by simp only [f0, if_neg hc46_3, if_neg hc51_4], N20, trivial⟩
theorem own_nor (n : Nat) : n ||| 32 = if n / 32 % 2 = 1 then n else n + 32 := by
  have h1 : (n ||| 32) / 64 = n / 64 := by
    have := Nat.or_div_two_pow (a := n) (b := 32) (n := 6)
    simpa using this
  have h2 : (n ||| 32) % 64 = if n % 64 / 32 % 2 = 1 then n % 64 else n % 64 + 32 := by
    have := Nat.or_mod_two_pow (a := n) (b := 32) (n := 6)
    rw [show (2 : Nat) ^ 6 = 64 from rfl] at this
    rw [this]
    have : ∀ k : Fin 64, k.val ||| 32 % 64 = if k.val / 32 % 2 = 1 then k.val else k.val + 32 := by decide
    exact this ⟨n % 64, Nat.mod_lt _ (by decide)⟩
  split at h2 <;> split <;> omega
theorem own_or32 (x : Int32) : (x.toInt / 32 % 2 = 1 → (x ||| 32).toInt = x.toInt) ∧ (x.toInt / 32 % 2 = 0 → (x ||| 32).toInt = x.toInt + 32) := by
  have e : (x ||| 32).toBitVec.toNat = if x.toBitVec.toNat / 32 % 2 = 1 then x.toBitVec.toNat else x.toBitVec.toNat + 32 := by
    rw [← own_nor]; rfl
  have e1 : x.toInt = x.toBitVec.toInt := rfl
  have e2 : (x ||| 32).toInt = (x ||| 32).toBitVec.toInt := rfl
  have b1 := x.toBitVec.isLt
  have b2 := (x ||| 32).toBitVec.isLt
  have c1 := BitVec.toInt_eq_toNat_cond x.toBitVec
  have c2 := BitVec.toInt_eq_toNat_cond (x ||| 32).toBitVec
  rw [← e1] at c1
  rw [← e2] at c2
  generalize (x ||| 32).toBitVec.toNat = k at *
  generalize x.toBitVec.toNat = n at *
  generalize (x ||| 32).toInt = u at *
  generalize x.toInt = w at *
  constructor <;> intro h <;> split at c1 <;> split at c2 <;> split at e <;> omega
theorem own_eq (c : Int32) : f1 c = f2 c := by
  have h := own_or32 c
  have hv : v2_22_s0 c = if (c ||| 32).toInt < 97 then 0 else if 122 < (c ||| 32).toInt then 0 else 1 := by
    simp only [v2_22_s0, Int32.lt_iff_toInt_lt]; rfl
  have hz : (v2_22_s0 c = 0) ↔ ((c ||| 32).toInt < 97 ∨ 122 < (c ||| 32).toInt) := by
    rw [hv]
    generalize (c ||| 32).toInt = k
    constructor
    · intro q; split at q
      · omega
      · split at q
        · omega
        · exact absurd q (by decide)
    · intro q; split
      · rfl
      · rw [if_pos (by omega)]
  simp only [f1, f2, hz, ← Int32.toInt_inj (x := c), Int32.lt_iff_toInt_lt, show (65 : Int32).toInt = 65 from rfl, show (90 : Int32).toInt = 90 from rfl, show (95 : Int32).toInt = 95 from rfl, show (97 : Int32).toInt = 97 from rfl, show (122 : Int32).toInt = 122 from rfl]
  generalize (c ||| 32).toInt = k at *
  generalize c.toInt = n at *
  repeat' split
  all_goals first | rfl | (exfalso; omega)
theorem own_law (i0 i1 : Int32) : f0 i0 i1 = 1 := by
  have e1 : v0_24_s0 i0 = 1 := if_pos (own_eq _)
  have e2 : v0_42_s0 i1 = 1 := if_pos (own_eq _)
  unfold f0
  rw [e1, e2]
  decide
set_option maxRecDepth 65536 in
set_option maxHeartbeats 40000000 in
theorem comes_1 {Post : Tables → Env → Array Value → State → Outcome → State → Prop} (hpost : ∀ tb e args s v u, (limb_1_1.after args s (.returned v) u = true ∧ limb_1_2.after args s (.returned v) u = true ∧ True) → FrameEnd s (.returned v) u (Jvm.fieldLocs frame_1_writes args s ++ Jvm.arrayLocs frame_1_arrays args s ++ Jvm.staticLocs frame_1_statics s) 0 0 → Post tb e args s (.returned v) u) :
    ArmFor flags0 classFile x code maxLocals ret World_1 tables_1 room_1 Calls_1 rest_1 Pre_1 Post := by
  intro l hfl _ _ p e ha hc hk s m args below hf hA hF happ hP
  obtain ⟨hcalls, hrest, hpre⟩ := hP
  obtain ⟨-, -, -, hnamed, -, -, -, hat⟩ := (Spec.applies_iff hf).mp happ
  obtain ⟨hg, hn⟩ := and_e (Cond.before_iff.mp (show (Jvm.Cond.and given_1 narrow_1).before args s = true from hpre))
  obtain ⟨g1, g2⟩ := and_e hg
  obtain ⟨g3, g4⟩ := and_e g2
  obtain ⟨w0, w1, rfl⟩ : ∃ w0 w1 : Value, args = #[w0, w1] := by
    have hs : args.size = 2 := by simpa [Cond.value, given_1] using g1
    obtain ⟨L⟩ := args
    match L, hs with
    | [w0, w1], _ => exact ⟨w0, w1, rfl⟩
  have hw := fun d (hd : d ∈ tables_1) => atoms_spec (ws := Jvm.Cond.code x code maxLocals ret :: tables_1) hat d (List.mem_cons_of_mem _ hd)
  obtain ⟨i0, ei0⟩ := is_v g3
  obtain rfl : w0 = (.int i0) := Option.some.inj ei0
  obtain ⟨i1, ei1⟩ := is_v g4
  obtain rfl : w1 = (.int i1) := Option.some.inj ei1
  obtain ⟨n, o, h1, h2, h3, _, L, rfl, ⟨rfl, N, -⟩, hq⟩ := rm0 l s _ hw tables_1 i0 i1 s.heap s.heap.size (Nat.le_refl _) p e ha hc hk s m _ below hf ((Spec.applies_iff_loose hf).mp happ).1 ⟨rfl, State.Warmed39.refl s, rfl⟩ trivial
  rw [own_law i0 i1] at h3 hq
  refine ⟨n, _, h1, h2, h3, hpost _ _ _ _ _ _ ⟨Cond.after_iff.mpr rfl, Cond.after_iff.mpr (eq_i res_at (Term.int_eval (1)) rfl), trivial⟩ ⟨hq.1, hq.2.1, (hq.2.2.sift fun y hy => Or.inr (N y hy)).mono (by decide) (by decide)⟩⟩
theorem main_1_1 : Claimed_1_1 := comes_1 fun _ _ _ _ _ _ h hF => ⟨h.1, hF⟩
theorem main_1_2 : Claimed_1_2 := comes_1 fun _ _ _ _ _ _ h hF => ⟨h.2.1, hF⟩
end Jvm.Pilot.@@N@@
namespace Jvm.Pilot.@@N@@
open Jvm Jvm.ClassFile Sem Op Lib Jvm.Free Jvm.Stand Jvm.Pilot.@@N@@.Jvm.D
/-! MADE BY PROGRAM (witnessworld.py) out of the Statement's table words and the real class files: 10 classes; the members and pool entries that the words name. The judged class is class 1, her method 2. -/
namespace start1
open Jvm.ClassFile
def u (s : String) : CpInfo := .utf8 (stringToUtf16 s)
/-- a pool by its gaps: so many unusable entries, then the entry; so many at the end -/
def gap : Nat → List CpInfo → List CpInfo
  | 0, r => r
  | n + 1, r => .unusable :: gap n r
def poolList (es : List (Nat × CpInfo)) (last : Nat) : List CpInfo := es.foldr (fun e r => gap e.1 (e.2 :: r)) (gap last [])
def pool (es : List (Nat × CpInfo)) (last : Nat) : Array CpInfo := ⟨poolList es last⟩
def fileOf (pool : Array CpInfo) (this : Nat) (attrs : Array Attribute := #[]) (ms : Array MethodInfo := #[]) (fl : Nat := 33) (sup : Nat := 0) (ifs : Array Nat := #[]) (fds : Array FieldInfo := #[]) : ClassFile where
  minorVersion := 0
  majorVersion := 65
  constantPool := pool
  accessFlags := fl
  thisClass := this
  superClass := sup
  interfaces := ifs
  fields := fds
  methods := ms
  attributes := attrs
def plain (name : String) (sup : Option ClassId) : Class where
  name := name
  kind := .ordinary
  loader := none
  accessFlags := 33
  super := sup
  interfaces := #[]
  cf := none
  fields := #[]
  methods := #[]
  instanceTypes := #[]
  staticTypes := #[]
  resolved := #[]
  callSites := []
  init := .initialized
  statics := none
  mirror := none

def pool0 : Array CpInfo := pool [(5, u "<init>"), (0, u "()V"), (1, .class_ 10), (1, u "java/lang/Object")] 113

def k0m0 : Method := { name := "<init>", desc := "()V", sig := { parameters := [], returnType := none }, accessFlags := 1, code := none }
/-- java/lang/Object -/
def k0 : Class := { plain "java/lang/Object" none with
  accessFlags := 33
  interfaces := #[]
  cf := some (fileOf pool0 8 #[] #[{ accessFlags := 1, nameIndex := 5, descriptorIndex := 6, attributes := #[] }] 33 0 #[] #[])
  fields := #[]
  methods := #[k0m0]
  instanceTypes := #[]
  staticTypes := #[]
  resolved := Array.replicate 124 none
  statics := none }

def pool1 : Array CpInfo := pool [(2, .class_ 4), (1, u "java/lang/Object"), (0, u "<init>"), (0, u "()V"), (0, .methodref 8 9), (0, .class_ 10), (0, .nameAndType 11 12), (0, u "com/example/slim_kripke/slimkripke/smv/TokenKind"), (0, u "isWordStart"), (0, u "(I)Z"), (0, .methodref 14 15), (0, .class_ 16), (0, .nameAndType 17 12), (0, u "com/example/slim_kripke/slimkripke/smv/TokenKindIsWordStartPinLaw"), (0, u "reference"), (3, u "law"), (0, u "(II)Z")] 2

def k1m0 : Method := { name := "<init>", desc := "()V", sig := { parameters := [], returnType := none }, accessFlags := 1, code := none }
def k1c1 : Code := { maxStack := 2, maxLocals := 3, code := method_2_code, exceptionTable := #[], attributes := #[] }
def k1m1 : Method := { name := "reference", desc := "(I)Z", sig := { parameters := [.int], returnType := some .boolean }, accessFlags := 10, code := some k1c1 }
def k1c2 : Code := { maxStack := 2, maxLocals := 6, code := code, exceptionTable := #[], attributes := #[] }
def k1m2 : Method := { name := "law", desc := "(II)Z", sig := { parameters := [.int, .int], returnType := some .boolean }, accessFlags := 9, code := some k1c2 }
/-- com/example/slim_kripke/slimkripke/smv/TokenKindIsWordStartPinLaw -/
def k1 : Class := { plain "com/example/slim_kripke/slimkripke/smv/TokenKindIsWordStartPinLaw" (some 0) with
  accessFlags := 49
  interfaces := #[]
  cf := some (fileOf pool1 14 #[] #[{ accessFlags := 1, nameIndex := 5, descriptorIndex := 6, attributes := #[] }, { accessFlags := 10, nameIndex := 17, descriptorIndex := 12, attributes := #[] }, { accessFlags := 9, nameIndex := 21, descriptorIndex := 22, attributes := #[] }] 49 2 #[] #[])
  fields := #[]
  methods := #[k1m0, k1m1, k1m2]
  instanceTypes := #[]
  staticTypes := #[]
  resolved := Array.replicate 25 none
  statics := none }

def pool2 : Array CpInfo := pool [(1, .class_ 2), (0, u "java/lang/constant/Constable"), (0, .class_ 4), (0, u "java/lang/Object")] 6

/-- java/lang/constant/Constable -/
def k2 : Class := { plain "java/lang/constant/Constable" (some 0) with
  accessFlags := 1537
  interfaces := #[]
  cf := some (fileOf pool2 1 #[] #[] 1537 3 #[] #[])
  fields := #[]
  methods := #[]
  instanceTypes := #[]
  staticTypes := #[]
  resolved := Array.replicate 11 none
  statics := none }

def pool3 : Array CpInfo := pool [(1, .class_ 2), (0, u "java/lang/Comparable"), (0, .class_ 4), (0, u "java/lang/Object")] 7

/-- java/lang/Comparable -/
def k3 : Class := { plain "java/lang/Comparable" (some 0) with
  accessFlags := 1537
  interfaces := #[]
  cf := some (fileOf pool3 1 #[] #[] 1537 3 #[] #[])
  fields := #[]
  methods := #[]
  instanceTypes := #[]
  staticTypes := #[]
  resolved := Array.replicate 12 none
  statics := none }

def pool4 : Array CpInfo := pool [(1, .class_ 2), (0, u "java/io/Serializable"), (0, .class_ 4), (0, u "java/lang/Object")] 2

/-- java/io/Serializable -/
def k4 : Class := { plain "java/io/Serializable" (some 0) with
  accessFlags := 1537
  interfaces := #[]
  cf := some (fileOf pool4 1 #[] #[] 1537 3 #[] #[])
  fields := #[]
  methods := #[]
  instanceTypes := #[]
  staticTypes := #[]
  resolved := Array.replicate 7 none
  statics := none }

def pool5 : Array CpInfo := pool [(2, .class_ 4), (1, u "java/lang/Enum"), (0, u "name"), (0, u "Ljava/lang/String;"), (2, u "ordinal"), (0, u "I"), (1, .class_ 14), (1, u "java/lang/Object"), (4, u "hash"), (86, .class_ 108), (1, u "java/lang/Enum$EnumDesc"), (2, .class_ 112), (0, u "java/lang/constant/Constable"), (0, .class_ 114), (0, u "java/lang/Comparable"), (0, .class_ 116), (0, u "java/io/Serializable")] 87

/-- java/lang/Enum -/
def k5 : Class := { plain "java/lang/Enum" (some 0) with
  accessFlags := 1057
  interfaces := #[2, 3, 4]
  cf := some (fileOf pool5 2 #[.nestMembers #[106]] #[] 1057 12 #[111, 113, 115] #[{ accessFlags := 18, nameIndex := 5, descriptorIndex := 6, attributes := #[] }, { accessFlags := 18, nameIndex := 9, descriptorIndex := 10, attributes := #[] }, { accessFlags := 2, nameIndex := 19, descriptorIndex := 10, attributes := #[] }])
  fields := #[{ name := "name", type := (.object "java/lang/String"), accessFlags := 18, slot := 0, constantValue := 0 }, { name := "ordinal", type := .int, accessFlags := 18, slot := 1, constantValue := 0 }, { name := "hash", type := .int, accessFlags := 2, slot := 2, constantValue := 0 }]
  methods := #[]
  instanceTypes := #[(.object "java/lang/String"), .int, .int]
  staticTypes := #[]
  resolved := Array.replicate 204 none
  statics := none }

def pool6 : Array CpInfo := pool [(1, .class_ 2), (0, u "com/example/slim_kripke/slimkripke/smv/TokenKind"), (2, u "IDENTIFIER"), (0, u "Lcom/example/slim_kripke/slimkripke/smv/TokenKind;"), (2, u "INTEGER"), (2, u "UNSUPPORTED"), (2, u "END"), (2, u "MODULE"), (2, u "VAR"), (2, u "ASSIGN"), (2, u "DEFINE"), (2, u "INIT_SECTION"), (2, u "TRANS"), (2, u "SPEC"), (2, u "CTLSPEC"), (2, u "BOOLEAN"), (2, u "INTEGER_TYPE"), (2, u "INIT"), (2, u "NEXT"), (2, u "CASE"), (2, u "ESAC"), (2, u "TRUE"), (2, u "FALSE"), (2, u "MOD"), (2, u "UNION"), (2, u "XOR"), (2, u "XNOR"), (2, u "EX"), (2, u "AX"), (2, u "EF"), (2, u "AF"), (2, u "EG"), (2, u "AG"), (2, u "E"), (2, u "A"), (2, u "U"), (2, u "LEFT_PAREN"), (2, u "RIGHT_PAREN"), (2, u "LEFT_BRACE"), (2, u "RIGHT_BRACE"), (2, u "LEFT_BRACKET"), (2, u "RIGHT_BRACKET"), (2, u "COLON"), (2, u "SEMICOLON"), (2, u "COMMA"), (2, u "BECOMES"), (2, u "DOT_DOT"), (2, u "DOT"), (2, u "NOT"), (2, u "AND"), (2, u "OR"), (2, u "IMPLIES"), (2, u "IFF"), (2, u "EQUAL"), (2, u "NOT_EQUAL"), (2, u "LESS"), (2, u "GREATER"), (2, u "LESS_EQUAL"), (2, u "GREATER_EQUAL"), (2, u "PLUS"), (2, u "MINUS"), (2, u "TIMES"), (2, u "DIVIDE"), (2, u "$VALUES"), (0, u "[Lcom/example/slim_kripke/slimkripke/smv/TokenKind;"), (6, .class_ 196), (1, u "java/lang/Enum"), (8, u "spelling"), (0, u "Ljava/lang/String;"), (2, u "KEYWORDS"), (0, u "Ljava/util/Map;"), (12, u "RESERVED_OUTSIDE_SUBSET"), (0, u "Ljava/util/Set;"), (36, u "isWordStart"), (0, u "(I)Z"), (279, u "UNSUPPORTED_OPERATORS"), (0, u "Ljava/util/List;"), (77, u "OPERATORS")] 84

def k6c0 : Code := { maxStack := 2, maxLocals := 1, code := prog_90_method_5_code, exceptionTable := #[], attributes := #[] }
def k6m0 : Method := { name := "isWordStart", desc := "(I)Z", sig := { parameters := [.int], returnType := some .boolean }, accessFlags := 8, code := some k6c0 }
/-- com/example/slim_kripke/slimkripke/smv/TokenKind -/
def k6 : Class := { plain "com/example/slim_kripke/slimkripke/smv/TokenKind" (some 5) with
  accessFlags := 16432
  interfaces := #[]
  cf := some (fileOf pool6 1 #[] #[{ accessFlags := 8, nameIndex := 261, descriptorIndex := 262, attributes := #[] }] 16432 194 #[] #[{ accessFlags := 16409, nameIndex := 5, descriptorIndex := 6, attributes := #[] }, { accessFlags := 16409, nameIndex := 9, descriptorIndex := 6, attributes := #[] }, { accessFlags := 16409, nameIndex := 12, descriptorIndex := 6, attributes := #[] }, { accessFlags := 16409, nameIndex := 15, descriptorIndex := 6, attributes := #[] }, { accessFlags := 16409, nameIndex := 18, descriptorIndex := 6, attributes := #[] }, { accessFlags := 16409, nameIndex := 21, descriptorIndex := 6, attributes := #[] }, { accessFlags := 16409, nameIndex := 24, descriptorIndex := 6, attributes := #[] }, { accessFlags := 16409, nameIndex := 27, descriptorIndex := 6, attributes := #[] }, { accessFlags := 16409, nameIndex := 30, descriptorIndex := 6, attributes := #[] }, { accessFlags := 16409, nameIndex := 33, descriptorIndex := 6, attributes := #[] }, { accessFlags := 16409, nameIndex := 36, descriptorIndex := 6, attributes := #[] }, { accessFlags := 16409, nameIndex := 39, descriptorIndex := 6, attributes := #[] }, { accessFlags := 16409, nameIndex := 42, descriptorIndex := 6, attributes := #[] }, { accessFlags := 16409, nameIndex := 45, descriptorIndex := 6, attributes := #[] }, { accessFlags := 16409, nameIndex := 48, descriptorIndex := 6, attributes := #[] }, { accessFlags := 16409, nameIndex := 51, descriptorIndex := 6, attributes := #[] }, { accessFlags := 16409, nameIndex := 54, descriptorIndex := 6, attributes := #[] }, { accessFlags := 16409, nameIndex := 57, descriptorIndex := 6, attributes := #[] }, { accessFlags := 16409, nameIndex := 60, descriptorIndex := 6, attributes := #[] }, { accessFlags := 16409, nameIndex := 63, descriptorIndex := 6, attributes := #[] }, { accessFlags := 16409, nameIndex := 66, descriptorIndex := 6, attributes := #[] }, { accessFlags := 16409, nameIndex := 69, descriptorIndex := 6, attributes := #[] }, { accessFlags := 16409, nameIndex := 72, descriptorIndex := 6, attributes := #[] }, { accessFlags := 16409, nameIndex := 75, descriptorIndex := 6, attributes := #[] }, { accessFlags := 16409, nameIndex := 78, descriptorIndex := 6, attributes := #[] }, { accessFlags := 16409, nameIndex := 81, descriptorIndex := 6, attributes := #[] }, { accessFlags := 16409, nameIndex := 84, descriptorIndex := 6, attributes := #[] }, { accessFlags := 16409, nameIndex := 87, descriptorIndex := 6, attributes := #[] }, { accessFlags := 16409, nameIndex := 90, descriptorIndex := 6, attributes := #[] }, { accessFlags := 16409, nameIndex := 93, descriptorIndex := 6, attributes := #[] }, { accessFlags := 16409, nameIndex := 96, descriptorIndex := 6, attributes := #[] }, { accessFlags := 16409, nameIndex := 99, descriptorIndex := 6, attributes := #[] }, { accessFlags := 16409, nameIndex := 102, descriptorIndex := 6, attributes := #[] }, { accessFlags := 16409, nameIndex := 105, descriptorIndex := 6, attributes := #[] }, { accessFlags := 16409, nameIndex := 108, descriptorIndex := 6, attributes := #[] }, { accessFlags := 16409, nameIndex := 111, descriptorIndex := 6, attributes := #[] }, { accessFlags := 16409, nameIndex := 114, descriptorIndex := 6, attributes := #[] }, { accessFlags := 16409, nameIndex := 117, descriptorIndex := 6, attributes := #[] }, { accessFlags := 16409, nameIndex := 120, descriptorIndex := 6, attributes := #[] }, { accessFlags := 16409, nameIndex := 123, descriptorIndex := 6, attributes := #[] }, { accessFlags := 16409, nameIndex := 126, descriptorIndex := 6, attributes := #[] }, { accessFlags := 16409, nameIndex := 129, descriptorIndex := 6, attributes := #[] }, { accessFlags := 16409, nameIndex := 132, descriptorIndex := 6, attributes := #[] }, { accessFlags := 16409, nameIndex := 135, descriptorIndex := 6, attributes := #[] }, { accessFlags := 16409, nameIndex := 138, descriptorIndex := 6, attributes := #[] }, { accessFlags := 16409, nameIndex := 141, descriptorIndex := 6, attributes := #[] }, { accessFlags := 16409, nameIndex := 144, descriptorIndex := 6, attributes := #[] }, { accessFlags := 16409, nameIndex := 147, descriptorIndex := 6, attributes := #[] }, { accessFlags := 16409, nameIndex := 150, descriptorIndex := 6, attributes := #[] }, { accessFlags := 16409, nameIndex := 153, descriptorIndex := 6, attributes := #[] }, { accessFlags := 16409, nameIndex := 156, descriptorIndex := 6, attributes := #[] }, { accessFlags := 16409, nameIndex := 159, descriptorIndex := 6, attributes := #[] }, { accessFlags := 16409, nameIndex := 162, descriptorIndex := 6, attributes := #[] }, { accessFlags := 16409, nameIndex := 165, descriptorIndex := 6, attributes := #[] }, { accessFlags := 16409, nameIndex := 168, descriptorIndex := 6, attributes := #[] }, { accessFlags := 16409, nameIndex := 171, descriptorIndex := 6, attributes := #[] }, { accessFlags := 16409, nameIndex := 174, descriptorIndex := 6, attributes := #[] }, { accessFlags := 16409, nameIndex := 177, descriptorIndex := 6, attributes := #[] }, { accessFlags := 16409, nameIndex := 180, descriptorIndex := 6, attributes := #[] }, { accessFlags := 16409, nameIndex := 183, descriptorIndex := 6, attributes := #[] }, { accessFlags := 26, nameIndex := 223, descriptorIndex := 224, attributes := #[] }, { accessFlags := 26, nameIndex := 542, descriptorIndex := 543, attributes := #[] }, { accessFlags := 26, nameIndex := 209, descriptorIndex := 210, attributes := #[] }, { accessFlags := 24, nameIndex := 621, descriptorIndex := 543, attributes := #[] }, { accessFlags := 18, nameIndex := 205, descriptorIndex := 206, attributes := #[] }, { accessFlags := 4122, nameIndex := 186, descriptorIndex := 187, attributes := #[] }])
  fields := #[{ name := "IDENTIFIER", type := (.object "com/example/slim_kripke/slimkripke/smv/TokenKind"), accessFlags := 16409, slot := 0, constantValue := 0 }, { name := "INTEGER", type := (.object "com/example/slim_kripke/slimkripke/smv/TokenKind"), accessFlags := 16409, slot := 1, constantValue := 0 }, { name := "UNSUPPORTED", type := (.object "com/example/slim_kripke/slimkripke/smv/TokenKind"), accessFlags := 16409, slot := 2, constantValue := 0 }, { name := "END", type := (.object "com/example/slim_kripke/slimkripke/smv/TokenKind"), accessFlags := 16409, slot := 3, constantValue := 0 }, { name := "MODULE", type := (.object "com/example/slim_kripke/slimkripke/smv/TokenKind"), accessFlags := 16409, slot := 4, constantValue := 0 }, { name := "VAR", type := (.object "com/example/slim_kripke/slimkripke/smv/TokenKind"), accessFlags := 16409, slot := 5, constantValue := 0 }, { name := "ASSIGN", type := (.object "com/example/slim_kripke/slimkripke/smv/TokenKind"), accessFlags := 16409, slot := 6, constantValue := 0 }, { name := "DEFINE", type := (.object "com/example/slim_kripke/slimkripke/smv/TokenKind"), accessFlags := 16409, slot := 7, constantValue := 0 }, { name := "INIT_SECTION", type := (.object "com/example/slim_kripke/slimkripke/smv/TokenKind"), accessFlags := 16409, slot := 8, constantValue := 0 }, { name := "TRANS", type := (.object "com/example/slim_kripke/slimkripke/smv/TokenKind"), accessFlags := 16409, slot := 9, constantValue := 0 }, { name := "SPEC", type := (.object "com/example/slim_kripke/slimkripke/smv/TokenKind"), accessFlags := 16409, slot := 10, constantValue := 0 }, { name := "CTLSPEC", type := (.object "com/example/slim_kripke/slimkripke/smv/TokenKind"), accessFlags := 16409, slot := 11, constantValue := 0 }, { name := "BOOLEAN", type := (.object "com/example/slim_kripke/slimkripke/smv/TokenKind"), accessFlags := 16409, slot := 12, constantValue := 0 }, { name := "INTEGER_TYPE", type := (.object "com/example/slim_kripke/slimkripke/smv/TokenKind"), accessFlags := 16409, slot := 13, constantValue := 0 }, { name := "INIT", type := (.object "com/example/slim_kripke/slimkripke/smv/TokenKind"), accessFlags := 16409, slot := 14, constantValue := 0 }, { name := "NEXT", type := (.object "com/example/slim_kripke/slimkripke/smv/TokenKind"), accessFlags := 16409, slot := 15, constantValue := 0 }, { name := "CASE", type := (.object "com/example/slim_kripke/slimkripke/smv/TokenKind"), accessFlags := 16409, slot := 16, constantValue := 0 }, { name := "ESAC", type := (.object "com/example/slim_kripke/slimkripke/smv/TokenKind"), accessFlags := 16409, slot := 17, constantValue := 0 }, { name := "TRUE", type := (.object "com/example/slim_kripke/slimkripke/smv/TokenKind"), accessFlags := 16409, slot := 18, constantValue := 0 }, { name := "FALSE", type := (.object "com/example/slim_kripke/slimkripke/smv/TokenKind"), accessFlags := 16409, slot := 19, constantValue := 0 }, { name := "MOD", type := (.object "com/example/slim_kripke/slimkripke/smv/TokenKind"), accessFlags := 16409, slot := 20, constantValue := 0 }, { name := "UNION", type := (.object "com/example/slim_kripke/slimkripke/smv/TokenKind"), accessFlags := 16409, slot := 21, constantValue := 0 }, { name := "XOR", type := (.object "com/example/slim_kripke/slimkripke/smv/TokenKind"), accessFlags := 16409, slot := 22, constantValue := 0 }, { name := "XNOR", type := (.object "com/example/slim_kripke/slimkripke/smv/TokenKind"), accessFlags := 16409, slot := 23, constantValue := 0 }, { name := "EX", type := (.object "com/example/slim_kripke/slimkripke/smv/TokenKind"), accessFlags := 16409, slot := 24, constantValue := 0 }, { name := "AX", type := (.object "com/example/slim_kripke/slimkripke/smv/TokenKind"), accessFlags := 16409, slot := 25, constantValue := 0 }, { name := "EF", type := (.object "com/example/slim_kripke/slimkripke/smv/TokenKind"), accessFlags := 16409, slot := 26, constantValue := 0 }, { name := "AF", type := (.object "com/example/slim_kripke/slimkripke/smv/TokenKind"), accessFlags := 16409, slot := 27, constantValue := 0 }, { name := "EG", type := (.object "com/example/slim_kripke/slimkripke/smv/TokenKind"), accessFlags := 16409, slot := 28, constantValue := 0 }, { name := "AG", type := (.object "com/example/slim_kripke/slimkripke/smv/TokenKind"), accessFlags := 16409, slot := 29, constantValue := 0 }, { name := "E", type := (.object "com/example/slim_kripke/slimkripke/smv/TokenKind"), accessFlags := 16409, slot := 30, constantValue := 0 }, { name := "A", type := (.object "com/example/slim_kripke/slimkripke/smv/TokenKind"), accessFlags := 16409, slot := 31, constantValue := 0 }, { name := "U", type := (.object "com/example/slim_kripke/slimkripke/smv/TokenKind"), accessFlags := 16409, slot := 32, constantValue := 0 }, { name := "LEFT_PAREN", type := (.object "com/example/slim_kripke/slimkripke/smv/TokenKind"), accessFlags := 16409, slot := 33, constantValue := 0 }, { name := "RIGHT_PAREN", type := (.object "com/example/slim_kripke/slimkripke/smv/TokenKind"), accessFlags := 16409, slot := 34, constantValue := 0 }, { name := "LEFT_BRACE", type := (.object "com/example/slim_kripke/slimkripke/smv/TokenKind"), accessFlags := 16409, slot := 35, constantValue := 0 }, { name := "RIGHT_BRACE", type := (.object "com/example/slim_kripke/slimkripke/smv/TokenKind"), accessFlags := 16409, slot := 36, constantValue := 0 }, { name := "LEFT_BRACKET", type := (.object "com/example/slim_kripke/slimkripke/smv/TokenKind"), accessFlags := 16409, slot := 37, constantValue := 0 }, { name := "RIGHT_BRACKET", type := (.object "com/example/slim_kripke/slimkripke/smv/TokenKind"), accessFlags := 16409, slot := 38, constantValue := 0 }, { name := "COLON", type := (.object "com/example/slim_kripke/slimkripke/smv/TokenKind"), accessFlags := 16409, slot := 39, constantValue := 0 }, { name := "SEMICOLON", type := (.object "com/example/slim_kripke/slimkripke/smv/TokenKind"), accessFlags := 16409, slot := 40, constantValue := 0 }, { name := "COMMA", type := (.object "com/example/slim_kripke/slimkripke/smv/TokenKind"), accessFlags := 16409, slot := 41, constantValue := 0 }, { name := "BECOMES", type := (.object "com/example/slim_kripke/slimkripke/smv/TokenKind"), accessFlags := 16409, slot := 42, constantValue := 0 }, { name := "DOT_DOT", type := (.object "com/example/slim_kripke/slimkripke/smv/TokenKind"), accessFlags := 16409, slot := 43, constantValue := 0 }, { name := "DOT", type := (.object "com/example/slim_kripke/slimkripke/smv/TokenKind"), accessFlags := 16409, slot := 44, constantValue := 0 }, { name := "NOT", type := (.object "com/example/slim_kripke/slimkripke/smv/TokenKind"), accessFlags := 16409, slot := 45, constantValue := 0 }, { name := "AND", type := (.object "com/example/slim_kripke/slimkripke/smv/TokenKind"), accessFlags := 16409, slot := 46, constantValue := 0 }, { name := "OR", type := (.object "com/example/slim_kripke/slimkripke/smv/TokenKind"), accessFlags := 16409, slot := 47, constantValue := 0 }, { name := "IMPLIES", type := (.object "com/example/slim_kripke/slimkripke/smv/TokenKind"), accessFlags := 16409, slot := 48, constantValue := 0 }, { name := "IFF", type := (.object "com/example/slim_kripke/slimkripke/smv/TokenKind"), accessFlags := 16409, slot := 49, constantValue := 0 }, { name := "EQUAL", type := (.object "com/example/slim_kripke/slimkripke/smv/TokenKind"), accessFlags := 16409, slot := 50, constantValue := 0 }, { name := "NOT_EQUAL", type := (.object "com/example/slim_kripke/slimkripke/smv/TokenKind"), accessFlags := 16409, slot := 51, constantValue := 0 }, { name := "LESS", type := (.object "com/example/slim_kripke/slimkripke/smv/TokenKind"), accessFlags := 16409, slot := 52, constantValue := 0 }, { name := "GREATER", type := (.object "com/example/slim_kripke/slimkripke/smv/TokenKind"), accessFlags := 16409, slot := 53, constantValue := 0 }, { name := "LESS_EQUAL", type := (.object "com/example/slim_kripke/slimkripke/smv/TokenKind"), accessFlags := 16409, slot := 54, constantValue := 0 }, { name := "GREATER_EQUAL", type := (.object "com/example/slim_kripke/slimkripke/smv/TokenKind"), accessFlags := 16409, slot := 55, constantValue := 0 }, { name := "PLUS", type := (.object "com/example/slim_kripke/slimkripke/smv/TokenKind"), accessFlags := 16409, slot := 56, constantValue := 0 }, { name := "MINUS", type := (.object "com/example/slim_kripke/slimkripke/smv/TokenKind"), accessFlags := 16409, slot := 57, constantValue := 0 }, { name := "TIMES", type := (.object "com/example/slim_kripke/slimkripke/smv/TokenKind"), accessFlags := 16409, slot := 58, constantValue := 0 }, { name := "DIVIDE", type := (.object "com/example/slim_kripke/slimkripke/smv/TokenKind"), accessFlags := 16409, slot := 59, constantValue := 0 }, { name := "RESERVED_OUTSIDE_SUBSET", type := (.object "java/util/Set"), accessFlags := 26, slot := 60, constantValue := 0 }, { name := "UNSUPPORTED_OPERATORS", type := (.object "java/util/List"), accessFlags := 26, slot := 61, constantValue := 0 }, { name := "KEYWORDS", type := (.object "java/util/Map"), accessFlags := 26, slot := 62, constantValue := 0 }, { name := "OPERATORS", type := (.object "java/util/List"), accessFlags := 24, slot := 63, constantValue := 0 }, { name := "spelling", type := (.object "java/lang/String"), accessFlags := 18, slot := 3, constantValue := 0 }, { name := "$VALUES", type := (.array (.object "com/example/slim_kripke/slimkripke/smv/TokenKind")), accessFlags := 4122, slot := 64, constantValue := 0 }]
  methods := #[k6m0]
  instanceTypes := #[(.object "java/lang/String"), .int, .int, (.object "java/lang/String")]
  staticTypes := #[(.object "com/example/slim_kripke/slimkripke/smv/TokenKind"), (.object "com/example/slim_kripke/slimkripke/smv/TokenKind"), (.object "com/example/slim_kripke/slimkripke/smv/TokenKind"), (.object "com/example/slim_kripke/slimkripke/smv/TokenKind"), (.object "com/example/slim_kripke/slimkripke/smv/TokenKind"), (.object "com/example/slim_kripke/slimkripke/smv/TokenKind"), (.object "com/example/slim_kripke/slimkripke/smv/TokenKind"), (.object "com/example/slim_kripke/slimkripke/smv/TokenKind"), (.object "com/example/slim_kripke/slimkripke/smv/TokenKind"), (.object "com/example/slim_kripke/slimkripke/smv/TokenKind"), (.object "com/example/slim_kripke/slimkripke/smv/TokenKind"), (.object "com/example/slim_kripke/slimkripke/smv/TokenKind"), (.object "com/example/slim_kripke/slimkripke/smv/TokenKind"), (.object "com/example/slim_kripke/slimkripke/smv/TokenKind"), (.object "com/example/slim_kripke/slimkripke/smv/TokenKind"), (.object "com/example/slim_kripke/slimkripke/smv/TokenKind"), (.object "com/example/slim_kripke/slimkripke/smv/TokenKind"), (.object "com/example/slim_kripke/slimkripke/smv/TokenKind"), (.object "com/example/slim_kripke/slimkripke/smv/TokenKind"), (.object "com/example/slim_kripke/slimkripke/smv/TokenKind"), (.object "com/example/slim_kripke/slimkripke/smv/TokenKind"), (.object "com/example/slim_kripke/slimkripke/smv/TokenKind"), (.object "com/example/slim_kripke/slimkripke/smv/TokenKind"), (.object "com/example/slim_kripke/slimkripke/smv/TokenKind"), (.object "com/example/slim_kripke/slimkripke/smv/TokenKind"), (.object "com/example/slim_kripke/slimkripke/smv/TokenKind"), (.object "com/example/slim_kripke/slimkripke/smv/TokenKind"), (.object "com/example/slim_kripke/slimkripke/smv/TokenKind"), (.object "com/example/slim_kripke/slimkripke/smv/TokenKind"), (.object "com/example/slim_kripke/slimkripke/smv/TokenKind"), (.object "com/example/slim_kripke/slimkripke/smv/TokenKind"), (.object "com/example/slim_kripke/slimkripke/smv/TokenKind"), (.object "com/example/slim_kripke/slimkripke/smv/TokenKind"), (.object "com/example/slim_kripke/slimkripke/smv/TokenKind"), (.object "com/example/slim_kripke/slimkripke/smv/TokenKind"), (.object "com/example/slim_kripke/slimkripke/smv/TokenKind"), (.object "com/example/slim_kripke/slimkripke/smv/TokenKind"), (.object "com/example/slim_kripke/slimkripke/smv/TokenKind"), (.object "com/example/slim_kripke/slimkripke/smv/TokenKind"), (.object "com/example/slim_kripke/slimkripke/smv/TokenKind"), (.object "com/example/slim_kripke/slimkripke/smv/TokenKind"), (.object "com/example/slim_kripke/slimkripke/smv/TokenKind"), (.object "com/example/slim_kripke/slimkripke/smv/TokenKind"), (.object "com/example/slim_kripke/slimkripke/smv/TokenKind"), (.object "com/example/slim_kripke/slimkripke/smv/TokenKind"), (.object "com/example/slim_kripke/slimkripke/smv/TokenKind"), (.object "com/example/slim_kripke/slimkripke/smv/TokenKind"), (.object "com/example/slim_kripke/slimkripke/smv/TokenKind"), (.object "com/example/slim_kripke/slimkripke/smv/TokenKind"), (.object "com/example/slim_kripke/slimkripke/smv/TokenKind"), (.object "com/example/slim_kripke/slimkripke/smv/TokenKind"), (.object "com/example/slim_kripke/slimkripke/smv/TokenKind"), (.object "com/example/slim_kripke/slimkripke/smv/TokenKind"), (.object "com/example/slim_kripke/slimkripke/smv/TokenKind"), (.object "com/example/slim_kripke/slimkripke/smv/TokenKind"), (.object "com/example/slim_kripke/slimkripke/smv/TokenKind"), (.object "com/example/slim_kripke/slimkripke/smv/TokenKind"), (.object "com/example/slim_kripke/slimkripke/smv/TokenKind"), (.object "com/example/slim_kripke/slimkripke/smv/TokenKind"), (.object "com/example/slim_kripke/slimkripke/smv/TokenKind"), (.object "java/util/Set"), (.object "java/util/List"), (.object "java/util/Map"), (.object "java/util/List"), (.array (.object "com/example/slim_kripke/slimkripke/smv/TokenKind"))]
  resolved := Array.replicate 706 none
  statics := none }

def pool7 : Array CpInfo := pool [(1, u "java/lang/Cloneable"), (0, .class_ 1), (0, u "java/lang/Object"), (0, .class_ 3)] 3

/-- java/lang/Cloneable -/
def k7 : Class := { plain "java/lang/Cloneable" (some 0) with
  accessFlags := 1537
  interfaces := #[]
  cf := some (fileOf pool7 2 #[] #[] 1537 4 #[] #[])
  fields := #[]
  methods := #[]
  instanceTypes := #[]
  staticTypes := #[]
  resolved := Array.replicate 8 none
  statics := none }

/-- the primitive byte -/
def k8 : Class := { plain "byte" none with kind := .primitive 'B', accessFlags := 0x411 }
/-- [B -/
def k9 : Class := { plain "[B" (some 0) with kind := .array 8 .byte, interfaces := #[7, 4], accessFlags := 1041 }

def heap : Heap := #[]
def classes : Array Class := #[k0, k1, k2, k3, k4, k5, k6, k7, k8, k9]
def interned : List (Array UInt16 × Addr) := []
def slotsUsed : Nat := 0
def theMethod : MethodId := ⟨1, 2⟩
def args0 : Array Value := #[.int 5, .int 7]
def aboutOver (below : List Frame) : State where
  vm := { classes := classes, interned := interned.toArray }
  heap := heap
  slotsUsed := slotsUsed
  threads := #[{ frames := .invoking theMethod args0 :: below }]
def below0 : List Frame := [.native { method := ⟨0, 0⟩, args := #[] }]
def about1 : State := aboutOver below0
def p0 : Program := .bare "" "" ""
def e0 : Env := launch0.env 0 0 0
theorem w_frames : about1.frames = Frame.invoking theMethod args0 :: below0 := rfl
set_option maxRecDepth 65536 in
theorem w_args : argsFit about1.vm theMethod args0 = true := by decide +kernel
set_option maxRecDepth 65536 in
theorem w_heap : heapFits about1 = true := by decide +kernel
set_option maxRecDepth 65536 in
theorem w_runnable : about1.curStatus? = some .runnable := by decide +kernel
set_option maxRecDepth 65536 in
theorem w_alone : about1.alone = true := by decide +kernel
set_option maxRecDepth 65536 in
theorem w_named : about1.methodNamed? x = some theMethod := by decide +kernel
set_option maxRecDepth 65536 in
theorem w_hears : about1.hears theMethod below0 = true := by decide +kernel
set_option maxRecDepth 65536 in
theorem w_ripe : about1.ripe theMethod args0 below0 = true := by decide +kernel
theorem w_running : about1.status = .running := rfl
set_option maxRecDepth 65536 in
theorem w_room : about1.hasRoom e0.platform room_1 = true :=
  launch0.hasRoom_least _ room_1 (by decide +kernel) (by decide +kernel) (by decide +kernel) (by decide +kernel) (by decide +kernel) (by decide +kernel)
theorem allAtoms_all (ts : List Jvm.Cond) (a : Array Jvm.Value) (st : Jvm.State) : (allAtoms ts).before a st = ts.all (fun c => c.before a st) := by
  induction ts with
  | nil => rfl
  | cons c t ih =>
    show (Jvm.Cond.and c (allAtoms t)).before a st = _
    rw [Jvm.Cond.before_and, ih, List.all_cons]
def words1 : List Jvm.Cond := Jvm.Cond.code x code maxLocals ret :: tables_1
/-- a 'code' word, met by the world's own term for the bytes: nothing is compared byte by byte -/
theorem code_word {y : MethodName} {bytes : ByteArray} {mx : Nat} {rt : Option FieldType} {a : Array Value} {s : State} {m : MethodId} {meth : Method} {c : Code} (h1 : s.methodNamed? y = some m) (h2 : s.vm.method? m = some meth) (h3 : meth.code = some c) (h4 : c.code = bytes)
    (h5 : (c.maxLocals == mx && c.exceptionTable.isEmpty && decide (c.maxStack ≤ mostOperands) && decide (meth.sig.returnType = rt) && !meth.locks && decide (parseMethodDescriptor y.desc = some meth.sig)) = true) : (Jvm.Cond.code y bytes mx rt).before a s = true := by
  simp only [Bool.and_eq_true, beq_iff_eq, Bool.not_eq_true', decide_eq_true_eq] at h5
  obtain ⟨⟨⟨⟨⟨g1, g2⟩, g3⟩, g4⟩, g5⟩, g6⟩ := h5
  simp [Cond.before, Cond.holds, Cond.value, h1, h2, h3, h4, g1, g2, g3, g4, g5, g6]
def isCode : Jvm.Cond → Bool
  | .code _ _ _ _ => true
  | _ => false
theorem all_split {L : List Jvm.Cond} {P : Jvm.Cond → Bool} (h1 : L.all (fun c => isCode c || P c) = true) (h2 : ∀ c ∈ L.filter isCode, P c = true) : L.all P = true := by
  refine List.all_eq_true.mpr fun c hc => ?_
  have h := List.all_eq_true.mp h1 c hc
  rcases Bool.eq_false_or_eq_true (isCode c) with hi | hi
  · exact h2 c (List.mem_filter.mpr ⟨hc, hi⟩)
  · simpa [hi] using h
set_option maxRecDepth 65536 in
theorem w_c0 : (Jvm.Cond.code x code maxLocals ret).before args0 about1 = true := code_word (m := ⟨1, 2⟩) (meth := k1m2) (c := k1c2) (by decide +kernel) rfl rfl rfl (by decide +kernel)
set_option maxRecDepth 65536 in
theorem w_c1 : (Jvm.Cond.code ({ cls := "com/example/slim_kripke/slimkripke/smv/TokenKind", name := "isWordStart", desc := "(I)Z" } : Jvm.MethodName) prog_90_method_5_code (1 : Nat) (Option.some Jvm.ClassFile.FieldType.boolean)).before args0 about1 = true := code_word (m := ⟨6, 0⟩) (meth := k6m0) (c := k6c0) (by decide +kernel) rfl rfl rfl (by decide +kernel)
set_option maxRecDepth 65536 in
theorem w_c2 : (Jvm.Cond.code ({ cls := "com/example/slim_kripke/slimkripke/smv/TokenKindIsWordStartPinLaw", name := "reference", desc := "(I)Z" } : Jvm.MethodName) method_2_code (3 : Nat) (Option.some Jvm.ClassFile.FieldType.boolean)).before args0 about1 = true := code_word (m := ⟨1, 1⟩) (meth := k1m1) (c := k1c1) (by decide +kernel) rfl rfl rfl (by decide +kernel)
def codes1 : List Jvm.Cond := [Jvm.Cond.code x code maxLocals ret, Jvm.Cond.code ({ cls := "com/example/slim_kripke/slimkripke/smv/TokenKind", name := "isWordStart", desc := "(I)Z" } : Jvm.MethodName) prog_90_method_5_code (1 : Nat) (Option.some Jvm.ClassFile.FieldType.boolean), Jvm.Cond.code ({ cls := "com/example/slim_kripke/slimkripke/smv/TokenKindIsWordStartPinLaw", name := "reference", desc := "(I)Z" } : Jvm.MethodName) method_2_code (3 : Nat) (Option.some Jvm.ClassFile.FieldType.boolean)]
set_option maxRecDepth 65536 in
theorem codes_eq : words1.filter isCode = codes1 := rfl
theorem w_codes : ∀ c ∈ words1.filter isCode, c.before args0 about1 = true := by
  rw [codes_eq]
  intro c hc
  simp only [codes1, List.mem_cons, List.not_mem_nil, or_false] at hc
  rcases hc with rfl | rfl | rfl
  · exact w_c0
  · exact w_c1
  · exact w_c2
set_option maxRecDepth 65536 in
theorem w_t1 : words1.all (fun c => isCode c || c.before args0 about1) = true := by decide +kernel
theorem w_tables : (allAtoms (Jvm.Cond.code x code maxLocals ret :: tables_1)).before args0 about1 = true := by
  rw [allAtoms_all]
  show words1.all (fun c => c.before args0 about1) = true
  refine all_split ?_ w_codes
  rw [w_t1]
set_option maxRecDepth 65536 in
theorem w_case : (Jvm.Cond.and given_1 narrow_1).before args0 about1 = true := by decide +kernel
theorem w_applies : (headSpec (Jvm.Cond.code x code maxLocals ret :: tables_1) room_1).applies x e0.platform about1 = true :=
  (Spec.applies_iff w_frames).mpr ⟨w_running, w_runnable, w_alone, w_named, w_hears, w_ripe, w_room, w_tables⟩
theorem atStart : AtStart classFile x code maxLocals ret World_1 tables_1 room_1 Calls_1 rest_1 Pre_1 launch0 p0 e0 about1 theMethod args0 below0 :=
  ⟨lists_1, trivial, launch0.admits_env _ _ _, launch0.least_env, fairChoices_fair.cas, fairChoices_fair.clock, w_frames, w_args, w_heap, w_applies, trivial, trivial, w_case⟩
end start1
theorem witness_1 : WitnessClaimed_1 := ⟨start1.p0, start1.e0, start1.about1, start1.theMethod, start1.args0, start1.below0, start1.atStart⟩
end Jvm.Pilot.@@N@@
