import JvmDerived
import JvmDerived.Pilot.@@N@@Statement
import JvmDerived.Pilot.@@N@@Code
set_option linter.unusedVariables false
set_option linter.unusedSimpArgs false
namespace Jvm.RoadKit
open Sem ClassFile Op Lib Jvm.Stand Jvm.Free Jvm.LawKit
section New
variable {p : Program} {l : Launch} {e : Env} {R : Room} {s : State} {m : MethodId} {args : Array Value} {below : List Frame} {meth : Method} {c : Code} {T : State} {locs : List Loc} {cells slots : Nat}
theorem retI (X : Stand p l e R s m args below meth c T locs cells slots) (hx : p.tables.exec = Jvm.exec) {pc : Nat} {Ls : Array Slot} {z : Int32} {rest : List Value} (hret : meth.sig.returnType = some .int) (hd : decode c.code pc = .ok (.ireturn, 1)) {fs : List Frame}
    (hl : ∀ (f : JFrame) (acts : List Action), f.method = m → f.locked = none → f.entered = [] → (doReturn e (T.setTop f) acts (some (.int z))).1 = T.setFrames fs) : Steps p.tables e below (T.setTop (mkF m pc Ls (.int z :: rest))) (T.setFrames fs) := by
  have hm' : T.vm.method? m = some meth := X.method'
  have hn : narrow .int (.int z) = .int z := rfl
  show Steps p.tables e below (T.setTop { method := m, pc := pc, locals := Ls, stack := _ :: rest, locked := none }) _
  jvm_step X.here [X.here.top, hx, hd, hm', hret, hn]
  first | (intro acts; rw [hl _ acts rfl rfl rfl]) | rw [hl _ _ rfl rfl rfl]
  exact Steps.refl _
end New
end Jvm.RoadKit
namespace Jvm.Pilot.@@N@@
open Jvm Jvm.ClassFile Sem Op Lib Jvm.Free Jvm.Stand Jvm.LawKit Jvm.RoadKit Bundle Jvm.Pilot.@@N@@.Jvm.D
def QP (w : Option Value) (h0 : Heap) (n0 : Nat) (v : Option Value) (h : Heap) (L : List Loc) : Prop := v = w ∧ Fr n0 L ∧ h = h0
def QL (w : Option Value) (n0 : Nat) (v : Option Value) (h : Heap) (L : List Loc) : Prop := v = w ∧ Fr n0 L ∧ True
theorem d1_0 : decode prog_27_method_9_code 0 = .ok (.lload_n 0, 1) := by decide +kernel
theorem d1_1 : decode prog_27_method_9_code 1 = .ok (.lload 8, 2) := by decide +kernel
theorem d1_3 : decode prog_27_method_9_code 3 = .ok (.lneg, 1) := by decide +kernel
theorem d1_4 : decode prog_27_method_9_code 4 = .ok (.lcmp, 1) := by decide +kernel
theorem d1_5 : decode prog_27_method_9_code 5 = .ok (.ifCond .lt 35, 3) := by decide +kernel
theorem d1_8 : decode prog_27_method_9_code 8 = .ok (.lload_n 0, 1) := by decide +kernel
theorem d1_9 : decode prog_27_method_9_code 9 = .ok (.lload 4, 2) := by decide +kernel
theorem d1_11 : decode prog_27_method_9_code 11 = .ok (.lload 8, 2) := by decide +kernel
theorem d1_13 : decode prog_27_method_9_code 13 = .ok (.ladd, 1) := by decide +kernel
theorem d1_14 : decode prog_27_method_9_code 14 = .ok (.lcmp, 1) := by decide +kernel
theorem d1_15 : decode prog_27_method_9_code 15 = .ok (.ifCond .ge 25, 3) := by decide +kernel
theorem d1_18 : decode prog_27_method_9_code 18 = .ok (.lload_n 2, 1) := by decide +kernel
theorem d1_19 : decode prog_27_method_9_code 19 = .ok (.lload 8, 2) := by decide +kernel
theorem d1_21 : decode prog_27_method_9_code 21 = .ok (.lneg, 1) := by decide +kernel
theorem d1_22 : decode prog_27_method_9_code 22 = .ok (.lcmp, 1) := by decide +kernel
theorem d1_23 : decode prog_27_method_9_code 23 = .ok (.ifCond .lt 17, 3) := by decide +kernel
theorem d1_26 : decode prog_27_method_9_code 26 = .ok (.lload_n 2, 1) := by decide +kernel
theorem d1_27 : decode prog_27_method_9_code 27 = .ok (.lload 6, 2) := by decide +kernel
theorem d1_29 : decode prog_27_method_9_code 29 = .ok (.lload 8, 2) := by decide +kernel
theorem d1_31 : decode prog_27_method_9_code 31 = .ok (.ladd, 1) := by decide +kernel
theorem d1_32 : decode prog_27_method_9_code 32 = .ok (.lcmp, 1) := by decide +kernel
theorem d1_33 : decode prog_27_method_9_code 33 = .ok (.ifCond .ge 7, 3) := by decide +kernel
theorem d1_36 : decode prog_27_method_9_code 36 = .ok (.iconst 1, 1) := by decide +kernel
theorem d1_37 : decode prog_27_method_9_code 37 = .ok (.goto 4, 3) := by decide +kernel
theorem d1_40 : decode prog_27_method_9_code 40 = .ok (.iconst 0, 1) := by decide +kernel
theorem d1_41 : decode prog_27_method_9_code 41 = .ok (.ireturn, 1) := by decide +kernel
theorem pn_1 : plainName "com/example/touchfall/touchfall/Node" = true := by first | (simp [plainName, overriddenIn]; done) | decide +kernel
theorem ef_1 (m : MethodId) (x0 : Int64) (x1 : Int64) (x2 : Int64) (x3 : Int64) (x4 : Int64) : entryFrame m #[(.long x0), (.long x1), (.long x2), (.long x3), (.long x4)] 10 = mkF m 0 #[.val (.long x0), .second, .val (.long x1), .second, .val (.long x2), .second, .val (.long x3), .second, .val (.long x4), .second] [] := by first | (simp [entryFrame, mkF, argsToLocals, Value.category]; done) | rfl
def f1 (q0 : Int64) (q1 : Int64) (q2 : Int64) (q3 : Int64) (q4 : Int64) : Int32 := (if q0 < (-q4) then (0 : Int32) else (if q0 < (q2 + q4) then (if q1 < (-q4) then (0 : Int32) else (if q1 < (q3 + q4) then (1 : Int32) else (0 : Int32))) else (0 : Int32)))
set_option maxRecDepth 65536 in
set_option maxHeartbeats 40000000 in
theorem rm1 (l : Launch) (Z : State) (a0 : Array Value) (hw : ∀ d ∈ tables_1, d.before a0 Z = true) (ws : List Jvm.Cond) (q0 : Int64) (q1 : Int64) (q2 : Int64) (q3 : Int64) (q4 : Int64) (h0 : Heap) (n0 : Nat) (Z0 : n0 ≤ h0.size) :
    MetFree l (⟨"com/example/touchfall/touchfall/Node", "isInBox", "(JJJJJ)Z"⟩ : MethodName) (head1 (Jvm.Cond.code (⟨"com/example/touchfall/touchfall/Node", "isInBox", "(JJJJJ)Z"⟩ : MethodName) prog_27_method_9_code 10 (some .boolean) :: ws) ({ frames := 0, cells := 0, slots := 0, locals := 0 } : Room)) (fun a U => a = #[(.long q0), (.long q1), (.long q2), (.long q3), (.long q4)] ∧ Z.Warmed39 U.vm ∧ U.heap = h0) (fun _ _ _ _ _ => True) (fun _ U o U' => ∃ v L, o = .returned v ∧ QP (some (.int (f1 q0 q1 q2 q3 q4))) h0 n0 v U'.heap L ∧ FrameEnd U o U' L ({ frames := 0, cells := 0, slots := 0, locals := 0 } : Room).cells ({ frames := 0, cells := 0, slots := 0, locals := 0 } : Room).slots) := by
  refine MetFree.of_bodySF (plainFor_of_name pn_1) hisR ?_
  intro p e s m args below meth c s₁ Bd hml0 hP hK
  obtain ⟨rfl, hZ, hh⟩ := hP
  have hx := Bd.exec
  have hby := Bd.bytes
  have hml : c.maxLocals = 10 := hml0
  have hown : s.vm.findClass "com/example/touchfall/touchfall/Node" = some m.cls := findClass_of_methodNamed Bd.named
  have hnm := (name_of_methodNamed Bd.named Bd.method).1
  have X0 : Stand p l e ({ frames := 0, cells := 0, slots := 0, locals := 0 } : Room) s m #[(.long q0), (.long q1), (.long q2), (.long q3), (.long q4)] below meth c s₁ [] 0 0 := Stand.of_body Bd
  have e0 : s₁.heap = h0 := by rw [← hh, Bd.state]; rfl
  have N0 := Fr.nil n0
  have K0 : Keep h0 h0 [] := Keep.refl _ _
  have pre0 : ∀ t, Steps p.tables e below (s₁.setTop (mkF m 0 #[.val (.long q0), .second, .val (.long q1), .second, .val (.long q2), .second, .val (.long q3), .second, .val (.long q4), .second] [])) t → Steps p.tables e below (s₁.setTop (entryFrame m #[(.long q0), (.long q1), (.long q2), (.long q3), (.long q4)] 10)) t := fun t k => castTop (ef_1 m q0 q1 q2 q3 q4) k
  have pre5 : ∀ t, Steps p.tables e below (s₁.setTop (mkF m 5 #[.val (.long q0), .second, .val (.long q1), .second, .val (.long q2), .second, .val (.long q3), .second, .val (.long q4), .second] [(.int (lcmpW q0 (-q4)))])) t → Steps p.tables e below (s₁.setTop (entryFrame m #[(.long q0), (.long q1), (.long q2), (.long q3), (.long q4)] 10)) t := fun t k => pre0 t (by
    show Steps p.tables e below (s₁.setTop (mkF m 0 #[.val (.long q0), .second, .val (.long q1), .second, .val (.long q2), .second, .val (.long q3), .second, .val (.long q4), .second] [])) _
    refine XS.lloadN X0.here hx rfl (hb hby d1_0) rfl ?_
    show Steps p.tables e below (s₁.setTop (mkF m 1 #[.val (.long q0), .second, .val (.long q1), .second, .val (.long q2), .second, .val (.long q3), .second, .val (.long q4), .second] [(.long q0)])) _
    refine XS.lload X0.here hx rfl (hb hby d1_1) rfl ?_
    show Steps p.tables e below (s₁.setTop (mkF m 3 #[.val (.long q0), .second, .val (.long q1), .second, .val (.long q2), .second, .val (.long q3), .second, .val (.long q4), .second] [(.long q4), (.long q0)])) _
    refine XS.lneg X0.here hx rfl (hb hby d1_3) rfl ?_
    show Steps p.tables e below (s₁.setTop (mkF m 4 #[.val (.long q0), .second, .val (.long q1), .second, .val (.long q2), .second, .val (.long q3), .second, .val (.long q4), .second] [(.long (-q4)), (.long q0)])) _
    refine XS.lcmp X0.here hx rfl (hb hby d1_4) rfl ?_
    exact k)
  by_cases hc5_1 : q0 < (-q4)
  · have pre6 : ∀ t, Steps p.tables e below (s₁.setTop (mkF m 41 #[.val (.long q0), .second, .val (.long q1), .second, .val (.long q2), .second, .val (.long q3), .second, .val (.long q4), .second] [(.int (0 : Int32))])) t → Steps p.tables e below (s₁.setTop (entryFrame m #[(.long q0), (.long q1), (.long q2), (.long q3), (.long q4)] 10)) t := fun t k => pre5 t (by
      show Steps p.tables e below (s₁.setTop (mkF m 5 #[.val (.long q0), .second, .val (.long q1), .second, .val (.long q2), .second, .val (.long q3), .second, .val (.long q4), .second] [(.int (lcmpW q0 (-q4)))])) _
      refine XS.ifYes X0.here hx rfl (pc0 := 5) (pc' := 40) rfl (hb hby d1_5) rfl ((if0 _ _).trans (tlt ((lw_lt _ _).mpr hc5_1)).1) (by decide) (by decide) ?_
      show Steps p.tables e below (s₁.setTop (mkF m 40 #[.val (.long q0), .second, .val (.long q1), .second, .val (.long q2), .second, .val (.long q3), .second, .val (.long q4), .second] [])) _
      refine XS.iconst X0.here hx rfl (hb hby d1_40) ?_
      exact k)
    obtain ⟨fs, hr, hrun, hended, hW, hsame⟩ := X0.leave (v := some (.int (0 : Int32))) (fun h => by rw [Bd.returns] at h; cases h)
    refine ⟨_, _, ?_, hrun, hended, _, _, rfl, ?_, ⟨_, rfl⟩, hW, hsame.mono (by decide) (by decide)⟩
    · exact pre6 _ (retN X0 hx (t := .boolean) Bd.returns (by simp) (hb hby d1_41) hr)
    · exact ⟨by simp only [f1, if_pos hc5_1], N0, e0⟩
  · have pre7 : ∀ t, Steps p.tables e below (s₁.setTop (mkF m 15 #[.val (.long q0), .second, .val (.long q1), .second, .val (.long q2), .second, .val (.long q3), .second, .val (.long q4), .second] [(.int (lcmpW q0 (q2 + q4)))])) t → Steps p.tables e below (s₁.setTop (entryFrame m #[(.long q0), (.long q1), (.long q2), (.long q3), (.long q4)] 10)) t := fun t k => pre5 t (by
      show Steps p.tables e below (s₁.setTop (mkF m 5 #[.val (.long q0), .second, .val (.long q1), .second, .val (.long q2), .second, .val (.long q3), .second, .val (.long q4), .second] [(.int (lcmpW q0 (-q4)))])) _
      refine XS.ifNo X0.here hx rfl (hb hby d1_5) rfl ((if0 _ _).trans (flt (fun q => hc5_1 ((lw_lt _ _).mp q))).1) ?_
      show Steps p.tables e below (s₁.setTop (mkF m 8 #[.val (.long q0), .second, .val (.long q1), .second, .val (.long q2), .second, .val (.long q3), .second, .val (.long q4), .second] [])) _
      refine XS.lloadN X0.here hx rfl (hb hby d1_8) rfl ?_
      show Steps p.tables e below (s₁.setTop (mkF m 9 #[.val (.long q0), .second, .val (.long q1), .second, .val (.long q2), .second, .val (.long q3), .second, .val (.long q4), .second] [(.long q0)])) _
      refine XS.lload X0.here hx rfl (hb hby d1_9) rfl ?_
      show Steps p.tables e below (s₁.setTop (mkF m 11 #[.val (.long q0), .second, .val (.long q1), .second, .val (.long q2), .second, .val (.long q3), .second, .val (.long q4), .second] [(.long q2), (.long q0)])) _
      refine XS.lload X0.here hx rfl (hb hby d1_11) rfl ?_
      show Steps p.tables e below (s₁.setTop (mkF m 13 #[.val (.long q0), .second, .val (.long q1), .second, .val (.long q2), .second, .val (.long q3), .second, .val (.long q4), .second] [(.long q4), (.long q2), (.long q0)])) _
      refine XS.ladd X0.here hx rfl (hb hby d1_13) rfl ?_
      show Steps p.tables e below (s₁.setTop (mkF m 14 #[.val (.long q0), .second, .val (.long q1), .second, .val (.long q2), .second, .val (.long q3), .second, .val (.long q4), .second] [(.long (q2 + q4)), (.long q0)])) _
      refine XS.lcmp X0.here hx rfl (hb hby d1_14) rfl ?_
      exact k)
    by_cases hc15_2 : q0 < (q2 + q4)
    · have pre8 : ∀ t, Steps p.tables e below (s₁.setTop (mkF m 23 #[.val (.long q0), .second, .val (.long q1), .second, .val (.long q2), .second, .val (.long q3), .second, .val (.long q4), .second] [(.int (lcmpW q1 (-q4)))])) t → Steps p.tables e below (s₁.setTop (entryFrame m #[(.long q0), (.long q1), (.long q2), (.long q3), (.long q4)] 10)) t := fun t k => pre7 t (by
        show Steps p.tables e below (s₁.setTop (mkF m 15 #[.val (.long q0), .second, .val (.long q1), .second, .val (.long q2), .second, .val (.long q3), .second, .val (.long q4), .second] [(.int (lcmpW q0 (q2 + q4)))])) _
        refine XS.ifNo X0.here hx rfl (hb hby d1_15) rfl ((if0 _ _).trans (tlt ((lw_lt _ _).mpr hc15_2)).2.1) ?_
        show Steps p.tables e below (s₁.setTop (mkF m 18 #[.val (.long q0), .second, .val (.long q1), .second, .val (.long q2), .second, .val (.long q3), .second, .val (.long q4), .second] [])) _
        refine XS.lloadN X0.here hx rfl (hb hby d1_18) rfl ?_
        show Steps p.tables e below (s₁.setTop (mkF m 19 #[.val (.long q0), .second, .val (.long q1), .second, .val (.long q2), .second, .val (.long q3), .second, .val (.long q4), .second] [(.long q1)])) _
        refine XS.lload X0.here hx rfl (hb hby d1_19) rfl ?_
        show Steps p.tables e below (s₁.setTop (mkF m 21 #[.val (.long q0), .second, .val (.long q1), .second, .val (.long q2), .second, .val (.long q3), .second, .val (.long q4), .second] [(.long q4), (.long q1)])) _
        refine XS.lneg X0.here hx rfl (hb hby d1_21) rfl ?_
        show Steps p.tables e below (s₁.setTop (mkF m 22 #[.val (.long q0), .second, .val (.long q1), .second, .val (.long q2), .second, .val (.long q3), .second, .val (.long q4), .second] [(.long (-q4)), (.long q1)])) _
        refine XS.lcmp X0.here hx rfl (hb hby d1_22) rfl ?_
        exact k)
      by_cases hc23_3 : q1 < (-q4)
      · have pre9 : ∀ t, Steps p.tables e below (s₁.setTop (mkF m 41 #[.val (.long q0), .second, .val (.long q1), .second, .val (.long q2), .second, .val (.long q3), .second, .val (.long q4), .second] [(.int (0 : Int32))])) t → Steps p.tables e below (s₁.setTop (entryFrame m #[(.long q0), (.long q1), (.long q2), (.long q3), (.long q4)] 10)) t := fun t k => pre8 t (by
          show Steps p.tables e below (s₁.setTop (mkF m 23 #[.val (.long q0), .second, .val (.long q1), .second, .val (.long q2), .second, .val (.long q3), .second, .val (.long q4), .second] [(.int (lcmpW q1 (-q4)))])) _
          refine XS.ifYes X0.here hx rfl (pc0 := 23) (pc' := 40) rfl (hb hby d1_23) rfl ((if0 _ _).trans (tlt ((lw_lt _ _).mpr hc23_3)).1) (by decide) (by decide) ?_
          show Steps p.tables e below (s₁.setTop (mkF m 40 #[.val (.long q0), .second, .val (.long q1), .second, .val (.long q2), .second, .val (.long q3), .second, .val (.long q4), .second] [])) _
          refine XS.iconst X0.here hx rfl (hb hby d1_40) ?_
          exact k)
        obtain ⟨fs, hr, hrun, hended, hW, hsame⟩ := X0.leave (v := some (.int (0 : Int32))) (fun h => by rw [Bd.returns] at h; cases h)
        refine ⟨_, _, ?_, hrun, hended, _, _, rfl, ?_, ⟨_, rfl⟩, hW, hsame.mono (by decide) (by decide)⟩
        · exact pre9 _ (retN X0 hx (t := .boolean) Bd.returns (by simp) (hb hby d1_41) hr)
        · exact ⟨by simp only [f1, if_neg hc5_1, if_pos hc15_2, if_pos hc23_3], N0, e0⟩
      · have pre10 : ∀ t, Steps p.tables e below (s₁.setTop (mkF m 33 #[.val (.long q0), .second, .val (.long q1), .second, .val (.long q2), .second, .val (.long q3), .second, .val (.long q4), .second] [(.int (lcmpW q1 (q3 + q4)))])) t → Steps p.tables e below (s₁.setTop (entryFrame m #[(.long q0), (.long q1), (.long q2), (.long q3), (.long q4)] 10)) t := fun t k => pre8 t (by
          show Steps p.tables e below (s₁.setTop (mkF m 23 #[.val (.long q0), .second, .val (.long q1), .second, .val (.long q2), .second, .val (.long q3), .second, .val (.long q4), .second] [(.int (lcmpW q1 (-q4)))])) _
          refine XS.ifNo X0.here hx rfl (hb hby d1_23) rfl ((if0 _ _).trans (flt (fun q => hc23_3 ((lw_lt _ _).mp q))).1) ?_
          show Steps p.tables e below (s₁.setTop (mkF m 26 #[.val (.long q0), .second, .val (.long q1), .second, .val (.long q2), .second, .val (.long q3), .second, .val (.long q4), .second] [])) _
          refine XS.lloadN X0.here hx rfl (hb hby d1_26) rfl ?_
          show Steps p.tables e below (s₁.setTop (mkF m 27 #[.val (.long q0), .second, .val (.long q1), .second, .val (.long q2), .second, .val (.long q3), .second, .val (.long q4), .second] [(.long q1)])) _
          refine XS.lload X0.here hx rfl (hb hby d1_27) rfl ?_
          show Steps p.tables e below (s₁.setTop (mkF m 29 #[.val (.long q0), .second, .val (.long q1), .second, .val (.long q2), .second, .val (.long q3), .second, .val (.long q4), .second] [(.long q3), (.long q1)])) _
          refine XS.lload X0.here hx rfl (hb hby d1_29) rfl ?_
          show Steps p.tables e below (s₁.setTop (mkF m 31 #[.val (.long q0), .second, .val (.long q1), .second, .val (.long q2), .second, .val (.long q3), .second, .val (.long q4), .second] [(.long q4), (.long q3), (.long q1)])) _
          refine XS.ladd X0.here hx rfl (hb hby d1_31) rfl ?_
          show Steps p.tables e below (s₁.setTop (mkF m 32 #[.val (.long q0), .second, .val (.long q1), .second, .val (.long q2), .second, .val (.long q3), .second, .val (.long q4), .second] [(.long (q3 + q4)), (.long q1)])) _
          refine XS.lcmp X0.here hx rfl (hb hby d1_32) rfl ?_
          exact k)
        by_cases hc33_4 : q1 < (q3 + q4)
        · have pre11 : ∀ t, Steps p.tables e below (s₁.setTop (mkF m 41 #[.val (.long q0), .second, .val (.long q1), .second, .val (.long q2), .second, .val (.long q3), .second, .val (.long q4), .second] [(.int (1 : Int32))])) t → Steps p.tables e below (s₁.setTop (entryFrame m #[(.long q0), (.long q1), (.long q2), (.long q3), (.long q4)] 10)) t := fun t k => pre10 t (by
            show Steps p.tables e below (s₁.setTop (mkF m 33 #[.val (.long q0), .second, .val (.long q1), .second, .val (.long q2), .second, .val (.long q3), .second, .val (.long q4), .second] [(.int (lcmpW q1 (q3 + q4)))])) _
            refine XS.ifNo X0.here hx rfl (hb hby d1_33) rfl ((if0 _ _).trans (tlt ((lw_lt _ _).mpr hc33_4)).2.1) ?_
            show Steps p.tables e below (s₁.setTop (mkF m 36 #[.val (.long q0), .second, .val (.long q1), .second, .val (.long q2), .second, .val (.long q3), .second, .val (.long q4), .second] [])) _
            refine XS.iconst X0.here hx rfl (hb hby d1_36) ?_
            show Steps p.tables e below (s₁.setTop (mkF m 37 #[.val (.long q0), .second, .val (.long q1), .second, .val (.long q2), .second, .val (.long q3), .second, .val (.long q4), .second] [(.int (1 : Int32))])) _
            refine XS.goto X0.here hx rfl (pc0 := 37) (pc' := 41) rfl (hb hby d1_37) (by decide) (by decide) ?_
            exact k)
          obtain ⟨fs, hr, hrun, hended, hW, hsame⟩ := X0.leave (v := some (.int (1 : Int32))) (fun h => by rw [Bd.returns] at h; cases h)
          refine ⟨_, _, ?_, hrun, hended, _, _, rfl, ?_, ⟨_, rfl⟩, hW, hsame.mono (by decide) (by decide)⟩
          · exact pre11 _ (retN X0 hx (t := .boolean) Bd.returns (by simp) (hb hby d1_41) hr)
          · exact ⟨by simp only [f1, if_neg hc5_1, if_pos hc15_2, if_neg hc23_3, if_pos hc33_4], N0, e0⟩
        · have pre12 : ∀ t, Steps p.tables e below (s₁.setTop (mkF m 41 #[.val (.long q0), .second, .val (.long q1), .second, .val (.long q2), .second, .val (.long q3), .second, .val (.long q4), .second] [(.int (0 : Int32))])) t → Steps p.tables e below (s₁.setTop (entryFrame m #[(.long q0), (.long q1), (.long q2), (.long q3), (.long q4)] 10)) t := fun t k => pre10 t (by
            show Steps p.tables e below (s₁.setTop (mkF m 33 #[.val (.long q0), .second, .val (.long q1), .second, .val (.long q2), .second, .val (.long q3), .second, .val (.long q4), .second] [(.int (lcmpW q1 (q3 + q4)))])) _
            refine XS.ifYes X0.here hx rfl (pc0 := 33) (pc' := 40) rfl (hb hby d1_33) rfl ((if0 _ _).trans (flt (fun q => hc33_4 ((lw_lt _ _).mp q))).2.1) (by decide) (by decide) ?_
            show Steps p.tables e below (s₁.setTop (mkF m 40 #[.val (.long q0), .second, .val (.long q1), .second, .val (.long q2), .second, .val (.long q3), .second, .val (.long q4), .second] [])) _
            refine XS.iconst X0.here hx rfl (hb hby d1_40) ?_
            exact k)
          obtain ⟨fs, hr, hrun, hended, hW, hsame⟩ := X0.leave (v := some (.int (0 : Int32))) (fun h => by rw [Bd.returns] at h; cases h)
          refine ⟨_, _, ?_, hrun, hended, _, _, rfl, ?_, ⟨_, rfl⟩, hW, hsame.mono (by decide) (by decide)⟩
          · exact pre12 _ (retN X0 hx (t := .boolean) Bd.returns (by simp) (hb hby d1_41) hr)
          · exact ⟨by simp only [f1, if_neg hc5_1, if_pos hc15_2, if_neg hc23_3, if_neg hc33_4], N0, e0⟩
    · have pre13 : ∀ t, Steps p.tables e below (s₁.setTop (mkF m 41 #[.val (.long q0), .second, .val (.long q1), .second, .val (.long q2), .second, .val (.long q3), .second, .val (.long q4), .second] [(.int (0 : Int32))])) t → Steps p.tables e below (s₁.setTop (entryFrame m #[(.long q0), (.long q1), (.long q2), (.long q3), (.long q4)] 10)) t := fun t k => pre7 t (by
        show Steps p.tables e below (s₁.setTop (mkF m 15 #[.val (.long q0), .second, .val (.long q1), .second, .val (.long q2), .second, .val (.long q3), .second, .val (.long q4), .second] [(.int (lcmpW q0 (q2 + q4)))])) _
        refine XS.ifYes X0.here hx rfl (pc0 := 15) (pc' := 40) rfl (hb hby d1_15) rfl ((if0 _ _).trans (flt (fun q => hc15_2 ((lw_lt _ _).mp q))).2.1) (by decide) (by decide) ?_
        show Steps p.tables e below (s₁.setTop (mkF m 40 #[.val (.long q0), .second, .val (.long q1), .second, .val (.long q2), .second, .val (.long q3), .second, .val (.long q4), .second] [])) _
        refine XS.iconst X0.here hx rfl (hb hby d1_40) ?_
        exact k)
      obtain ⟨fs, hr, hrun, hended, hW, hsame⟩ := X0.leave (v := some (.int (0 : Int32))) (fun h => by rw [Bd.returns] at h; cases h)
      refine ⟨_, _, ?_, hrun, hended, _, _, rfl, ?_, ⟨_, rfl⟩, hW, hsame.mono (by decide) (by decide)⟩
      · exact pre13 _ (retN X0 hx (t := .boolean) Bd.returns (by simp) (hb hby d1_41) hr)
      · exact ⟨by simp only [f1, if_neg hc5_1, if_neg hc15_2], N0, e0⟩
theorem d2_0 : decode method_3_code 0 = .ok (.lload_n 0, 1) := by decide +kernel
theorem d2_1 : decode method_3_code 1 = .ok (.lconst 0, 1) := by decide +kernel
theorem d2_2 : decode method_3_code 2 = .ok (.lcmp, 1) := by decide +kernel
theorem d2_3 : decode method_3_code 3 = .ok (.ifCond .ge 18, 3) := by decide +kernel
theorem d2_6 : decode method_3_code 6 = .ok (.lload_n 0, 1) := by decide +kernel
theorem d2_7 : decode method_3_code 7 = .ok (.lload 4, 2) := by decide +kernel
theorem d2_9 : decode method_3_code 9 = .ok (.ladd, 1) := by decide +kernel
theorem d2_10 : decode method_3_code 10 = .ok (.lconst 0, 1) := by decide +kernel
theorem d2_11 : decode method_3_code 11 = .ok (.lcmp, 1) := by decide +kernel
theorem d2_12 : decode method_3_code 12 = .ok (.ifCond .lt 7, 3) := by decide +kernel
theorem d2_15 : decode method_3_code 15 = .ok (.iconst 1, 1) := by decide +kernel
theorem d2_16 : decode method_3_code 16 = .ok (.goto 4, 3) := by decide +kernel
theorem d2_19 : decode method_3_code 19 = .ok (.iconst 0, 1) := by decide +kernel
theorem d2_20 : decode method_3_code 20 = .ok (.ireturn, 1) := by decide +kernel
theorem d2_21 : decode method_3_code 21 = .ok (.lload_n 0, 1) := by decide +kernel
theorem d2_22 : decode method_3_code 22 = .ok (.lload_n 2, 1) := by decide +kernel
theorem d2_23 : decode method_3_code 23 = .ok (.lcmp, 1) := by decide +kernel
theorem d2_24 : decode method_3_code 24 = .ok (.ifCond .ge 5, 3) := by decide +kernel
theorem d2_27 : decode method_3_code 27 = .ok (.iconst 1, 1) := by decide +kernel
theorem d2_28 : decode method_3_code 28 = .ok (.ireturn, 1) := by decide +kernel
theorem d2_29 : decode method_3_code 29 = .ok (.lload_n 0, 1) := by decide +kernel
theorem d2_30 : decode method_3_code 30 = .ok (.lload_n 2, 1) := by decide +kernel
theorem d2_31 : decode method_3_code 31 = .ok (.lsub, 1) := by decide +kernel
theorem d2_32 : decode method_3_code 32 = .ok (.lload 4, 2) := by decide +kernel
theorem d2_34 : decode method_3_code 34 = .ok (.lcmp, 1) := by decide +kernel
theorem d2_35 : decode method_3_code 35 = .ok (.ifCond .ge 7, 3) := by decide +kernel
theorem d2_38 : decode method_3_code 38 = .ok (.iconst 1, 1) := by decide +kernel
theorem d2_39 : decode method_3_code 39 = .ok (.goto 4, 3) := by decide +kernel
theorem d2_42 : decode method_3_code 42 = .ok (.iconst 0, 1) := by decide +kernel
theorem d2_43 : decode method_3_code 43 = .ok (.ireturn, 1) := by decide +kernel
theorem pn_2 : plainName "com/example/touchfall/touchfall/NodeIsInBoxPinLaw" = true := by first | (simp [plainName, overriddenIn]; done) | decide +kernel
theorem ef_2 (m : MethodId) (x0 : Int64) (x1 : Int64) (x2 : Int64) : entryFrame m #[(.long x0), (.long x1), (.long x2)] 6 = mkF m 0 #[.val (.long x0), .second, .val (.long x1), .second, .val (.long x2), .second] [] := by first | (simp [entryFrame, mkF, argsToLocals, Value.category]; done) | rfl
def f2 (q0 : Int64) (q1 : Int64) (q2 : Int64) : Int32 := (if q0 < (0 : Int64) then (if (q0 + q2) < (0 : Int64) then (0 : Int32) else (1 : Int32)) else (if q0 < q1 then (1 : Int32) else (if (q0 - q1) < q2 then (1 : Int32) else (0 : Int32))))
set_option maxRecDepth 65536 in
set_option maxHeartbeats 40000000 in
theorem rm2 (l : Launch) (Z : State) (a0 : Array Value) (hw : ∀ d ∈ tables_1, d.before a0 Z = true) (ws : List Jvm.Cond) (q0 : Int64) (q1 : Int64) (q2 : Int64) (h0 : Heap) (n0 : Nat) (Z0 : n0 ≤ h0.size) :
    MetFree l (⟨"com/example/touchfall/touchfall/NodeIsInBoxPinLaw", "axis", "(JJJ)Z"⟩ : MethodName) (head1 (Jvm.Cond.code (⟨"com/example/touchfall/touchfall/NodeIsInBoxPinLaw", "axis", "(JJJ)Z"⟩ : MethodName) method_3_code 6 (some .boolean) :: ws) ({ frames := 0, cells := 0, slots := 0, locals := 0 } : Room)) (fun a U => a = #[(.long q0), (.long q1), (.long q2)] ∧ Z.Warmed39 U.vm ∧ U.heap = h0) (fun _ _ _ _ _ => True) (fun _ U o U' => ∃ v L, o = .returned v ∧ QP (some (.int (f2 q0 q1 q2))) h0 n0 v U'.heap L ∧ FrameEnd U o U' L ({ frames := 0, cells := 0, slots := 0, locals := 0 } : Room).cells ({ frames := 0, cells := 0, slots := 0, locals := 0 } : Room).slots) := by
  refine MetFree.of_bodySF (plainFor_of_name pn_2) hisR ?_
  intro p e s m args below meth c s₁ Bd hml0 hP hK
  obtain ⟨rfl, hZ, hh⟩ := hP
  have hx := Bd.exec
  have hby := Bd.bytes
  have hml : c.maxLocals = 6 := hml0
  have hown : s.vm.findClass "com/example/touchfall/touchfall/NodeIsInBoxPinLaw" = some m.cls := findClass_of_methodNamed Bd.named
  have hnm := (name_of_methodNamed Bd.named Bd.method).1
  have X0 : Stand p l e ({ frames := 0, cells := 0, slots := 0, locals := 0 } : Room) s m #[(.long q0), (.long q1), (.long q2)] below meth c s₁ [] 0 0 := Stand.of_body Bd
  have e0 : s₁.heap = h0 := by rw [← hh, Bd.state]; rfl
  have N0 := Fr.nil n0
  have K0 : Keep h0 h0 [] := Keep.refl _ _
  have pre0 : ∀ t, Steps p.tables e below (s₁.setTop (mkF m 0 #[.val (.long q0), .second, .val (.long q1), .second, .val (.long q2), .second] [])) t → Steps p.tables e below (s₁.setTop (entryFrame m #[(.long q0), (.long q1), (.long q2)] 6)) t := fun t k => castTop (ef_2 m q0 q1 q2) k
  have pre5 : ∀ t, Steps p.tables e below (s₁.setTop (mkF m 3 #[.val (.long q0), .second, .val (.long q1), .second, .val (.long q2), .second] [(.int (lcmpW q0 (0 : Int64)))])) t → Steps p.tables e below (s₁.setTop (entryFrame m #[(.long q0), (.long q1), (.long q2)] 6)) t := fun t k => pre0 t (by
    show Steps p.tables e below (s₁.setTop (mkF m 0 #[.val (.long q0), .second, .val (.long q1), .second, .val (.long q2), .second] [])) _
    refine XS.lloadN X0.here hx rfl (hb hby d2_0) rfl ?_
    show Steps p.tables e below (s₁.setTop (mkF m 1 #[.val (.long q0), .second, .val (.long q1), .second, .val (.long q2), .second] [(.long q0)])) _
    refine XS.lconst X0.here hx rfl (hb hby d2_1) ?_
    show Steps p.tables e below (s₁.setTop (mkF m 2 #[.val (.long q0), .second, .val (.long q1), .second, .val (.long q2), .second] [(.long (0 : Int64)), (.long q0)])) _
    refine XS.lcmp X0.here hx rfl (hb hby d2_2) rfl ?_
    exact k)
  by_cases hc3_1 : q0 < (0 : Int64)
  · have pre6 : ∀ t, Steps p.tables e below (s₁.setTop (mkF m 12 #[.val (.long q0), .second, .val (.long q1), .second, .val (.long q2), .second] [(.int (lcmpW (q0 + q2) (0 : Int64)))])) t → Steps p.tables e below (s₁.setTop (entryFrame m #[(.long q0), (.long q1), (.long q2)] 6)) t := fun t k => pre5 t (by
      show Steps p.tables e below (s₁.setTop (mkF m 3 #[.val (.long q0), .second, .val (.long q1), .second, .val (.long q2), .second] [(.int (lcmpW q0 (0 : Int64)))])) _
      refine XS.ifNo X0.here hx rfl (hb hby d2_3) rfl ((if0 _ _).trans (tlt ((lw_lt _ _).mpr hc3_1)).2.1) ?_
      show Steps p.tables e below (s₁.setTop (mkF m 6 #[.val (.long q0), .second, .val (.long q1), .second, .val (.long q2), .second] [])) _
      refine XS.lloadN X0.here hx rfl (hb hby d2_6) rfl ?_
      show Steps p.tables e below (s₁.setTop (mkF m 7 #[.val (.long q0), .second, .val (.long q1), .second, .val (.long q2), .second] [(.long q0)])) _
      refine XS.lload X0.here hx rfl (hb hby d2_7) rfl ?_
      show Steps p.tables e below (s₁.setTop (mkF m 9 #[.val (.long q0), .second, .val (.long q1), .second, .val (.long q2), .second] [(.long q2), (.long q0)])) _
      refine XS.ladd X0.here hx rfl (hb hby d2_9) rfl ?_
      show Steps p.tables e below (s₁.setTop (mkF m 10 #[.val (.long q0), .second, .val (.long q1), .second, .val (.long q2), .second] [(.long (q0 + q2))])) _
      refine XS.lconst X0.here hx rfl (hb hby d2_10) ?_
      show Steps p.tables e below (s₁.setTop (mkF m 11 #[.val (.long q0), .second, .val (.long q1), .second, .val (.long q2), .second] [(.long (0 : Int64)), (.long (q0 + q2))])) _
      refine XS.lcmp X0.here hx rfl (hb hby d2_11) rfl ?_
      exact k)
    by_cases hc12_4 : (q0 + q2) < (0 : Int64)
    · have pre7 : ∀ t, Steps p.tables e below (s₁.setTop (mkF m 20 #[.val (.long q0), .second, .val (.long q1), .second, .val (.long q2), .second] [(.int (0 : Int32))])) t → Steps p.tables e below (s₁.setTop (entryFrame m #[(.long q0), (.long q1), (.long q2)] 6)) t := fun t k => pre6 t (by
        show Steps p.tables e below (s₁.setTop (mkF m 12 #[.val (.long q0), .second, .val (.long q1), .second, .val (.long q2), .second] [(.int (lcmpW (q0 + q2) (0 : Int64)))])) _
        refine XS.ifYes X0.here hx rfl (pc0 := 12) (pc' := 19) rfl (hb hby d2_12) rfl ((if0 _ _).trans (tlt ((lw_lt _ _).mpr hc12_4)).1) (by decide) (by decide) ?_
        show Steps p.tables e below (s₁.setTop (mkF m 19 #[.val (.long q0), .second, .val (.long q1), .second, .val (.long q2), .second] [])) _
        refine XS.iconst X0.here hx rfl (hb hby d2_19) ?_
        exact k)
      obtain ⟨fs, hr, hrun, hended, hW, hsame⟩ := X0.leave (v := some (.int (0 : Int32))) (fun h => by rw [Bd.returns] at h; cases h)
      refine ⟨_, _, ?_, hrun, hended, _, _, rfl, ?_, ⟨_, rfl⟩, hW, hsame.mono (by decide) (by decide)⟩
      · exact pre7 _ (retN X0 hx (t := .boolean) Bd.returns (by simp) (hb hby d2_20) hr)
      · exact ⟨by simp only [f2, if_pos hc3_1, if_pos hc12_4], N0, e0⟩
    · have pre8 : ∀ t, Steps p.tables e below (s₁.setTop (mkF m 20 #[.val (.long q0), .second, .val (.long q1), .second, .val (.long q2), .second] [(.int (1 : Int32))])) t → Steps p.tables e below (s₁.setTop (entryFrame m #[(.long q0), (.long q1), (.long q2)] 6)) t := fun t k => pre6 t (by
        show Steps p.tables e below (s₁.setTop (mkF m 12 #[.val (.long q0), .second, .val (.long q1), .second, .val (.long q2), .second] [(.int (lcmpW (q0 + q2) (0 : Int64)))])) _
        refine XS.ifNo X0.here hx rfl (hb hby d2_12) rfl ((if0 _ _).trans (flt (fun q => hc12_4 ((lw_lt _ _).mp q))).1) ?_
        show Steps p.tables e below (s₁.setTop (mkF m 15 #[.val (.long q0), .second, .val (.long q1), .second, .val (.long q2), .second] [])) _
        refine XS.iconst X0.here hx rfl (hb hby d2_15) ?_
        show Steps p.tables e below (s₁.setTop (mkF m 16 #[.val (.long q0), .second, .val (.long q1), .second, .val (.long q2), .second] [(.int (1 : Int32))])) _
        refine XS.goto X0.here hx rfl (pc0 := 16) (pc' := 20) rfl (hb hby d2_16) (by decide) (by decide) ?_
        exact k)
      obtain ⟨fs, hr, hrun, hended, hW, hsame⟩ := X0.leave (v := some (.int (1 : Int32))) (fun h => by rw [Bd.returns] at h; cases h)
      refine ⟨_, _, ?_, hrun, hended, _, _, rfl, ?_, ⟨_, rfl⟩, hW, hsame.mono (by decide) (by decide)⟩
      · exact pre8 _ (retN X0 hx (t := .boolean) Bd.returns (by simp) (hb hby d2_20) hr)
      · exact ⟨by simp only [f2, if_pos hc3_1, if_neg hc12_4], N0, e0⟩
  · have pre9 : ∀ t, Steps p.tables e below (s₁.setTop (mkF m 24 #[.val (.long q0), .second, .val (.long q1), .second, .val (.long q2), .second] [(.int (lcmpW q0 q1))])) t → Steps p.tables e below (s₁.setTop (entryFrame m #[(.long q0), (.long q1), (.long q2)] 6)) t := fun t k => pre5 t (by
      show Steps p.tables e below (s₁.setTop (mkF m 3 #[.val (.long q0), .second, .val (.long q1), .second, .val (.long q2), .second] [(.int (lcmpW q0 (0 : Int64)))])) _
      refine XS.ifYes X0.here hx rfl (pc0 := 3) (pc' := 21) rfl (hb hby d2_3) rfl ((if0 _ _).trans (flt (fun q => hc3_1 ((lw_lt _ _).mp q))).2.1) (by decide) (by decide) ?_
      show Steps p.tables e below (s₁.setTop (mkF m 21 #[.val (.long q0), .second, .val (.long q1), .second, .val (.long q2), .second] [])) _
      refine XS.lloadN X0.here hx rfl (hb hby d2_21) rfl ?_
      show Steps p.tables e below (s₁.setTop (mkF m 22 #[.val (.long q0), .second, .val (.long q1), .second, .val (.long q2), .second] [(.long q0)])) _
      refine XS.lloadN X0.here hx rfl (hb hby d2_22) rfl ?_
      show Steps p.tables e below (s₁.setTop (mkF m 23 #[.val (.long q0), .second, .val (.long q1), .second, .val (.long q2), .second] [(.long q1), (.long q0)])) _
      refine XS.lcmp X0.here hx rfl (hb hby d2_23) rfl ?_
      exact k)
    by_cases hc24_2 : q0 < q1
    · have pre10 : ∀ t, Steps p.tables e below (s₁.setTop (mkF m 28 #[.val (.long q0), .second, .val (.long q1), .second, .val (.long q2), .second] [(.int (1 : Int32))])) t → Steps p.tables e below (s₁.setTop (entryFrame m #[(.long q0), (.long q1), (.long q2)] 6)) t := fun t k => pre9 t (by
        show Steps p.tables e below (s₁.setTop (mkF m 24 #[.val (.long q0), .second, .val (.long q1), .second, .val (.long q2), .second] [(.int (lcmpW q0 q1))])) _
        refine XS.ifNo X0.here hx rfl (hb hby d2_24) rfl ((if0 _ _).trans (tlt ((lw_lt _ _).mpr hc24_2)).2.1) ?_
        show Steps p.tables e below (s₁.setTop (mkF m 27 #[.val (.long q0), .second, .val (.long q1), .second, .val (.long q2), .second] [])) _
        refine XS.iconst X0.here hx rfl (hb hby d2_27) ?_
        exact k)
      obtain ⟨fs, hr, hrun, hended, hW, hsame⟩ := X0.leave (v := some (.int (1 : Int32))) (fun h => by rw [Bd.returns] at h; cases h)
      refine ⟨_, _, ?_, hrun, hended, _, _, rfl, ?_, ⟨_, rfl⟩, hW, hsame.mono (by decide) (by decide)⟩
      · exact pre10 _ (retN X0 hx (t := .boolean) Bd.returns (by simp) (hb hby d2_28) hr)
      · exact ⟨by simp only [f2, if_neg hc3_1, if_pos hc24_2], N0, e0⟩
    · have pre11 : ∀ t, Steps p.tables e below (s₁.setTop (mkF m 35 #[.val (.long q0), .second, .val (.long q1), .second, .val (.long q2), .second] [(.int (lcmpW (q0 - q1) q2))])) t → Steps p.tables e below (s₁.setTop (entryFrame m #[(.long q0), (.long q1), (.long q2)] 6)) t := fun t k => pre9 t (by
        show Steps p.tables e below (s₁.setTop (mkF m 24 #[.val (.long q0), .second, .val (.long q1), .second, .val (.long q2), .second] [(.int (lcmpW q0 q1))])) _
        refine XS.ifYes X0.here hx rfl (pc0 := 24) (pc' := 29) rfl (hb hby d2_24) rfl ((if0 _ _).trans (flt (fun q => hc24_2 ((lw_lt _ _).mp q))).2.1) (by decide) (by decide) ?_
        show Steps p.tables e below (s₁.setTop (mkF m 29 #[.val (.long q0), .second, .val (.long q1), .second, .val (.long q2), .second] [])) _
        refine XS.lloadN X0.here hx rfl (hb hby d2_29) rfl ?_
        show Steps p.tables e below (s₁.setTop (mkF m 30 #[.val (.long q0), .second, .val (.long q1), .second, .val (.long q2), .second] [(.long q0)])) _
        refine XS.lloadN X0.here hx rfl (hb hby d2_30) rfl ?_
        show Steps p.tables e below (s₁.setTop (mkF m 31 #[.val (.long q0), .second, .val (.long q1), .second, .val (.long q2), .second] [(.long q1), (.long q0)])) _
        refine XS.lsub X0.here hx rfl (hb hby d2_31) rfl ?_
        show Steps p.tables e below (s₁.setTop (mkF m 32 #[.val (.long q0), .second, .val (.long q1), .second, .val (.long q2), .second] [(.long (q0 - q1))])) _
        refine XS.lload X0.here hx rfl (hb hby d2_32) rfl ?_
        show Steps p.tables e below (s₁.setTop (mkF m 34 #[.val (.long q0), .second, .val (.long q1), .second, .val (.long q2), .second] [(.long q2), (.long (q0 - q1))])) _
        refine XS.lcmp X0.here hx rfl (hb hby d2_34) rfl ?_
        exact k)
      by_cases hc35_3 : (q0 - q1) < q2
      · have pre12 : ∀ t, Steps p.tables e below (s₁.setTop (mkF m 43 #[.val (.long q0), .second, .val (.long q1), .second, .val (.long q2), .second] [(.int (1 : Int32))])) t → Steps p.tables e below (s₁.setTop (entryFrame m #[(.long q0), (.long q1), (.long q2)] 6)) t := fun t k => pre11 t (by
          show Steps p.tables e below (s₁.setTop (mkF m 35 #[.val (.long q0), .second, .val (.long q1), .second, .val (.long q2), .second] [(.int (lcmpW (q0 - q1) q2))])) _
          refine XS.ifNo X0.here hx rfl (hb hby d2_35) rfl ((if0 _ _).trans (tlt ((lw_lt _ _).mpr hc35_3)).2.1) ?_
          show Steps p.tables e below (s₁.setTop (mkF m 38 #[.val (.long q0), .second, .val (.long q1), .second, .val (.long q2), .second] [])) _
          refine XS.iconst X0.here hx rfl (hb hby d2_38) ?_
          show Steps p.tables e below (s₁.setTop (mkF m 39 #[.val (.long q0), .second, .val (.long q1), .second, .val (.long q2), .second] [(.int (1 : Int32))])) _
          refine XS.goto X0.here hx rfl (pc0 := 39) (pc' := 43) rfl (hb hby d2_39) (by decide) (by decide) ?_
          exact k)
        obtain ⟨fs, hr, hrun, hended, hW, hsame⟩ := X0.leave (v := some (.int (1 : Int32))) (fun h => by rw [Bd.returns] at h; cases h)
        refine ⟨_, _, ?_, hrun, hended, _, _, rfl, ?_, ⟨_, rfl⟩, hW, hsame.mono (by decide) (by decide)⟩
        · exact pre12 _ (retN X0 hx (t := .boolean) Bd.returns (by simp) (hb hby d2_43) hr)
        · exact ⟨by simp only [f2, if_neg hc3_1, if_neg hc24_2, if_pos hc35_3], N0, e0⟩
      · have pre13 : ∀ t, Steps p.tables e below (s₁.setTop (mkF m 43 #[.val (.long q0), .second, .val (.long q1), .second, .val (.long q2), .second] [(.int (0 : Int32))])) t → Steps p.tables e below (s₁.setTop (entryFrame m #[(.long q0), (.long q1), (.long q2)] 6)) t := fun t k => pre11 t (by
          show Steps p.tables e below (s₁.setTop (mkF m 35 #[.val (.long q0), .second, .val (.long q1), .second, .val (.long q2), .second] [(.int (lcmpW (q0 - q1) q2))])) _
          refine XS.ifYes X0.here hx rfl (pc0 := 35) (pc' := 42) rfl (hb hby d2_35) rfl ((if0 _ _).trans (flt (fun q => hc35_3 ((lw_lt _ _).mp q))).2.1) (by decide) (by decide) ?_
          show Steps p.tables e below (s₁.setTop (mkF m 42 #[.val (.long q0), .second, .val (.long q1), .second, .val (.long q2), .second] [])) _
          refine XS.iconst X0.here hx rfl (hb hby d2_42) ?_
          exact k)
        obtain ⟨fs, hr, hrun, hended, hW, hsame⟩ := X0.leave (v := some (.int (0 : Int32))) (fun h => by rw [Bd.returns] at h; cases h)
        refine ⟨_, _, ?_, hrun, hended, _, _, rfl, ?_, ⟨_, rfl⟩, hW, hsame.mono (by decide) (by decide)⟩
        · exact pre13 _ (retN X0 hx (t := .boolean) Bd.returns (by simp) (hb hby d2_43) hr)
        · exact ⟨by simp only [f2, if_neg hc3_1, if_neg hc24_2, if_neg hc35_3], N0, e0⟩
theorem pn_0 : plainName "com/example/touchfall/touchfall/NodeIsInBoxPinLaw" = true := by first | (simp [plainName, overriddenIn]; done) | decide +kernel
theorem pd__JJJJJ_Z : parseMethodDescriptor "(JJJJJ)Z" = some ⟨[.long, .long, .long, .long, .long], some .boolean⟩ := by decide +kernel
theorem pd__JJJ_Z : parseMethodDescriptor "(JJJ)Z" = some ⟨[.long, .long, .long], some .boolean⟩ := by decide +kernel
theorem ef_0 (m : MethodId) (x0 : Int64) (x1 : Int64) (x2 : Int64) (x3 : Int64) (x4 : Int64) : entryFrame m #[(.long x0), (.long x1), (.long x2), (.long x3), (.long x4)] maxLocals = mkF m 0 #[.val (.long x0), .second, .val (.long x1), .second, .val (.long x2), .second, .val (.long x3), .second, .val (.long x4), .second, .unset, .unset, .unset, .unset, .unset, .unset, .unset, .unset] [] := by first | (simp [entryFrame, mkF, argsToLocals, Value.category, maxLocals]; done) | rfl
def v0_35 (q0 : Int64) (q1 : Int64) (q2 : Int64) (q3 : Int64) (q4 : Int64) : Int32 := (f1 q0 q1 (q2 &&& (2147483647 : Int64)) (q3 &&& (2147483647 : Int64)) (q4 &&& (2147483647 : Int64)))
def v0_64_s0 (q0 : Int64) (q1 : Int64) (q2 : Int64) (q3 : Int64) (q4 : Int64) : Int32 := (if (f2 q0 (q2 &&& (2147483647 : Int64)) (q4 &&& (2147483647 : Int64))) = (0 : Int32) then (0 : Int32) else (if (f2 q1 (q3 &&& (2147483647 : Int64)) (q4 &&& (2147483647 : Int64))) = (0 : Int32) then (0 : Int32) else (1 : Int32)))
def f0 (q0 : Int64) (q1 : Int64) (q2 : Int64) (q3 : Int64) (q4 : Int64) : Int32 := (if (v0_35 q0 q1 q2 q3 q4) = (v0_64_s0 q0 q1 q2 q3 q4) then (1 : Int32) else (0 : Int32))
set_option maxRecDepth 65536 in
set_option maxHeartbeats 40000000 in
theorem rm0 (l : Launch) (Z : State) (a0 : Array Value) (hw : ∀ d ∈ tables_1, d.before a0 Z = true) (ws : List Jvm.Cond) (q0 : Int64) (q1 : Int64) (q2 : Int64) (q3 : Int64) (q4 : Int64) (h0 : Heap) (n0 : Nat) (Z0 : n0 ≤ h0.size) :
    MetFree l x (head1 (Jvm.Cond.code x code maxLocals ret :: ws) room_1) (fun a U => a = #[(.long q0), (.long q1), (.long q2), (.long q3), (.long q4)] ∧ Z.Warmed39 U.vm ∧ U.heap = h0) (fun _ _ _ _ _ => True) (fun _ U o U' => ∃ v L, o = .returned v ∧ QL (some (.int (f0 q0 q1 q2 q3 q4))) n0 v U'.heap L ∧ FrameEnd U o U' L room_1.cells room_1.slots) := by
  refine MetFree.of_bodySF (plainFor_of_name pn_0) hisR ?_
  intro p e s m args below meth c s₁ Bd hml0 hP hK
  obtain ⟨rfl, hZ, hh⟩ := hP
  have hx := Bd.exec
  have hby := Bd.bytes
  have hml : c.maxLocals = 18 := hml0
  have hown : s.vm.findClass "com/example/touchfall/touchfall/NodeIsInBoxPinLaw" = some m.cls := findClass_of_methodNamed Bd.named
  have hnm := (name_of_methodNamed Bd.named Bd.method).1
  have X0 : Stand p l e room_1 s m #[(.long q0), (.long q1), (.long q2), (.long q3), (.long q4)] below meth c s₁ [] 0 0 := Stand.of_body Bd
  have e0 : s₁.heap = h0 := by rw [← hh, Bd.state]; rfl
  have N0 := Fr.nil n0
  have K0 : Keep h0 h0 [] := Keep.refl _ _
  have pre0 : ∀ t, Steps p.tables e below (s₁.setTop (mkF m 0 #[.val (.long q0), .second, .val (.long q1), .second, .val (.long q2), .second, .val (.long q3), .second, .val (.long q4), .second, .unset, .unset, .unset, .unset, .unset, .unset, .unset, .unset] [])) t → Steps p.tables e below (s₁.setTop (entryFrame m #[(.long q0), (.long q1), (.long q2), (.long q3), (.long q4)] maxLocals)) t := fun t k => castTop (ef_0 m q0 q1 q2 q3 q4) k
  have pre4 : ∀ t, Steps p.tables e below (s₁.setTop (mkF m 32 #[.val (.long q0), .second, .val (.long q1), .second, .val (.long q2), .second, .val (.long q3), .second, .val (.long q4), .second, .val (.long (q2 &&& (2147483647 : Int64))), .second, .val (.long (q3 &&& (2147483647 : Int64))), .second, .val (.long (q4 &&& (2147483647 : Int64))), .second, .unset, .unset] [(.long (q4 &&& (2147483647 : Int64))), (.long (q3 &&& (2147483647 : Int64))), (.long (q2 &&& (2147483647 : Int64))), (.long q1), (.long q0)])) t → Steps p.tables e below (s₁.setTop (entryFrame m #[(.long q0), (.long q1), (.long q2), (.long q3), (.long q4)] maxLocals)) t := fun t k => pre0 t (by
    show Steps p.tables e below (s₁.setTop (mkF m 0 #[.val (.long q0), .second, .val (.long q1), .second, .val (.long q2), .second, .val (.long q3), .second, .val (.long q4), .second, .unset, .unset, .unset, .unset, .unset, .unset, .unset, .unset] [])) _
    refine XS.lload X0.here hx rfl (hb hby at_0) rfl ?_
    show Steps p.tables e below (s₁.setTop (mkF m 2 #[.val (.long q0), .second, .val (.long q1), .second, .val (.long q2), .second, .val (.long q3), .second, .val (.long q4), .second, .unset, .unset, .unset, .unset, .unset, .unset, .unset, .unset] [(.long q2)])) _
    refine X0.ldc2Long hx hown (mvT hZ (hw _ (List.mem_of_getElem? (i := 0) rfl))) (g := (mkF m 2 #[.val (.long q0), .second, .val (.long q1), .second, .val (.long q2), .second, .val (.long q3), .second, .val (.long q4), .second, .unset, .unset, .unset, .unset, .unset, .unset, .unset, .unset] [(.long q2)])) rfl (hb hby at_2) _ ?_
    show Steps p.tables e below (s₁.setTop (mkF m 5 #[.val (.long q0), .second, .val (.long q1), .second, .val (.long q2), .second, .val (.long q3), .second, .val (.long q4), .second, .unset, .unset, .unset, .unset, .unset, .unset, .unset, .unset] [(.long (2147483647 : Int64)), (.long q2)])) _
    refine XS.land X0.here hx rfl (hb hby at_5) rfl ?_
    show Steps p.tables e below (s₁.setTop (mkF m 6 #[.val (.long q0), .second, .val (.long q1), .second, .val (.long q2), .second, .val (.long q3), .second, .val (.long q4), .second, .unset, .unset, .unset, .unset, .unset, .unset, .unset, .unset] [(.long (q2 &&& (2147483647 : Int64)))])) _
    refine XS.lstore X0.here hx rfl (hb hby at_6) rfl (l' := #[.val (.long q0), .second, .val (.long q1), .second, .val (.long q2), .second, .val (.long q3), .second, .val (.long q4), .second, .val (.long (q2 &&& (2147483647 : Int64))), .second, .unset, .unset, .unset, .unset, .unset, .unset]) rfl ?_
    show Steps p.tables e below (s₁.setTop (mkF m 8 #[.val (.long q0), .second, .val (.long q1), .second, .val (.long q2), .second, .val (.long q3), .second, .val (.long q4), .second, .val (.long (q2 &&& (2147483647 : Int64))), .second, .unset, .unset, .unset, .unset, .unset, .unset] [])) _
    refine XS.lload X0.here hx rfl (hb hby at_8) rfl ?_
    show Steps p.tables e below (s₁.setTop (mkF m 10 #[.val (.long q0), .second, .val (.long q1), .second, .val (.long q2), .second, .val (.long q3), .second, .val (.long q4), .second, .val (.long (q2 &&& (2147483647 : Int64))), .second, .unset, .unset, .unset, .unset, .unset, .unset] [(.long q3)])) _
    refine X0.ldc2Long hx hown (mvT hZ (hw _ (List.mem_of_getElem? (i := 0) rfl))) (g := (mkF m 10 #[.val (.long q0), .second, .val (.long q1), .second, .val (.long q2), .second, .val (.long q3), .second, .val (.long q4), .second, .val (.long (q2 &&& (2147483647 : Int64))), .second, .unset, .unset, .unset, .unset, .unset, .unset] [(.long q3)])) rfl (hb hby at_10) _ ?_
    show Steps p.tables e below (s₁.setTop (mkF m 13 #[.val (.long q0), .second, .val (.long q1), .second, .val (.long q2), .second, .val (.long q3), .second, .val (.long q4), .second, .val (.long (q2 &&& (2147483647 : Int64))), .second, .unset, .unset, .unset, .unset, .unset, .unset] [(.long (2147483647 : Int64)), (.long q3)])) _
    refine XS.land X0.here hx rfl (hb hby at_13) rfl ?_
    show Steps p.tables e below (s₁.setTop (mkF m 14 #[.val (.long q0), .second, .val (.long q1), .second, .val (.long q2), .second, .val (.long q3), .second, .val (.long q4), .second, .val (.long (q2 &&& (2147483647 : Int64))), .second, .unset, .unset, .unset, .unset, .unset, .unset] [(.long (q3 &&& (2147483647 : Int64)))])) _
    refine XS.lstore X0.here hx rfl (hb hby at_14) rfl (l' := #[.val (.long q0), .second, .val (.long q1), .second, .val (.long q2), .second, .val (.long q3), .second, .val (.long q4), .second, .val (.long (q2 &&& (2147483647 : Int64))), .second, .val (.long (q3 &&& (2147483647 : Int64))), .second, .unset, .unset, .unset, .unset]) rfl ?_
    show Steps p.tables e below (s₁.setTop (mkF m 16 #[.val (.long q0), .second, .val (.long q1), .second, .val (.long q2), .second, .val (.long q3), .second, .val (.long q4), .second, .val (.long (q2 &&& (2147483647 : Int64))), .second, .val (.long (q3 &&& (2147483647 : Int64))), .second, .unset, .unset, .unset, .unset] [])) _
    refine XS.lload X0.here hx rfl (hb hby at_16) rfl ?_
    show Steps p.tables e below (s₁.setTop (mkF m 18 #[.val (.long q0), .second, .val (.long q1), .second, .val (.long q2), .second, .val (.long q3), .second, .val (.long q4), .second, .val (.long (q2 &&& (2147483647 : Int64))), .second, .val (.long (q3 &&& (2147483647 : Int64))), .second, .unset, .unset, .unset, .unset] [(.long q4)])) _
    refine X0.ldc2Long hx hown (mvT hZ (hw _ (List.mem_of_getElem? (i := 0) rfl))) (g := (mkF m 18 #[.val (.long q0), .second, .val (.long q1), .second, .val (.long q2), .second, .val (.long q3), .second, .val (.long q4), .second, .val (.long (q2 &&& (2147483647 : Int64))), .second, .val (.long (q3 &&& (2147483647 : Int64))), .second, .unset, .unset, .unset, .unset] [(.long q4)])) rfl (hb hby at_18) _ ?_
    show Steps p.tables e below (s₁.setTop (mkF m 21 #[.val (.long q0), .second, .val (.long q1), .second, .val (.long q2), .second, .val (.long q3), .second, .val (.long q4), .second, .val (.long (q2 &&& (2147483647 : Int64))), .second, .val (.long (q3 &&& (2147483647 : Int64))), .second, .unset, .unset, .unset, .unset] [(.long (2147483647 : Int64)), (.long q4)])) _
    refine XS.land X0.here hx rfl (hb hby at_21) rfl ?_
    show Steps p.tables e below (s₁.setTop (mkF m 22 #[.val (.long q0), .second, .val (.long q1), .second, .val (.long q2), .second, .val (.long q3), .second, .val (.long q4), .second, .val (.long (q2 &&& (2147483647 : Int64))), .second, .val (.long (q3 &&& (2147483647 : Int64))), .second, .unset, .unset, .unset, .unset] [(.long (q4 &&& (2147483647 : Int64)))])) _
    refine XS.lstore X0.here hx rfl (hb hby at_22) rfl (l' := #[.val (.long q0), .second, .val (.long q1), .second, .val (.long q2), .second, .val (.long q3), .second, .val (.long q4), .second, .val (.long (q2 &&& (2147483647 : Int64))), .second, .val (.long (q3 &&& (2147483647 : Int64))), .second, .val (.long (q4 &&& (2147483647 : Int64))), .second, .unset, .unset]) rfl ?_
    show Steps p.tables e below (s₁.setTop (mkF m 24 #[.val (.long q0), .second, .val (.long q1), .second, .val (.long q2), .second, .val (.long q3), .second, .val (.long q4), .second, .val (.long (q2 &&& (2147483647 : Int64))), .second, .val (.long (q3 &&& (2147483647 : Int64))), .second, .val (.long (q4 &&& (2147483647 : Int64))), .second, .unset, .unset] [])) _
    refine XS.lloadN X0.here hx rfl (hb hby at_24) rfl ?_
    show Steps p.tables e below (s₁.setTop (mkF m 25 #[.val (.long q0), .second, .val (.long q1), .second, .val (.long q2), .second, .val (.long q3), .second, .val (.long q4), .second, .val (.long (q2 &&& (2147483647 : Int64))), .second, .val (.long (q3 &&& (2147483647 : Int64))), .second, .val (.long (q4 &&& (2147483647 : Int64))), .second, .unset, .unset] [(.long q0)])) _
    refine XS.lloadN X0.here hx rfl (hb hby at_25) rfl ?_
    show Steps p.tables e below (s₁.setTop (mkF m 26 #[.val (.long q0), .second, .val (.long q1), .second, .val (.long q2), .second, .val (.long q3), .second, .val (.long q4), .second, .val (.long (q2 &&& (2147483647 : Int64))), .second, .val (.long (q3 &&& (2147483647 : Int64))), .second, .val (.long (q4 &&& (2147483647 : Int64))), .second, .unset, .unset] [(.long q1), (.long q0)])) _
    refine XS.lload X0.here hx rfl (hb hby at_26) rfl ?_
    show Steps p.tables e below (s₁.setTop (mkF m 28 #[.val (.long q0), .second, .val (.long q1), .second, .val (.long q2), .second, .val (.long q3), .second, .val (.long q4), .second, .val (.long (q2 &&& (2147483647 : Int64))), .second, .val (.long (q3 &&& (2147483647 : Int64))), .second, .val (.long (q4 &&& (2147483647 : Int64))), .second, .unset, .unset] [(.long (q2 &&& (2147483647 : Int64))), (.long q1), (.long q0)])) _
    refine XS.lload X0.here hx rfl (hb hby at_28) rfl ?_
    show Steps p.tables e below (s₁.setTop (mkF m 30 #[.val (.long q0), .second, .val (.long q1), .second, .val (.long q2), .second, .val (.long q3), .second, .val (.long q4), .second, .val (.long (q2 &&& (2147483647 : Int64))), .second, .val (.long (q3 &&& (2147483647 : Int64))), .second, .val (.long (q4 &&& (2147483647 : Int64))), .second, .unset, .unset] [(.long (q3 &&& (2147483647 : Int64))), (.long (q2 &&& (2147483647 : Int64))), (.long q1), (.long q0)])) _
    refine XS.lload X0.here hx rfl (hb hby at_30) rfl ?_
    exact k)
  obtain ⟨_, _, ⟨T5, L5, k5, n5⟩, -, X5, ⟨Lc5, hQ5, l5, y5, z5⟩, st5⟩ := Jvm.LawKit.callS X0 hx (y := (⟨"com/example/touchfall/touchfall/Node", "isInBox", "(JJJJJ)Z"⟩ : MethodName)) hown (mvT hZ (hw _ (List.mem_of_getElem? (i := 1) rfl))) (mvT hZ (hw _ (List.mem_of_getElem? (i := 2) rfl))) (mvT hZ (hw _ (List.mem_of_getElem? (i := 3) rfl))) (mvT hZ (hw _ (List.mem_of_getElem? (i := 4) rfl))) (by decide) (backOf (W := 0) (rm1 l Z a0 hw [] q0 q1 (q2 &&& (2147483647 : Int64)) (q3 &&& (2147483647 : Int64)) (q4 &&& (2147483647 : Int64)) h0 n0 Z0) hZ (hw _ (List.mem_of_getElem? (i := 4) rfl)) (hw _ (List.mem_of_getElem? (i := 3) rfl)) (by decide) (by decide)) (g := (mkF m 32 #[.val (.long q0), .second, .val (.long q1), .second, .val (.long q2), .second, .val (.long q3), .second, .val (.long q4), .second, .val (.long (q2 &&& (2147483647 : Int64))), .second, .val (.long (q3 &&& (2147483647 : Int64))), .second, .val (.long (q4 &&& (2147483647 : Int64))), .second, .unset, .unset] [(.long (q4 &&& (2147483647 : Int64))), (.long (q3 &&& (2147483647 : Int64))), (.long (q2 &&& (2147483647 : Int64))), (.long q1), (.long q0)])) rfl (by rw [hml]; rfl) (argsL := [(.long q0), (.long q1), (.long (q2 &&& (2147483647 : Int64))), (.long (q3 &&& (2147483647 : Int64))), (.long (q4 &&& (2147483647 : Int64)))]) (rest := []) (lenOf pd__JJJJJ_Z rfl) rfl (by show 2 * 0 + _ ≤ _; exact Nat.le_of_eq rfl) (hb hby at_32) (fun _ _ => ⟨rfl, e0, (by decide : 0 + 0 ≤ _), (by decide : 0 + 0 ≤ _)⟩)
  dsimp only [Pt.U, Pt.locs, Pt.cells, Pt.slots] at X5 l5 y5 z5 st5 hQ5
  subst l5 y5 z5
  obtain ⟨rfl, Nq5, e5⟩ := hQ5
  have N5 := Fr.app N0 Nq5
  have pre6 : ∀ t, Steps p.tables e below (T5.setTop (mkF m 35 #[.val (.long q0), .second, .val (.long q1), .second, .val (.long q2), .second, .val (.long q3), .second, .val (.long q4), .second, .val (.long (q2 &&& (2147483647 : Int64))), .second, .val (.long (q3 &&& (2147483647 : Int64))), .second, .val (.long (q4 &&& (2147483647 : Int64))), .second, .unset, .unset] [(.int (f1 q0 q1 (q2 &&& (2147483647 : Int64)) (q3 &&& (2147483647 : Int64)) (q4 &&& (2147483647 : Int64))))])) t → Steps p.tables e below (s₁.setTop (entryFrame m #[(.long q0), (.long q1), (.long q2), (.long q3), (.long q4)] maxLocals)) t := fun t k => pre4 t (st5 _ k)
  have pre7 : ∀ t, Steps p.tables e below (T5.setTop (mkF m 42 #[.val (.long q0), .second, .val (.long q1), .second, .val (.long q2), .second, .val (.long q3), .second, .val (.long q4), .second, .val (.long (q2 &&& (2147483647 : Int64))), .second, .val (.long (q3 &&& (2147483647 : Int64))), .second, .val (.long (q4 &&& (2147483647 : Int64))), .second, .val (.int (v0_35 q0 q1 q2 q3 q4)), .unset] [(.long (q4 &&& (2147483647 : Int64))), (.long (q2 &&& (2147483647 : Int64))), (.long q0)])) t → Steps p.tables e below (s₁.setTop (entryFrame m #[(.long q0), (.long q1), (.long q2), (.long q3), (.long q4)] maxLocals)) t := fun t k => pre6 t (by
    show Steps p.tables e below (T5.setTop (mkF m 35 #[.val (.long q0), .second, .val (.long q1), .second, .val (.long q2), .second, .val (.long q3), .second, .val (.long q4), .second, .val (.long (q2 &&& (2147483647 : Int64))), .second, .val (.long (q3 &&& (2147483647 : Int64))), .second, .val (.long (q4 &&& (2147483647 : Int64))), .second, .unset, .unset] [(.int (f1 q0 q1 (q2 &&& (2147483647 : Int64)) (q3 &&& (2147483647 : Int64)) (q4 &&& (2147483647 : Int64))))])) _
    refine XS.istore X5.here hx rfl (hb hby at_35) rfl (l' := #[.val (.long q0), .second, .val (.long q1), .second, .val (.long q2), .second, .val (.long q3), .second, .val (.long q4), .second, .val (.long (q2 &&& (2147483647 : Int64))), .second, .val (.long (q3 &&& (2147483647 : Int64))), .second, .val (.long (q4 &&& (2147483647 : Int64))), .second, .val (.int (v0_35 q0 q1 q2 q3 q4)), .unset]) rfl ?_
    show Steps p.tables e below (T5.setTop (mkF m 37 #[.val (.long q0), .second, .val (.long q1), .second, .val (.long q2), .second, .val (.long q3), .second, .val (.long q4), .second, .val (.long (q2 &&& (2147483647 : Int64))), .second, .val (.long (q3 &&& (2147483647 : Int64))), .second, .val (.long (q4 &&& (2147483647 : Int64))), .second, .val (.int (v0_35 q0 q1 q2 q3 q4)), .unset] [])) _
    refine XS.lloadN X5.here hx rfl (hb hby at_37) rfl ?_
    show Steps p.tables e below (T5.setTop (mkF m 38 #[.val (.long q0), .second, .val (.long q1), .second, .val (.long q2), .second, .val (.long q3), .second, .val (.long q4), .second, .val (.long (q2 &&& (2147483647 : Int64))), .second, .val (.long (q3 &&& (2147483647 : Int64))), .second, .val (.long (q4 &&& (2147483647 : Int64))), .second, .val (.int (v0_35 q0 q1 q2 q3 q4)), .unset] [(.long q0)])) _
    refine XS.lload X5.here hx rfl (hb hby at_38) rfl ?_
    show Steps p.tables e below (T5.setTop (mkF m 40 #[.val (.long q0), .second, .val (.long q1), .second, .val (.long q2), .second, .val (.long q3), .second, .val (.long q4), .second, .val (.long (q2 &&& (2147483647 : Int64))), .second, .val (.long (q3 &&& (2147483647 : Int64))), .second, .val (.long (q4 &&& (2147483647 : Int64))), .second, .val (.int (v0_35 q0 q1 q2 q3 q4)), .unset] [(.long (q2 &&& (2147483647 : Int64))), (.long q0)])) _
    refine XS.lload X5.here hx rfl (hb hby at_40) rfl ?_
    exact k)
  obtain ⟨_, _, ⟨T8, L8, k8, n8⟩, -, X8, ⟨Lc8, hQ8, l8, y8, z8⟩, st8⟩ := Jvm.LawKit.callS X5 hx (y := (⟨"com/example/touchfall/touchfall/NodeIsInBoxPinLaw", "axis", "(JJJ)Z"⟩ : MethodName)) hown (mvT hZ (hw _ (List.mem_of_getElem? (i := 5) rfl))) (mvT hZ (hw _ (List.mem_of_getElem? (i := 6) rfl))) (mvT hZ (hw _ (List.mem_of_getElem? (i := 7) rfl))) (mvT hZ (hw _ (List.mem_of_getElem? (i := 8) rfl))) (by decide) (backOf (W := 0) (rm2 l Z a0 hw [] q0 (q2 &&& (2147483647 : Int64)) (q4 &&& (2147483647 : Int64)) h0 n0 Z0) hZ (hw _ (List.mem_of_getElem? (i := 8) rfl)) (hw _ (List.mem_of_getElem? (i := 7) rfl)) (by decide) (by decide)) (g := (mkF m 42 #[.val (.long q0), .second, .val (.long q1), .second, .val (.long q2), .second, .val (.long q3), .second, .val (.long q4), .second, .val (.long (q2 &&& (2147483647 : Int64))), .second, .val (.long (q3 &&& (2147483647 : Int64))), .second, .val (.long (q4 &&& (2147483647 : Int64))), .second, .val (.int (v0_35 q0 q1 q2 q3 q4)), .unset] [(.long (q4 &&& (2147483647 : Int64))), (.long (q2 &&& (2147483647 : Int64))), (.long q0)])) rfl (by rw [hml]; rfl) (argsL := [(.long q0), (.long (q2 &&& (2147483647 : Int64))), (.long (q4 &&& (2147483647 : Int64)))]) (rest := []) (lenOf pd__JJJ_Z rfl) rfl (by show 2 * 0 + _ ≤ _; exact Nat.le_of_eq rfl) (hb hby at_42) (fun _ _ => ⟨rfl, e5, (by decide : 0 + 0 ≤ _), (by decide : 0 + 0 ≤ _)⟩)
  dsimp only [Pt.U, Pt.locs, Pt.cells, Pt.slots] at X8 l8 y8 z8 st8 hQ8
  subst l8 y8 z8
  obtain ⟨rfl, Nq8, e8⟩ := hQ8
  have N8 := Fr.app N5 Nq8
  have pre9 : ∀ t, Steps p.tables e below (T8.setTop (mkF m 45 #[.val (.long q0), .second, .val (.long q1), .second, .val (.long q2), .second, .val (.long q3), .second, .val (.long q4), .second, .val (.long (q2 &&& (2147483647 : Int64))), .second, .val (.long (q3 &&& (2147483647 : Int64))), .second, .val (.long (q4 &&& (2147483647 : Int64))), .second, .val (.int (v0_35 q0 q1 q2 q3 q4)), .unset] [(.int (f2 q0 (q2 &&& (2147483647 : Int64)) (q4 &&& (2147483647 : Int64))))])) t → Steps p.tables e below (s₁.setTop (entryFrame m #[(.long q0), (.long q1), (.long q2), (.long q3), (.long q4)] maxLocals)) t := fun t k => pre7 t (st8 _ k)
  obtain ⟨T10, L10, X10, e10, N10, pre10⟩ : ∃ (T' : State) (L' : List Loc), Stand p l e room_1 s m #[(.long q0), (.long q1), (.long q2), (.long q3), (.long q4)] below meth c T' L' 0 0 ∧ T'.heap = h0 ∧ Fr n0 L' ∧ ∀ t, Steps p.tables e below (T'.setTop (mkF m 64 #[.val (.long q0), .second, .val (.long q1), .second, .val (.long q2), .second, .val (.long q3), .second, .val (.long q4), .second, .val (.long (q2 &&& (2147483647 : Int64))), .second, .val (.long (q3 &&& (2147483647 : Int64))), .second, .val (.long (q4 &&& (2147483647 : Int64))), .second, .val (.int (v0_35 q0 q1 q2 q3 q4)), .unset] [(.int (v0_64_s0 q0 q1 q2 q3 q4))])) t → Steps p.tables e below (s₁.setTop (entryFrame m #[(.long q0), (.long q1), (.long q2), (.long q3), (.long q4)] maxLocals)) t := by
    by_cases hc45_1 : (f2 q0 (q2 &&& (2147483647 : Int64)) (q4 &&& (2147483647 : Int64))) = (0 : Int32)
    · have pre11 : ∀ t, Steps p.tables e below (T8.setTop (mkF m 64 #[.val (.long q0), .second, .val (.long q1), .second, .val (.long q2), .second, .val (.long q3), .second, .val (.long q4), .second, .val (.long (q2 &&& (2147483647 : Int64))), .second, .val (.long (q3 &&& (2147483647 : Int64))), .second, .val (.long (q4 &&& (2147483647 : Int64))), .second, .val (.int (v0_35 q0 q1 q2 q3 q4)), .unset] [(.int (0 : Int32))])) t → Steps p.tables e below (s₁.setTop (entryFrame m #[(.long q0), (.long q1), (.long q2), (.long q3), (.long q4)] maxLocals)) t := fun t k => pre9 t (by
        show Steps p.tables e below (T8.setTop (mkF m 45 #[.val (.long q0), .second, .val (.long q1), .second, .val (.long q2), .second, .val (.long q3), .second, .val (.long q4), .second, .val (.long (q2 &&& (2147483647 : Int64))), .second, .val (.long (q3 &&& (2147483647 : Int64))), .second, .val (.long (q4 &&& (2147483647 : Int64))), .second, .val (.int (v0_35 q0 q1 q2 q3 q4)), .unset] [(.int (f2 q0 (q2 &&& (2147483647 : Int64)) (q4 &&& (2147483647 : Int64))))])) _
        refine XS.ifYes X8.here hx rfl (pc0 := 45) (pc' := 63) rfl (hb hby at_45) rfl ((if0 _ _).trans (teq hc45_1).1) (by decide) (by decide) ?_
        show Steps p.tables e below (T8.setTop (mkF m 63 #[.val (.long q0), .second, .val (.long q1), .second, .val (.long q2), .second, .val (.long q3), .second, .val (.long q4), .second, .val (.long (q2 &&& (2147483647 : Int64))), .second, .val (.long (q3 &&& (2147483647 : Int64))), .second, .val (.long (q4 &&& (2147483647 : Int64))), .second, .val (.int (v0_35 q0 q1 q2 q3 q4)), .unset] [])) _
        refine XS.iconst X8.here hx rfl (hb hby at_63) ?_
        exact k)
      exact ⟨T8, _, X8, e8, N8, fun t k => pre11 t (by simpa only [v0_64_s0, if_pos hc45_1] using k)⟩
    · have pre12 : ∀ t, Steps p.tables e below (T8.setTop (mkF m 53 #[.val (.long q0), .second, .val (.long q1), .second, .val (.long q2), .second, .val (.long q3), .second, .val (.long q4), .second, .val (.long (q2 &&& (2147483647 : Int64))), .second, .val (.long (q3 &&& (2147483647 : Int64))), .second, .val (.long (q4 &&& (2147483647 : Int64))), .second, .val (.int (v0_35 q0 q1 q2 q3 q4)), .unset] [(.long (q4 &&& (2147483647 : Int64))), (.long (q3 &&& (2147483647 : Int64))), (.long q1)])) t → Steps p.tables e below (s₁.setTop (entryFrame m #[(.long q0), (.long q1), (.long q2), (.long q3), (.long q4)] maxLocals)) t := fun t k => pre9 t (by
        show Steps p.tables e below (T8.setTop (mkF m 45 #[.val (.long q0), .second, .val (.long q1), .second, .val (.long q2), .second, .val (.long q3), .second, .val (.long q4), .second, .val (.long (q2 &&& (2147483647 : Int64))), .second, .val (.long (q3 &&& (2147483647 : Int64))), .second, .val (.long (q4 &&& (2147483647 : Int64))), .second, .val (.int (v0_35 q0 q1 q2 q3 q4)), .unset] [(.int (f2 q0 (q2 &&& (2147483647 : Int64)) (q4 &&& (2147483647 : Int64))))])) _
        refine XS.ifNo X8.here hx rfl (hb hby at_45) rfl ((if0 _ _).trans (feq hc45_1).1) ?_
        show Steps p.tables e below (T8.setTop (mkF m 48 #[.val (.long q0), .second, .val (.long q1), .second, .val (.long q2), .second, .val (.long q3), .second, .val (.long q4), .second, .val (.long (q2 &&& (2147483647 : Int64))), .second, .val (.long (q3 &&& (2147483647 : Int64))), .second, .val (.long (q4 &&& (2147483647 : Int64))), .second, .val (.int (v0_35 q0 q1 q2 q3 q4)), .unset] [])) _
        refine XS.lloadN X8.here hx rfl (hb hby at_48) rfl ?_
        show Steps p.tables e below (T8.setTop (mkF m 49 #[.val (.long q0), .second, .val (.long q1), .second, .val (.long q2), .second, .val (.long q3), .second, .val (.long q4), .second, .val (.long (q2 &&& (2147483647 : Int64))), .second, .val (.long (q3 &&& (2147483647 : Int64))), .second, .val (.long (q4 &&& (2147483647 : Int64))), .second, .val (.int (v0_35 q0 q1 q2 q3 q4)), .unset] [(.long q1)])) _
        refine XS.lload X8.here hx rfl (hb hby at_49) rfl ?_
        show Steps p.tables e below (T8.setTop (mkF m 51 #[.val (.long q0), .second, .val (.long q1), .second, .val (.long q2), .second, .val (.long q3), .second, .val (.long q4), .second, .val (.long (q2 &&& (2147483647 : Int64))), .second, .val (.long (q3 &&& (2147483647 : Int64))), .second, .val (.long (q4 &&& (2147483647 : Int64))), .second, .val (.int (v0_35 q0 q1 q2 q3 q4)), .unset] [(.long (q3 &&& (2147483647 : Int64))), (.long q1)])) _
        refine XS.lload X8.here hx rfl (hb hby at_51) rfl ?_
        exact k)
      obtain ⟨_, _, ⟨T13, L13, k13, n13⟩, -, X13, ⟨Lc13, hQ13, l13, y13, z13⟩, st13⟩ := Jvm.LawKit.callS X8 hx (y := (⟨"com/example/touchfall/touchfall/NodeIsInBoxPinLaw", "axis", "(JJJ)Z"⟩ : MethodName)) hown (mvT hZ (hw _ (List.mem_of_getElem? (i := 5) rfl))) (mvT hZ (hw _ (List.mem_of_getElem? (i := 6) rfl))) (mvT hZ (hw _ (List.mem_of_getElem? (i := 7) rfl))) (mvT hZ (hw _ (List.mem_of_getElem? (i := 8) rfl))) (by decide) (backOf (W := 0) (rm2 l Z a0 hw [] q1 (q3 &&& (2147483647 : Int64)) (q4 &&& (2147483647 : Int64)) h0 n0 Z0) hZ (hw _ (List.mem_of_getElem? (i := 8) rfl)) (hw _ (List.mem_of_getElem? (i := 7) rfl)) (by decide) (by decide)) (g := (mkF m 53 #[.val (.long q0), .second, .val (.long q1), .second, .val (.long q2), .second, .val (.long q3), .second, .val (.long q4), .second, .val (.long (q2 &&& (2147483647 : Int64))), .second, .val (.long (q3 &&& (2147483647 : Int64))), .second, .val (.long (q4 &&& (2147483647 : Int64))), .second, .val (.int (v0_35 q0 q1 q2 q3 q4)), .unset] [(.long (q4 &&& (2147483647 : Int64))), (.long (q3 &&& (2147483647 : Int64))), (.long q1)])) rfl (by rw [hml]; rfl) (argsL := [(.long q1), (.long (q3 &&& (2147483647 : Int64))), (.long (q4 &&& (2147483647 : Int64)))]) (rest := []) (lenOf pd__JJJ_Z rfl) rfl (by show 2 * 0 + _ ≤ _; exact Nat.le_of_eq rfl) (hb hby at_53) (fun _ _ => ⟨rfl, e8, (by decide : 0 + 0 ≤ _), (by decide : 0 + 0 ≤ _)⟩)
      dsimp only [Pt.U, Pt.locs, Pt.cells, Pt.slots] at X13 l13 y13 z13 st13 hQ13
      subst l13 y13 z13
      obtain ⟨rfl, Nq13, e13⟩ := hQ13
      have N13 := Fr.app N8 Nq13
      have pre14 : ∀ t, Steps p.tables e below (T13.setTop (mkF m 56 #[.val (.long q0), .second, .val (.long q1), .second, .val (.long q2), .second, .val (.long q3), .second, .val (.long q4), .second, .val (.long (q2 &&& (2147483647 : Int64))), .second, .val (.long (q3 &&& (2147483647 : Int64))), .second, .val (.long (q4 &&& (2147483647 : Int64))), .second, .val (.int (v0_35 q0 q1 q2 q3 q4)), .unset] [(.int (f2 q1 (q3 &&& (2147483647 : Int64)) (q4 &&& (2147483647 : Int64))))])) t → Steps p.tables e below (s₁.setTop (entryFrame m #[(.long q0), (.long q1), (.long q2), (.long q3), (.long q4)] maxLocals)) t := fun t k => pre12 t (st13 _ k)
      by_cases hc56_2 : (f2 q1 (q3 &&& (2147483647 : Int64)) (q4 &&& (2147483647 : Int64))) = (0 : Int32)
      · have pre15 : ∀ t, Steps p.tables e below (T13.setTop (mkF m 64 #[.val (.long q0), .second, .val (.long q1), .second, .val (.long q2), .second, .val (.long q3), .second, .val (.long q4), .second, .val (.long (q2 &&& (2147483647 : Int64))), .second, .val (.long (q3 &&& (2147483647 : Int64))), .second, .val (.long (q4 &&& (2147483647 : Int64))), .second, .val (.int (v0_35 q0 q1 q2 q3 q4)), .unset] [(.int (0 : Int32))])) t → Steps p.tables e below (s₁.setTop (entryFrame m #[(.long q0), (.long q1), (.long q2), (.long q3), (.long q4)] maxLocals)) t := fun t k => pre14 t (by
          show Steps p.tables e below (T13.setTop (mkF m 56 #[.val (.long q0), .second, .val (.long q1), .second, .val (.long q2), .second, .val (.long q3), .second, .val (.long q4), .second, .val (.long (q2 &&& (2147483647 : Int64))), .second, .val (.long (q3 &&& (2147483647 : Int64))), .second, .val (.long (q4 &&& (2147483647 : Int64))), .second, .val (.int (v0_35 q0 q1 q2 q3 q4)), .unset] [(.int (f2 q1 (q3 &&& (2147483647 : Int64)) (q4 &&& (2147483647 : Int64))))])) _
          refine XS.ifYes X13.here hx rfl (pc0 := 56) (pc' := 63) rfl (hb hby at_56) rfl ((if0 _ _).trans (teq hc56_2).1) (by decide) (by decide) ?_
          show Steps p.tables e below (T13.setTop (mkF m 63 #[.val (.long q0), .second, .val (.long q1), .second, .val (.long q2), .second, .val (.long q3), .second, .val (.long q4), .second, .val (.long (q2 &&& (2147483647 : Int64))), .second, .val (.long (q3 &&& (2147483647 : Int64))), .second, .val (.long (q4 &&& (2147483647 : Int64))), .second, .val (.int (v0_35 q0 q1 q2 q3 q4)), .unset] [])) _
          refine XS.iconst X13.here hx rfl (hb hby at_63) ?_
          exact k)
        exact ⟨T13, _, X13, e13, N13, fun t k => pre15 t (by simpa only [v0_64_s0, if_neg hc45_1, if_pos hc56_2] using k)⟩
      · have pre16 : ∀ t, Steps p.tables e below (T13.setTop (mkF m 64 #[.val (.long q0), .second, .val (.long q1), .second, .val (.long q2), .second, .val (.long q3), .second, .val (.long q4), .second, .val (.long (q2 &&& (2147483647 : Int64))), .second, .val (.long (q3 &&& (2147483647 : Int64))), .second, .val (.long (q4 &&& (2147483647 : Int64))), .second, .val (.int (v0_35 q0 q1 q2 q3 q4)), .unset] [(.int (1 : Int32))])) t → Steps p.tables e below (s₁.setTop (entryFrame m #[(.long q0), (.long q1), (.long q2), (.long q3), (.long q4)] maxLocals)) t := fun t k => pre14 t (by
          show Steps p.tables e below (T13.setTop (mkF m 56 #[.val (.long q0), .second, .val (.long q1), .second, .val (.long q2), .second, .val (.long q3), .second, .val (.long q4), .second, .val (.long (q2 &&& (2147483647 : Int64))), .second, .val (.long (q3 &&& (2147483647 : Int64))), .second, .val (.long (q4 &&& (2147483647 : Int64))), .second, .val (.int (v0_35 q0 q1 q2 q3 q4)), .unset] [(.int (f2 q1 (q3 &&& (2147483647 : Int64)) (q4 &&& (2147483647 : Int64))))])) _
          refine XS.ifNo X13.here hx rfl (hb hby at_56) rfl ((if0 _ _).trans (feq hc56_2).1) ?_
          show Steps p.tables e below (T13.setTop (mkF m 59 #[.val (.long q0), .second, .val (.long q1), .second, .val (.long q2), .second, .val (.long q3), .second, .val (.long q4), .second, .val (.long (q2 &&& (2147483647 : Int64))), .second, .val (.long (q3 &&& (2147483647 : Int64))), .second, .val (.long (q4 &&& (2147483647 : Int64))), .second, .val (.int (v0_35 q0 q1 q2 q3 q4)), .unset] [])) _
          refine XS.iconst X13.here hx rfl (hb hby at_59) ?_
          show Steps p.tables e below (T13.setTop (mkF m 60 #[.val (.long q0), .second, .val (.long q1), .second, .val (.long q2), .second, .val (.long q3), .second, .val (.long q4), .second, .val (.long (q2 &&& (2147483647 : Int64))), .second, .val (.long (q3 &&& (2147483647 : Int64))), .second, .val (.long (q4 &&& (2147483647 : Int64))), .second, .val (.int (v0_35 q0 q1 q2 q3 q4)), .unset] [(.int (1 : Int32))])) _
          refine XS.goto X13.here hx rfl (pc0 := 60) (pc' := 64) rfl (hb hby at_60) (by decide) (by decide) ?_
          exact k)
        exact ⟨T13, _, X13, e13, N13, fun t k => pre16 t (by simpa only [v0_64_s0, if_neg hc45_1, if_neg hc56_2] using k)⟩
  have pre17 : ∀ t, Steps p.tables e below (T10.setTop (mkF m 70 #[.val (.long q0), .second, .val (.long q1), .second, .val (.long q2), .second, .val (.long q3), .second, .val (.long q4), .second, .val (.long (q2 &&& (2147483647 : Int64))), .second, .val (.long (q3 &&& (2147483647 : Int64))), .second, .val (.long (q4 &&& (2147483647 : Int64))), .second, .val (.int (v0_35 q0 q1 q2 q3 q4)), .val (.int (v0_64_s0 q0 q1 q2 q3 q4))] [(.int (v0_64_s0 q0 q1 q2 q3 q4)), (.int (v0_35 q0 q1 q2 q3 q4))])) t → Steps p.tables e below (s₁.setTop (entryFrame m #[(.long q0), (.long q1), (.long q2), (.long q3), (.long q4)] maxLocals)) t := fun t k => pre10 t (by
    show Steps p.tables e below (T10.setTop (mkF m 64 #[.val (.long q0), .second, .val (.long q1), .second, .val (.long q2), .second, .val (.long q3), .second, .val (.long q4), .second, .val (.long (q2 &&& (2147483647 : Int64))), .second, .val (.long (q3 &&& (2147483647 : Int64))), .second, .val (.long (q4 &&& (2147483647 : Int64))), .second, .val (.int (v0_35 q0 q1 q2 q3 q4)), .unset] [(.int (v0_64_s0 q0 q1 q2 q3 q4))])) _
    refine XS.istore X10.here hx rfl (hb hby at_64) rfl (l' := #[.val (.long q0), .second, .val (.long q1), .second, .val (.long q2), .second, .val (.long q3), .second, .val (.long q4), .second, .val (.long (q2 &&& (2147483647 : Int64))), .second, .val (.long (q3 &&& (2147483647 : Int64))), .second, .val (.long (q4 &&& (2147483647 : Int64))), .second, .val (.int (v0_35 q0 q1 q2 q3 q4)), .val (.int (v0_64_s0 q0 q1 q2 q3 q4))]) rfl ?_
    show Steps p.tables e below (T10.setTop (mkF m 66 #[.val (.long q0), .second, .val (.long q1), .second, .val (.long q2), .second, .val (.long q3), .second, .val (.long q4), .second, .val (.long (q2 &&& (2147483647 : Int64))), .second, .val (.long (q3 &&& (2147483647 : Int64))), .second, .val (.long (q4 &&& (2147483647 : Int64))), .second, .val (.int (v0_35 q0 q1 q2 q3 q4)), .val (.int (v0_64_s0 q0 q1 q2 q3 q4))] [])) _
    refine XS.iload X10.here hx rfl (hb hby at_66) rfl ?_
    show Steps p.tables e below (T10.setTop (mkF m 68 #[.val (.long q0), .second, .val (.long q1), .second, .val (.long q2), .second, .val (.long q3), .second, .val (.long q4), .second, .val (.long (q2 &&& (2147483647 : Int64))), .second, .val (.long (q3 &&& (2147483647 : Int64))), .second, .val (.long (q4 &&& (2147483647 : Int64))), .second, .val (.int (v0_35 q0 q1 q2 q3 q4)), .val (.int (v0_64_s0 q0 q1 q2 q3 q4))] [(.int (v0_35 q0 q1 q2 q3 q4))])) _
    refine XS.iload X10.here hx rfl (hb hby at_68) rfl ?_
    exact k)
  by_cases hc70_3 : (v0_35 q0 q1 q2 q3 q4) = (v0_64_s0 q0 q1 q2 q3 q4)
  · have pre18 : ∀ t, Steps p.tables e below (T10.setTop (mkF m 78 #[.val (.long q0), .second, .val (.long q1), .second, .val (.long q2), .second, .val (.long q3), .second, .val (.long q4), .second, .val (.long (q2 &&& (2147483647 : Int64))), .second, .val (.long (q3 &&& (2147483647 : Int64))), .second, .val (.long (q4 &&& (2147483647 : Int64))), .second, .val (.int (v0_35 q0 q1 q2 q3 q4)), .val (.int (v0_64_s0 q0 q1 q2 q3 q4))] [(.int (1 : Int32))])) t → Steps p.tables e below (s₁.setTop (entryFrame m #[(.long q0), (.long q1), (.long q2), (.long q3), (.long q4)] maxLocals)) t := fun t k => pre17 t (by
      show Steps p.tables e below (T10.setTop (mkF m 70 #[.val (.long q0), .second, .val (.long q1), .second, .val (.long q2), .second, .val (.long q3), .second, .val (.long q4), .second, .val (.long (q2 &&& (2147483647 : Int64))), .second, .val (.long (q3 &&& (2147483647 : Int64))), .second, .val (.long (q4 &&& (2147483647 : Int64))), .second, .val (.int (v0_35 q0 q1 q2 q3 q4)), .val (.int (v0_64_s0 q0 q1 q2 q3 q4))] [(.int (v0_64_s0 q0 q1 q2 q3 q4)), (.int (v0_35 q0 q1 q2 q3 q4))])) _
      refine XS.icmpNo X10.here hx rfl (hb hby at_70) rfl (teq hc70_3).2 ?_
      show Steps p.tables e below (T10.setTop (mkF m 73 #[.val (.long q0), .second, .val (.long q1), .second, .val (.long q2), .second, .val (.long q3), .second, .val (.long q4), .second, .val (.long (q2 &&& (2147483647 : Int64))), .second, .val (.long (q3 &&& (2147483647 : Int64))), .second, .val (.long (q4 &&& (2147483647 : Int64))), .second, .val (.int (v0_35 q0 q1 q2 q3 q4)), .val (.int (v0_64_s0 q0 q1 q2 q3 q4))] [])) _
      refine XS.iconst X10.here hx rfl (hb hby at_73) ?_
      show Steps p.tables e below (T10.setTop (mkF m 74 #[.val (.long q0), .second, .val (.long q1), .second, .val (.long q2), .second, .val (.long q3), .second, .val (.long q4), .second, .val (.long (q2 &&& (2147483647 : Int64))), .second, .val (.long (q3 &&& (2147483647 : Int64))), .second, .val (.long (q4 &&& (2147483647 : Int64))), .second, .val (.int (v0_35 q0 q1 q2 q3 q4)), .val (.int (v0_64_s0 q0 q1 q2 q3 q4))] [(.int (1 : Int32))])) _
      refine XS.goto X10.here hx rfl (pc0 := 74) (pc' := 78) rfl (hb hby at_74) (by decide) (by decide) ?_
      exact k)
    obtain ⟨fs, hr, hrun, hended, hW, hsame⟩ := X10.leave (v := some (.int (1 : Int32))) (fun h => by rw [Bd.returns] at h; cases h)
    refine ⟨_, _, ?_, hrun, hended, _, _, rfl, ?_, ⟨_, rfl⟩, hW, hsame.mono (by decide) (by decide)⟩
    · exact pre18 _ (retN X10 hx (t := .boolean) Bd.returns (by simp) (hb hby at_78) hr)
    · exact ⟨by simp only [f0, if_pos hc70_3], N10, trivial⟩
  · have pre19 : ∀ t, Steps p.tables e below (T10.setTop (mkF m 78 #[.val (.long q0), .second, .val (.long q1), .second, .val (.long q2), .second, .val (.long q3), .second, .val (.long q4), .second, .val (.long (q2 &&& (2147483647 : Int64))), .second, .val (.long (q3 &&& (2147483647 : Int64))), .second, .val (.long (q4 &&& (2147483647 : Int64))), .second, .val (.int (v0_35 q0 q1 q2 q3 q4)), .val (.int (v0_64_s0 q0 q1 q2 q3 q4))] [(.int (0 : Int32))])) t → Steps p.tables e below (s₁.setTop (entryFrame m #[(.long q0), (.long q1), (.long q2), (.long q3), (.long q4)] maxLocals)) t := fun t k => pre17 t (by
      show Steps p.tables e below (T10.setTop (mkF m 70 #[.val (.long q0), .second, .val (.long q1), .second, .val (.long q2), .second, .val (.long q3), .second, .val (.long q4), .second, .val (.long (q2 &&& (2147483647 : Int64))), .second, .val (.long (q3 &&& (2147483647 : Int64))), .second, .val (.long (q4 &&& (2147483647 : Int64))), .second, .val (.int (v0_35 q0 q1 q2 q3 q4)), .val (.int (v0_64_s0 q0 q1 q2 q3 q4))] [(.int (v0_64_s0 q0 q1 q2 q3 q4)), (.int (v0_35 q0 q1 q2 q3 q4))])) _
      refine XS.icmpYes X10.here hx rfl (pc0 := 70) (pc' := 77) rfl (hb hby at_70) rfl (feq hc70_3).2 (by decide) (by decide) ?_
      show Steps p.tables e below (T10.setTop (mkF m 77 #[.val (.long q0), .second, .val (.long q1), .second, .val (.long q2), .second, .val (.long q3), .second, .val (.long q4), .second, .val (.long (q2 &&& (2147483647 : Int64))), .second, .val (.long (q3 &&& (2147483647 : Int64))), .second, .val (.long (q4 &&& (2147483647 : Int64))), .second, .val (.int (v0_35 q0 q1 q2 q3 q4)), .val (.int (v0_64_s0 q0 q1 q2 q3 q4))] [])) _
      refine XS.iconst X10.here hx rfl (hb hby at_77) ?_
      exact k)
    obtain ⟨fs, hr, hrun, hended, hW, hsame⟩ := X10.leave (v := some (.int (0 : Int32))) (fun h => by rw [Bd.returns] at h; cases h)
    refine ⟨_, _, ?_, hrun, hended, _, _, rfl, ?_, ⟨_, rfl⟩, hW, hsame.mono (by decide) (by decide)⟩
    · exact pre19 _ (retN X10 hx (t := .boolean) Bd.returns (by simp) (hb hby at_78) hr)
    · exact ⟨by simp only [f0, if_neg hc70_3], N10, trivial⟩
theorem own_axis (v s m : Int64) (s0 : 0 ≤ s.toInt) (s1 : s.toInt < 2147483648) (m0 : 0 ≤ m.toInt) (m1 : m.toInt < 2147483648) :
    f2 v s m = if v < -m then 0 else if v < s + m then 1 else 0 := by
  have h1 := c_lneg m
  have h2 := c_ladd s m
  have r0 := rng64 v
  have r1 := rng64 (-m)
  have r2 := rng64 (s + m)
  have h3 := c_ladd v m
  have r3 := rng64 (v + m)
  have h4 := c_lsub v s
  have r4 := rng64 (v - s)
  simp only [f2, Int64.lt_iff_toInt_lt, show (0 : Int64).toInt = 0 from rfl]
  generalize (v + m).toInt = vm at *
  generalize (v - s).toInt = vs at *
  generalize (-m).toInt = nm at *
  generalize (s + m).toInt = sm at *
  generalize v.toInt = v at *
  generalize s.toInt = s at *
  generalize m.toInt = m at *
  repeat' split
  all_goals first | rfl | (exfalso; omega)
theorem own_law (i0 i1 i2 i3 i4 : Int64) : f0 i0 i1 i2 i3 i4 = 1 := by
  have w := c_maskL i2 2147483647 31 (by decide) (by decide)
  have h := c_maskL i3 2147483647 31 (by decide) (by decide)
  have m := c_maskL i4 2147483647 31 (by decide) (by decide)
  refine if_pos ?_
  unfold v0_35 v0_64_s0
  rw [own_axis _ _ _ (by omega) (by omega) (by omega) (by omega), own_axis _ _ _ (by omega) (by omega) (by omega) (by omega)]
  unfold f1
  repeat' split
  all_goals first | rfl | (exfalso; simp_all; done)
set_option maxRecDepth 65536 in
set_option maxHeartbeats 40000000 in
theorem comes_1 {Post : Tables → Env → Array Value → State → Outcome → State → Prop} (hpost : ∀ tb e args s v u, (limb_1_1.after args s (.returned v) u = true ∧ limb_1_2.after args s (.returned v) u = true ∧ True) → FrameEnd s (.returned v) u (Jvm.fieldLocs frame_1_writes args s ++ Jvm.arrayLocs frame_1_arrays args s ++ Jvm.staticLocs frame_1_statics s) 0 0 → Post tb e args s (.returned v) u) :
    ArmFor flags0 classFile x code maxLocals ret World_1 tables_1 room_1 Calls_1 rest_1 Pre_1 Post := by
  intro l hfl _ _ p e ha hc hk s m args below hf hA hF happ hP
  obtain ⟨hcalls, hrest, hpre⟩ := hP
  obtain ⟨-, -, -, hnamed, -, -, -, hat⟩ := (Spec.applies_iff hf).mp happ
  obtain ⟨hg, hn⟩ := and_e (Cond.before_iff.mp (show (Jvm.Cond.and given_1 narrow_1).before args s = true from hpre))
  obtain ⟨g1, g2⟩ := and_e hg
  obtain ⟨g3, g4⟩ := and_e g2
  obtain ⟨g5, g6⟩ := and_e g4
  obtain ⟨g7, g8⟩ := and_e g6
  obtain ⟨g9, g10⟩ := and_e g8
  obtain ⟨w0, w1, w2, w3, w4, rfl⟩ : ∃ w0 w1 w2 w3 w4 : Value, args = #[w0, w1, w2, w3, w4] := by
    have hs : args.size = 5 := by simpa [Cond.value, given_1] using g1
    obtain ⟨L⟩ := args
    match L, hs with
    | [w0, w1, w2, w3, w4], _ => exact ⟨w0, w1, w2, w3, w4, rfl⟩
  have hw := fun d (hd : d ∈ tables_1) => atoms_spec (ws := Jvm.Cond.code x code maxLocals ret :: tables_1) hat d (List.mem_cons_of_mem _ hd)
  obtain ⟨i0, ei0⟩ := isL_v g3
  obtain rfl : w0 = (.long i0) := Option.some.inj ei0
  obtain ⟨i1, ei1⟩ := isL_v g5
  obtain rfl : w1 = (.long i1) := Option.some.inj ei1
  obtain ⟨i2, ei2⟩ := isL_v g7
  obtain rfl : w2 = (.long i2) := Option.some.inj ei2
  obtain ⟨i3, ei3⟩ := isL_v g9
  obtain rfl : w3 = (.long i3) := Option.some.inj ei3
  obtain ⟨i4, ei4⟩ := isL_v g10
  obtain rfl : w4 = (.long i4) := Option.some.inj ei4
  obtain ⟨n, o, h1, h2, h3, _, L, rfl, ⟨rfl, N, -⟩, hq⟩ := rm0 l s _ hw tables_1 i0 i1 i2 i3 i4 s.heap s.heap.size (Nat.le_refl _) p e ha hc hk s m _ below hf ((Spec.applies_iff_loose hf).mp happ).1 ⟨rfl, State.Warmed39.refl s, rfl⟩ trivial
  rw [own_law i0 i1 i2 i3 i4] at h3 hq
  refine ⟨n, _, h1, h2, h3, hpost _ _ _ _ _ _ ⟨Cond.after_iff.mpr rfl, Cond.after_iff.mpr (eq_i res_at (Term.int_eval (1)) rfl), trivial⟩ ⟨hq.1, hq.2.1, (hq.2.2.sift fun y hy => Or.inr (N y hy)).mono (by decide) (by decide)⟩⟩
theorem main_1_1 : Claimed_1_1 := comes_1 fun _ _ _ _ _ _ h hF => ⟨h.1, hF⟩
theorem main_1_2 : Claimed_1_2 := comes_1 fun _ _ _ _ _ _ h hF => ⟨h.2.1, hF⟩
end Jvm.Pilot.@@N@@
namespace Jvm.Pilot.@@N@@
open Jvm Jvm.ClassFile Sem Op Lib Jvm.Free Jvm.Stand Jvm.Pilot.@@N@@.Jvm.D
/-! MADE BY PROGRAM (witnessworld.py) out of the Statement's table words and the real class files: 7 classes; the members and pool entries that the words name. The judged class is class 1, her method 1. -/
namespace start1
open Jvm.ClassFile
def u (s : String) : CpInfo := .utf8 (stringToUtf16 s)
/-- a pool by its gaps: so many unusable entries, then the entry; so many at the end -/
def gap : Nat → List CpInfo → List CpInfo
  | 0, r => r
  | n + 1, r => .unusable :: gap n r
def poolList (es : List (Nat × CpInfo)) (last : Nat) : List CpInfo := es.foldr (fun e r => gap e.1 (e.2 :: r)) (gap last [])
def pool (es : List (Nat × CpInfo)) (last : Nat) : Array CpInfo := ⟨poolList es last⟩
def fileOf (pool : Array CpInfo) (this : Nat) (attrs : Array Attribute := #[]) (ms : Array MethodInfo := #[]) (fl : Nat := 33) (sup : Nat := 0) (ifs : Array Nat := #[]) (fds : Array FieldInfo := #[]) : ClassFile where
  minorVersion := 0
  majorVersion := 65
  constantPool := pool
  accessFlags := fl
  thisClass := this
  superClass := sup
  interfaces := ifs
  fields := fds
  methods := ms
  attributes := attrs
def plain (name : String) (sup : Option ClassId) : Class where
  name := name
  kind := .ordinary
  loader := none
  accessFlags := 33
  super := sup
  interfaces := #[]
  cf := none
  fields := #[]
  methods := #[]
  instanceTypes := #[]
  staticTypes := #[]
  resolved := #[]
  callSites := []
  init := .initialized
  statics := none
  mirror := none

def pool0 : Array CpInfo := pool [(5, u "<init>"), (0, u "()V"), (1, .class_ 10), (1, u "java/lang/Object")] 113

def k0m0 : Method := { name := "<init>", desc := "()V", sig := { parameters := [], returnType := none }, accessFlags := 1, code := none }
/-- java/lang/Object -/
def k0 : Class := { plain "java/lang/Object" none with
  accessFlags := 33
  interfaces := #[]
  cf := some (fileOf pool0 8 #[] #[{ accessFlags := 1, nameIndex := 5, descriptorIndex := 6, attributes := #[] }] 33 0 #[] #[])
  fields := #[]
  methods := #[k0m0]
  instanceTypes := #[]
  staticTypes := #[]
  resolved := Array.replicate 124 none
  statics := none }

def pool1 : Array CpInfo := pool [(2, .class_ 4), (1, u "java/lang/Object"), (0, u "<init>"), (0, u "()V"), (0, .long 2147483647), (1, .methodref 10 11), (0, .class_ 12), (0, .nameAndType 13 14), (0, u "com/example/touchfall/touchfall/Node"), (0, u "isInBox"), (0, u "(JJJJJ)Z"), (0, .methodref 16 17), (0, .class_ 18), (0, .nameAndType 19 20), (0, u "com/example/touchfall/touchfall/NodeIsInBoxPinLaw"), (0, u "axis"), (0, u "(JJJ)Z"), (2, u "law")] 3

def k1m0 : Method := { name := "<init>", desc := "()V", sig := { parameters := [], returnType := none }, accessFlags := 2, code := none }
def k1c1 : Code := { maxStack := 10, maxLocals := 18, code := code, exceptionTable := #[], attributes := #[] }
def k1m1 : Method := { name := "law", desc := "(JJJJJ)Z", sig := { parameters := [.long, .long, .long, .long, .long], returnType := some .boolean }, accessFlags := 9, code := some k1c1 }
def k1c2 : Code := { maxStack := 4, maxLocals := 6, code := method_3_code, exceptionTable := #[], attributes := #[] }
def k1m2 : Method := { name := "axis", desc := "(JJJ)Z", sig := { parameters := [.long, .long, .long], returnType := some .boolean }, accessFlags := 10, code := some k1c2 }
/-- com/example/touchfall/touchfall/NodeIsInBoxPinLaw -/
def k1 : Class := { plain "com/example/touchfall/touchfall/NodeIsInBoxPinLaw" (some 0) with
  accessFlags := 49
  interfaces := #[]
  cf := some (fileOf pool1 16 #[] #[{ accessFlags := 2, nameIndex := 5, descriptorIndex := 6, attributes := #[] }, { accessFlags := 9, nameIndex := 23, descriptorIndex := 14, attributes := #[] }, { accessFlags := 10, nameIndex := 19, descriptorIndex := 20, attributes := #[] }] 49 2 #[] #[])
  fields := #[]
  methods := #[k1m0, k1m1, k1m2]
  instanceTypes := #[]
  staticTypes := #[]
  resolved := Array.replicate 27 none
  statics := none }

def pool2 : Array CpInfo := pool [(2, .class_ 4), (1, u "java/lang/Object"), (3, .class_ 10), (1, u "com/example/touchfall/touchfall/Node"), (0, u "visible"), (0, u "Z"), (2, u "enabled"), (2, u "scaleX"), (0, u "D"), (2, u "scaleY"), (20, u "name"), (0, u "Ljava/lang/String;"), (2, u "left"), (0, u "I"), (2, u "top"), (2, u "width"), (2, u "height"), (4, u "pivotX"), (2, u "pivotY"), (70, u "ownFrom"), (0, u "Lcom/example/touchfall/touchfall/Coordinates;"), (8, u "undone"), (6, u "ownMade"), (5, u "parent"), (0, u "Lcom/example/touchfall/touchfall/Group;"), (34, u "transform"), (5, u "isInBox"), (0, u "(JJJJJ)Z"), (39, u "animating"), (14, u "translationX"), (2, u "translationY"), (26, u "rotation"), (48, u "clickable"), (2, u "longClickable"), (2, u "doubleTap"), (0, u "Lcom/example/touchfall/touchfall/DoubleTap;"), (12, u "listener"), (0, u "Lcom/example/touchfall/touchfall/Hook;"), (2, u "touch"), (2, u "hover"), (2, u "dispatch"), (0, u "Ljava/lang/Boolean;"), (2, u "disallow"), (0, u "Lcom/example/touchfall/touchfall/Action;"), (15, u "delegate"), (0, u "Lcom/example/touchfall/touchfall/TouchDelegate;"), (2, u "clickHandler"), (0, u "Ljava/util/function/Consumer;"), (2, u "longClickHandler"), (2, u "doubleClickHandler"), (2, u "flingable"), (5, u "flingHandler"), (0, u "Lcom/example/touchfall/touchfall/FlingHandler;"), (2, u "motion"), (0, u "Lcom/example/touchfall/touchfall/Motion;"), (5, u "scalable"), (5, u "scaleHandler"), (0, u "Lcom/example/touchfall/touchfall/ScaleHandler;"), (2, u "pinch"), (0, u "Lcom/example/touchfall/touchfall/Pinch;"), (9, u "pressed"), (8, u "MAX_NAME"), (4, u "tap"), (0, u "Lcom/example/touchfall/touchfall/Clock$Work;"), (0, u "longPress"), (0, u "longPressed")] 146

def k2c0 : Code := { maxStack := 6, maxLocals := 10, code := prog_27_method_9_code, exceptionTable := #[], attributes := #[] }
def k2m0 : Method := { name := "isInBox", desc := "(JJJJJ)Z", sig := { parameters := [.long, .long, .long, .long, .long], returnType := some .boolean }, accessFlags := 8, code := some k2c0 }
/-- com/example/touchfall/touchfall/Node -/
def k2 : Class := { plain "com/example/touchfall/touchfall/Node" (some 0) with
  accessFlags := 1057
  interfaces := #[]
  cf := some (fileOf pool2 8 #[] #[{ accessFlags := 8, nameIndex := 201, descriptorIndex := 202, attributes := #[] }] 1057 2 #[] #[{ accessFlags := 26, nameIndex := 448, descriptorIndex := 48, attributes := #[] }, { accessFlags := 16, nameIndex := 43, descriptorIndex := 44, attributes := #[] }, { accessFlags := 16, nameIndex := 47, descriptorIndex := 48, attributes := #[] }, { accessFlags := 16, nameIndex := 51, descriptorIndex := 48, attributes := #[] }, { accessFlags := 16, nameIndex := 54, descriptorIndex := 48, attributes := #[] }, { accessFlags := 16, nameIndex := 57, descriptorIndex := 48, attributes := #[] }, { accessFlags := 0, nameIndex := 159, descriptorIndex := 160, attributes := #[] }, { accessFlags := 0, nameIndex := 11, descriptorIndex := 12, attributes := #[] }, { accessFlags := 0, nameIndex := 242, descriptorIndex := 12, attributes := #[] }, { accessFlags := 0, nameIndex := 15, descriptorIndex := 12, attributes := #[] }, { accessFlags := 0, nameIndex := 336, descriptorIndex := 12, attributes := #[] }, { accessFlags := 0, nameIndex := 339, descriptorIndex := 12, attributes := #[] }, { accessFlags := 0, nameIndex := 356, descriptorIndex := 357, attributes := #[] }, { accessFlags := 0, nameIndex := 360, descriptorIndex := 357, attributes := #[] }, { accessFlags := 0, nameIndex := 363, descriptorIndex := 357, attributes := #[] }, { accessFlags := 0, nameIndex := 366, descriptorIndex := 367, attributes := #[] }, { accessFlags := 0, nameIndex := 370, descriptorIndex := 371, attributes := #[] }, { accessFlags := 0, nameIndex := 387, descriptorIndex := 388, attributes := #[] }, { accessFlags := 0, nameIndex := 391, descriptorIndex := 392, attributes := #[] }, { accessFlags := 0, nameIndex := 395, descriptorIndex := 392, attributes := #[] }, { accessFlags := 0, nameIndex := 398, descriptorIndex := 392, attributes := #[] }, { accessFlags := 0, nameIndex := 342, descriptorIndex := 343, attributes := #[] }, { accessFlags := 0, nameIndex := 439, descriptorIndex := 12, attributes := #[] }, { accessFlags := 0, nameIndex := 453, descriptorIndex := 454, attributes := #[] }, { accessFlags := 0, nameIndex := 455, descriptorIndex := 454, attributes := #[] }, { accessFlags := 0, nameIndex := 456, descriptorIndex := 12, attributes := #[] }, { accessFlags := 0, nameIndex := 401, descriptorIndex := 12, attributes := #[] }, { accessFlags := 0, nameIndex := 407, descriptorIndex := 408, attributes := #[] }, { accessFlags := 0, nameIndex := 411, descriptorIndex := 412, attributes := #[] }, { accessFlags := 0, nameIndex := 418, descriptorIndex := 12, attributes := #[] }, { accessFlags := 0, nameIndex := 424, descriptorIndex := 425, attributes := #[] }, { accessFlags := 0, nameIndex := 428, descriptorIndex := 429, attributes := #[] }, { accessFlags := 2, nameIndex := 257, descriptorIndex := 19, attributes := #[] }, { accessFlags := 2, nameIndex := 260, descriptorIndex := 19, attributes := #[] }, { accessFlags := 2, nameIndex := 18, descriptorIndex := 19, attributes := #[] }, { accessFlags := 2, nameIndex := 22, descriptorIndex := 19, attributes := #[] }, { accessFlags := 2, nameIndex := 287, descriptorIndex := 19, attributes := #[] }, { accessFlags := 2, nameIndex := 62, descriptorIndex := 19, attributes := #[] }, { accessFlags := 2, nameIndex := 65, descriptorIndex := 19, attributes := #[] }, { accessFlags := 0, nameIndex := 195, descriptorIndex := 137, attributes := #[] }, { accessFlags := 2, nameIndex := 146, descriptorIndex := 137, attributes := #[] }, { accessFlags := 2, nameIndex := 136, descriptorIndex := 137, attributes := #[] }, { accessFlags := 2, nameIndex := 153, descriptorIndex := 137, attributes := #[] }])
  fields := #[{ name := "MAX_NAME", type := .int, accessFlags := 26, slot := 0, constantValue := 0 }, { name := "name", type := (.object "java/lang/String"), accessFlags := 16, slot := 0, constantValue := 0 }, { name := "left", type := .int, accessFlags := 16, slot := 1, constantValue := 0 }, { name := "top", type := .int, accessFlags := 16, slot := 2, constantValue := 0 }, { name := "width", type := .int, accessFlags := 16, slot := 3, constantValue := 0 }, { name := "height", type := .int, accessFlags := 16, slot := 4, constantValue := 0 }, { name := "parent", type := (.object "com/example/touchfall/touchfall/Group"), accessFlags := 0, slot := 5, constantValue := 0 }, { name := "visible", type := .boolean, accessFlags := 0, slot := 6, constantValue := 0 }, { name := "animating", type := .boolean, accessFlags := 0, slot := 7, constantValue := 0 }, { name := "enabled", type := .boolean, accessFlags := 0, slot := 8, constantValue := 0 }, { name := "clickable", type := .boolean, accessFlags := 0, slot := 9, constantValue := 0 }, { name := "longClickable", type := .boolean, accessFlags := 0, slot := 10, constantValue := 0 }, { name := "listener", type := (.object "com/example/touchfall/touchfall/Hook"), accessFlags := 0, slot := 11, constantValue := 0 }, { name := "touch", type := (.object "com/example/touchfall/touchfall/Hook"), accessFlags := 0, slot := 12, constantValue := 0 }, { name := "hover", type := (.object "com/example/touchfall/touchfall/Hook"), accessFlags := 0, slot := 13, constantValue := 0 }, { name := "dispatch", type := (.object "java/lang/Boolean"), accessFlags := 0, slot := 14, constantValue := 0 }, { name := "disallow", type := (.object "com/example/touchfall/touchfall/Action"), accessFlags := 0, slot := 15, constantValue := 0 }, { name := "delegate", type := (.object "com/example/touchfall/touchfall/TouchDelegate"), accessFlags := 0, slot := 16, constantValue := 0 }, { name := "clickHandler", type := (.object "java/util/function/Consumer"), accessFlags := 0, slot := 17, constantValue := 0 }, { name := "longClickHandler", type := (.object "java/util/function/Consumer"), accessFlags := 0, slot := 18, constantValue := 0 }, { name := "doubleClickHandler", type := (.object "java/util/function/Consumer"), accessFlags := 0, slot := 19, constantValue := 0 }, { name := "doubleTap", type := (.object "com/example/touchfall/touchfall/DoubleTap"), accessFlags := 0, slot := 20, constantValue := 0 }, { name := "pressed", type := .boolean, accessFlags := 0, slot := 21, constantValue := 0 }, { name := "tap", type := (.object "com/example/touchfall/touchfall/Clock$Work"), accessFlags := 0, slot := 22, constantValue := 0 }, { name := "longPress", type := (.object "com/example/touchfall/touchfall/Clock$Work"), accessFlags := 0, slot := 23, constantValue := 0 }, { name := "longPressed", type := .boolean, accessFlags := 0, slot := 24, constantValue := 0 }, { name := "flingable", type := .boolean, accessFlags := 0, slot := 25, constantValue := 0 }, { name := "flingHandler", type := (.object "com/example/touchfall/touchfall/FlingHandler"), accessFlags := 0, slot := 26, constantValue := 0 }, { name := "motion", type := (.object "com/example/touchfall/touchfall/Motion"), accessFlags := 0, slot := 27, constantValue := 0 }, { name := "scalable", type := .boolean, accessFlags := 0, slot := 28, constantValue := 0 }, { name := "scaleHandler", type := (.object "com/example/touchfall/touchfall/ScaleHandler"), accessFlags := 0, slot := 29, constantValue := 0 }, { name := "pinch", type := (.object "com/example/touchfall/touchfall/Pinch"), accessFlags := 0, slot := 30, constantValue := 0 }, { name := "translationX", type := .double, accessFlags := 2, slot := 31, constantValue := 0 }, { name := "translationY", type := .double, accessFlags := 2, slot := 32, constantValue := 0 }, { name := "scaleX", type := .double, accessFlags := 2, slot := 33, constantValue := 0 }, { name := "scaleY", type := .double, accessFlags := 2, slot := 34, constantValue := 0 }, { name := "rotation", type := .double, accessFlags := 2, slot := 35, constantValue := 0 }, { name := "pivotX", type := .double, accessFlags := 2, slot := 36, constantValue := 0 }, { name := "pivotY", type := .double, accessFlags := 2, slot := 37, constantValue := 0 }, { name := "transform", type := (.object "com/example/touchfall/touchfall/Coordinates"), accessFlags := 0, slot := 38, constantValue := 0 }, { name := "undone", type := (.object "com/example/touchfall/touchfall/Coordinates"), accessFlags := 2, slot := 39, constantValue := 0 }, { name := "ownFrom", type := (.object "com/example/touchfall/touchfall/Coordinates"), accessFlags := 2, slot := 40, constantValue := 0 }, { name := "ownMade", type := (.object "com/example/touchfall/touchfall/Coordinates"), accessFlags := 2, slot := 41, constantValue := 0 }]
  methods := #[k2m0]
  instanceTypes := #[(.object "java/lang/String"), .int, .int, .int, .int, (.object "com/example/touchfall/touchfall/Group"), .boolean, .boolean, .boolean, .boolean, .boolean, (.object "com/example/touchfall/touchfall/Hook"), (.object "com/example/touchfall/touchfall/Hook"), (.object "com/example/touchfall/touchfall/Hook"), (.object "java/lang/Boolean"), (.object "com/example/touchfall/touchfall/Action"), (.object "com/example/touchfall/touchfall/TouchDelegate"), (.object "java/util/function/Consumer"), (.object "java/util/function/Consumer"), (.object "java/util/function/Consumer"), (.object "com/example/touchfall/touchfall/DoubleTap"), .boolean, (.object "com/example/touchfall/touchfall/Clock$Work"), (.object "com/example/touchfall/touchfall/Clock$Work"), .boolean, .boolean, (.object "com/example/touchfall/touchfall/FlingHandler"), (.object "com/example/touchfall/touchfall/Motion"), .boolean, (.object "com/example/touchfall/touchfall/ScaleHandler"), (.object "com/example/touchfall/touchfall/Pinch"), .double, .double, .double, .double, .double, .double, .double, (.object "com/example/touchfall/touchfall/Coordinates"), (.object "com/example/touchfall/touchfall/Coordinates"), (.object "com/example/touchfall/touchfall/Coordinates"), (.object "com/example/touchfall/touchfall/Coordinates")]
  staticTypes := #[.int]
  resolved := Array.replicate 603 none
  statics := none }

def pool3 : Array CpInfo := pool [(1, u "java/lang/Cloneable"), (0, .class_ 1), (0, u "java/lang/Object"), (0, .class_ 3)] 3

/-- java/lang/Cloneable -/
def k3 : Class := { plain "java/lang/Cloneable" (some 0) with
  accessFlags := 1537
  interfaces := #[]
  cf := some (fileOf pool3 2 #[] #[] 1537 4 #[] #[])
  fields := #[]
  methods := #[]
  instanceTypes := #[]
  staticTypes := #[]
  resolved := Array.replicate 8 none
  statics := none }

def pool4 : Array CpInfo := pool [(1, u "java/io/Serializable"), (0, .class_ 1), (0, u "java/lang/Object"), (0, .class_ 3)] 3

/-- java/io/Serializable -/
def k4 : Class := { plain "java/io/Serializable" (some 0) with
  accessFlags := 1537
  interfaces := #[]
  cf := some (fileOf pool4 2 #[] #[] 1537 4 #[] #[])
  fields := #[]
  methods := #[]
  instanceTypes := #[]
  staticTypes := #[]
  resolved := Array.replicate 8 none
  statics := none }

/-- the primitive byte -/
def k5 : Class := { plain "byte" none with kind := .primitive 'B', accessFlags := 0x411 }
/-- [B -/
def k6 : Class := { plain "[B" (some 0) with kind := .array 5 .byte, interfaces := #[3, 4], accessFlags := 1041 }

def heap : Heap := #[]
def classes : Array Class := #[k0, k1, k2, k3, k4, k5, k6]
def interned : List (Array UInt16 × Addr) := []
def slotsUsed : Nat := 0
def theMethod : MethodId := ⟨1, 1⟩
def args0 : Array Value := #[.long 5, .long 7, .long 9, .long 3, .long 2]
def aboutOver (below : List Frame) : State where
  vm := { classes := classes, interned := interned.toArray }
  heap := heap
  slotsUsed := slotsUsed
  threads := #[{ frames := .invoking theMethod args0 :: below }]
def below0 : List Frame := [.native { method := ⟨0, 0⟩, args := #[] }]
def about1 : State := aboutOver below0
def p0 : Program := .bare "" "" ""
def e0 : Env := launch0.env 0 0 0
theorem w_frames : about1.frames = Frame.invoking theMethod args0 :: below0 := rfl
set_option maxRecDepth 65536 in
theorem w_args : argsFit about1.vm theMethod args0 = true := by decide +kernel
set_option maxRecDepth 65536 in
theorem w_heap : heapFits about1 = true := by decide +kernel
set_option maxRecDepth 65536 in
theorem w_runnable : about1.curStatus? = some .runnable := by decide +kernel
set_option maxRecDepth 65536 in
theorem w_alone : about1.alone = true := by decide +kernel
set_option maxRecDepth 65536 in
theorem w_named : about1.methodNamed? x = some theMethod := by decide +kernel
set_option maxRecDepth 65536 in
theorem w_hears : about1.hears theMethod below0 = true := by decide +kernel
set_option maxRecDepth 65536 in
theorem w_ripe : about1.ripe theMethod args0 below0 = true := by decide +kernel
theorem w_running : about1.status = .running := rfl
set_option maxRecDepth 65536 in
theorem w_room : about1.hasRoom e0.platform room_1 = true :=
  launch0.hasRoom_least _ room_1 (by decide +kernel) (by decide +kernel) (by decide +kernel) (by decide +kernel) (by decide +kernel) (by decide +kernel)
theorem allAtoms_all (ts : List Jvm.Cond) (a : Array Jvm.Value) (st : Jvm.State) : (allAtoms ts).before a st = ts.all (fun c => c.before a st) := by
  induction ts with
  | nil => rfl
  | cons c t ih =>
    show (Jvm.Cond.and c (allAtoms t)).before a st = _
    rw [Jvm.Cond.before_and, ih, List.all_cons]
def words1 : List Jvm.Cond := Jvm.Cond.code x code maxLocals ret :: tables_1
/-- a 'code' word, met by the world's own term for the bytes: nothing is compared byte by byte -/
theorem code_word {y : MethodName} {bytes : ByteArray} {mx : Nat} {rt : Option FieldType} {a : Array Value} {s : State} {m : MethodId} {meth : Method} {c : Code} (h1 : s.methodNamed? y = some m) (h2 : s.vm.method? m = some meth) (h3 : meth.code = some c) (h4 : c.code = bytes)
    (h5 : (c.maxLocals == mx && c.exceptionTable.isEmpty && decide (c.maxStack ≤ mostOperands) && decide (meth.sig.returnType = rt) && !meth.locks && decide (parseMethodDescriptor y.desc = some meth.sig)) = true) : (Jvm.Cond.code y bytes mx rt).before a s = true := by
  simp only [Bool.and_eq_true, beq_iff_eq, Bool.not_eq_true', decide_eq_true_eq] at h5
  obtain ⟨⟨⟨⟨⟨g1, g2⟩, g3⟩, g4⟩, g5⟩, g6⟩ := h5
  simp [Cond.before, Cond.holds, Cond.value, h1, h2, h3, h4, g1, g2, g3, g4, g5, g6]
def isCode : Jvm.Cond → Bool
  | .code _ _ _ _ => true
  | _ => false
theorem all_split {L : List Jvm.Cond} {P : Jvm.Cond → Bool} (h1 : L.all (fun c => isCode c || P c) = true) (h2 : ∀ c ∈ L.filter isCode, P c = true) : L.all P = true := by
  refine List.all_eq_true.mpr fun c hc => ?_
  have h := List.all_eq_true.mp h1 c hc
  rcases Bool.eq_false_or_eq_true (isCode c) with hi | hi
  · exact h2 c (List.mem_filter.mpr ⟨hc, hi⟩)
  · simpa [hi] using h
set_option maxRecDepth 65536 in
theorem w_c0 : (Jvm.Cond.code x code maxLocals ret).before args0 about1 = true := code_word (m := ⟨1, 1⟩) (meth := k1m1) (c := k1c1) (by decide +kernel) rfl rfl rfl (by decide +kernel)
set_option maxRecDepth 65536 in
theorem w_c1 : (Jvm.Cond.code ({ cls := "com/example/touchfall/touchfall/Node", name := "isInBox", desc := "(JJJJJ)Z" } : Jvm.MethodName) prog_27_method_9_code (10 : Nat) (Option.some Jvm.ClassFile.FieldType.boolean)).before args0 about1 = true := code_word (m := ⟨2, 0⟩) (meth := k2m0) (c := k2c0) (by decide +kernel) rfl rfl rfl (by decide +kernel)
set_option maxRecDepth 65536 in
theorem w_c2 : (Jvm.Cond.code ({ cls := "com/example/touchfall/touchfall/NodeIsInBoxPinLaw", name := "axis", desc := "(JJJ)Z" } : Jvm.MethodName) method_3_code (6 : Nat) (Option.some Jvm.ClassFile.FieldType.boolean)).before args0 about1 = true := code_word (m := ⟨1, 2⟩) (meth := k1m2) (c := k1c2) (by decide +kernel) rfl rfl rfl (by decide +kernel)
def codes1 : List Jvm.Cond := [Jvm.Cond.code x code maxLocals ret, Jvm.Cond.code ({ cls := "com/example/touchfall/touchfall/Node", name := "isInBox", desc := "(JJJJJ)Z" } : Jvm.MethodName) prog_27_method_9_code (10 : Nat) (Option.some Jvm.ClassFile.FieldType.boolean), Jvm.Cond.code ({ cls := "com/example/touchfall/touchfall/NodeIsInBoxPinLaw", name := "axis", desc := "(JJJ)Z" } : Jvm.MethodName) method_3_code (6 : Nat) (Option.some Jvm.ClassFile.FieldType.boolean)]
set_option maxRecDepth 65536 in
theorem codes_eq : words1.filter isCode = codes1 := rfl
theorem w_codes : ∀ c ∈ words1.filter isCode, c.before args0 about1 = true := by
  rw [codes_eq]
  intro c hc
  simp only [codes1, List.mem_cons, List.not_mem_nil, or_false] at hc
  rcases hc with rfl | rfl | rfl
  · exact w_c0
  · exact w_c1
  · exact w_c2
set_option maxRecDepth 65536 in
theorem w_t1 : words1.all (fun c => isCode c || c.before args0 about1) = true := by decide +kernel
theorem w_tables : (allAtoms (Jvm.Cond.code x code maxLocals ret :: tables_1)).before args0 about1 = true := by
  rw [allAtoms_all]
  show words1.all (fun c => c.before args0 about1) = true
  refine all_split ?_ w_codes
  rw [w_t1]
set_option maxRecDepth 65536 in
theorem w_case : (Jvm.Cond.and given_1 narrow_1).before args0 about1 = true := by decide +kernel
theorem w_applies : (headSpec (Jvm.Cond.code x code maxLocals ret :: tables_1) room_1).applies x e0.platform about1 = true :=
  (Spec.applies_iff w_frames).mpr ⟨w_running, w_runnable, w_alone, w_named, w_hears, w_ripe, w_room, w_tables⟩
theorem atStart : AtStart classFile x code maxLocals ret World_1 tables_1 room_1 Calls_1 rest_1 Pre_1 launch0 p0 e0 about1 theMethod args0 below0 :=
  ⟨lists_1, trivial, launch0.admits_env _ _ _, launch0.least_env, fairChoices_fair.cas, fairChoices_fair.clock, w_frames, w_args, w_heap, w_applies, trivial, trivial, w_case⟩
end start1
theorem witness_1 : WitnessClaimed_1 := ⟨start1.p0, start1.e0, start1.about1, start1.theMethod, start1.args0, start1.below0, start1.atStart⟩
end Jvm.Pilot.@@N@@
