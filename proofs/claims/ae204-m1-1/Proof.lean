import JvmDerived
import JvmDerived.Pilot.@@N@@Statement
import JvmDerived.Pilot.@@N@@Code
set_option linter.unusedVariables false
set_option linter.unusedSimpArgs false
namespace Jvm.RoadKit
open Sem ClassFile Op Lib Jvm.Stand Jvm.Free Jvm.LawKit
section New
variable {p : Program} {l : Launch} {e : Env} {R : Room} {s : State} {m : MethodId} {args : Array Value} {below : List Frame} {meth : Method} {c : Code} {T : State} {locs : List Loc} {cells slots : Nat}
theorem retI (X : Stand p l e R s m args below meth c T locs cells slots) (hx : p.tables.exec = Jvm.exec) {pc : Nat} {Ls : Array Slot} {z : Int32} {rest : List Value} (hret : meth.sig.returnType = some .int) (hd : decode c.code pc = .ok (.ireturn, 1)) {fs : List Frame}
    (hl : ∀ (f : JFrame) (acts : List Action), f.method = m → f.locked = none → f.entered = [] → (doReturn e (T.setTop f) acts (some (.int z))).1 = T.setFrames fs) : Steps p.tables e below (T.setTop (mkF m pc Ls (.int z :: rest))) (T.setFrames fs) := by
  have hm' : T.vm.method? m = some meth := X.method'
  have hn : narrow .int (.int z) = .int z := rfl
  show Steps p.tables e below (T.setTop { method := m, pc := pc, locals := Ls, stack := _ :: rest, locked := none }) _
  jvm_step X.here [X.here.top, hx, hd, hm', hret, hn]
  first | (intro acts; rw [hl _ acts rfl rfl rfl]) | rw [hl _ _ rfl rfl rfl]
  exact Steps.refl _
end New
end Jvm.RoadKit
namespace Jvm.Pilot.@@N@@
open Jvm Jvm.ClassFile Sem Op Lib Jvm.Free Jvm.Stand Jvm.LawKit Jvm.RoadKit Bundle Jvm.Pilot.@@N@@.Jvm.D
def QP (w : Option Value) (h0 : Heap) (n0 : Nat) (v : Option Value) (h : Heap) (L : List Loc) : Prop := v = w ∧ Fr n0 L ∧ h = h0
def QL (w : Option Value) (n0 : Nat) (v : Option Value) (h : Heap) (L : List Loc) : Prop := v = w ∧ Fr n0 L ∧ True
theorem own_nz (x : Int64) : (x &&& (34359738367 : Int64)) + (1 : Int64) ≠ 0 := by
  intro h
  have h1 := c_maskL x 34359738367 35 (by decide) (by decide)
  have h2 := c_ladd (x &&& (34359738367 : Int64)) 1
  rw [h] at h2
  have h3 : (0 : Int64).toInt = 0 := rfl
  have h4 : (1 : Int64).toInt = 1 := rfl
  omega
theorem d1_0 : decode method_2_code 0 = .ok (.lload_n 0, 1) := by decide +kernel
theorem d1_1 : decode method_2_code 1 = .ok (.lload_n 2, 1) := by decide +kernel
theorem d1_2 : decode method_2_code 2 = .ok (.ldiv, 1) := by decide +kernel
theorem d1_3 : decode method_2_code 3 = .ok (.lstore 4, 2) := by decide +kernel
theorem d1_5 : decode method_2_code 5 = .ok (.lload_n 0, 1) := by decide +kernel
theorem d1_6 : decode method_2_code 6 = .ok (.lload_n 2, 1) := by decide +kernel
theorem d1_7 : decode method_2_code 7 = .ok (.lrem, 1) := by decide +kernel
theorem d1_8 : decode method_2_code 8 = .ok (.lconst 0, 1) := by decide +kernel
theorem d1_9 : decode method_2_code 9 = .ok (.lcmp, 1) := by decide +kernel
theorem d1_10 : decode method_2_code 10 = .ok (.ifCond .ge 9, 3) := by decide +kernel
theorem d1_13 : decode method_2_code 13 = .ok (.lload 4, 2) := by decide +kernel
theorem d1_15 : decode method_2_code 15 = .ok (.lconst 1, 1) := by decide +kernel
theorem d1_16 : decode method_2_code 16 = .ok (.lsub, 1) := by decide +kernel
theorem d1_17 : decode method_2_code 17 = .ok (.lstore 4, 2) := by decide +kernel
theorem d1_19 : decode method_2_code 19 = .ok (.lload 4, 2) := by decide +kernel
theorem d1_21 : decode method_2_code 21 = .ok (.lreturn, 1) := by decide +kernel
theorem pn_1 : plainName "com/example/stint/stint/limit/ExactFloorOfProductPinLaw" = true := by first | (simp [plainName, overriddenIn]; done) | decide +kernel
theorem ef_1 (m : MethodId) (x0 : Int64) (x1 : Int64) : entryFrame m #[(.long x0), (.long x1)] 6 = mkF m 0 #[.val (.long x0), .second, .val (.long x1), .second, .unset, .unset] [] := by first | (simp [entryFrame, mkF, argsToLocals, Value.category]; done) | rfl
def v1_19_l4 (q0 : Int64) (q1 : Int64) : Int64 := (if (q0 - q0 / q1 * q1) < (0 : Int64) then ((q0 / q1) - (1 : Int64)) else (q0 / q1))
def f1 (q0 : Int64) (q1 : Int64) : Int64 := (v1_19_l4 q0 q1)
set_option maxRecDepth 65536 in
set_option maxHeartbeats 40000000 in
theorem rm1 (l : Launch) (Z : State) (a0 : Array Value) (hw : ∀ d ∈ tables_1, d.before a0 Z = true) (ws : List Jvm.Cond) (q0 : Int64) (q1 : Int64) (h0 : Heap) (n0 : Nat) (Z0 : n0 ≤ h0.size) (hd : q1 ≠ 0) :
    MetFree l (⟨"com/example/stint/stint/limit/ExactFloorOfProductPinLaw", "fdiv", "(JJ)J"⟩ : MethodName) (head1 (Jvm.Cond.code (⟨"com/example/stint/stint/limit/ExactFloorOfProductPinLaw", "fdiv", "(JJ)J"⟩ : MethodName) method_2_code 6 (some .long) :: ws) ({ frames := 0, cells := 0, slots := 0, locals := 0 } : Room)) (fun a U => a = #[(.long q0), (.long q1)] ∧ Z.Warmed39 U.vm ∧ U.heap = h0) (fun _ _ _ _ _ => True) (fun _ U o U' => ∃ v L, o = .returned v ∧ QP (some (.long (f1 q0 q1))) h0 n0 v U'.heap L ∧ FrameEnd U o U' L ({ frames := 0, cells := 0, slots := 0, locals := 0 } : Room).cells ({ frames := 0, cells := 0, slots := 0, locals := 0 } : Room).slots) := by
  refine MetFree.of_bodySF (plainFor_of_name pn_1) hisR ?_
  intro p e s m args below meth c s₁ Bd hml0 hP hK
  obtain ⟨rfl, hZ, hh⟩ := hP
  have hx := Bd.exec
  have hby := Bd.bytes
  have hml : c.maxLocals = 6 := hml0
  have hown : s.vm.findClass "com/example/stint/stint/limit/ExactFloorOfProductPinLaw" = some m.cls := findClass_of_methodNamed Bd.named
  have hnm := (name_of_methodNamed Bd.named Bd.method).1
  have X0 : Stand p l e ({ frames := 0, cells := 0, slots := 0, locals := 0 } : Room) s m #[(.long q0), (.long q1)] below meth c s₁ [] 0 0 := Stand.of_body Bd
  have e0 : s₁.heap = h0 := by rw [← hh, Bd.state]; rfl
  have N0 := Fr.nil n0
  have K0 : Keep h0 h0 [] := Keep.refl _ _
  have pre0 : ∀ t, Steps p.tables e below (s₁.setTop (mkF m 0 #[.val (.long q0), .second, .val (.long q1), .second, .unset, .unset] [])) t → Steps p.tables e below (s₁.setTop (entryFrame m #[(.long q0), (.long q1)] 6)) t := fun t k => castTop (ef_1 m q0 q1) k
  have pre2 : ∀ t, Steps p.tables e below (s₁.setTop (mkF m 10 #[.val (.long q0), .second, .val (.long q1), .second, .val (.long (q0 / q1)), .second] [(.int (lcmpW (q0 - q0 / q1 * q1) (0 : Int64)))])) t → Steps p.tables e below (s₁.setTop (entryFrame m #[(.long q0), (.long q1)] 6)) t := fun t k => pre0 t (by
    show Steps p.tables e below (s₁.setTop (mkF m 0 #[.val (.long q0), .second, .val (.long q1), .second, .unset, .unset] [])) _
    refine XS.lloadN X0.here hx rfl (hb hby d1_0) rfl ?_
    show Steps p.tables e below (s₁.setTop (mkF m 1 #[.val (.long q0), .second, .val (.long q1), .second, .unset, .unset] [(.long q0)])) _
    refine XS.lloadN X0.here hx rfl (hb hby d1_1) rfl ?_
    show Steps p.tables e below (s₁.setTop (mkF m 2 #[.val (.long q0), .second, .val (.long q1), .second, .unset, .unset] [(.long q1), (.long q0)])) _
    refine XS.ldiv X0.here hx rfl (hb hby d1_2) rfl hd ?_
    show Steps p.tables e below (s₁.setTop (mkF m 3 #[.val (.long q0), .second, .val (.long q1), .second, .unset, .unset] [(.long (q0 / q1))])) _
    refine XS.lstore X0.here hx rfl (hb hby d1_3) rfl (l' := #[.val (.long q0), .second, .val (.long q1), .second, .val (.long (q0 / q1)), .second]) rfl ?_
    show Steps p.tables e below (s₁.setTop (mkF m 5 #[.val (.long q0), .second, .val (.long q1), .second, .val (.long (q0 / q1)), .second] [])) _
    refine XS.lloadN X0.here hx rfl (hb hby d1_5) rfl ?_
    show Steps p.tables e below (s₁.setTop (mkF m 6 #[.val (.long q0), .second, .val (.long q1), .second, .val (.long (q0 / q1)), .second] [(.long q0)])) _
    refine XS.lloadN X0.here hx rfl (hb hby d1_6) rfl ?_
    show Steps p.tables e below (s₁.setTop (mkF m 7 #[.val (.long q0), .second, .val (.long q1), .second, .val (.long (q0 / q1)), .second] [(.long q1), (.long q0)])) _
    refine XS.lrem X0.here hx rfl (hb hby d1_7) rfl hd ?_
    show Steps p.tables e below (s₁.setTop (mkF m 8 #[.val (.long q0), .second, .val (.long q1), .second, .val (.long (q0 / q1)), .second] [(.long (q0 - q0 / q1 * q1))])) _
    refine XS.lconst X0.here hx rfl (hb hby d1_8) ?_
    show Steps p.tables e below (s₁.setTop (mkF m 9 #[.val (.long q0), .second, .val (.long q1), .second, .val (.long (q0 / q1)), .second] [(.long (0 : Int64)), (.long (q0 - q0 / q1 * q1))])) _
    refine XS.lcmp X0.here hx rfl (hb hby d1_9) rfl ?_
    exact k)
  obtain ⟨T3, L3, X3, e3, N3, pre3⟩ : ∃ (T' : State) (L' : List Loc), Stand p l e ({ frames := 0, cells := 0, slots := 0, locals := 0 } : Room) s m #[(.long q0), (.long q1)] below meth c T' L' 0 0 ∧ T'.heap = h0 ∧ Fr n0 L' ∧ ∀ t, Steps p.tables e below (T'.setTop (mkF m 19 #[.val (.long q0), .second, .val (.long q1), .second, .val (.long (v1_19_l4 q0 q1)), .second] [])) t → Steps p.tables e below (s₁.setTop (entryFrame m #[(.long q0), (.long q1)] 6)) t := by
    by_cases hc10_1 : (q0 - q0 / q1 * q1) < (0 : Int64)
    · have pre4 : ∀ t, Steps p.tables e below (s₁.setTop (mkF m 19 #[.val (.long q0), .second, .val (.long q1), .second, .val (.long ((q0 / q1) - (1 : Int64))), .second] [])) t → Steps p.tables e below (s₁.setTop (entryFrame m #[(.long q0), (.long q1)] 6)) t := fun t k => pre2 t (by
        show Steps p.tables e below (s₁.setTop (mkF m 10 #[.val (.long q0), .second, .val (.long q1), .second, .val (.long (q0 / q1)), .second] [(.int (lcmpW (q0 - q0 / q1 * q1) (0 : Int64)))])) _
        refine XS.ifNo X0.here hx rfl (hb hby d1_10) rfl ((if0 _ _).trans (tlt ((lw_lt _ _).mpr hc10_1)).2.1) ?_
        show Steps p.tables e below (s₁.setTop (mkF m 13 #[.val (.long q0), .second, .val (.long q1), .second, .val (.long (q0 / q1)), .second] [])) _
        refine XS.lload X0.here hx rfl (hb hby d1_13) rfl ?_
        show Steps p.tables e below (s₁.setTop (mkF m 15 #[.val (.long q0), .second, .val (.long q1), .second, .val (.long (q0 / q1)), .second] [(.long (q0 / q1))])) _
        refine XS.lconst X0.here hx rfl (hb hby d1_15) ?_
        show Steps p.tables e below (s₁.setTop (mkF m 16 #[.val (.long q0), .second, .val (.long q1), .second, .val (.long (q0 / q1)), .second] [(.long (1 : Int64)), (.long (q0 / q1))])) _
        refine XS.lsub X0.here hx rfl (hb hby d1_16) rfl ?_
        show Steps p.tables e below (s₁.setTop (mkF m 17 #[.val (.long q0), .second, .val (.long q1), .second, .val (.long (q0 / q1)), .second] [(.long ((q0 / q1) - (1 : Int64)))])) _
        refine XS.lstore X0.here hx rfl (hb hby d1_17) rfl (l' := #[.val (.long q0), .second, .val (.long q1), .second, .val (.long ((q0 / q1) - (1 : Int64))), .second]) rfl ?_
        exact k)
      exact ⟨s₁, _, X0, e0, N0, fun t k => pre4 t (by simpa only [v1_19_l4, if_pos hc10_1] using k)⟩
    · have pre5 : ∀ t, Steps p.tables e below (s₁.setTop (mkF m 19 #[.val (.long q0), .second, .val (.long q1), .second, .val (.long (q0 / q1)), .second] [])) t → Steps p.tables e below (s₁.setTop (entryFrame m #[(.long q0), (.long q1)] 6)) t := fun t k => pre2 t (by
        show Steps p.tables e below (s₁.setTop (mkF m 10 #[.val (.long q0), .second, .val (.long q1), .second, .val (.long (q0 / q1)), .second] [(.int (lcmpW (q0 - q0 / q1 * q1) (0 : Int64)))])) _
        refine XS.ifYes X0.here hx rfl (pc0 := 10) (pc' := 19) rfl (hb hby d1_10) rfl ((if0 _ _).trans (flt (fun q => hc10_1 ((lw_lt _ _).mp q))).2.1) (by decide) (by decide) ?_
        exact k)
      exact ⟨s₁, _, X0, e0, N0, fun t k => pre5 t (by simpa only [v1_19_l4, if_neg hc10_1] using k)⟩
  have pre6 : ∀ t, Steps p.tables e below (T3.setTop (mkF m 21 #[.val (.long q0), .second, .val (.long q1), .second, .val (.long (v1_19_l4 q0 q1)), .second] [(.long (v1_19_l4 q0 q1))])) t → Steps p.tables e below (s₁.setTop (entryFrame m #[(.long q0), (.long q1)] 6)) t := fun t k => pre3 t (by
    show Steps p.tables e below (T3.setTop (mkF m 19 #[.val (.long q0), .second, .val (.long q1), .second, .val (.long (v1_19_l4 q0 q1)), .second] [])) _
    refine XS.lload X3.here hx rfl (hb hby d1_19) rfl ?_
    exact k)
  obtain ⟨fs, hr, hrun, hended, hW, hsame⟩ := X3.leave (v := some (.long (v1_19_l4 q0 q1))) (fun h => by rw [Bd.returns] at h; cases h)
  refine ⟨_, _, ?_, hrun, hended, _, _, rfl, ?_, ⟨_, rfl⟩, hW, hsame.mono (by decide) (by decide)⟩
  · exact pre6 _ (X3.lreturnOut hx Bd.returns (hb hby d1_21) hr)
  · exact ⟨by simp only [f1], N3, e3⟩
theorem d3_0 : decode jdk_29_method_49_code 0 = .ok (.lload_n 0, 1) := by decide +kernel
theorem d3_1 : decode jdk_29_method_49_code 1 = .ok (.lload_n 2, 1) := by decide +kernel
theorem d3_2 : decode jdk_29_method_49_code 2 = .ok (.ldiv, 1) := by decide +kernel
theorem d3_3 : decode jdk_29_method_49_code 3 = .ok (.lstore 4, 2) := by decide +kernel
theorem d3_5 : decode jdk_29_method_49_code 5 = .ok (.lload_n 0, 1) := by decide +kernel
theorem d3_6 : decode jdk_29_method_49_code 6 = .ok (.lload_n 2, 1) := by decide +kernel
theorem d3_7 : decode jdk_29_method_49_code 7 = .ok (.lxor, 1) := by decide +kernel
theorem d3_8 : decode jdk_29_method_49_code 8 = .ok (.lconst 0, 1) := by decide +kernel
theorem d3_9 : decode jdk_29_method_49_code 9 = .ok (.lcmp, 1) := by decide +kernel
theorem d3_10 : decode jdk_29_method_49_code 10 = .ok (.ifCond .ge 17, 3) := by decide +kernel
theorem d3_13 : decode jdk_29_method_49_code 13 = .ok (.lload 4, 2) := by decide +kernel
theorem d3_15 : decode jdk_29_method_49_code 15 = .ok (.lload_n 2, 1) := by decide +kernel
theorem d3_16 : decode jdk_29_method_49_code 16 = .ok (.lmul, 1) := by decide +kernel
theorem d3_17 : decode jdk_29_method_49_code 17 = .ok (.lload_n 0, 1) := by decide +kernel
theorem d3_18 : decode jdk_29_method_49_code 18 = .ok (.lcmp, 1) := by decide +kernel
theorem d3_19 : decode jdk_29_method_49_code 19 = .ok (.ifCond .eq 8, 3) := by decide +kernel
theorem d3_22 : decode jdk_29_method_49_code 22 = .ok (.lload 4, 2) := by decide +kernel
theorem d3_24 : decode jdk_29_method_49_code 24 = .ok (.lconst 1, 1) := by decide +kernel
theorem d3_25 : decode jdk_29_method_49_code 25 = .ok (.lsub, 1) := by decide +kernel
theorem d3_26 : decode jdk_29_method_49_code 26 = .ok (.lreturn, 1) := by decide +kernel
theorem d3_27 : decode jdk_29_method_49_code 27 = .ok (.lload 4, 2) := by decide +kernel
theorem d3_29 : decode jdk_29_method_49_code 29 = .ok (.lreturn, 1) := by decide +kernel
theorem ef_3 (m : MethodId) (x0 : Int64) (x1 : Int64) : entryFrame m #[(.long x0), (.long x1)] 6 = mkF m 0 #[.val (.long x0), .second, .val (.long x1), .second, .unset, .unset] [] := by first | (simp [entryFrame, mkF, argsToLocals, Value.category]; done) | rfl
def f3 (q0 : Int64) (q1 : Int64) : Int64 := (if (q0 ^^^ q1) < (0 : Int64) then (if ((q0 / q1) * q1) = q0 then (q0 / q1) else ((q0 / q1) - (1 : Int64))) else (q0 / q1))
set_option maxRecDepth 65536 in
set_option maxHeartbeats 40000000 in
theorem rm3 (l : Launch) (Z : State) (a0 : Array Value) (hw : ∀ d ∈ tables_1, d.before a0 Z = true) (ws : List Jvm.Cond) (q0 : Int64) (q1 : Int64) (h0 : Heap) (n0 : Nat) (Z0 : n0 ≤ h0.size) (hd : q1 ≠ 0) :
    MetFree l (⟨"java/lang/Math", "floorDiv", "(JJ)J"⟩ : MethodName) (head1 (Jvm.Cond.code (⟨"java/lang/Math", "floorDiv", "(JJ)J"⟩ : MethodName) jdk_29_method_49_code 6 (some .long) :: ws) ({ frames := 0, cells := 0, slots := 0, locals := 0 } : Room)) (fun a U => a = #[(.long q0), (.long q1)] ∧ Z.Warmed39 U.vm ∧ U.heap = h0) (fun _ _ _ _ _ => True) (fun _ U o U' => ∃ v L, o = .returned v ∧ QP (some (.long (f3 q0 q1))) h0 n0 v U'.heap L ∧ FrameEnd U o U' L ({ frames := 0, cells := 0, slots := 0, locals := 0 } : Room).cells ({ frames := 0, cells := 0, slots := 0, locals := 0 } : Room).slots) := by
  refine MetFree.of_bodySF (Jvm.Free.JP.mathPlain rfl (by decide +kernel)) hisR ?_
  intro p e s m args below meth c s₁ Bd hml0 hP hK
  obtain ⟨rfl, hZ, hh⟩ := hP
  have hx := Bd.exec
  have hby := Bd.bytes
  have hml : c.maxLocals = 6 := hml0
  have hown : s.vm.findClass "java/lang/Math" = some m.cls := findClass_of_methodNamed Bd.named
  have hnm := (name_of_methodNamed Bd.named Bd.method).1
  have X0 : Stand p l e ({ frames := 0, cells := 0, slots := 0, locals := 0 } : Room) s m #[(.long q0), (.long q1)] below meth c s₁ [] 0 0 := Stand.of_body Bd
  have e0 : s₁.heap = h0 := by rw [← hh, Bd.state]; rfl
  have N0 := Fr.nil n0
  have K0 : Keep h0 h0 [] := Keep.refl _ _
  have pre0 : ∀ t, Steps p.tables e below (s₁.setTop (mkF m 0 #[.val (.long q0), .second, .val (.long q1), .second, .unset, .unset] [])) t → Steps p.tables e below (s₁.setTop (entryFrame m #[(.long q0), (.long q1)] 6)) t := fun t k => castTop (ef_3 m q0 q1) k
  have pre3 : ∀ t, Steps p.tables e below (s₁.setTop (mkF m 10 #[.val (.long q0), .second, .val (.long q1), .second, .val (.long (q0 / q1)), .second] [(.int (lcmpW (q0 ^^^ q1) (0 : Int64)))])) t → Steps p.tables e below (s₁.setTop (entryFrame m #[(.long q0), (.long q1)] 6)) t := fun t k => pre0 t (by
    show Steps p.tables e below (s₁.setTop (mkF m 0 #[.val (.long q0), .second, .val (.long q1), .second, .unset, .unset] [])) _
    refine XS.lloadN X0.here hx rfl (hb hby d3_0) rfl ?_
    show Steps p.tables e below (s₁.setTop (mkF m 1 #[.val (.long q0), .second, .val (.long q1), .second, .unset, .unset] [(.long q0)])) _
    refine XS.lloadN X0.here hx rfl (hb hby d3_1) rfl ?_
    show Steps p.tables e below (s₁.setTop (mkF m 2 #[.val (.long q0), .second, .val (.long q1), .second, .unset, .unset] [(.long q1), (.long q0)])) _
    refine XS.ldiv X0.here hx rfl (hb hby d3_2) rfl hd ?_
    show Steps p.tables e below (s₁.setTop (mkF m 3 #[.val (.long q0), .second, .val (.long q1), .second, .unset, .unset] [(.long (q0 / q1))])) _
    refine XS.lstore X0.here hx rfl (hb hby d3_3) rfl (l' := #[.val (.long q0), .second, .val (.long q1), .second, .val (.long (q0 / q1)), .second]) rfl ?_
    show Steps p.tables e below (s₁.setTop (mkF m 5 #[.val (.long q0), .second, .val (.long q1), .second, .val (.long (q0 / q1)), .second] [])) _
    refine XS.lloadN X0.here hx rfl (hb hby d3_5) rfl ?_
    show Steps p.tables e below (s₁.setTop (mkF m 6 #[.val (.long q0), .second, .val (.long q1), .second, .val (.long (q0 / q1)), .second] [(.long q0)])) _
    refine XS.lloadN X0.here hx rfl (hb hby d3_6) rfl ?_
    show Steps p.tables e below (s₁.setTop (mkF m 7 #[.val (.long q0), .second, .val (.long q1), .second, .val (.long (q0 / q1)), .second] [(.long q1), (.long q0)])) _
    refine XS.lxor X0.here hx rfl (hb hby d3_7) rfl ?_
    show Steps p.tables e below (s₁.setTop (mkF m 8 #[.val (.long q0), .second, .val (.long q1), .second, .val (.long (q0 / q1)), .second] [(.long (q0 ^^^ q1))])) _
    refine XS.lconst X0.here hx rfl (hb hby d3_8) ?_
    show Steps p.tables e below (s₁.setTop (mkF m 9 #[.val (.long q0), .second, .val (.long q1), .second, .val (.long (q0 / q1)), .second] [(.long (0 : Int64)), (.long (q0 ^^^ q1))])) _
    refine XS.lcmp X0.here hx rfl (hb hby d3_9) rfl ?_
    exact k)
  by_cases hc10_1 : (q0 ^^^ q1) < (0 : Int64)
  · have pre4 : ∀ t, Steps p.tables e below (s₁.setTop (mkF m 19 #[.val (.long q0), .second, .val (.long q1), .second, .val (.long (q0 / q1)), .second] [(.int (lcmpW ((q0 / q1) * q1) q0))])) t → Steps p.tables e below (s₁.setTop (entryFrame m #[(.long q0), (.long q1)] 6)) t := fun t k => pre3 t (by
      show Steps p.tables e below (s₁.setTop (mkF m 10 #[.val (.long q0), .second, .val (.long q1), .second, .val (.long (q0 / q1)), .second] [(.int (lcmpW (q0 ^^^ q1) (0 : Int64)))])) _
      refine XS.ifNo X0.here hx rfl (hb hby d3_10) rfl ((if0 _ _).trans (tlt ((lw_lt _ _).mpr hc10_1)).2.1) ?_
      show Steps p.tables e below (s₁.setTop (mkF m 13 #[.val (.long q0), .second, .val (.long q1), .second, .val (.long (q0 / q1)), .second] [])) _
      refine XS.lload X0.here hx rfl (hb hby d3_13) rfl ?_
      show Steps p.tables e below (s₁.setTop (mkF m 15 #[.val (.long q0), .second, .val (.long q1), .second, .val (.long (q0 / q1)), .second] [(.long (q0 / q1))])) _
      refine XS.lloadN X0.here hx rfl (hb hby d3_15) rfl ?_
      show Steps p.tables e below (s₁.setTop (mkF m 16 #[.val (.long q0), .second, .val (.long q1), .second, .val (.long (q0 / q1)), .second] [(.long q1), (.long (q0 / q1))])) _
      refine XS.lmul X0.here hx rfl (hb hby d3_16) rfl ?_
      show Steps p.tables e below (s₁.setTop (mkF m 17 #[.val (.long q0), .second, .val (.long q1), .second, .val (.long (q0 / q1)), .second] [(.long ((q0 / q1) * q1))])) _
      refine XS.lloadN X0.here hx rfl (hb hby d3_17) rfl ?_
      show Steps p.tables e below (s₁.setTop (mkF m 18 #[.val (.long q0), .second, .val (.long q1), .second, .val (.long (q0 / q1)), .second] [(.long q0), (.long ((q0 / q1) * q1))])) _
      refine XS.lcmp X0.here hx rfl (hb hby d3_18) rfl ?_
      exact k)
    by_cases hc19_2 : ((q0 / q1) * q1) = q0
    · have pre5 : ∀ t, Steps p.tables e below (s₁.setTop (mkF m 29 #[.val (.long q0), .second, .val (.long q1), .second, .val (.long (q0 / q1)), .second] [(.long (q0 / q1))])) t → Steps p.tables e below (s₁.setTop (entryFrame m #[(.long q0), (.long q1)] 6)) t := fun t k => pre4 t (by
        show Steps p.tables e below (s₁.setTop (mkF m 19 #[.val (.long q0), .second, .val (.long q1), .second, .val (.long (q0 / q1)), .second] [(.int (lcmpW ((q0 / q1) * q1) q0))])) _
        refine XS.ifYes X0.here hx rfl (pc0 := 19) (pc' := 27) rfl (hb hby d3_19) rfl ((if0 _ _).trans (teq ((lw_eq _ _).mpr hc19_2)).1) (by decide) (by decide) ?_
        show Steps p.tables e below (s₁.setTop (mkF m 27 #[.val (.long q0), .second, .val (.long q1), .second, .val (.long (q0 / q1)), .second] [])) _
        refine XS.lload X0.here hx rfl (hb hby d3_27) rfl ?_
        exact k)
      obtain ⟨fs, hr, hrun, hended, hW, hsame⟩ := X0.leave (v := some (.long (q0 / q1))) (fun h => by rw [Bd.returns] at h; cases h)
      refine ⟨_, _, ?_, hrun, hended, _, _, rfl, ?_, ⟨_, rfl⟩, hW, hsame.mono (by decide) (by decide)⟩
      · exact pre5 _ (X0.lreturnOut hx Bd.returns (hb hby d3_29) hr)
      · exact ⟨by simp only [f3, if_pos hc10_1, if_pos hc19_2], N0, e0⟩
    · have pre6 : ∀ t, Steps p.tables e below (s₁.setTop (mkF m 26 #[.val (.long q0), .second, .val (.long q1), .second, .val (.long (q0 / q1)), .second] [(.long ((q0 / q1) - (1 : Int64)))])) t → Steps p.tables e below (s₁.setTop (entryFrame m #[(.long q0), (.long q1)] 6)) t := fun t k => pre4 t (by
        show Steps p.tables e below (s₁.setTop (mkF m 19 #[.val (.long q0), .second, .val (.long q1), .second, .val (.long (q0 / q1)), .second] [(.int (lcmpW ((q0 / q1) * q1) q0))])) _
        refine XS.ifNo X0.here hx rfl (hb hby d3_19) rfl ((if0 _ _).trans (feq (fun q => hc19_2 ((lw_eq _ _).mp q))).1) ?_
        show Steps p.tables e below (s₁.setTop (mkF m 22 #[.val (.long q0), .second, .val (.long q1), .second, .val (.long (q0 / q1)), .second] [])) _
        refine XS.lload X0.here hx rfl (hb hby d3_22) rfl ?_
        show Steps p.tables e below (s₁.setTop (mkF m 24 #[.val (.long q0), .second, .val (.long q1), .second, .val (.long (q0 / q1)), .second] [(.long (q0 / q1))])) _
        refine XS.lconst X0.here hx rfl (hb hby d3_24) ?_
        show Steps p.tables e below (s₁.setTop (mkF m 25 #[.val (.long q0), .second, .val (.long q1), .second, .val (.long (q0 / q1)), .second] [(.long (1 : Int64)), (.long (q0 / q1))])) _
        refine XS.lsub X0.here hx rfl (hb hby d3_25) rfl ?_
        exact k)
      obtain ⟨fs, hr, hrun, hended, hW, hsame⟩ := X0.leave (v := some (.long ((q0 / q1) - (1 : Int64)))) (fun h => by rw [Bd.returns] at h; cases h)
      refine ⟨_, _, ?_, hrun, hended, _, _, rfl, ?_, ⟨_, rfl⟩, hW, hsame.mono (by decide) (by decide)⟩
      · exact pre6 _ (X0.lreturnOut hx Bd.returns (hb hby d3_26) hr)
      · exact ⟨by simp only [f3, if_pos hc10_1, if_neg hc19_2], N0, e0⟩
  · have pre7 : ∀ t, Steps p.tables e below (s₁.setTop (mkF m 29 #[.val (.long q0), .second, .val (.long q1), .second, .val (.long (q0 / q1)), .second] [(.long (q0 / q1))])) t → Steps p.tables e below (s₁.setTop (entryFrame m #[(.long q0), (.long q1)] 6)) t := fun t k => pre3 t (by
      show Steps p.tables e below (s₁.setTop (mkF m 10 #[.val (.long q0), .second, .val (.long q1), .second, .val (.long (q0 / q1)), .second] [(.int (lcmpW (q0 ^^^ q1) (0 : Int64)))])) _
      refine XS.ifYes X0.here hx rfl (pc0 := 10) (pc' := 27) rfl (hb hby d3_10) rfl ((if0 _ _).trans (flt (fun q => hc10_1 ((lw_lt _ _).mp q))).2.1) (by decide) (by decide) ?_
      show Steps p.tables e below (s₁.setTop (mkF m 27 #[.val (.long q0), .second, .val (.long q1), .second, .val (.long (q0 / q1)), .second] [])) _
      refine XS.lload X0.here hx rfl (hb hby d3_27) rfl ?_
      exact k)
    obtain ⟨fs, hr, hrun, hended, hW, hsame⟩ := X0.leave (v := some (.long (q0 / q1))) (fun h => by rw [Bd.returns] at h; cases h)
    refine ⟨_, _, ?_, hrun, hended, _, _, rfl, ?_, ⟨_, rfl⟩, hW, hsame.mono (by decide) (by decide)⟩
    · exact pre7 _ (X0.lreturnOut hx Bd.returns (hb hby d3_29) hr)
    · exact ⟨by simp only [f3, if_neg hc10_1], N0, e0⟩
theorem d2_0 : decode prog_12_method_2_code 0 = .ok (.lload_n 2, 1) := by decide +kernel
theorem d2_1 : decode prog_12_method_2_code 1 = .ok (.lload 6, 2) := by decide +kernel
theorem d2_3 : decode prog_12_method_2_code 3 = .ok (.ldiv, 1) := by decide +kernel
theorem d2_4 : decode prog_12_method_2_code 4 = .ok (.lstore 8, 2) := by decide +kernel
theorem d2_6 : decode prog_12_method_2_code 6 = .ok (.lload_n 2, 1) := by decide +kernel
theorem d2_7 : decode prog_12_method_2_code 7 = .ok (.lload 6, 2) := by decide +kernel
theorem d2_9 : decode prog_12_method_2_code 9 = .ok (.lrem, 1) := by decide +kernel
theorem d2_10 : decode prog_12_method_2_code 10 = .ok (.lstore 10, 2) := by decide +kernel
theorem d2_12 : decode prog_12_method_2_code 12 = .ok (.lload_n 0, 1) := by decide +kernel
theorem d2_13 : decode prog_12_method_2_code 13 = .ok (.bipush 15, 2) := by decide +kernel
theorem d2_15 : decode prog_12_method_2_code 15 = .ok (.lshr, 1) := by decide +kernel
theorem d2_16 : decode prog_12_method_2_code 16 = .ok (.lstore 12, 2) := by decide +kernel
theorem d2_18 : decode prog_12_method_2_code 18 = .ok (.lload_n 0, 1) := by decide +kernel
theorem d2_19 : decode prog_12_method_2_code 19 = .ok (.ldc2_w 7, 3) := by decide +kernel
theorem d2_22 : decode prog_12_method_2_code 22 = .ok (.land, 1) := by decide +kernel
theorem d2_23 : decode prog_12_method_2_code 23 = .ok (.lstore 14, 2) := by decide +kernel
theorem d2_25 : decode prog_12_method_2_code 25 = .ok (.lload 10, 2) := by decide +kernel
theorem d2_27 : decode prog_12_method_2_code 27 = .ok (.lload 12, 2) := by decide +kernel
theorem d2_29 : decode prog_12_method_2_code 29 = .ok (.lmul, 1) := by decide +kernel
theorem d2_30 : decode prog_12_method_2_code 30 = .ok (.lload 6, 2) := by decide +kernel
theorem d2_32 : decode prog_12_method_2_code 32 = .ok (.ldiv, 1) := by decide +kernel
theorem d2_33 : decode prog_12_method_2_code 33 = .ok (.lstore 16, 2) := by decide +kernel
theorem d2_35 : decode prog_12_method_2_code 35 = .ok (.lload 10, 2) := by decide +kernel
theorem d2_37 : decode prog_12_method_2_code 37 = .ok (.lload 12, 2) := by decide +kernel
theorem d2_39 : decode prog_12_method_2_code 39 = .ok (.lmul, 1) := by decide +kernel
theorem d2_40 : decode prog_12_method_2_code 40 = .ok (.lload 16, 2) := by decide +kernel
theorem d2_42 : decode prog_12_method_2_code 42 = .ok (.lload 6, 2) := by decide +kernel
theorem d2_44 : decode prog_12_method_2_code 44 = .ok (.lmul, 1) := by decide +kernel
theorem d2_45 : decode prog_12_method_2_code 45 = .ok (.lsub, 1) := by decide +kernel
theorem d2_46 : decode prog_12_method_2_code 46 = .ok (.ldc2_w 9, 3) := by decide +kernel
theorem d2_49 : decode prog_12_method_2_code 49 = .ok (.lmul, 1) := by decide +kernel
theorem d2_50 : decode prog_12_method_2_code 50 = .ok (.lload 10, 2) := by decide +kernel
theorem d2_52 : decode prog_12_method_2_code 52 = .ok (.lload 14, 2) := by decide +kernel
theorem d2_54 : decode prog_12_method_2_code 54 = .ok (.lmul, 1) := by decide +kernel
theorem d2_55 : decode prog_12_method_2_code 55 = .ok (.ladd, 1) := by decide +kernel
theorem d2_56 : decode prog_12_method_2_code 56 = .ok (.lload 4, 2) := by decide +kernel
theorem d2_58 : decode prog_12_method_2_code 58 = .ok (.ladd, 1) := by decide +kernel
theorem d2_59 : decode prog_12_method_2_code 59 = .ok (.lstore 18, 2) := by decide +kernel
theorem d2_61 : decode prog_12_method_2_code 61 = .ok (.lload 8, 2) := by decide +kernel
theorem d2_63 : decode prog_12_method_2_code 63 = .ok (.lload_n 0, 1) := by decide +kernel
theorem d2_64 : decode prog_12_method_2_code 64 = .ok (.lmul, 1) := by decide +kernel
theorem d2_65 : decode prog_12_method_2_code 65 = .ok (.lload 16, 2) := by decide +kernel
theorem d2_67 : decode prog_12_method_2_code 67 = .ok (.ldc2_w 9, 3) := by decide +kernel
theorem d2_70 : decode prog_12_method_2_code 70 = .ok (.lmul, 1) := by decide +kernel
theorem d2_71 : decode prog_12_method_2_code 71 = .ok (.ladd, 1) := by decide +kernel
theorem d2_72 : decode prog_12_method_2_code 72 = .ok (.lload 18, 2) := by decide +kernel
theorem d2_74 : decode prog_12_method_2_code 74 = .ok (.lload 6, 2) := by decide +kernel
theorem d2_76 : decode prog_12_method_2_code 76 = .ok (.invokestatic 11, 3) := by decide +kernel
theorem d2_79 : decode prog_12_method_2_code 79 = .ok (.ladd, 1) := by decide +kernel
theorem d2_80 : decode prog_12_method_2_code 80 = .ok (.lreturn, 1) := by decide +kernel
theorem pn_2 : plainName "com/example/stint/stint/limit/Exact" = true := by first | (simp [plainName, overriddenIn]; done) | decide +kernel
theorem pd__JJ_J : parseMethodDescriptor "(JJ)J" = some ⟨[.long, .long], some .long⟩ := by decide +kernel
theorem ef_2 (m : MethodId) (x0 : Int64) (x1 : Int64) (x2 : Int64) (x3 : Int64) : entryFrame m #[(.long x0), (.long x1), (.long x2), (.long x3)] 20 = mkF m 0 #[.val (.long x0), .second, .val (.long x1), .second, .val (.long x2), .second, .val (.long x3), .second, .unset, .unset, .unset, .unset, .unset, .unset, .unset, .unset, .unset, .unset, .unset, .unset] [] := by first | (simp [entryFrame, mkF, argsToLocals, Value.category]; done) | rfl
def v2_16 (q0 : Int64) : Int64 := (q0 >>> ((15 : Int32) &&& 0x3f).toInt64)
def v2_33 (q0 : Int64) (q1 : Int64) (q3 : Int64) : Int64 := (((q1 - q1 / q3 * q3) * (v2_16 q0)) / q3)
def v2_59 (q0 : Int64) (q1 : Int64) (q2 : Int64) (q3 : Int64) : Int64 := ((((((q1 - q1 / q3 * q3) * (v2_16 q0)) - ((v2_33 q0 q1 q3) * q3)) * (32768 : Int64)) + ((q1 - q1 / q3 * q3) * (q0 &&& (32767 : Int64)))) + q2)
def f2 (q0 : Int64) (q1 : Int64) (q2 : Int64) (q3 : Int64) : Int64 := ((((q1 / q3) * q0) + ((v2_33 q0 q1 q3) * (32768 : Int64))) + (f3 (v2_59 q0 q1 q2 q3) q3))
set_option maxRecDepth 65536 in
set_option maxHeartbeats 40000000 in
theorem rm2 (l : Launch) (Z : State) (a0 : Array Value) (hw : ∀ d ∈ tables_1, d.before a0 Z = true) (ws : List Jvm.Cond) (q0 : Int64) (q1 : Int64) (q2 : Int64) (q3 : Int64) (h0 : Heap) (n0 : Nat) (Z0 : n0 ≤ h0.size) (hd : q3 ≠ 0) :
    MetFree l (⟨"com/example/stint/stint/limit/Exact", "floorOfProduct", "(JJJJ)J"⟩ : MethodName) (head1 (Jvm.Cond.code (⟨"com/example/stint/stint/limit/Exact", "floorOfProduct", "(JJJJ)J"⟩ : MethodName) prog_12_method_2_code 20 (some .long) :: ws) ({ frames := 1, cells := 0, slots := 0, locals := 19 } : Room)) (fun a U => a = #[(.long q0), (.long q1), (.long q2), (.long q3)] ∧ Z.Warmed39 U.vm ∧ U.heap = h0) (fun _ _ _ _ _ => True) (fun _ U o U' => ∃ v L, o = .returned v ∧ QP (some (.long (f2 q0 q1 q2 q3))) h0 n0 v U'.heap L ∧ FrameEnd U o U' L ({ frames := 1, cells := 0, slots := 0, locals := 19 } : Room).cells ({ frames := 1, cells := 0, slots := 0, locals := 19 } : Room).slots) := by
  refine MetFree.of_bodySF (plainFor_of_name pn_2) hisR ?_
  intro p e s m args below meth c s₁ Bd hml0 hP hK
  obtain ⟨rfl, hZ, hh⟩ := hP
  have hx := Bd.exec
  have hby := Bd.bytes
  have hml : c.maxLocals = 20 := hml0
  have hown : s.vm.findClass "com/example/stint/stint/limit/Exact" = some m.cls := findClass_of_methodNamed Bd.named
  have hnm := (name_of_methodNamed Bd.named Bd.method).1
  have X0 : Stand p l e ({ frames := 1, cells := 0, slots := 0, locals := 19 } : Room) s m #[(.long q0), (.long q1), (.long q2), (.long q3)] below meth c s₁ [] 0 0 := Stand.of_body Bd
  have e0 : s₁.heap = h0 := by rw [← hh, Bd.state]; rfl
  have N0 := Fr.nil n0
  have K0 : Keep h0 h0 [] := Keep.refl _ _
  have pre0 : ∀ t, Steps p.tables e below (s₁.setTop (mkF m 0 #[.val (.long q0), .second, .val (.long q1), .second, .val (.long q2), .second, .val (.long q3), .second, .unset, .unset, .unset, .unset, .unset, .unset, .unset, .unset, .unset, .unset, .unset, .unset] [])) t → Steps p.tables e below (s₁.setTop (entryFrame m #[(.long q0), (.long q1), (.long q2), (.long q3)] 20)) t := fun t k => castTop (ef_2 m q0 q1 q2 q3) k
  have pre1 : ∀ t, Steps p.tables e below (s₁.setTop (mkF m 76 #[.val (.long q0), .second, .val (.long q1), .second, .val (.long q2), .second, .val (.long q3), .second, .val (.long (q1 / q3)), .second, .val (.long (q1 - q1 / q3 * q3)), .second, .val (.long (v2_16 q0)), .second, .val (.long (q0 &&& (32767 : Int64))), .second, .val (.long (v2_33 q0 q1 q3)), .second, .val (.long (v2_59 q0 q1 q2 q3)), .second] [(.long q3), (.long (v2_59 q0 q1 q2 q3)), (.long (((q1 / q3) * q0) + ((v2_33 q0 q1 q3) * (32768 : Int64))))])) t → Steps p.tables e below (s₁.setTop (entryFrame m #[(.long q0), (.long q1), (.long q2), (.long q3)] 20)) t := fun t k => pre0 t (by
    show Steps p.tables e below (s₁.setTop (mkF m 0 #[.val (.long q0), .second, .val (.long q1), .second, .val (.long q2), .second, .val (.long q3), .second, .unset, .unset, .unset, .unset, .unset, .unset, .unset, .unset, .unset, .unset, .unset, .unset] [])) _
    refine XS.lloadN X0.here hx rfl (hb hby d2_0) rfl ?_
    show Steps p.tables e below (s₁.setTop (mkF m 1 #[.val (.long q0), .second, .val (.long q1), .second, .val (.long q2), .second, .val (.long q3), .second, .unset, .unset, .unset, .unset, .unset, .unset, .unset, .unset, .unset, .unset, .unset, .unset] [(.long q1)])) _
    refine XS.lload X0.here hx rfl (hb hby d2_1) rfl ?_
    show Steps p.tables e below (s₁.setTop (mkF m 3 #[.val (.long q0), .second, .val (.long q1), .second, .val (.long q2), .second, .val (.long q3), .second, .unset, .unset, .unset, .unset, .unset, .unset, .unset, .unset, .unset, .unset, .unset, .unset] [(.long q3), (.long q1)])) _
    refine XS.ldiv X0.here hx rfl (hb hby d2_3) rfl hd ?_
    show Steps p.tables e below (s₁.setTop (mkF m 4 #[.val (.long q0), .second, .val (.long q1), .second, .val (.long q2), .second, .val (.long q3), .second, .unset, .unset, .unset, .unset, .unset, .unset, .unset, .unset, .unset, .unset, .unset, .unset] [(.long (q1 / q3))])) _
    refine XS.lstore X0.here hx rfl (hb hby d2_4) rfl (l' := #[.val (.long q0), .second, .val (.long q1), .second, .val (.long q2), .second, .val (.long q3), .second, .val (.long (q1 / q3)), .second, .unset, .unset, .unset, .unset, .unset, .unset, .unset, .unset, .unset, .unset]) rfl ?_
    show Steps p.tables e below (s₁.setTop (mkF m 6 #[.val (.long q0), .second, .val (.long q1), .second, .val (.long q2), .second, .val (.long q3), .second, .val (.long (q1 / q3)), .second, .unset, .unset, .unset, .unset, .unset, .unset, .unset, .unset, .unset, .unset] [])) _
    refine XS.lloadN X0.here hx rfl (hb hby d2_6) rfl ?_
    show Steps p.tables e below (s₁.setTop (mkF m 7 #[.val (.long q0), .second, .val (.long q1), .second, .val (.long q2), .second, .val (.long q3), .second, .val (.long (q1 / q3)), .second, .unset, .unset, .unset, .unset, .unset, .unset, .unset, .unset, .unset, .unset] [(.long q1)])) _
    refine XS.lload X0.here hx rfl (hb hby d2_7) rfl ?_
    show Steps p.tables e below (s₁.setTop (mkF m 9 #[.val (.long q0), .second, .val (.long q1), .second, .val (.long q2), .second, .val (.long q3), .second, .val (.long (q1 / q3)), .second, .unset, .unset, .unset, .unset, .unset, .unset, .unset, .unset, .unset, .unset] [(.long q3), (.long q1)])) _
    refine XS.lrem X0.here hx rfl (hb hby d2_9) rfl hd ?_
    show Steps p.tables e below (s₁.setTop (mkF m 10 #[.val (.long q0), .second, .val (.long q1), .second, .val (.long q2), .second, .val (.long q3), .second, .val (.long (q1 / q3)), .second, .unset, .unset, .unset, .unset, .unset, .unset, .unset, .unset, .unset, .unset] [(.long (q1 - q1 / q3 * q3))])) _
    refine XS.lstore X0.here hx rfl (hb hby d2_10) rfl (l' := #[.val (.long q0), .second, .val (.long q1), .second, .val (.long q2), .second, .val (.long q3), .second, .val (.long (q1 / q3)), .second, .val (.long (q1 - q1 / q3 * q3)), .second, .unset, .unset, .unset, .unset, .unset, .unset, .unset, .unset]) rfl ?_
    show Steps p.tables e below (s₁.setTop (mkF m 12 #[.val (.long q0), .second, .val (.long q1), .second, .val (.long q2), .second, .val (.long q3), .second, .val (.long (q1 / q3)), .second, .val (.long (q1 - q1 / q3 * q3)), .second, .unset, .unset, .unset, .unset, .unset, .unset, .unset, .unset] [])) _
    refine XS.lloadN X0.here hx rfl (hb hby d2_12) rfl ?_
    show Steps p.tables e below (s₁.setTop (mkF m 13 #[.val (.long q0), .second, .val (.long q1), .second, .val (.long q2), .second, .val (.long q3), .second, .val (.long (q1 / q3)), .second, .val (.long (q1 - q1 / q3 * q3)), .second, .unset, .unset, .unset, .unset, .unset, .unset, .unset, .unset] [(.long q0)])) _
    refine XS.bipush X0.here hx rfl (hb hby d2_13) ?_
    show Steps p.tables e below (s₁.setTop (mkF m 15 #[.val (.long q0), .second, .val (.long q1), .second, .val (.long q2), .second, .val (.long q3), .second, .val (.long (q1 / q3)), .second, .val (.long (q1 - q1 / q3 * q3)), .second, .unset, .unset, .unset, .unset, .unset, .unset, .unset, .unset] [(.int (15 : Int32)), (.long q0)])) _
    refine XS.lshr X0.here hx rfl (hb hby d2_15) rfl ?_
    show Steps p.tables e below (s₁.setTop (mkF m 16 #[.val (.long q0), .second, .val (.long q1), .second, .val (.long q2), .second, .val (.long q3), .second, .val (.long (q1 / q3)), .second, .val (.long (q1 - q1 / q3 * q3)), .second, .unset, .unset, .unset, .unset, .unset, .unset, .unset, .unset] [(.long (q0 >>> ((15 : Int32) &&& 0x3f).toInt64))])) _
    refine XS.lstore X0.here hx rfl (hb hby d2_16) rfl (l' := #[.val (.long q0), .second, .val (.long q1), .second, .val (.long q2), .second, .val (.long q3), .second, .val (.long (q1 / q3)), .second, .val (.long (q1 - q1 / q3 * q3)), .second, .val (.long (v2_16 q0)), .second, .unset, .unset, .unset, .unset, .unset, .unset]) rfl ?_
    show Steps p.tables e below (s₁.setTop (mkF m 18 #[.val (.long q0), .second, .val (.long q1), .second, .val (.long q2), .second, .val (.long q3), .second, .val (.long (q1 / q3)), .second, .val (.long (q1 - q1 / q3 * q3)), .second, .val (.long (v2_16 q0)), .second, .unset, .unset, .unset, .unset, .unset, .unset] [])) _
    refine XS.lloadN X0.here hx rfl (hb hby d2_18) rfl ?_
    show Steps p.tables e below (s₁.setTop (mkF m 19 #[.val (.long q0), .second, .val (.long q1), .second, .val (.long q2), .second, .val (.long q3), .second, .val (.long (q1 / q3)), .second, .val (.long (q1 - q1 / q3 * q3)), .second, .val (.long (v2_16 q0)), .second, .unset, .unset, .unset, .unset, .unset, .unset] [(.long q0)])) _
    refine X0.ldc2Long hx hown (mvT hZ (hw _ (List.mem_of_getElem? (i := 14) rfl))) (g := (mkF m 19 #[.val (.long q0), .second, .val (.long q1), .second, .val (.long q2), .second, .val (.long q3), .second, .val (.long (q1 / q3)), .second, .val (.long (q1 - q1 / q3 * q3)), .second, .val (.long (v2_16 q0)), .second, .unset, .unset, .unset, .unset, .unset, .unset] [(.long q0)])) rfl (hb hby d2_19) _ ?_
    show Steps p.tables e below (s₁.setTop (mkF m 22 #[.val (.long q0), .second, .val (.long q1), .second, .val (.long q2), .second, .val (.long q3), .second, .val (.long (q1 / q3)), .second, .val (.long (q1 - q1 / q3 * q3)), .second, .val (.long (v2_16 q0)), .second, .unset, .unset, .unset, .unset, .unset, .unset] [(.long (32767 : Int64)), (.long q0)])) _
    refine XS.land X0.here hx rfl (hb hby d2_22) rfl ?_
    show Steps p.tables e below (s₁.setTop (mkF m 23 #[.val (.long q0), .second, .val (.long q1), .second, .val (.long q2), .second, .val (.long q3), .second, .val (.long (q1 / q3)), .second, .val (.long (q1 - q1 / q3 * q3)), .second, .val (.long (v2_16 q0)), .second, .unset, .unset, .unset, .unset, .unset, .unset] [(.long (q0 &&& (32767 : Int64)))])) _
    refine XS.lstore X0.here hx rfl (hb hby d2_23) rfl (l' := #[.val (.long q0), .second, .val (.long q1), .second, .val (.long q2), .second, .val (.long q3), .second, .val (.long (q1 / q3)), .second, .val (.long (q1 - q1 / q3 * q3)), .second, .val (.long (v2_16 q0)), .second, .val (.long (q0 &&& (32767 : Int64))), .second, .unset, .unset, .unset, .unset]) rfl ?_
    show Steps p.tables e below (s₁.setTop (mkF m 25 #[.val (.long q0), .second, .val (.long q1), .second, .val (.long q2), .second, .val (.long q3), .second, .val (.long (q1 / q3)), .second, .val (.long (q1 - q1 / q3 * q3)), .second, .val (.long (v2_16 q0)), .second, .val (.long (q0 &&& (32767 : Int64))), .second, .unset, .unset, .unset, .unset] [])) _
    refine XS.lload X0.here hx rfl (hb hby d2_25) rfl ?_
    show Steps p.tables e below (s₁.setTop (mkF m 27 #[.val (.long q0), .second, .val (.long q1), .second, .val (.long q2), .second, .val (.long q3), .second, .val (.long (q1 / q3)), .second, .val (.long (q1 - q1 / q3 * q3)), .second, .val (.long (v2_16 q0)), .second, .val (.long (q0 &&& (32767 : Int64))), .second, .unset, .unset, .unset, .unset] [(.long (q1 - q1 / q3 * q3))])) _
    refine XS.lload X0.here hx rfl (hb hby d2_27) rfl ?_
    show Steps p.tables e below (s₁.setTop (mkF m 29 #[.val (.long q0), .second, .val (.long q1), .second, .val (.long q2), .second, .val (.long q3), .second, .val (.long (q1 / q3)), .second, .val (.long (q1 - q1 / q3 * q3)), .second, .val (.long (v2_16 q0)), .second, .val (.long (q0 &&& (32767 : Int64))), .second, .unset, .unset, .unset, .unset] [(.long (v2_16 q0)), (.long (q1 - q1 / q3 * q3))])) _
    refine XS.lmul X0.here hx rfl (hb hby d2_29) rfl ?_
    show Steps p.tables e below (s₁.setTop (mkF m 30 #[.val (.long q0), .second, .val (.long q1), .second, .val (.long q2), .second, .val (.long q3), .second, .val (.long (q1 / q3)), .second, .val (.long (q1 - q1 / q3 * q3)), .second, .val (.long (v2_16 q0)), .second, .val (.long (q0 &&& (32767 : Int64))), .second, .unset, .unset, .unset, .unset] [(.long ((q1 - q1 / q3 * q3) * (v2_16 q0)))])) _
    refine XS.lload X0.here hx rfl (hb hby d2_30) rfl ?_
    show Steps p.tables e below (s₁.setTop (mkF m 32 #[.val (.long q0), .second, .val (.long q1), .second, .val (.long q2), .second, .val (.long q3), .second, .val (.long (q1 / q3)), .second, .val (.long (q1 - q1 / q3 * q3)), .second, .val (.long (v2_16 q0)), .second, .val (.long (q0 &&& (32767 : Int64))), .second, .unset, .unset, .unset, .unset] [(.long q3), (.long ((q1 - q1 / q3 * q3) * (v2_16 q0)))])) _
    refine XS.ldiv X0.here hx rfl (hb hby d2_32) rfl hd ?_
    show Steps p.tables e below (s₁.setTop (mkF m 33 #[.val (.long q0), .second, .val (.long q1), .second, .val (.long q2), .second, .val (.long q3), .second, .val (.long (q1 / q3)), .second, .val (.long (q1 - q1 / q3 * q3)), .second, .val (.long (v2_16 q0)), .second, .val (.long (q0 &&& (32767 : Int64))), .second, .unset, .unset, .unset, .unset] [(.long (((q1 - q1 / q3 * q3) * (v2_16 q0)) / q3))])) _
    refine XS.lstore X0.here hx rfl (hb hby d2_33) rfl (l' := #[.val (.long q0), .second, .val (.long q1), .second, .val (.long q2), .second, .val (.long q3), .second, .val (.long (q1 / q3)), .second, .val (.long (q1 - q1 / q3 * q3)), .second, .val (.long (v2_16 q0)), .second, .val (.long (q0 &&& (32767 : Int64))), .second, .val (.long (v2_33 q0 q1 q3)), .second, .unset, .unset]) rfl ?_
    show Steps p.tables e below (s₁.setTop (mkF m 35 #[.val (.long q0), .second, .val (.long q1), .second, .val (.long q2), .second, .val (.long q3), .second, .val (.long (q1 / q3)), .second, .val (.long (q1 - q1 / q3 * q3)), .second, .val (.long (v2_16 q0)), .second, .val (.long (q0 &&& (32767 : Int64))), .second, .val (.long (v2_33 q0 q1 q3)), .second, .unset, .unset] [])) _
    refine XS.lload X0.here hx rfl (hb hby d2_35) rfl ?_
    show Steps p.tables e below (s₁.setTop (mkF m 37 #[.val (.long q0), .second, .val (.long q1), .second, .val (.long q2), .second, .val (.long q3), .second, .val (.long (q1 / q3)), .second, .val (.long (q1 - q1 / q3 * q3)), .second, .val (.long (v2_16 q0)), .second, .val (.long (q0 &&& (32767 : Int64))), .second, .val (.long (v2_33 q0 q1 q3)), .second, .unset, .unset] [(.long (q1 - q1 / q3 * q3))])) _
    refine XS.lload X0.here hx rfl (hb hby d2_37) rfl ?_
    show Steps p.tables e below (s₁.setTop (mkF m 39 #[.val (.long q0), .second, .val (.long q1), .second, .val (.long q2), .second, .val (.long q3), .second, .val (.long (q1 / q3)), .second, .val (.long (q1 - q1 / q3 * q3)), .second, .val (.long (v2_16 q0)), .second, .val (.long (q0 &&& (32767 : Int64))), .second, .val (.long (v2_33 q0 q1 q3)), .second, .unset, .unset] [(.long (v2_16 q0)), (.long (q1 - q1 / q3 * q3))])) _
    refine XS.lmul X0.here hx rfl (hb hby d2_39) rfl ?_
    show Steps p.tables e below (s₁.setTop (mkF m 40 #[.val (.long q0), .second, .val (.long q1), .second, .val (.long q2), .second, .val (.long q3), .second, .val (.long (q1 / q3)), .second, .val (.long (q1 - q1 / q3 * q3)), .second, .val (.long (v2_16 q0)), .second, .val (.long (q0 &&& (32767 : Int64))), .second, .val (.long (v2_33 q0 q1 q3)), .second, .unset, .unset] [(.long ((q1 - q1 / q3 * q3) * (v2_16 q0)))])) _
    refine XS.lload X0.here hx rfl (hb hby d2_40) rfl ?_
    show Steps p.tables e below (s₁.setTop (mkF m 42 #[.val (.long q0), .second, .val (.long q1), .second, .val (.long q2), .second, .val (.long q3), .second, .val (.long (q1 / q3)), .second, .val (.long (q1 - q1 / q3 * q3)), .second, .val (.long (v2_16 q0)), .second, .val (.long (q0 &&& (32767 : Int64))), .second, .val (.long (v2_33 q0 q1 q3)), .second, .unset, .unset] [(.long (v2_33 q0 q1 q3)), (.long ((q1 - q1 / q3 * q3) * (v2_16 q0)))])) _
    refine XS.lload X0.here hx rfl (hb hby d2_42) rfl ?_
    show Steps p.tables e below (s₁.setTop (mkF m 44 #[.val (.long q0), .second, .val (.long q1), .second, .val (.long q2), .second, .val (.long q3), .second, .val (.long (q1 / q3)), .second, .val (.long (q1 - q1 / q3 * q3)), .second, .val (.long (v2_16 q0)), .second, .val (.long (q0 &&& (32767 : Int64))), .second, .val (.long (v2_33 q0 q1 q3)), .second, .unset, .unset] [(.long q3), (.long (v2_33 q0 q1 q3)), (.long ((q1 - q1 / q3 * q3) * (v2_16 q0)))])) _
    refine XS.lmul X0.here hx rfl (hb hby d2_44) rfl ?_
    show Steps p.tables e below (s₁.setTop (mkF m 45 #[.val (.long q0), .second, .val (.long q1), .second, .val (.long q2), .second, .val (.long q3), .second, .val (.long (q1 / q3)), .second, .val (.long (q1 - q1 / q3 * q3)), .second, .val (.long (v2_16 q0)), .second, .val (.long (q0 &&& (32767 : Int64))), .second, .val (.long (v2_33 q0 q1 q3)), .second, .unset, .unset] [(.long ((v2_33 q0 q1 q3) * q3)), (.long ((q1 - q1 / q3 * q3) * (v2_16 q0)))])) _
    refine XS.lsub X0.here hx rfl (hb hby d2_45) rfl ?_
    show Steps p.tables e below (s₁.setTop (mkF m 46 #[.val (.long q0), .second, .val (.long q1), .second, .val (.long q2), .second, .val (.long q3), .second, .val (.long (q1 / q3)), .second, .val (.long (q1 - q1 / q3 * q3)), .second, .val (.long (v2_16 q0)), .second, .val (.long (q0 &&& (32767 : Int64))), .second, .val (.long (v2_33 q0 q1 q3)), .second, .unset, .unset] [(.long (((q1 - q1 / q3 * q3) * (v2_16 q0)) - ((v2_33 q0 q1 q3) * q3)))])) _
    refine X0.ldc2Long hx hown (mvT hZ (hw _ (List.mem_of_getElem? (i := 15) rfl))) (g := (mkF m 46 #[.val (.long q0), .second, .val (.long q1), .second, .val (.long q2), .second, .val (.long q3), .second, .val (.long (q1 / q3)), .second, .val (.long (q1 - q1 / q3 * q3)), .second, .val (.long (v2_16 q0)), .second, .val (.long (q0 &&& (32767 : Int64))), .second, .val (.long (v2_33 q0 q1 q3)), .second, .unset, .unset] [(.long (((q1 - q1 / q3 * q3) * (v2_16 q0)) - ((v2_33 q0 q1 q3) * q3)))])) rfl (hb hby d2_46) _ ?_
    show Steps p.tables e below (s₁.setTop (mkF m 49 #[.val (.long q0), .second, .val (.long q1), .second, .val (.long q2), .second, .val (.long q3), .second, .val (.long (q1 / q3)), .second, .val (.long (q1 - q1 / q3 * q3)), .second, .val (.long (v2_16 q0)), .second, .val (.long (q0 &&& (32767 : Int64))), .second, .val (.long (v2_33 q0 q1 q3)), .second, .unset, .unset] [(.long (32768 : Int64)), (.long (((q1 - q1 / q3 * q3) * (v2_16 q0)) - ((v2_33 q0 q1 q3) * q3)))])) _
    refine XS.lmul X0.here hx rfl (hb hby d2_49) rfl ?_
    show Steps p.tables e below (s₁.setTop (mkF m 50 #[.val (.long q0), .second, .val (.long q1), .second, .val (.long q2), .second, .val (.long q3), .second, .val (.long (q1 / q3)), .second, .val (.long (q1 - q1 / q3 * q3)), .second, .val (.long (v2_16 q0)), .second, .val (.long (q0 &&& (32767 : Int64))), .second, .val (.long (v2_33 q0 q1 q3)), .second, .unset, .unset] [(.long ((((q1 - q1 / q3 * q3) * (v2_16 q0)) - ((v2_33 q0 q1 q3) * q3)) * (32768 : Int64)))])) _
    refine XS.lload X0.here hx rfl (hb hby d2_50) rfl ?_
    show Steps p.tables e below (s₁.setTop (mkF m 52 #[.val (.long q0), .second, .val (.long q1), .second, .val (.long q2), .second, .val (.long q3), .second, .val (.long (q1 / q3)), .second, .val (.long (q1 - q1 / q3 * q3)), .second, .val (.long (v2_16 q0)), .second, .val (.long (q0 &&& (32767 : Int64))), .second, .val (.long (v2_33 q0 q1 q3)), .second, .unset, .unset] [(.long (q1 - q1 / q3 * q3)), (.long ((((q1 - q1 / q3 * q3) * (v2_16 q0)) - ((v2_33 q0 q1 q3) * q3)) * (32768 : Int64)))])) _
    refine XS.lload X0.here hx rfl (hb hby d2_52) rfl ?_
    show Steps p.tables e below (s₁.setTop (mkF m 54 #[.val (.long q0), .second, .val (.long q1), .second, .val (.long q2), .second, .val (.long q3), .second, .val (.long (q1 / q3)), .second, .val (.long (q1 - q1 / q3 * q3)), .second, .val (.long (v2_16 q0)), .second, .val (.long (q0 &&& (32767 : Int64))), .second, .val (.long (v2_33 q0 q1 q3)), .second, .unset, .unset] [(.long (q0 &&& (32767 : Int64))), (.long (q1 - q1 / q3 * q3)), (.long ((((q1 - q1 / q3 * q3) * (v2_16 q0)) - ((v2_33 q0 q1 q3) * q3)) * (32768 : Int64)))])) _
    refine XS.lmul X0.here hx rfl (hb hby d2_54) rfl ?_
    show Steps p.tables e below (s₁.setTop (mkF m 55 #[.val (.long q0), .second, .val (.long q1), .second, .val (.long q2), .second, .val (.long q3), .second, .val (.long (q1 / q3)), .second, .val (.long (q1 - q1 / q3 * q3)), .second, .val (.long (v2_16 q0)), .second, .val (.long (q0 &&& (32767 : Int64))), .second, .val (.long (v2_33 q0 q1 q3)), .second, .unset, .unset] [(.long ((q1 - q1 / q3 * q3) * (q0 &&& (32767 : Int64)))), (.long ((((q1 - q1 / q3 * q3) * (v2_16 q0)) - ((v2_33 q0 q1 q3) * q3)) * (32768 : Int64)))])) _
    refine XS.ladd X0.here hx rfl (hb hby d2_55) rfl ?_
    show Steps p.tables e below (s₁.setTop (mkF m 56 #[.val (.long q0), .second, .val (.long q1), .second, .val (.long q2), .second, .val (.long q3), .second, .val (.long (q1 / q3)), .second, .val (.long (q1 - q1 / q3 * q3)), .second, .val (.long (v2_16 q0)), .second, .val (.long (q0 &&& (32767 : Int64))), .second, .val (.long (v2_33 q0 q1 q3)), .second, .unset, .unset] [(.long (((((q1 - q1 / q3 * q3) * (v2_16 q0)) - ((v2_33 q0 q1 q3) * q3)) * (32768 : Int64)) + ((q1 - q1 / q3 * q3) * (q0 &&& (32767 : Int64)))))])) _
    refine XS.lload X0.here hx rfl (hb hby d2_56) rfl ?_
    show Steps p.tables e below (s₁.setTop (mkF m 58 #[.val (.long q0), .second, .val (.long q1), .second, .val (.long q2), .second, .val (.long q3), .second, .val (.long (q1 / q3)), .second, .val (.long (q1 - q1 / q3 * q3)), .second, .val (.long (v2_16 q0)), .second, .val (.long (q0 &&& (32767 : Int64))), .second, .val (.long (v2_33 q0 q1 q3)), .second, .unset, .unset] [(.long q2), (.long (((((q1 - q1 / q3 * q3) * (v2_16 q0)) - ((v2_33 q0 q1 q3) * q3)) * (32768 : Int64)) + ((q1 - q1 / q3 * q3) * (q0 &&& (32767 : Int64)))))])) _
    refine XS.ladd X0.here hx rfl (hb hby d2_58) rfl ?_
    show Steps p.tables e below (s₁.setTop (mkF m 59 #[.val (.long q0), .second, .val (.long q1), .second, .val (.long q2), .second, .val (.long q3), .second, .val (.long (q1 / q3)), .second, .val (.long (q1 - q1 / q3 * q3)), .second, .val (.long (v2_16 q0)), .second, .val (.long (q0 &&& (32767 : Int64))), .second, .val (.long (v2_33 q0 q1 q3)), .second, .unset, .unset] [(.long ((((((q1 - q1 / q3 * q3) * (v2_16 q0)) - ((v2_33 q0 q1 q3) * q3)) * (32768 : Int64)) + ((q1 - q1 / q3 * q3) * (q0 &&& (32767 : Int64)))) + q2))])) _
    refine XS.lstore X0.here hx rfl (hb hby d2_59) rfl (l' := #[.val (.long q0), .second, .val (.long q1), .second, .val (.long q2), .second, .val (.long q3), .second, .val (.long (q1 / q3)), .second, .val (.long (q1 - q1 / q3 * q3)), .second, .val (.long (v2_16 q0)), .second, .val (.long (q0 &&& (32767 : Int64))), .second, .val (.long (v2_33 q0 q1 q3)), .second, .val (.long (v2_59 q0 q1 q2 q3)), .second]) rfl ?_
    show Steps p.tables e below (s₁.setTop (mkF m 61 #[.val (.long q0), .second, .val (.long q1), .second, .val (.long q2), .second, .val (.long q3), .second, .val (.long (q1 / q3)), .second, .val (.long (q1 - q1 / q3 * q3)), .second, .val (.long (v2_16 q0)), .second, .val (.long (q0 &&& (32767 : Int64))), .second, .val (.long (v2_33 q0 q1 q3)), .second, .val (.long (v2_59 q0 q1 q2 q3)), .second] [])) _
    refine XS.lload X0.here hx rfl (hb hby d2_61) rfl ?_
    show Steps p.tables e below (s₁.setTop (mkF m 63 #[.val (.long q0), .second, .val (.long q1), .second, .val (.long q2), .second, .val (.long q3), .second, .val (.long (q1 / q3)), .second, .val (.long (q1 - q1 / q3 * q3)), .second, .val (.long (v2_16 q0)), .second, .val (.long (q0 &&& (32767 : Int64))), .second, .val (.long (v2_33 q0 q1 q3)), .second, .val (.long (v2_59 q0 q1 q2 q3)), .second] [(.long (q1 / q3))])) _
    refine XS.lloadN X0.here hx rfl (hb hby d2_63) rfl ?_
    show Steps p.tables e below (s₁.setTop (mkF m 64 #[.val (.long q0), .second, .val (.long q1), .second, .val (.long q2), .second, .val (.long q3), .second, .val (.long (q1 / q3)), .second, .val (.long (q1 - q1 / q3 * q3)), .second, .val (.long (v2_16 q0)), .second, .val (.long (q0 &&& (32767 : Int64))), .second, .val (.long (v2_33 q0 q1 q3)), .second, .val (.long (v2_59 q0 q1 q2 q3)), .second] [(.long q0), (.long (q1 / q3))])) _
    refine XS.lmul X0.here hx rfl (hb hby d2_64) rfl ?_
    show Steps p.tables e below (s₁.setTop (mkF m 65 #[.val (.long q0), .second, .val (.long q1), .second, .val (.long q2), .second, .val (.long q3), .second, .val (.long (q1 / q3)), .second, .val (.long (q1 - q1 / q3 * q3)), .second, .val (.long (v2_16 q0)), .second, .val (.long (q0 &&& (32767 : Int64))), .second, .val (.long (v2_33 q0 q1 q3)), .second, .val (.long (v2_59 q0 q1 q2 q3)), .second] [(.long ((q1 / q3) * q0))])) _
    refine XS.lload X0.here hx rfl (hb hby d2_65) rfl ?_
    show Steps p.tables e below (s₁.setTop (mkF m 67 #[.val (.long q0), .second, .val (.long q1), .second, .val (.long q2), .second, .val (.long q3), .second, .val (.long (q1 / q3)), .second, .val (.long (q1 - q1 / q3 * q3)), .second, .val (.long (v2_16 q0)), .second, .val (.long (q0 &&& (32767 : Int64))), .second, .val (.long (v2_33 q0 q1 q3)), .second, .val (.long (v2_59 q0 q1 q2 q3)), .second] [(.long (v2_33 q0 q1 q3)), (.long ((q1 / q3) * q0))])) _
    refine X0.ldc2Long hx hown (mvT hZ (hw _ (List.mem_of_getElem? (i := 15) rfl))) (g := (mkF m 67 #[.val (.long q0), .second, .val (.long q1), .second, .val (.long q2), .second, .val (.long q3), .second, .val (.long (q1 / q3)), .second, .val (.long (q1 - q1 / q3 * q3)), .second, .val (.long (v2_16 q0)), .second, .val (.long (q0 &&& (32767 : Int64))), .second, .val (.long (v2_33 q0 q1 q3)), .second, .val (.long (v2_59 q0 q1 q2 q3)), .second] [(.long (v2_33 q0 q1 q3)), (.long ((q1 / q3) * q0))])) rfl (hb hby d2_67) _ ?_
    show Steps p.tables e below (s₁.setTop (mkF m 70 #[.val (.long q0), .second, .val (.long q1), .second, .val (.long q2), .second, .val (.long q3), .second, .val (.long (q1 / q3)), .second, .val (.long (q1 - q1 / q3 * q3)), .second, .val (.long (v2_16 q0)), .second, .val (.long (q0 &&& (32767 : Int64))), .second, .val (.long (v2_33 q0 q1 q3)), .second, .val (.long (v2_59 q0 q1 q2 q3)), .second] [(.long (32768 : Int64)), (.long (v2_33 q0 q1 q3)), (.long ((q1 / q3) * q0))])) _
    refine XS.lmul X0.here hx rfl (hb hby d2_70) rfl ?_
    show Steps p.tables e below (s₁.setTop (mkF m 71 #[.val (.long q0), .second, .val (.long q1), .second, .val (.long q2), .second, .val (.long q3), .second, .val (.long (q1 / q3)), .second, .val (.long (q1 - q1 / q3 * q3)), .second, .val (.long (v2_16 q0)), .second, .val (.long (q0 &&& (32767 : Int64))), .second, .val (.long (v2_33 q0 q1 q3)), .second, .val (.long (v2_59 q0 q1 q2 q3)), .second] [(.long ((v2_33 q0 q1 q3) * (32768 : Int64))), (.long ((q1 / q3) * q0))])) _
    refine XS.ladd X0.here hx rfl (hb hby d2_71) rfl ?_
    show Steps p.tables e below (s₁.setTop (mkF m 72 #[.val (.long q0), .second, .val (.long q1), .second, .val (.long q2), .second, .val (.long q3), .second, .val (.long (q1 / q3)), .second, .val (.long (q1 - q1 / q3 * q3)), .second, .val (.long (v2_16 q0)), .second, .val (.long (q0 &&& (32767 : Int64))), .second, .val (.long (v2_33 q0 q1 q3)), .second, .val (.long (v2_59 q0 q1 q2 q3)), .second] [(.long (((q1 / q3) * q0) + ((v2_33 q0 q1 q3) * (32768 : Int64))))])) _
    refine XS.lload X0.here hx rfl (hb hby d2_72) rfl ?_
    show Steps p.tables e below (s₁.setTop (mkF m 74 #[.val (.long q0), .second, .val (.long q1), .second, .val (.long q2), .second, .val (.long q3), .second, .val (.long (q1 / q3)), .second, .val (.long (q1 - q1 / q3 * q3)), .second, .val (.long (v2_16 q0)), .second, .val (.long (q0 &&& (32767 : Int64))), .second, .val (.long (v2_33 q0 q1 q3)), .second, .val (.long (v2_59 q0 q1 q2 q3)), .second] [(.long (v2_59 q0 q1 q2 q3)), (.long (((q1 / q3) * q0) + ((v2_33 q0 q1 q3) * (32768 : Int64))))])) _
    refine XS.lload X0.here hx rfl (hb hby d2_74) rfl ?_
    exact k)
  obtain ⟨_, _, ⟨T2, L2, k2, n2⟩, -, X2, ⟨Lc2, hQ2, l2, y2, z2⟩, st2⟩ := Jvm.LawKit.callS X0 hx (y := (⟨"java/lang/Math", "floorDiv", "(JJ)J"⟩ : MethodName)) hown (mvT hZ (hw _ (List.mem_of_getElem? (i := 16) rfl))) (mvT hZ (hw _ (List.mem_of_getElem? (i := 17) rfl))) (mvT hZ (hw _ (List.mem_of_getElem? (i := 18) rfl))) (mvT hZ (hw _ (List.mem_of_getElem? (i := 19) rfl))) (by decide) (backOf (W := 2) (rm3 l Z a0 hw [] (v2_59 q0 q1 q2 q3) q3 h0 n0 Z0 hd) hZ (hw _ (List.mem_of_getElem? (i := 19) rfl)) (hw _ (List.mem_of_getElem? (i := 18) rfl)) (by decide) (by decide)) (g := (mkF m 76 #[.val (.long q0), .second, .val (.long q1), .second, .val (.long q2), .second, .val (.long q3), .second, .val (.long (q1 / q3)), .second, .val (.long (q1 - q1 / q3 * q3)), .second, .val (.long (v2_16 q0)), .second, .val (.long (q0 &&& (32767 : Int64))), .second, .val (.long (v2_33 q0 q1 q3)), .second, .val (.long (v2_59 q0 q1 q2 q3)), .second] [(.long q3), (.long (v2_59 q0 q1 q2 q3)), (.long (((q1 / q3) * q0) + ((v2_33 q0 q1 q3) * (32768 : Int64))))])) rfl (by rw [hml]; rfl) (argsL := [(.long (v2_59 q0 q1 q2 q3)), (.long q3)]) (rest := [(.long (((q1 / q3) * q0) + ((v2_33 q0 q1 q3) * (32768 : Int64))))]) (lenOf pd__JJ_J rfl) rfl (by show 2 * 0 + _ ≤ _; exact Nat.le_of_eq rfl) (hb hby d2_76) (fun _ _ => ⟨rfl, e0, (by decide : 0 + 0 ≤ _), (by decide : 0 + 0 ≤ _)⟩)
  dsimp only [Pt.U, Pt.locs, Pt.cells, Pt.slots] at X2 l2 y2 z2 st2 hQ2
  subst l2 y2 z2
  obtain ⟨rfl, Nq2, e2⟩ := hQ2
  have N2 := Fr.app N0 Nq2
  have pre3 : ∀ t, Steps p.tables e below (T2.setTop (mkF m 79 #[.val (.long q0), .second, .val (.long q1), .second, .val (.long q2), .second, .val (.long q3), .second, .val (.long (q1 / q3)), .second, .val (.long (q1 - q1 / q3 * q3)), .second, .val (.long (v2_16 q0)), .second, .val (.long (q0 &&& (32767 : Int64))), .second, .val (.long (v2_33 q0 q1 q3)), .second, .val (.long (v2_59 q0 q1 q2 q3)), .second] [(.long (f3 (v2_59 q0 q1 q2 q3) q3)), (.long (((q1 / q3) * q0) + ((v2_33 q0 q1 q3) * (32768 : Int64))))])) t → Steps p.tables e below (s₁.setTop (entryFrame m #[(.long q0), (.long q1), (.long q2), (.long q3)] 20)) t := fun t k => pre1 t (st2 _ k)
  have pre4 : ∀ t, Steps p.tables e below (T2.setTop (mkF m 80 #[.val (.long q0), .second, .val (.long q1), .second, .val (.long q2), .second, .val (.long q3), .second, .val (.long (q1 / q3)), .second, .val (.long (q1 - q1 / q3 * q3)), .second, .val (.long (v2_16 q0)), .second, .val (.long (q0 &&& (32767 : Int64))), .second, .val (.long (v2_33 q0 q1 q3)), .second, .val (.long (v2_59 q0 q1 q2 q3)), .second] [(.long ((((q1 / q3) * q0) + ((v2_33 q0 q1 q3) * (32768 : Int64))) + (f3 (v2_59 q0 q1 q2 q3) q3)))])) t → Steps p.tables e below (s₁.setTop (entryFrame m #[(.long q0), (.long q1), (.long q2), (.long q3)] 20)) t := fun t k => pre3 t (by
    show Steps p.tables e below (T2.setTop (mkF m 79 #[.val (.long q0), .second, .val (.long q1), .second, .val (.long q2), .second, .val (.long q3), .second, .val (.long (q1 / q3)), .second, .val (.long (q1 - q1 / q3 * q3)), .second, .val (.long (v2_16 q0)), .second, .val (.long (q0 &&& (32767 : Int64))), .second, .val (.long (v2_33 q0 q1 q3)), .second, .val (.long (v2_59 q0 q1 q2 q3)), .second] [(.long (f3 (v2_59 q0 q1 q2 q3) q3)), (.long (((q1 / q3) * q0) + ((v2_33 q0 q1 q3) * (32768 : Int64))))])) _
    refine XS.ladd X2.here hx rfl (hb hby d2_79) rfl ?_
    exact k)
  obtain ⟨fs, hr, hrun, hended, hW, hsame⟩ := X2.leave (v := some (.long ((((q1 / q3) * q0) + ((v2_33 q0 q1 q3) * (32768 : Int64))) + (f3 (v2_59 q0 q1 q2 q3) q3)))) (fun h => by rw [Bd.returns] at h; cases h)
  refine ⟨_, _, ?_, hrun, hended, _, _, rfl, ?_, ⟨_, rfl⟩, hW, hsame.mono (by decide) (by decide)⟩
  · exact pre4 _ (X2.lreturnOut hx Bd.returns (hb hby d2_80) hr)
  · exact ⟨by simp only [f2], N2, e2⟩
theorem pn_0 : plainName "com/example/stint/stint/limit/ExactFloorOfProductPinLaw" = true := by first | (simp [plainName, overriddenIn]; done) | decide +kernel
theorem pd__JJJJ_J : parseMethodDescriptor "(JJJJ)J" = some ⟨[.long, .long, .long, .long], some .long⟩ := by decide +kernel
theorem ef_0 (m : MethodId) (x0 : Int64) (x1 : Int64) (x2 : Int64) (x3 : Int64) : entryFrame m #[(.long x0), (.long x1), (.long x2), (.long x3)] maxLocals = mkF m 0 #[.val (.long x0), .second, .val (.long x1), .second, .val (.long x2), .second, .val (.long x3), .second, .unset, .unset, .unset, .unset, .unset, .unset, .unset, .unset, .unset, .unset, .unset, .unset, .unset, .unset, .unset, .unset, .unset, .unset, .unset, .unset, .unset, .unset, .unset, .unset, .unset, .unset, .unset, .unset, .unset, .unset, .unset, .unset, .unset, .unset, .unset, .unset, .unset, .unset, .unset, .unset] [] := by first | (simp [entryFrame, mkF, argsToLocals, Value.category, maxLocals]; done) | rfl
def v0_9 (q0 : Int64) : Int64 := ((q0 &&& (4294967295 : Int64)) - (q0 &&& (4294967295 : Int64)) / (2147483649 : Int64) * (2147483649 : Int64))
def v0_19 (q3 : Int64) : Int64 := ((q3 &&& (34359738367 : Int64)) + (1 : Int64))
def v0_27 (q2 : Int64) : Int64 := (q2 - q2 / (1125899906842625 : Int64) * (1125899906842625 : Int64))
def v0_33 (q1 : Int64) : Int64 := (q1 >>> ((48 : Int32) &&& 0x3f).toInt64)
def v0_43 (q1 : Int64) : Int64 := (((q1.toUInt64 >>> ((32 : Int32) &&& 0x3f).toInt64.toUInt64).toInt64) &&& (65535 : Int64))
def v0_53 (q1 : Int64) : Int64 := (((q1.toUInt64 >>> ((16 : Int32) &&& 0x3f).toInt64.toUInt64).toInt64) &&& (65535 : Int64))
def v0_60 (q1 : Int64) : Int64 := (q1 &&& (65535 : Int64))
def v0_67 (q0 : Int64) (q1 : Int64) : Int64 := ((v0_9 q0) * (v0_33 q1))
def v0_76 (q0 : Int64) (q1 : Int64) (q3 : Int64) : Int64 := (f1 (v0_67 q0 q1) (v0_19 q3))
def v0_86 (q0 : Int64) (q1 : Int64) (q3 : Int64) : Int64 := ((v0_67 q0 q1) - ((v0_76 q0 q1 q3) * (v0_19 q3)))
def v0_100 (q0 : Int64) (q1 : Int64) (q3 : Int64) : Int64 := (((v0_86 q0 q1 q3) * (65536 : Int64)) + ((v0_9 q0) * (v0_43 q1)))
def v0_109 (q0 : Int64) (q1 : Int64) (q3 : Int64) : Int64 := (f1 (v0_100 q0 q1 q3) (v0_19 q3))
def v0_119 (q0 : Int64) (q1 : Int64) (q3 : Int64) : Int64 := ((v0_100 q0 q1 q3) - ((v0_109 q0 q1 q3) * (v0_19 q3)))
def v0_133 (q0 : Int64) (q1 : Int64) (q3 : Int64) : Int64 := (((v0_119 q0 q1 q3) * (65536 : Int64)) + ((v0_9 q0) * (v0_53 q1)))
def v0_142 (q0 : Int64) (q1 : Int64) (q3 : Int64) : Int64 := (f1 (v0_133 q0 q1 q3) (v0_19 q3))
def v0_152 (q0 : Int64) (q1 : Int64) (q3 : Int64) : Int64 := ((v0_133 q0 q1 q3) - ((v0_142 q0 q1 q3) * (v0_19 q3)))
def v0_169 (q0 : Int64) (q1 : Int64) (q2 : Int64) (q3 : Int64) : Int64 := ((((v0_152 q0 q1 q3) * (65536 : Int64)) + ((v0_9 q0) * (v0_60 q1))) + (v0_27 q2))
def v0_178 (q0 : Int64) (q1 : Int64) (q2 : Int64) (q3 : Int64) : Int64 := (f1 (v0_169 q0 q1 q2 q3) (v0_19 q3))
def v0_200 (q0 : Int64) (q1 : Int64) (q2 : Int64) (q3 : Int64) : Int64 := (((((v0_76 q0 q1 q3) <<< ((48 : Int32) &&& 0x3f).toInt64) + ((v0_109 q0 q1 q3) <<< ((32 : Int32) &&& 0x3f).toInt64)) + ((v0_142 q0 q1 q3) <<< ((16 : Int32) &&& 0x3f).toInt64)) + (v0_178 q0 q1 q2 q3))
def v0_212 (q0 : Int64) (q1 : Int64) (q2 : Int64) (q3 : Int64) : Int64 := (f2 (v0_9 q0) q1 (v0_27 q2) (v0_19 q3))
def f0 (q0 : Int64) (q1 : Int64) (q2 : Int64) (q3 : Int64) : Int32 := (if (v0_212 q0 q1 q2 q3) = (v0_200 q0 q1 q2 q3) then (1 : Int32) else (0 : Int32))
set_option maxRecDepth 65536 in
set_option maxHeartbeats 40000000 in
theorem rm0 (l : Launch) (Z : State) (a0 : Array Value) (hw : ∀ d ∈ tables_1, d.before a0 Z = true) (ws : List Jvm.Cond) (q0 : Int64) (q1 : Int64) (q2 : Int64) (q3 : Int64) (h0 : Heap) (n0 : Nat) (Z0 : n0 ≤ h0.size) :
    MetFree l x (head1 (Jvm.Cond.code x code maxLocals ret :: ws) room_1) (fun a U => a = #[(.long q0), (.long q1), (.long q2), (.long q3)] ∧ Z.Warmed39 U.vm ∧ U.heap = h0) (fun _ _ _ _ _ => True) (fun _ U o U' => ∃ v L, o = .returned v ∧ QL (some (.int (f0 q0 q1 q2 q3))) n0 v U'.heap L ∧ FrameEnd U o U' L room_1.cells room_1.slots) := by
  refine MetFree.of_bodySF (plainFor_of_name pn_0) hisR ?_
  intro p e s m args below meth c s₁ Bd hml0 hP hK
  obtain ⟨rfl, hZ, hh⟩ := hP
  have hx := Bd.exec
  have hby := Bd.bytes
  have hml : c.maxLocals = 48 := hml0
  have hown : s.vm.findClass "com/example/stint/stint/limit/ExactFloorOfProductPinLaw" = some m.cls := findClass_of_methodNamed Bd.named
  have hnm := (name_of_methodNamed Bd.named Bd.method).1
  have X0 : Stand p l e room_1 s m #[(.long q0), (.long q1), (.long q2), (.long q3)] below meth c s₁ [] 0 0 := Stand.of_body Bd
  have e0 : s₁.heap = h0 := by rw [← hh, Bd.state]; rfl
  have N0 := Fr.nil n0
  have K0 : Keep h0 h0 [] := Keep.refl _ _
  have pre0 : ∀ t, Steps p.tables e below (s₁.setTop (mkF m 0 #[.val (.long q0), .second, .val (.long q1), .second, .val (.long q2), .second, .val (.long q3), .second, .unset, .unset, .unset, .unset, .unset, .unset, .unset, .unset, .unset, .unset, .unset, .unset, .unset, .unset, .unset, .unset, .unset, .unset, .unset, .unset, .unset, .unset, .unset, .unset, .unset, .unset, .unset, .unset, .unset, .unset, .unset, .unset, .unset, .unset, .unset, .unset, .unset, .unset, .unset, .unset] [])) t → Steps p.tables e below (s₁.setTop (entryFrame m #[(.long q0), (.long q1), (.long q2), (.long q3)] maxLocals)) t := fun t k => castTop (ef_0 m q0 q1 q2 q3) k
  have pre2 : ∀ t, Steps p.tables e below (s₁.setTop (mkF m 73 #[.val (.long q0), .second, .val (.long q1), .second, .val (.long q2), .second, .val (.long q3), .second, .val (.long (v0_9 q0)), .second, .val (.long (v0_19 q3)), .second, .val (.long (v0_27 q2)), .second, .val (.long (v0_33 q1)), .second, .val (.long (v0_43 q1)), .second, .val (.long (v0_53 q1)), .second, .val (.long (v0_60 q1)), .second, .val (.long (v0_67 q0 q1)), .second, .unset, .unset, .unset, .unset, .unset, .unset, .unset, .unset, .unset, .unset, .unset, .unset, .unset, .unset, .unset, .unset, .unset, .unset, .unset, .unset, .unset, .unset, .unset, .unset] [(.long (v0_19 q3)), (.long (v0_67 q0 q1))])) t → Steps p.tables e below (s₁.setTop (entryFrame m #[(.long q0), (.long q1), (.long q2), (.long q3)] maxLocals)) t := fun t k => pre0 t (by
    show Steps p.tables e below (s₁.setTop (mkF m 0 #[.val (.long q0), .second, .val (.long q1), .second, .val (.long q2), .second, .val (.long q3), .second, .unset, .unset, .unset, .unset, .unset, .unset, .unset, .unset, .unset, .unset, .unset, .unset, .unset, .unset, .unset, .unset, .unset, .unset, .unset, .unset, .unset, .unset, .unset, .unset, .unset, .unset, .unset, .unset, .unset, .unset, .unset, .unset, .unset, .unset, .unset, .unset, .unset, .unset, .unset, .unset] [])) _
    refine XS.lloadN X0.here hx rfl (hb hby at_0) rfl ?_
    show Steps p.tables e below (s₁.setTop (mkF m 1 #[.val (.long q0), .second, .val (.long q1), .second, .val (.long q2), .second, .val (.long q3), .second, .unset, .unset, .unset, .unset, .unset, .unset, .unset, .unset, .unset, .unset, .unset, .unset, .unset, .unset, .unset, .unset, .unset, .unset, .unset, .unset, .unset, .unset, .unset, .unset, .unset, .unset, .unset, .unset, .unset, .unset, .unset, .unset, .unset, .unset, .unset, .unset, .unset, .unset, .unset, .unset] [(.long q0)])) _
    refine X0.ldc2Long hx hown (mvT hZ (hw _ (List.mem_of_getElem? (i := 0) rfl))) (g := (mkF m 1 #[.val (.long q0), .second, .val (.long q1), .second, .val (.long q2), .second, .val (.long q3), .second, .unset, .unset, .unset, .unset, .unset, .unset, .unset, .unset, .unset, .unset, .unset, .unset, .unset, .unset, .unset, .unset, .unset, .unset, .unset, .unset, .unset, .unset, .unset, .unset, .unset, .unset, .unset, .unset, .unset, .unset, .unset, .unset, .unset, .unset, .unset, .unset, .unset, .unset, .unset, .unset] [(.long q0)])) rfl (hb hby at_1) _ ?_
    show Steps p.tables e below (s₁.setTop (mkF m 4 #[.val (.long q0), .second, .val (.long q1), .second, .val (.long q2), .second, .val (.long q3), .second, .unset, .unset, .unset, .unset, .unset, .unset, .unset, .unset, .unset, .unset, .unset, .unset, .unset, .unset, .unset, .unset, .unset, .unset, .unset, .unset, .unset, .unset, .unset, .unset, .unset, .unset, .unset, .unset, .unset, .unset, .unset, .unset, .unset, .unset, .unset, .unset, .unset, .unset, .unset, .unset] [(.long (4294967295 : Int64)), (.long q0)])) _
    refine XS.land X0.here hx rfl (hb hby at_4) rfl ?_
    show Steps p.tables e below (s₁.setTop (mkF m 5 #[.val (.long q0), .second, .val (.long q1), .second, .val (.long q2), .second, .val (.long q3), .second, .unset, .unset, .unset, .unset, .unset, .unset, .unset, .unset, .unset, .unset, .unset, .unset, .unset, .unset, .unset, .unset, .unset, .unset, .unset, .unset, .unset, .unset, .unset, .unset, .unset, .unset, .unset, .unset, .unset, .unset, .unset, .unset, .unset, .unset, .unset, .unset, .unset, .unset, .unset, .unset] [(.long (q0 &&& (4294967295 : Int64)))])) _
    refine X0.ldc2Long hx hown (mvT hZ (hw _ (List.mem_of_getElem? (i := 1) rfl))) (g := (mkF m 5 #[.val (.long q0), .second, .val (.long q1), .second, .val (.long q2), .second, .val (.long q3), .second, .unset, .unset, .unset, .unset, .unset, .unset, .unset, .unset, .unset, .unset, .unset, .unset, .unset, .unset, .unset, .unset, .unset, .unset, .unset, .unset, .unset, .unset, .unset, .unset, .unset, .unset, .unset, .unset, .unset, .unset, .unset, .unset, .unset, .unset, .unset, .unset, .unset, .unset, .unset, .unset] [(.long (q0 &&& (4294967295 : Int64)))])) rfl (hb hby at_5) _ ?_
    show Steps p.tables e below (s₁.setTop (mkF m 8 #[.val (.long q0), .second, .val (.long q1), .second, .val (.long q2), .second, .val (.long q3), .second, .unset, .unset, .unset, .unset, .unset, .unset, .unset, .unset, .unset, .unset, .unset, .unset, .unset, .unset, .unset, .unset, .unset, .unset, .unset, .unset, .unset, .unset, .unset, .unset, .unset, .unset, .unset, .unset, .unset, .unset, .unset, .unset, .unset, .unset, .unset, .unset, .unset, .unset, .unset, .unset] [(.long (2147483649 : Int64)), (.long (q0 &&& (4294967295 : Int64)))])) _
    refine XS.lrem X0.here hx rfl (hb hby at_8) rfl (by decide) ?_
    show Steps p.tables e below (s₁.setTop (mkF m 9 #[.val (.long q0), .second, .val (.long q1), .second, .val (.long q2), .second, .val (.long q3), .second, .unset, .unset, .unset, .unset, .unset, .unset, .unset, .unset, .unset, .unset, .unset, .unset, .unset, .unset, .unset, .unset, .unset, .unset, .unset, .unset, .unset, .unset, .unset, .unset, .unset, .unset, .unset, .unset, .unset, .unset, .unset, .unset, .unset, .unset, .unset, .unset, .unset, .unset, .unset, .unset] [(.long ((q0 &&& (4294967295 : Int64)) - (q0 &&& (4294967295 : Int64)) / (2147483649 : Int64) * (2147483649 : Int64)))])) _
    refine XS.lstore X0.here hx rfl (hb hby at_9) rfl (l' := #[.val (.long q0), .second, .val (.long q1), .second, .val (.long q2), .second, .val (.long q3), .second, .val (.long (v0_9 q0)), .second, .unset, .unset, .unset, .unset, .unset, .unset, .unset, .unset, .unset, .unset, .unset, .unset, .unset, .unset, .unset, .unset, .unset, .unset, .unset, .unset, .unset, .unset, .unset, .unset, .unset, .unset, .unset, .unset, .unset, .unset, .unset, .unset, .unset, .unset, .unset, .unset, .unset, .unset]) rfl ?_
    show Steps p.tables e below (s₁.setTop (mkF m 11 #[.val (.long q0), .second, .val (.long q1), .second, .val (.long q2), .second, .val (.long q3), .second, .val (.long (v0_9 q0)), .second, .unset, .unset, .unset, .unset, .unset, .unset, .unset, .unset, .unset, .unset, .unset, .unset, .unset, .unset, .unset, .unset, .unset, .unset, .unset, .unset, .unset, .unset, .unset, .unset, .unset, .unset, .unset, .unset, .unset, .unset, .unset, .unset, .unset, .unset, .unset, .unset, .unset, .unset] [])) _
    refine XS.lload X0.here hx rfl (hb hby at_11) rfl ?_
    show Steps p.tables e below (s₁.setTop (mkF m 13 #[.val (.long q0), .second, .val (.long q1), .second, .val (.long q2), .second, .val (.long q3), .second, .val (.long (v0_9 q0)), .second, .unset, .unset, .unset, .unset, .unset, .unset, .unset, .unset, .unset, .unset, .unset, .unset, .unset, .unset, .unset, .unset, .unset, .unset, .unset, .unset, .unset, .unset, .unset, .unset, .unset, .unset, .unset, .unset, .unset, .unset, .unset, .unset, .unset, .unset, .unset, .unset, .unset, .unset] [(.long q3)])) _
    refine X0.ldc2Long hx hown (mvT hZ (hw _ (List.mem_of_getElem? (i := 2) rfl))) (g := (mkF m 13 #[.val (.long q0), .second, .val (.long q1), .second, .val (.long q2), .second, .val (.long q3), .second, .val (.long (v0_9 q0)), .second, .unset, .unset, .unset, .unset, .unset, .unset, .unset, .unset, .unset, .unset, .unset, .unset, .unset, .unset, .unset, .unset, .unset, .unset, .unset, .unset, .unset, .unset, .unset, .unset, .unset, .unset, .unset, .unset, .unset, .unset, .unset, .unset, .unset, .unset, .unset, .unset, .unset, .unset] [(.long q3)])) rfl (hb hby at_13) _ ?_
    show Steps p.tables e below (s₁.setTop (mkF m 16 #[.val (.long q0), .second, .val (.long q1), .second, .val (.long q2), .second, .val (.long q3), .second, .val (.long (v0_9 q0)), .second, .unset, .unset, .unset, .unset, .unset, .unset, .unset, .unset, .unset, .unset, .unset, .unset, .unset, .unset, .unset, .unset, .unset, .unset, .unset, .unset, .unset, .unset, .unset, .unset, .unset, .unset, .unset, .unset, .unset, .unset, .unset, .unset, .unset, .unset, .unset, .unset, .unset, .unset] [(.long (34359738367 : Int64)), (.long q3)])) _
    refine XS.land X0.here hx rfl (hb hby at_16) rfl ?_
    show Steps p.tables e below (s₁.setTop (mkF m 17 #[.val (.long q0), .second, .val (.long q1), .second, .val (.long q2), .second, .val (.long q3), .second, .val (.long (v0_9 q0)), .second, .unset, .unset, .unset, .unset, .unset, .unset, .unset, .unset, .unset, .unset, .unset, .unset, .unset, .unset, .unset, .unset, .unset, .unset, .unset, .unset, .unset, .unset, .unset, .unset, .unset, .unset, .unset, .unset, .unset, .unset, .unset, .unset, .unset, .unset, .unset, .unset, .unset, .unset] [(.long (q3 &&& (34359738367 : Int64)))])) _
    refine XS.lconst X0.here hx rfl (hb hby at_17) ?_
    show Steps p.tables e below (s₁.setTop (mkF m 18 #[.val (.long q0), .second, .val (.long q1), .second, .val (.long q2), .second, .val (.long q3), .second, .val (.long (v0_9 q0)), .second, .unset, .unset, .unset, .unset, .unset, .unset, .unset, .unset, .unset, .unset, .unset, .unset, .unset, .unset, .unset, .unset, .unset, .unset, .unset, .unset, .unset, .unset, .unset, .unset, .unset, .unset, .unset, .unset, .unset, .unset, .unset, .unset, .unset, .unset, .unset, .unset, .unset, .unset] [(.long (1 : Int64)), (.long (q3 &&& (34359738367 : Int64)))])) _
    refine XS.ladd X0.here hx rfl (hb hby at_18) rfl ?_
    show Steps p.tables e below (s₁.setTop (mkF m 19 #[.val (.long q0), .second, .val (.long q1), .second, .val (.long q2), .second, .val (.long q3), .second, .val (.long (v0_9 q0)), .second, .unset, .unset, .unset, .unset, .unset, .unset, .unset, .unset, .unset, .unset, .unset, .unset, .unset, .unset, .unset, .unset, .unset, .unset, .unset, .unset, .unset, .unset, .unset, .unset, .unset, .unset, .unset, .unset, .unset, .unset, .unset, .unset, .unset, .unset, .unset, .unset, .unset, .unset] [(.long ((q3 &&& (34359738367 : Int64)) + (1 : Int64)))])) _
    refine XS.lstore X0.here hx rfl (hb hby at_19) rfl (l' := #[.val (.long q0), .second, .val (.long q1), .second, .val (.long q2), .second, .val (.long q3), .second, .val (.long (v0_9 q0)), .second, .val (.long (v0_19 q3)), .second, .unset, .unset, .unset, .unset, .unset, .unset, .unset, .unset, .unset, .unset, .unset, .unset, .unset, .unset, .unset, .unset, .unset, .unset, .unset, .unset, .unset, .unset, .unset, .unset, .unset, .unset, .unset, .unset, .unset, .unset, .unset, .unset, .unset, .unset, .unset, .unset]) rfl ?_
    show Steps p.tables e below (s₁.setTop (mkF m 21 #[.val (.long q0), .second, .val (.long q1), .second, .val (.long q2), .second, .val (.long q3), .second, .val (.long (v0_9 q0)), .second, .val (.long (v0_19 q3)), .second, .unset, .unset, .unset, .unset, .unset, .unset, .unset, .unset, .unset, .unset, .unset, .unset, .unset, .unset, .unset, .unset, .unset, .unset, .unset, .unset, .unset, .unset, .unset, .unset, .unset, .unset, .unset, .unset, .unset, .unset, .unset, .unset, .unset, .unset, .unset, .unset] [])) _
    refine XS.lload X0.here hx rfl (hb hby at_21) rfl ?_
    show Steps p.tables e below (s₁.setTop (mkF m 23 #[.val (.long q0), .second, .val (.long q1), .second, .val (.long q2), .second, .val (.long q3), .second, .val (.long (v0_9 q0)), .second, .val (.long (v0_19 q3)), .second, .unset, .unset, .unset, .unset, .unset, .unset, .unset, .unset, .unset, .unset, .unset, .unset, .unset, .unset, .unset, .unset, .unset, .unset, .unset, .unset, .unset, .unset, .unset, .unset, .unset, .unset, .unset, .unset, .unset, .unset, .unset, .unset, .unset, .unset, .unset, .unset] [(.long q2)])) _
    refine X0.ldc2Long hx hown (mvT hZ (hw _ (List.mem_of_getElem? (i := 3) rfl))) (g := (mkF m 23 #[.val (.long q0), .second, .val (.long q1), .second, .val (.long q2), .second, .val (.long q3), .second, .val (.long (v0_9 q0)), .second, .val (.long (v0_19 q3)), .second, .unset, .unset, .unset, .unset, .unset, .unset, .unset, .unset, .unset, .unset, .unset, .unset, .unset, .unset, .unset, .unset, .unset, .unset, .unset, .unset, .unset, .unset, .unset, .unset, .unset, .unset, .unset, .unset, .unset, .unset, .unset, .unset, .unset, .unset, .unset, .unset] [(.long q2)])) rfl (hb hby at_23) _ ?_
    show Steps p.tables e below (s₁.setTop (mkF m 26 #[.val (.long q0), .second, .val (.long q1), .second, .val (.long q2), .second, .val (.long q3), .second, .val (.long (v0_9 q0)), .second, .val (.long (v0_19 q3)), .second, .unset, .unset, .unset, .unset, .unset, .unset, .unset, .unset, .unset, .unset, .unset, .unset, .unset, .unset, .unset, .unset, .unset, .unset, .unset, .unset, .unset, .unset, .unset, .unset, .unset, .unset, .unset, .unset, .unset, .unset, .unset, .unset, .unset, .unset, .unset, .unset] [(.long (1125899906842625 : Int64)), (.long q2)])) _
    refine XS.lrem X0.here hx rfl (hb hby at_26) rfl (by decide) ?_
    show Steps p.tables e below (s₁.setTop (mkF m 27 #[.val (.long q0), .second, .val (.long q1), .second, .val (.long q2), .second, .val (.long q3), .second, .val (.long (v0_9 q0)), .second, .val (.long (v0_19 q3)), .second, .unset, .unset, .unset, .unset, .unset, .unset, .unset, .unset, .unset, .unset, .unset, .unset, .unset, .unset, .unset, .unset, .unset, .unset, .unset, .unset, .unset, .unset, .unset, .unset, .unset, .unset, .unset, .unset, .unset, .unset, .unset, .unset, .unset, .unset, .unset, .unset] [(.long (q2 - q2 / (1125899906842625 : Int64) * (1125899906842625 : Int64)))])) _
    refine XS.lstore X0.here hx rfl (hb hby at_27) rfl (l' := #[.val (.long q0), .second, .val (.long q1), .second, .val (.long q2), .second, .val (.long q3), .second, .val (.long (v0_9 q0)), .second, .val (.long (v0_19 q3)), .second, .val (.long (v0_27 q2)), .second, .unset, .unset, .unset, .unset, .unset, .unset, .unset, .unset, .unset, .unset, .unset, .unset, .unset, .unset, .unset, .unset, .unset, .unset, .unset, .unset, .unset, .unset, .unset, .unset, .unset, .unset, .unset, .unset, .unset, .unset, .unset, .unset, .unset, .unset]) rfl ?_
    show Steps p.tables e below (s₁.setTop (mkF m 29 #[.val (.long q0), .second, .val (.long q1), .second, .val (.long q2), .second, .val (.long q3), .second, .val (.long (v0_9 q0)), .second, .val (.long (v0_19 q3)), .second, .val (.long (v0_27 q2)), .second, .unset, .unset, .unset, .unset, .unset, .unset, .unset, .unset, .unset, .unset, .unset, .unset, .unset, .unset, .unset, .unset, .unset, .unset, .unset, .unset, .unset, .unset, .unset, .unset, .unset, .unset, .unset, .unset, .unset, .unset, .unset, .unset, .unset, .unset] [])) _
    refine XS.lloadN X0.here hx rfl (hb hby at_29) rfl ?_
    show Steps p.tables e below (s₁.setTop (mkF m 30 #[.val (.long q0), .second, .val (.long q1), .second, .val (.long q2), .second, .val (.long q3), .second, .val (.long (v0_9 q0)), .second, .val (.long (v0_19 q3)), .second, .val (.long (v0_27 q2)), .second, .unset, .unset, .unset, .unset, .unset, .unset, .unset, .unset, .unset, .unset, .unset, .unset, .unset, .unset, .unset, .unset, .unset, .unset, .unset, .unset, .unset, .unset, .unset, .unset, .unset, .unset, .unset, .unset, .unset, .unset, .unset, .unset, .unset, .unset] [(.long q1)])) _
    refine XS.bipush X0.here hx rfl (hb hby at_30) ?_
    show Steps p.tables e below (s₁.setTop (mkF m 32 #[.val (.long q0), .second, .val (.long q1), .second, .val (.long q2), .second, .val (.long q3), .second, .val (.long (v0_9 q0)), .second, .val (.long (v0_19 q3)), .second, .val (.long (v0_27 q2)), .second, .unset, .unset, .unset, .unset, .unset, .unset, .unset, .unset, .unset, .unset, .unset, .unset, .unset, .unset, .unset, .unset, .unset, .unset, .unset, .unset, .unset, .unset, .unset, .unset, .unset, .unset, .unset, .unset, .unset, .unset, .unset, .unset, .unset, .unset] [(.int (48 : Int32)), (.long q1)])) _
    refine XS.lshr X0.here hx rfl (hb hby at_32) rfl ?_
    show Steps p.tables e below (s₁.setTop (mkF m 33 #[.val (.long q0), .second, .val (.long q1), .second, .val (.long q2), .second, .val (.long q3), .second, .val (.long (v0_9 q0)), .second, .val (.long (v0_19 q3)), .second, .val (.long (v0_27 q2)), .second, .unset, .unset, .unset, .unset, .unset, .unset, .unset, .unset, .unset, .unset, .unset, .unset, .unset, .unset, .unset, .unset, .unset, .unset, .unset, .unset, .unset, .unset, .unset, .unset, .unset, .unset, .unset, .unset, .unset, .unset, .unset, .unset, .unset, .unset] [(.long (q1 >>> ((48 : Int32) &&& 0x3f).toInt64))])) _
    refine XS.lstore X0.here hx rfl (hb hby at_33) rfl (l' := #[.val (.long q0), .second, .val (.long q1), .second, .val (.long q2), .second, .val (.long q3), .second, .val (.long (v0_9 q0)), .second, .val (.long (v0_19 q3)), .second, .val (.long (v0_27 q2)), .second, .val (.long (v0_33 q1)), .second, .unset, .unset, .unset, .unset, .unset, .unset, .unset, .unset, .unset, .unset, .unset, .unset, .unset, .unset, .unset, .unset, .unset, .unset, .unset, .unset, .unset, .unset, .unset, .unset, .unset, .unset, .unset, .unset, .unset, .unset, .unset, .unset]) rfl ?_
    show Steps p.tables e below (s₁.setTop (mkF m 35 #[.val (.long q0), .second, .val (.long q1), .second, .val (.long q2), .second, .val (.long q3), .second, .val (.long (v0_9 q0)), .second, .val (.long (v0_19 q3)), .second, .val (.long (v0_27 q2)), .second, .val (.long (v0_33 q1)), .second, .unset, .unset, .unset, .unset, .unset, .unset, .unset, .unset, .unset, .unset, .unset, .unset, .unset, .unset, .unset, .unset, .unset, .unset, .unset, .unset, .unset, .unset, .unset, .unset, .unset, .unset, .unset, .unset, .unset, .unset, .unset, .unset] [])) _
    refine XS.lloadN X0.here hx rfl (hb hby at_35) rfl ?_
    show Steps p.tables e below (s₁.setTop (mkF m 36 #[.val (.long q0), .second, .val (.long q1), .second, .val (.long q2), .second, .val (.long q3), .second, .val (.long (v0_9 q0)), .second, .val (.long (v0_19 q3)), .second, .val (.long (v0_27 q2)), .second, .val (.long (v0_33 q1)), .second, .unset, .unset, .unset, .unset, .unset, .unset, .unset, .unset, .unset, .unset, .unset, .unset, .unset, .unset, .unset, .unset, .unset, .unset, .unset, .unset, .unset, .unset, .unset, .unset, .unset, .unset, .unset, .unset, .unset, .unset, .unset, .unset] [(.long q1)])) _
    refine XS.bipush X0.here hx rfl (hb hby at_36) ?_
    show Steps p.tables e below (s₁.setTop (mkF m 38 #[.val (.long q0), .second, .val (.long q1), .second, .val (.long q2), .second, .val (.long q3), .second, .val (.long (v0_9 q0)), .second, .val (.long (v0_19 q3)), .second, .val (.long (v0_27 q2)), .second, .val (.long (v0_33 q1)), .second, .unset, .unset, .unset, .unset, .unset, .unset, .unset, .unset, .unset, .unset, .unset, .unset, .unset, .unset, .unset, .unset, .unset, .unset, .unset, .unset, .unset, .unset, .unset, .unset, .unset, .unset, .unset, .unset, .unset, .unset, .unset, .unset] [(.int (32 : Int32)), (.long q1)])) _
    refine XS.lushr X0.here hx rfl (hb hby at_38) rfl ?_
    show Steps p.tables e below (s₁.setTop (mkF m 39 #[.val (.long q0), .second, .val (.long q1), .second, .val (.long q2), .second, .val (.long q3), .second, .val (.long (v0_9 q0)), .second, .val (.long (v0_19 q3)), .second, .val (.long (v0_27 q2)), .second, .val (.long (v0_33 q1)), .second, .unset, .unset, .unset, .unset, .unset, .unset, .unset, .unset, .unset, .unset, .unset, .unset, .unset, .unset, .unset, .unset, .unset, .unset, .unset, .unset, .unset, .unset, .unset, .unset, .unset, .unset, .unset, .unset, .unset, .unset, .unset, .unset] [(.long ((q1.toUInt64 >>> ((32 : Int32) &&& 0x3f).toInt64.toUInt64).toInt64))])) _
    refine X0.ldc2Long hx hown (mvT hZ (hw _ (List.mem_of_getElem? (i := 4) rfl))) (g := (mkF m 39 #[.val (.long q0), .second, .val (.long q1), .second, .val (.long q2), .second, .val (.long q3), .second, .val (.long (v0_9 q0)), .second, .val (.long (v0_19 q3)), .second, .val (.long (v0_27 q2)), .second, .val (.long (v0_33 q1)), .second, .unset, .unset, .unset, .unset, .unset, .unset, .unset, .unset, .unset, .unset, .unset, .unset, .unset, .unset, .unset, .unset, .unset, .unset, .unset, .unset, .unset, .unset, .unset, .unset, .unset, .unset, .unset, .unset, .unset, .unset, .unset, .unset] [(.long ((q1.toUInt64 >>> ((32 : Int32) &&& 0x3f).toInt64.toUInt64).toInt64))])) rfl (hb hby at_39) _ ?_
    show Steps p.tables e below (s₁.setTop (mkF m 42 #[.val (.long q0), .second, .val (.long q1), .second, .val (.long q2), .second, .val (.long q3), .second, .val (.long (v0_9 q0)), .second, .val (.long (v0_19 q3)), .second, .val (.long (v0_27 q2)), .second, .val (.long (v0_33 q1)), .second, .unset, .unset, .unset, .unset, .unset, .unset, .unset, .unset, .unset, .unset, .unset, .unset, .unset, .unset, .unset, .unset, .unset, .unset, .unset, .unset, .unset, .unset, .unset, .unset, .unset, .unset, .unset, .unset, .unset, .unset, .unset, .unset] [(.long (65535 : Int64)), (.long ((q1.toUInt64 >>> ((32 : Int32) &&& 0x3f).toInt64.toUInt64).toInt64))])) _
    refine XS.land X0.here hx rfl (hb hby at_42) rfl ?_
    show Steps p.tables e below (s₁.setTop (mkF m 43 #[.val (.long q0), .second, .val (.long q1), .second, .val (.long q2), .second, .val (.long q3), .second, .val (.long (v0_9 q0)), .second, .val (.long (v0_19 q3)), .second, .val (.long (v0_27 q2)), .second, .val (.long (v0_33 q1)), .second, .unset, .unset, .unset, .unset, .unset, .unset, .unset, .unset, .unset, .unset, .unset, .unset, .unset, .unset, .unset, .unset, .unset, .unset, .unset, .unset, .unset, .unset, .unset, .unset, .unset, .unset, .unset, .unset, .unset, .unset, .unset, .unset] [(.long (((q1.toUInt64 >>> ((32 : Int32) &&& 0x3f).toInt64.toUInt64).toInt64) &&& (65535 : Int64)))])) _
    refine XS.lstore X0.here hx rfl (hb hby at_43) rfl (l' := #[.val (.long q0), .second, .val (.long q1), .second, .val (.long q2), .second, .val (.long q3), .second, .val (.long (v0_9 q0)), .second, .val (.long (v0_19 q3)), .second, .val (.long (v0_27 q2)), .second, .val (.long (v0_33 q1)), .second, .val (.long (v0_43 q1)), .second, .unset, .unset, .unset, .unset, .unset, .unset, .unset, .unset, .unset, .unset, .unset, .unset, .unset, .unset, .unset, .unset, .unset, .unset, .unset, .unset, .unset, .unset, .unset, .unset, .unset, .unset, .unset, .unset, .unset, .unset]) rfl ?_
    show Steps p.tables e below (s₁.setTop (mkF m 45 #[.val (.long q0), .second, .val (.long q1), .second, .val (.long q2), .second, .val (.long q3), .second, .val (.long (v0_9 q0)), .second, .val (.long (v0_19 q3)), .second, .val (.long (v0_27 q2)), .second, .val (.long (v0_33 q1)), .second, .val (.long (v0_43 q1)), .second, .unset, .unset, .unset, .unset, .unset, .unset, .unset, .unset, .unset, .unset, .unset, .unset, .unset, .unset, .unset, .unset, .unset, .unset, .unset, .unset, .unset, .unset, .unset, .unset, .unset, .unset, .unset, .unset, .unset, .unset] [])) _
    refine XS.lloadN X0.here hx rfl (hb hby at_45) rfl ?_
    show Steps p.tables e below (s₁.setTop (mkF m 46 #[.val (.long q0), .second, .val (.long q1), .second, .val (.long q2), .second, .val (.long q3), .second, .val (.long (v0_9 q0)), .second, .val (.long (v0_19 q3)), .second, .val (.long (v0_27 q2)), .second, .val (.long (v0_33 q1)), .second, .val (.long (v0_43 q1)), .second, .unset, .unset, .unset, .unset, .unset, .unset, .unset, .unset, .unset, .unset, .unset, .unset, .unset, .unset, .unset, .unset, .unset, .unset, .unset, .unset, .unset, .unset, .unset, .unset, .unset, .unset, .unset, .unset, .unset, .unset] [(.long q1)])) _
    refine XS.bipush X0.here hx rfl (hb hby at_46) ?_
    show Steps p.tables e below (s₁.setTop (mkF m 48 #[.val (.long q0), .second, .val (.long q1), .second, .val (.long q2), .second, .val (.long q3), .second, .val (.long (v0_9 q0)), .second, .val (.long (v0_19 q3)), .second, .val (.long (v0_27 q2)), .second, .val (.long (v0_33 q1)), .second, .val (.long (v0_43 q1)), .second, .unset, .unset, .unset, .unset, .unset, .unset, .unset, .unset, .unset, .unset, .unset, .unset, .unset, .unset, .unset, .unset, .unset, .unset, .unset, .unset, .unset, .unset, .unset, .unset, .unset, .unset, .unset, .unset, .unset, .unset] [(.int (16 : Int32)), (.long q1)])) _
    refine XS.lushr X0.here hx rfl (hb hby at_48) rfl ?_
    show Steps p.tables e below (s₁.setTop (mkF m 49 #[.val (.long q0), .second, .val (.long q1), .second, .val (.long q2), .second, .val (.long q3), .second, .val (.long (v0_9 q0)), .second, .val (.long (v0_19 q3)), .second, .val (.long (v0_27 q2)), .second, .val (.long (v0_33 q1)), .second, .val (.long (v0_43 q1)), .second, .unset, .unset, .unset, .unset, .unset, .unset, .unset, .unset, .unset, .unset, .unset, .unset, .unset, .unset, .unset, .unset, .unset, .unset, .unset, .unset, .unset, .unset, .unset, .unset, .unset, .unset, .unset, .unset, .unset, .unset] [(.long ((q1.toUInt64 >>> ((16 : Int32) &&& 0x3f).toInt64.toUInt64).toInt64))])) _
    refine X0.ldc2Long hx hown (mvT hZ (hw _ (List.mem_of_getElem? (i := 4) rfl))) (g := (mkF m 49 #[.val (.long q0), .second, .val (.long q1), .second, .val (.long q2), .second, .val (.long q3), .second, .val (.long (v0_9 q0)), .second, .val (.long (v0_19 q3)), .second, .val (.long (v0_27 q2)), .second, .val (.long (v0_33 q1)), .second, .val (.long (v0_43 q1)), .second, .unset, .unset, .unset, .unset, .unset, .unset, .unset, .unset, .unset, .unset, .unset, .unset, .unset, .unset, .unset, .unset, .unset, .unset, .unset, .unset, .unset, .unset, .unset, .unset, .unset, .unset, .unset, .unset, .unset, .unset] [(.long ((q1.toUInt64 >>> ((16 : Int32) &&& 0x3f).toInt64.toUInt64).toInt64))])) rfl (hb hby at_49) _ ?_
    show Steps p.tables e below (s₁.setTop (mkF m 52 #[.val (.long q0), .second, .val (.long q1), .second, .val (.long q2), .second, .val (.long q3), .second, .val (.long (v0_9 q0)), .second, .val (.long (v0_19 q3)), .second, .val (.long (v0_27 q2)), .second, .val (.long (v0_33 q1)), .second, .val (.long (v0_43 q1)), .second, .unset, .unset, .unset, .unset, .unset, .unset, .unset, .unset, .unset, .unset, .unset, .unset, .unset, .unset, .unset, .unset, .unset, .unset, .unset, .unset, .unset, .unset, .unset, .unset, .unset, .unset, .unset, .unset, .unset, .unset] [(.long (65535 : Int64)), (.long ((q1.toUInt64 >>> ((16 : Int32) &&& 0x3f).toInt64.toUInt64).toInt64))])) _
    refine XS.land X0.here hx rfl (hb hby at_52) rfl ?_
    show Steps p.tables e below (s₁.setTop (mkF m 53 #[.val (.long q0), .second, .val (.long q1), .second, .val (.long q2), .second, .val (.long q3), .second, .val (.long (v0_9 q0)), .second, .val (.long (v0_19 q3)), .second, .val (.long (v0_27 q2)), .second, .val (.long (v0_33 q1)), .second, .val (.long (v0_43 q1)), .second, .unset, .unset, .unset, .unset, .unset, .unset, .unset, .unset, .unset, .unset, .unset, .unset, .unset, .unset, .unset, .unset, .unset, .unset, .unset, .unset, .unset, .unset, .unset, .unset, .unset, .unset, .unset, .unset, .unset, .unset] [(.long (((q1.toUInt64 >>> ((16 : Int32) &&& 0x3f).toInt64.toUInt64).toInt64) &&& (65535 : Int64)))])) _
    refine XS.lstore X0.here hx rfl (hb hby at_53) rfl (l' := #[.val (.long q0), .second, .val (.long q1), .second, .val (.long q2), .second, .val (.long q3), .second, .val (.long (v0_9 q0)), .second, .val (.long (v0_19 q3)), .second, .val (.long (v0_27 q2)), .second, .val (.long (v0_33 q1)), .second, .val (.long (v0_43 q1)), .second, .val (.long (v0_53 q1)), .second, .unset, .unset, .unset, .unset, .unset, .unset, .unset, .unset, .unset, .unset, .unset, .unset, .unset, .unset, .unset, .unset, .unset, .unset, .unset, .unset, .unset, .unset, .unset, .unset, .unset, .unset, .unset, .unset]) rfl ?_
    show Steps p.tables e below (s₁.setTop (mkF m 55 #[.val (.long q0), .second, .val (.long q1), .second, .val (.long q2), .second, .val (.long q3), .second, .val (.long (v0_9 q0)), .second, .val (.long (v0_19 q3)), .second, .val (.long (v0_27 q2)), .second, .val (.long (v0_33 q1)), .second, .val (.long (v0_43 q1)), .second, .val (.long (v0_53 q1)), .second, .unset, .unset, .unset, .unset, .unset, .unset, .unset, .unset, .unset, .unset, .unset, .unset, .unset, .unset, .unset, .unset, .unset, .unset, .unset, .unset, .unset, .unset, .unset, .unset, .unset, .unset, .unset, .unset] [])) _
    refine XS.lloadN X0.here hx rfl (hb hby at_55) rfl ?_
    show Steps p.tables e below (s₁.setTop (mkF m 56 #[.val (.long q0), .second, .val (.long q1), .second, .val (.long q2), .second, .val (.long q3), .second, .val (.long (v0_9 q0)), .second, .val (.long (v0_19 q3)), .second, .val (.long (v0_27 q2)), .second, .val (.long (v0_33 q1)), .second, .val (.long (v0_43 q1)), .second, .val (.long (v0_53 q1)), .second, .unset, .unset, .unset, .unset, .unset, .unset, .unset, .unset, .unset, .unset, .unset, .unset, .unset, .unset, .unset, .unset, .unset, .unset, .unset, .unset, .unset, .unset, .unset, .unset, .unset, .unset, .unset, .unset] [(.long q1)])) _
    refine X0.ldc2Long hx hown (mvT hZ (hw _ (List.mem_of_getElem? (i := 4) rfl))) (g := (mkF m 56 #[.val (.long q0), .second, .val (.long q1), .second, .val (.long q2), .second, .val (.long q3), .second, .val (.long (v0_9 q0)), .second, .val (.long (v0_19 q3)), .second, .val (.long (v0_27 q2)), .second, .val (.long (v0_33 q1)), .second, .val (.long (v0_43 q1)), .second, .val (.long (v0_53 q1)), .second, .unset, .unset, .unset, .unset, .unset, .unset, .unset, .unset, .unset, .unset, .unset, .unset, .unset, .unset, .unset, .unset, .unset, .unset, .unset, .unset, .unset, .unset, .unset, .unset, .unset, .unset, .unset, .unset] [(.long q1)])) rfl (hb hby at_56) _ ?_
    show Steps p.tables e below (s₁.setTop (mkF m 59 #[.val (.long q0), .second, .val (.long q1), .second, .val (.long q2), .second, .val (.long q3), .second, .val (.long (v0_9 q0)), .second, .val (.long (v0_19 q3)), .second, .val (.long (v0_27 q2)), .second, .val (.long (v0_33 q1)), .second, .val (.long (v0_43 q1)), .second, .val (.long (v0_53 q1)), .second, .unset, .unset, .unset, .unset, .unset, .unset, .unset, .unset, .unset, .unset, .unset, .unset, .unset, .unset, .unset, .unset, .unset, .unset, .unset, .unset, .unset, .unset, .unset, .unset, .unset, .unset, .unset, .unset] [(.long (65535 : Int64)), (.long q1)])) _
    refine XS.land X0.here hx rfl (hb hby at_59) rfl ?_
    show Steps p.tables e below (s₁.setTop (mkF m 60 #[.val (.long q0), .second, .val (.long q1), .second, .val (.long q2), .second, .val (.long q3), .second, .val (.long (v0_9 q0)), .second, .val (.long (v0_19 q3)), .second, .val (.long (v0_27 q2)), .second, .val (.long (v0_33 q1)), .second, .val (.long (v0_43 q1)), .second, .val (.long (v0_53 q1)), .second, .unset, .unset, .unset, .unset, .unset, .unset, .unset, .unset, .unset, .unset, .unset, .unset, .unset, .unset, .unset, .unset, .unset, .unset, .unset, .unset, .unset, .unset, .unset, .unset, .unset, .unset, .unset, .unset] [(.long (q1 &&& (65535 : Int64)))])) _
    refine XS.lstore X0.here hx rfl (hb hby at_60) rfl (l' := #[.val (.long q0), .second, .val (.long q1), .second, .val (.long q2), .second, .val (.long q3), .second, .val (.long (v0_9 q0)), .second, .val (.long (v0_19 q3)), .second, .val (.long (v0_27 q2)), .second, .val (.long (v0_33 q1)), .second, .val (.long (v0_43 q1)), .second, .val (.long (v0_53 q1)), .second, .val (.long (v0_60 q1)), .second, .unset, .unset, .unset, .unset, .unset, .unset, .unset, .unset, .unset, .unset, .unset, .unset, .unset, .unset, .unset, .unset, .unset, .unset, .unset, .unset, .unset, .unset, .unset, .unset, .unset, .unset]) rfl ?_
    show Steps p.tables e below (s₁.setTop (mkF m 62 #[.val (.long q0), .second, .val (.long q1), .second, .val (.long q2), .second, .val (.long q3), .second, .val (.long (v0_9 q0)), .second, .val (.long (v0_19 q3)), .second, .val (.long (v0_27 q2)), .second, .val (.long (v0_33 q1)), .second, .val (.long (v0_43 q1)), .second, .val (.long (v0_53 q1)), .second, .val (.long (v0_60 q1)), .second, .unset, .unset, .unset, .unset, .unset, .unset, .unset, .unset, .unset, .unset, .unset, .unset, .unset, .unset, .unset, .unset, .unset, .unset, .unset, .unset, .unset, .unset, .unset, .unset, .unset, .unset] [])) _
    refine XS.lload X0.here hx rfl (hb hby at_62) rfl ?_
    show Steps p.tables e below (s₁.setTop (mkF m 64 #[.val (.long q0), .second, .val (.long q1), .second, .val (.long q2), .second, .val (.long q3), .second, .val (.long (v0_9 q0)), .second, .val (.long (v0_19 q3)), .second, .val (.long (v0_27 q2)), .second, .val (.long (v0_33 q1)), .second, .val (.long (v0_43 q1)), .second, .val (.long (v0_53 q1)), .second, .val (.long (v0_60 q1)), .second, .unset, .unset, .unset, .unset, .unset, .unset, .unset, .unset, .unset, .unset, .unset, .unset, .unset, .unset, .unset, .unset, .unset, .unset, .unset, .unset, .unset, .unset, .unset, .unset, .unset, .unset] [(.long (v0_9 q0))])) _
    refine XS.lload X0.here hx rfl (hb hby at_64) rfl ?_
    show Steps p.tables e below (s₁.setTop (mkF m 66 #[.val (.long q0), .second, .val (.long q1), .second, .val (.long q2), .second, .val (.long q3), .second, .val (.long (v0_9 q0)), .second, .val (.long (v0_19 q3)), .second, .val (.long (v0_27 q2)), .second, .val (.long (v0_33 q1)), .second, .val (.long (v0_43 q1)), .second, .val (.long (v0_53 q1)), .second, .val (.long (v0_60 q1)), .second, .unset, .unset, .unset, .unset, .unset, .unset, .unset, .unset, .unset, .unset, .unset, .unset, .unset, .unset, .unset, .unset, .unset, .unset, .unset, .unset, .unset, .unset, .unset, .unset, .unset, .unset] [(.long (v0_33 q1)), (.long (v0_9 q0))])) _
    refine XS.lmul X0.here hx rfl (hb hby at_66) rfl ?_
    show Steps p.tables e below (s₁.setTop (mkF m 67 #[.val (.long q0), .second, .val (.long q1), .second, .val (.long q2), .second, .val (.long q3), .second, .val (.long (v0_9 q0)), .second, .val (.long (v0_19 q3)), .second, .val (.long (v0_27 q2)), .second, .val (.long (v0_33 q1)), .second, .val (.long (v0_43 q1)), .second, .val (.long (v0_53 q1)), .second, .val (.long (v0_60 q1)), .second, .unset, .unset, .unset, .unset, .unset, .unset, .unset, .unset, .unset, .unset, .unset, .unset, .unset, .unset, .unset, .unset, .unset, .unset, .unset, .unset, .unset, .unset, .unset, .unset, .unset, .unset] [(.long ((v0_9 q0) * (v0_33 q1)))])) _
    refine XS.lstore X0.here hx rfl (hb hby at_67) rfl (l' := #[.val (.long q0), .second, .val (.long q1), .second, .val (.long q2), .second, .val (.long q3), .second, .val (.long (v0_9 q0)), .second, .val (.long (v0_19 q3)), .second, .val (.long (v0_27 q2)), .second, .val (.long (v0_33 q1)), .second, .val (.long (v0_43 q1)), .second, .val (.long (v0_53 q1)), .second, .val (.long (v0_60 q1)), .second, .val (.long (v0_67 q0 q1)), .second, .unset, .unset, .unset, .unset, .unset, .unset, .unset, .unset, .unset, .unset, .unset, .unset, .unset, .unset, .unset, .unset, .unset, .unset, .unset, .unset, .unset, .unset, .unset, .unset]) rfl ?_
    show Steps p.tables e below (s₁.setTop (mkF m 69 #[.val (.long q0), .second, .val (.long q1), .second, .val (.long q2), .second, .val (.long q3), .second, .val (.long (v0_9 q0)), .second, .val (.long (v0_19 q3)), .second, .val (.long (v0_27 q2)), .second, .val (.long (v0_33 q1)), .second, .val (.long (v0_43 q1)), .second, .val (.long (v0_53 q1)), .second, .val (.long (v0_60 q1)), .second, .val (.long (v0_67 q0 q1)), .second, .unset, .unset, .unset, .unset, .unset, .unset, .unset, .unset, .unset, .unset, .unset, .unset, .unset, .unset, .unset, .unset, .unset, .unset, .unset, .unset, .unset, .unset, .unset, .unset] [])) _
    refine XS.lload X0.here hx rfl (hb hby at_69) rfl ?_
    show Steps p.tables e below (s₁.setTop (mkF m 71 #[.val (.long q0), .second, .val (.long q1), .second, .val (.long q2), .second, .val (.long q3), .second, .val (.long (v0_9 q0)), .second, .val (.long (v0_19 q3)), .second, .val (.long (v0_27 q2)), .second, .val (.long (v0_33 q1)), .second, .val (.long (v0_43 q1)), .second, .val (.long (v0_53 q1)), .second, .val (.long (v0_60 q1)), .second, .val (.long (v0_67 q0 q1)), .second, .unset, .unset, .unset, .unset, .unset, .unset, .unset, .unset, .unset, .unset, .unset, .unset, .unset, .unset, .unset, .unset, .unset, .unset, .unset, .unset, .unset, .unset, .unset, .unset] [(.long (v0_67 q0 q1))])) _
    refine XS.lload X0.here hx rfl (hb hby at_71) rfl ?_
    exact k)
  obtain ⟨_, _, ⟨T3, L3, k3, n3⟩, -, X3, ⟨Lc3, hQ3, l3, y3, z3⟩, st3⟩ := Jvm.LawKit.callS X0 hx (y := (⟨"com/example/stint/stint/limit/ExactFloorOfProductPinLaw", "fdiv", "(JJ)J"⟩ : MethodName)) hown (mvT hZ (hw _ (List.mem_of_getElem? (i := 5) rfl))) (mvT hZ (hw _ (List.mem_of_getElem? (i := 6) rfl))) (mvT hZ (hw _ (List.mem_of_getElem? (i := 7) rfl))) (mvT hZ (hw _ (List.mem_of_getElem? (i := 8) rfl))) (by decide) (backOf (W := 0) (rm1 l Z a0 hw [] (v0_67 q0 q1) (v0_19 q3) h0 n0 Z0 (own_nz q3)) hZ (hw _ (List.mem_of_getElem? (i := 8) rfl)) (hw _ (List.mem_of_getElem? (i := 7) rfl)) (by decide) (by decide)) (g := (mkF m 73 #[.val (.long q0), .second, .val (.long q1), .second, .val (.long q2), .second, .val (.long q3), .second, .val (.long (v0_9 q0)), .second, .val (.long (v0_19 q3)), .second, .val (.long (v0_27 q2)), .second, .val (.long (v0_33 q1)), .second, .val (.long (v0_43 q1)), .second, .val (.long (v0_53 q1)), .second, .val (.long (v0_60 q1)), .second, .val (.long (v0_67 q0 q1)), .second, .unset, .unset, .unset, .unset, .unset, .unset, .unset, .unset, .unset, .unset, .unset, .unset, .unset, .unset, .unset, .unset, .unset, .unset, .unset, .unset, .unset, .unset, .unset, .unset] [(.long (v0_19 q3)), (.long (v0_67 q0 q1))])) rfl (by rw [hml]; rfl) (argsL := [(.long (v0_67 q0 q1)), (.long (v0_19 q3))]) (rest := []) (lenOf pd__JJ_J rfl) rfl (by show 2 * 0 + _ ≤ _; exact Nat.le_of_eq rfl) (hb hby at_73) (fun _ _ => ⟨rfl, e0, (by decide : 0 + 0 ≤ _), (by decide : 0 + 0 ≤ _)⟩)
  dsimp only [Pt.U, Pt.locs, Pt.cells, Pt.slots] at X3 l3 y3 z3 st3 hQ3
  subst l3 y3 z3
  obtain ⟨rfl, Nq3, e3⟩ := hQ3
  have N3 := Fr.app N0 Nq3
  have pre4 : ∀ t, Steps p.tables e below (T3.setTop (mkF m 76 #[.val (.long q0), .second, .val (.long q1), .second, .val (.long q2), .second, .val (.long q3), .second, .val (.long (v0_9 q0)), .second, .val (.long (v0_19 q3)), .second, .val (.long (v0_27 q2)), .second, .val (.long (v0_33 q1)), .second, .val (.long (v0_43 q1)), .second, .val (.long (v0_53 q1)), .second, .val (.long (v0_60 q1)), .second, .val (.long (v0_67 q0 q1)), .second, .unset, .unset, .unset, .unset, .unset, .unset, .unset, .unset, .unset, .unset, .unset, .unset, .unset, .unset, .unset, .unset, .unset, .unset, .unset, .unset, .unset, .unset, .unset, .unset] [(.long (f1 (v0_67 q0 q1) (v0_19 q3)))])) t → Steps p.tables e below (s₁.setTop (entryFrame m #[(.long q0), (.long q1), (.long q2), (.long q3)] maxLocals)) t := fun t k => pre2 t (st3 _ k)
  have pre5 : ∀ t, Steps p.tables e below (T3.setTop (mkF m 106 #[.val (.long q0), .second, .val (.long q1), .second, .val (.long q2), .second, .val (.long q3), .second, .val (.long (v0_9 q0)), .second, .val (.long (v0_19 q3)), .second, .val (.long (v0_27 q2)), .second, .val (.long (v0_33 q1)), .second, .val (.long (v0_43 q1)), .second, .val (.long (v0_53 q1)), .second, .val (.long (v0_60 q1)), .second, .val (.long (v0_67 q0 q1)), .second, .val (.long (v0_76 q0 q1 q3)), .second, .val (.long (v0_86 q0 q1 q3)), .second, .val (.long (v0_100 q0 q1 q3)), .second, .unset, .unset, .unset, .unset, .unset, .unset, .unset, .unset, .unset, .unset, .unset, .unset, .unset, .unset, .unset, .unset, .unset, .unset] [(.long (v0_19 q3)), (.long (v0_100 q0 q1 q3))])) t → Steps p.tables e below (s₁.setTop (entryFrame m #[(.long q0), (.long q1), (.long q2), (.long q3)] maxLocals)) t := fun t k => pre4 t (by
    show Steps p.tables e below (T3.setTop (mkF m 76 #[.val (.long q0), .second, .val (.long q1), .second, .val (.long q2), .second, .val (.long q3), .second, .val (.long (v0_9 q0)), .second, .val (.long (v0_19 q3)), .second, .val (.long (v0_27 q2)), .second, .val (.long (v0_33 q1)), .second, .val (.long (v0_43 q1)), .second, .val (.long (v0_53 q1)), .second, .val (.long (v0_60 q1)), .second, .val (.long (v0_67 q0 q1)), .second, .unset, .unset, .unset, .unset, .unset, .unset, .unset, .unset, .unset, .unset, .unset, .unset, .unset, .unset, .unset, .unset, .unset, .unset, .unset, .unset, .unset, .unset, .unset, .unset] [(.long (f1 (v0_67 q0 q1) (v0_19 q3)))])) _
    refine XS.lstore X3.here hx rfl (hb hby at_76) rfl (l' := #[.val (.long q0), .second, .val (.long q1), .second, .val (.long q2), .second, .val (.long q3), .second, .val (.long (v0_9 q0)), .second, .val (.long (v0_19 q3)), .second, .val (.long (v0_27 q2)), .second, .val (.long (v0_33 q1)), .second, .val (.long (v0_43 q1)), .second, .val (.long (v0_53 q1)), .second, .val (.long (v0_60 q1)), .second, .val (.long (v0_67 q0 q1)), .second, .val (.long (v0_76 q0 q1 q3)), .second, .unset, .unset, .unset, .unset, .unset, .unset, .unset, .unset, .unset, .unset, .unset, .unset, .unset, .unset, .unset, .unset, .unset, .unset, .unset, .unset, .unset, .unset]) rfl ?_
    show Steps p.tables e below (T3.setTop (mkF m 78 #[.val (.long q0), .second, .val (.long q1), .second, .val (.long q2), .second, .val (.long q3), .second, .val (.long (v0_9 q0)), .second, .val (.long (v0_19 q3)), .second, .val (.long (v0_27 q2)), .second, .val (.long (v0_33 q1)), .second, .val (.long (v0_43 q1)), .second, .val (.long (v0_53 q1)), .second, .val (.long (v0_60 q1)), .second, .val (.long (v0_67 q0 q1)), .second, .val (.long (v0_76 q0 q1 q3)), .second, .unset, .unset, .unset, .unset, .unset, .unset, .unset, .unset, .unset, .unset, .unset, .unset, .unset, .unset, .unset, .unset, .unset, .unset, .unset, .unset, .unset, .unset] [])) _
    refine XS.lload X3.here hx rfl (hb hby at_78) rfl ?_
    show Steps p.tables e below (T3.setTop (mkF m 80 #[.val (.long q0), .second, .val (.long q1), .second, .val (.long q2), .second, .val (.long q3), .second, .val (.long (v0_9 q0)), .second, .val (.long (v0_19 q3)), .second, .val (.long (v0_27 q2)), .second, .val (.long (v0_33 q1)), .second, .val (.long (v0_43 q1)), .second, .val (.long (v0_53 q1)), .second, .val (.long (v0_60 q1)), .second, .val (.long (v0_67 q0 q1)), .second, .val (.long (v0_76 q0 q1 q3)), .second, .unset, .unset, .unset, .unset, .unset, .unset, .unset, .unset, .unset, .unset, .unset, .unset, .unset, .unset, .unset, .unset, .unset, .unset, .unset, .unset, .unset, .unset] [(.long (v0_67 q0 q1))])) _
    refine XS.lload X3.here hx rfl (hb hby at_80) rfl ?_
    show Steps p.tables e below (T3.setTop (mkF m 82 #[.val (.long q0), .second, .val (.long q1), .second, .val (.long q2), .second, .val (.long q3), .second, .val (.long (v0_9 q0)), .second, .val (.long (v0_19 q3)), .second, .val (.long (v0_27 q2)), .second, .val (.long (v0_33 q1)), .second, .val (.long (v0_43 q1)), .second, .val (.long (v0_53 q1)), .second, .val (.long (v0_60 q1)), .second, .val (.long (v0_67 q0 q1)), .second, .val (.long (v0_76 q0 q1 q3)), .second, .unset, .unset, .unset, .unset, .unset, .unset, .unset, .unset, .unset, .unset, .unset, .unset, .unset, .unset, .unset, .unset, .unset, .unset, .unset, .unset, .unset, .unset] [(.long (v0_76 q0 q1 q3)), (.long (v0_67 q0 q1))])) _
    refine XS.lload X3.here hx rfl (hb hby at_82) rfl ?_
    show Steps p.tables e below (T3.setTop (mkF m 84 #[.val (.long q0), .second, .val (.long q1), .second, .val (.long q2), .second, .val (.long q3), .second, .val (.long (v0_9 q0)), .second, .val (.long (v0_19 q3)), .second, .val (.long (v0_27 q2)), .second, .val (.long (v0_33 q1)), .second, .val (.long (v0_43 q1)), .second, .val (.long (v0_53 q1)), .second, .val (.long (v0_60 q1)), .second, .val (.long (v0_67 q0 q1)), .second, .val (.long (v0_76 q0 q1 q3)), .second, .unset, .unset, .unset, .unset, .unset, .unset, .unset, .unset, .unset, .unset, .unset, .unset, .unset, .unset, .unset, .unset, .unset, .unset, .unset, .unset, .unset, .unset] [(.long (v0_19 q3)), (.long (v0_76 q0 q1 q3)), (.long (v0_67 q0 q1))])) _
    refine XS.lmul X3.here hx rfl (hb hby at_84) rfl ?_
    show Steps p.tables e below (T3.setTop (mkF m 85 #[.val (.long q0), .second, .val (.long q1), .second, .val (.long q2), .second, .val (.long q3), .second, .val (.long (v0_9 q0)), .second, .val (.long (v0_19 q3)), .second, .val (.long (v0_27 q2)), .second, .val (.long (v0_33 q1)), .second, .val (.long (v0_43 q1)), .second, .val (.long (v0_53 q1)), .second, .val (.long (v0_60 q1)), .second, .val (.long (v0_67 q0 q1)), .second, .val (.long (v0_76 q0 q1 q3)), .second, .unset, .unset, .unset, .unset, .unset, .unset, .unset, .unset, .unset, .unset, .unset, .unset, .unset, .unset, .unset, .unset, .unset, .unset, .unset, .unset, .unset, .unset] [(.long ((v0_76 q0 q1 q3) * (v0_19 q3))), (.long (v0_67 q0 q1))])) _
    refine XS.lsub X3.here hx rfl (hb hby at_85) rfl ?_
    show Steps p.tables e below (T3.setTop (mkF m 86 #[.val (.long q0), .second, .val (.long q1), .second, .val (.long q2), .second, .val (.long q3), .second, .val (.long (v0_9 q0)), .second, .val (.long (v0_19 q3)), .second, .val (.long (v0_27 q2)), .second, .val (.long (v0_33 q1)), .second, .val (.long (v0_43 q1)), .second, .val (.long (v0_53 q1)), .second, .val (.long (v0_60 q1)), .second, .val (.long (v0_67 q0 q1)), .second, .val (.long (v0_76 q0 q1 q3)), .second, .unset, .unset, .unset, .unset, .unset, .unset, .unset, .unset, .unset, .unset, .unset, .unset, .unset, .unset, .unset, .unset, .unset, .unset, .unset, .unset, .unset, .unset] [(.long ((v0_67 q0 q1) - ((v0_76 q0 q1 q3) * (v0_19 q3))))])) _
    refine XS.lstore X3.here hx rfl (hb hby at_86) rfl (l' := #[.val (.long q0), .second, .val (.long q1), .second, .val (.long q2), .second, .val (.long q3), .second, .val (.long (v0_9 q0)), .second, .val (.long (v0_19 q3)), .second, .val (.long (v0_27 q2)), .second, .val (.long (v0_33 q1)), .second, .val (.long (v0_43 q1)), .second, .val (.long (v0_53 q1)), .second, .val (.long (v0_60 q1)), .second, .val (.long (v0_67 q0 q1)), .second, .val (.long (v0_76 q0 q1 q3)), .second, .val (.long (v0_86 q0 q1 q3)), .second, .unset, .unset, .unset, .unset, .unset, .unset, .unset, .unset, .unset, .unset, .unset, .unset, .unset, .unset, .unset, .unset, .unset, .unset, .unset, .unset]) rfl ?_
    show Steps p.tables e below (T3.setTop (mkF m 88 #[.val (.long q0), .second, .val (.long q1), .second, .val (.long q2), .second, .val (.long q3), .second, .val (.long (v0_9 q0)), .second, .val (.long (v0_19 q3)), .second, .val (.long (v0_27 q2)), .second, .val (.long (v0_33 q1)), .second, .val (.long (v0_43 q1)), .second, .val (.long (v0_53 q1)), .second, .val (.long (v0_60 q1)), .second, .val (.long (v0_67 q0 q1)), .second, .val (.long (v0_76 q0 q1 q3)), .second, .val (.long (v0_86 q0 q1 q3)), .second, .unset, .unset, .unset, .unset, .unset, .unset, .unset, .unset, .unset, .unset, .unset, .unset, .unset, .unset, .unset, .unset, .unset, .unset, .unset, .unset] [])) _
    refine XS.lload X3.here hx rfl (hb hby at_88) rfl ?_
    show Steps p.tables e below (T3.setTop (mkF m 90 #[.val (.long q0), .second, .val (.long q1), .second, .val (.long q2), .second, .val (.long q3), .second, .val (.long (v0_9 q0)), .second, .val (.long (v0_19 q3)), .second, .val (.long (v0_27 q2)), .second, .val (.long (v0_33 q1)), .second, .val (.long (v0_43 q1)), .second, .val (.long (v0_53 q1)), .second, .val (.long (v0_60 q1)), .second, .val (.long (v0_67 q0 q1)), .second, .val (.long (v0_76 q0 q1 q3)), .second, .val (.long (v0_86 q0 q1 q3)), .second, .unset, .unset, .unset, .unset, .unset, .unset, .unset, .unset, .unset, .unset, .unset, .unset, .unset, .unset, .unset, .unset, .unset, .unset, .unset, .unset] [(.long (v0_86 q0 q1 q3))])) _
    refine X3.ldc2Long hx hown (mvT hZ (hw _ (List.mem_of_getElem? (i := 9) rfl))) (g := (mkF m 90 #[.val (.long q0), .second, .val (.long q1), .second, .val (.long q2), .second, .val (.long q3), .second, .val (.long (v0_9 q0)), .second, .val (.long (v0_19 q3)), .second, .val (.long (v0_27 q2)), .second, .val (.long (v0_33 q1)), .second, .val (.long (v0_43 q1)), .second, .val (.long (v0_53 q1)), .second, .val (.long (v0_60 q1)), .second, .val (.long (v0_67 q0 q1)), .second, .val (.long (v0_76 q0 q1 q3)), .second, .val (.long (v0_86 q0 q1 q3)), .second, .unset, .unset, .unset, .unset, .unset, .unset, .unset, .unset, .unset, .unset, .unset, .unset, .unset, .unset, .unset, .unset, .unset, .unset, .unset, .unset] [(.long (v0_86 q0 q1 q3))])) rfl (hb hby at_90) _ ?_
    show Steps p.tables e below (T3.setTop (mkF m 93 #[.val (.long q0), .second, .val (.long q1), .second, .val (.long q2), .second, .val (.long q3), .second, .val (.long (v0_9 q0)), .second, .val (.long (v0_19 q3)), .second, .val (.long (v0_27 q2)), .second, .val (.long (v0_33 q1)), .second, .val (.long (v0_43 q1)), .second, .val (.long (v0_53 q1)), .second, .val (.long (v0_60 q1)), .second, .val (.long (v0_67 q0 q1)), .second, .val (.long (v0_76 q0 q1 q3)), .second, .val (.long (v0_86 q0 q1 q3)), .second, .unset, .unset, .unset, .unset, .unset, .unset, .unset, .unset, .unset, .unset, .unset, .unset, .unset, .unset, .unset, .unset, .unset, .unset, .unset, .unset] [(.long (65536 : Int64)), (.long (v0_86 q0 q1 q3))])) _
    refine XS.lmul X3.here hx rfl (hb hby at_93) rfl ?_
    show Steps p.tables e below (T3.setTop (mkF m 94 #[.val (.long q0), .second, .val (.long q1), .second, .val (.long q2), .second, .val (.long q3), .second, .val (.long (v0_9 q0)), .second, .val (.long (v0_19 q3)), .second, .val (.long (v0_27 q2)), .second, .val (.long (v0_33 q1)), .second, .val (.long (v0_43 q1)), .second, .val (.long (v0_53 q1)), .second, .val (.long (v0_60 q1)), .second, .val (.long (v0_67 q0 q1)), .second, .val (.long (v0_76 q0 q1 q3)), .second, .val (.long (v0_86 q0 q1 q3)), .second, .unset, .unset, .unset, .unset, .unset, .unset, .unset, .unset, .unset, .unset, .unset, .unset, .unset, .unset, .unset, .unset, .unset, .unset, .unset, .unset] [(.long ((v0_86 q0 q1 q3) * (65536 : Int64)))])) _
    refine XS.lload X3.here hx rfl (hb hby at_94) rfl ?_
    show Steps p.tables e below (T3.setTop (mkF m 96 #[.val (.long q0), .second, .val (.long q1), .second, .val (.long q2), .second, .val (.long q3), .second, .val (.long (v0_9 q0)), .second, .val (.long (v0_19 q3)), .second, .val (.long (v0_27 q2)), .second, .val (.long (v0_33 q1)), .second, .val (.long (v0_43 q1)), .second, .val (.long (v0_53 q1)), .second, .val (.long (v0_60 q1)), .second, .val (.long (v0_67 q0 q1)), .second, .val (.long (v0_76 q0 q1 q3)), .second, .val (.long (v0_86 q0 q1 q3)), .second, .unset, .unset, .unset, .unset, .unset, .unset, .unset, .unset, .unset, .unset, .unset, .unset, .unset, .unset, .unset, .unset, .unset, .unset, .unset, .unset] [(.long (v0_9 q0)), (.long ((v0_86 q0 q1 q3) * (65536 : Int64)))])) _
    refine XS.lload X3.here hx rfl (hb hby at_96) rfl ?_
    show Steps p.tables e below (T3.setTop (mkF m 98 #[.val (.long q0), .second, .val (.long q1), .second, .val (.long q2), .second, .val (.long q3), .second, .val (.long (v0_9 q0)), .second, .val (.long (v0_19 q3)), .second, .val (.long (v0_27 q2)), .second, .val (.long (v0_33 q1)), .second, .val (.long (v0_43 q1)), .second, .val (.long (v0_53 q1)), .second, .val (.long (v0_60 q1)), .second, .val (.long (v0_67 q0 q1)), .second, .val (.long (v0_76 q0 q1 q3)), .second, .val (.long (v0_86 q0 q1 q3)), .second, .unset, .unset, .unset, .unset, .unset, .unset, .unset, .unset, .unset, .unset, .unset, .unset, .unset, .unset, .unset, .unset, .unset, .unset, .unset, .unset] [(.long (v0_43 q1)), (.long (v0_9 q0)), (.long ((v0_86 q0 q1 q3) * (65536 : Int64)))])) _
    refine XS.lmul X3.here hx rfl (hb hby at_98) rfl ?_
    show Steps p.tables e below (T3.setTop (mkF m 99 #[.val (.long q0), .second, .val (.long q1), .second, .val (.long q2), .second, .val (.long q3), .second, .val (.long (v0_9 q0)), .second, .val (.long (v0_19 q3)), .second, .val (.long (v0_27 q2)), .second, .val (.long (v0_33 q1)), .second, .val (.long (v0_43 q1)), .second, .val (.long (v0_53 q1)), .second, .val (.long (v0_60 q1)), .second, .val (.long (v0_67 q0 q1)), .second, .val (.long (v0_76 q0 q1 q3)), .second, .val (.long (v0_86 q0 q1 q3)), .second, .unset, .unset, .unset, .unset, .unset, .unset, .unset, .unset, .unset, .unset, .unset, .unset, .unset, .unset, .unset, .unset, .unset, .unset, .unset, .unset] [(.long ((v0_9 q0) * (v0_43 q1))), (.long ((v0_86 q0 q1 q3) * (65536 : Int64)))])) _
    refine XS.ladd X3.here hx rfl (hb hby at_99) rfl ?_
    show Steps p.tables e below (T3.setTop (mkF m 100 #[.val (.long q0), .second, .val (.long q1), .second, .val (.long q2), .second, .val (.long q3), .second, .val (.long (v0_9 q0)), .second, .val (.long (v0_19 q3)), .second, .val (.long (v0_27 q2)), .second, .val (.long (v0_33 q1)), .second, .val (.long (v0_43 q1)), .second, .val (.long (v0_53 q1)), .second, .val (.long (v0_60 q1)), .second, .val (.long (v0_67 q0 q1)), .second, .val (.long (v0_76 q0 q1 q3)), .second, .val (.long (v0_86 q0 q1 q3)), .second, .unset, .unset, .unset, .unset, .unset, .unset, .unset, .unset, .unset, .unset, .unset, .unset, .unset, .unset, .unset, .unset, .unset, .unset, .unset, .unset] [(.long (((v0_86 q0 q1 q3) * (65536 : Int64)) + ((v0_9 q0) * (v0_43 q1))))])) _
    refine XS.lstore X3.here hx rfl (hb hby at_100) rfl (l' := #[.val (.long q0), .second, .val (.long q1), .second, .val (.long q2), .second, .val (.long q3), .second, .val (.long (v0_9 q0)), .second, .val (.long (v0_19 q3)), .second, .val (.long (v0_27 q2)), .second, .val (.long (v0_33 q1)), .second, .val (.long (v0_43 q1)), .second, .val (.long (v0_53 q1)), .second, .val (.long (v0_60 q1)), .second, .val (.long (v0_67 q0 q1)), .second, .val (.long (v0_76 q0 q1 q3)), .second, .val (.long (v0_86 q0 q1 q3)), .second, .val (.long (v0_100 q0 q1 q3)), .second, .unset, .unset, .unset, .unset, .unset, .unset, .unset, .unset, .unset, .unset, .unset, .unset, .unset, .unset, .unset, .unset, .unset, .unset]) rfl ?_
    show Steps p.tables e below (T3.setTop (mkF m 102 #[.val (.long q0), .second, .val (.long q1), .second, .val (.long q2), .second, .val (.long q3), .second, .val (.long (v0_9 q0)), .second, .val (.long (v0_19 q3)), .second, .val (.long (v0_27 q2)), .second, .val (.long (v0_33 q1)), .second, .val (.long (v0_43 q1)), .second, .val (.long (v0_53 q1)), .second, .val (.long (v0_60 q1)), .second, .val (.long (v0_67 q0 q1)), .second, .val (.long (v0_76 q0 q1 q3)), .second, .val (.long (v0_86 q0 q1 q3)), .second, .val (.long (v0_100 q0 q1 q3)), .second, .unset, .unset, .unset, .unset, .unset, .unset, .unset, .unset, .unset, .unset, .unset, .unset, .unset, .unset, .unset, .unset, .unset, .unset] [])) _
    refine XS.lload X3.here hx rfl (hb hby at_102) rfl ?_
    show Steps p.tables e below (T3.setTop (mkF m 104 #[.val (.long q0), .second, .val (.long q1), .second, .val (.long q2), .second, .val (.long q3), .second, .val (.long (v0_9 q0)), .second, .val (.long (v0_19 q3)), .second, .val (.long (v0_27 q2)), .second, .val (.long (v0_33 q1)), .second, .val (.long (v0_43 q1)), .second, .val (.long (v0_53 q1)), .second, .val (.long (v0_60 q1)), .second, .val (.long (v0_67 q0 q1)), .second, .val (.long (v0_76 q0 q1 q3)), .second, .val (.long (v0_86 q0 q1 q3)), .second, .val (.long (v0_100 q0 q1 q3)), .second, .unset, .unset, .unset, .unset, .unset, .unset, .unset, .unset, .unset, .unset, .unset, .unset, .unset, .unset, .unset, .unset, .unset, .unset] [(.long (v0_100 q0 q1 q3))])) _
    refine XS.lload X3.here hx rfl (hb hby at_104) rfl ?_
    exact k)
  obtain ⟨_, _, ⟨T6, L6, k6, n6⟩, -, X6, ⟨Lc6, hQ6, l6, y6, z6⟩, st6⟩ := Jvm.LawKit.callS X3 hx (y := (⟨"com/example/stint/stint/limit/ExactFloorOfProductPinLaw", "fdiv", "(JJ)J"⟩ : MethodName)) hown (mvT hZ (hw _ (List.mem_of_getElem? (i := 5) rfl))) (mvT hZ (hw _ (List.mem_of_getElem? (i := 6) rfl))) (mvT hZ (hw _ (List.mem_of_getElem? (i := 7) rfl))) (mvT hZ (hw _ (List.mem_of_getElem? (i := 8) rfl))) (by decide) (backOf (W := 0) (rm1 l Z a0 hw [] (v0_100 q0 q1 q3) (v0_19 q3) h0 n0 Z0 (own_nz q3)) hZ (hw _ (List.mem_of_getElem? (i := 8) rfl)) (hw _ (List.mem_of_getElem? (i := 7) rfl)) (by decide) (by decide)) (g := (mkF m 106 #[.val (.long q0), .second, .val (.long q1), .second, .val (.long q2), .second, .val (.long q3), .second, .val (.long (v0_9 q0)), .second, .val (.long (v0_19 q3)), .second, .val (.long (v0_27 q2)), .second, .val (.long (v0_33 q1)), .second, .val (.long (v0_43 q1)), .second, .val (.long (v0_53 q1)), .second, .val (.long (v0_60 q1)), .second, .val (.long (v0_67 q0 q1)), .second, .val (.long (v0_76 q0 q1 q3)), .second, .val (.long (v0_86 q0 q1 q3)), .second, .val (.long (v0_100 q0 q1 q3)), .second, .unset, .unset, .unset, .unset, .unset, .unset, .unset, .unset, .unset, .unset, .unset, .unset, .unset, .unset, .unset, .unset, .unset, .unset] [(.long (v0_19 q3)), (.long (v0_100 q0 q1 q3))])) rfl (by rw [hml]; rfl) (argsL := [(.long (v0_100 q0 q1 q3)), (.long (v0_19 q3))]) (rest := []) (lenOf pd__JJ_J rfl) rfl (by show 2 * 0 + _ ≤ _; exact Nat.le_of_eq rfl) (hb hby at_106) (fun _ _ => ⟨rfl, e3, (by decide : 0 + 0 ≤ _), (by decide : 0 + 0 ≤ _)⟩)
  dsimp only [Pt.U, Pt.locs, Pt.cells, Pt.slots] at X6 l6 y6 z6 st6 hQ6
  subst l6 y6 z6
  obtain ⟨rfl, Nq6, e6⟩ := hQ6
  have N6 := Fr.app N3 Nq6
  have pre7 : ∀ t, Steps p.tables e below (T6.setTop (mkF m 109 #[.val (.long q0), .second, .val (.long q1), .second, .val (.long q2), .second, .val (.long q3), .second, .val (.long (v0_9 q0)), .second, .val (.long (v0_19 q3)), .second, .val (.long (v0_27 q2)), .second, .val (.long (v0_33 q1)), .second, .val (.long (v0_43 q1)), .second, .val (.long (v0_53 q1)), .second, .val (.long (v0_60 q1)), .second, .val (.long (v0_67 q0 q1)), .second, .val (.long (v0_76 q0 q1 q3)), .second, .val (.long (v0_86 q0 q1 q3)), .second, .val (.long (v0_100 q0 q1 q3)), .second, .unset, .unset, .unset, .unset, .unset, .unset, .unset, .unset, .unset, .unset, .unset, .unset, .unset, .unset, .unset, .unset, .unset, .unset] [(.long (f1 (v0_100 q0 q1 q3) (v0_19 q3)))])) t → Steps p.tables e below (s₁.setTop (entryFrame m #[(.long q0), (.long q1), (.long q2), (.long q3)] maxLocals)) t := fun t k => pre5 t (st6 _ k)
  have pre8 : ∀ t, Steps p.tables e below (T6.setTop (mkF m 139 #[.val (.long q0), .second, .val (.long q1), .second, .val (.long q2), .second, .val (.long q3), .second, .val (.long (v0_9 q0)), .second, .val (.long (v0_19 q3)), .second, .val (.long (v0_27 q2)), .second, .val (.long (v0_33 q1)), .second, .val (.long (v0_43 q1)), .second, .val (.long (v0_53 q1)), .second, .val (.long (v0_60 q1)), .second, .val (.long (v0_67 q0 q1)), .second, .val (.long (v0_76 q0 q1 q3)), .second, .val (.long (v0_86 q0 q1 q3)), .second, .val (.long (v0_100 q0 q1 q3)), .second, .val (.long (v0_109 q0 q1 q3)), .second, .val (.long (v0_119 q0 q1 q3)), .second, .val (.long (v0_133 q0 q1 q3)), .second, .unset, .unset, .unset, .unset, .unset, .unset, .unset, .unset, .unset, .unset, .unset, .unset] [(.long (v0_19 q3)), (.long (v0_133 q0 q1 q3))])) t → Steps p.tables e below (s₁.setTop (entryFrame m #[(.long q0), (.long q1), (.long q2), (.long q3)] maxLocals)) t := fun t k => pre7 t (by
    show Steps p.tables e below (T6.setTop (mkF m 109 #[.val (.long q0), .second, .val (.long q1), .second, .val (.long q2), .second, .val (.long q3), .second, .val (.long (v0_9 q0)), .second, .val (.long (v0_19 q3)), .second, .val (.long (v0_27 q2)), .second, .val (.long (v0_33 q1)), .second, .val (.long (v0_43 q1)), .second, .val (.long (v0_53 q1)), .second, .val (.long (v0_60 q1)), .second, .val (.long (v0_67 q0 q1)), .second, .val (.long (v0_76 q0 q1 q3)), .second, .val (.long (v0_86 q0 q1 q3)), .second, .val (.long (v0_100 q0 q1 q3)), .second, .unset, .unset, .unset, .unset, .unset, .unset, .unset, .unset, .unset, .unset, .unset, .unset, .unset, .unset, .unset, .unset, .unset, .unset] [(.long (f1 (v0_100 q0 q1 q3) (v0_19 q3)))])) _
    refine XS.lstore X6.here hx rfl (hb hby at_109) rfl (l' := #[.val (.long q0), .second, .val (.long q1), .second, .val (.long q2), .second, .val (.long q3), .second, .val (.long (v0_9 q0)), .second, .val (.long (v0_19 q3)), .second, .val (.long (v0_27 q2)), .second, .val (.long (v0_33 q1)), .second, .val (.long (v0_43 q1)), .second, .val (.long (v0_53 q1)), .second, .val (.long (v0_60 q1)), .second, .val (.long (v0_67 q0 q1)), .second, .val (.long (v0_76 q0 q1 q3)), .second, .val (.long (v0_86 q0 q1 q3)), .second, .val (.long (v0_100 q0 q1 q3)), .second, .val (.long (v0_109 q0 q1 q3)), .second, .unset, .unset, .unset, .unset, .unset, .unset, .unset, .unset, .unset, .unset, .unset, .unset, .unset, .unset, .unset, .unset]) rfl ?_
    show Steps p.tables e below (T6.setTop (mkF m 111 #[.val (.long q0), .second, .val (.long q1), .second, .val (.long q2), .second, .val (.long q3), .second, .val (.long (v0_9 q0)), .second, .val (.long (v0_19 q3)), .second, .val (.long (v0_27 q2)), .second, .val (.long (v0_33 q1)), .second, .val (.long (v0_43 q1)), .second, .val (.long (v0_53 q1)), .second, .val (.long (v0_60 q1)), .second, .val (.long (v0_67 q0 q1)), .second, .val (.long (v0_76 q0 q1 q3)), .second, .val (.long (v0_86 q0 q1 q3)), .second, .val (.long (v0_100 q0 q1 q3)), .second, .val (.long (v0_109 q0 q1 q3)), .second, .unset, .unset, .unset, .unset, .unset, .unset, .unset, .unset, .unset, .unset, .unset, .unset, .unset, .unset, .unset, .unset] [])) _
    refine XS.lload X6.here hx rfl (hb hby at_111) rfl ?_
    show Steps p.tables e below (T6.setTop (mkF m 113 #[.val (.long q0), .second, .val (.long q1), .second, .val (.long q2), .second, .val (.long q3), .second, .val (.long (v0_9 q0)), .second, .val (.long (v0_19 q3)), .second, .val (.long (v0_27 q2)), .second, .val (.long (v0_33 q1)), .second, .val (.long (v0_43 q1)), .second, .val (.long (v0_53 q1)), .second, .val (.long (v0_60 q1)), .second, .val (.long (v0_67 q0 q1)), .second, .val (.long (v0_76 q0 q1 q3)), .second, .val (.long (v0_86 q0 q1 q3)), .second, .val (.long (v0_100 q0 q1 q3)), .second, .val (.long (v0_109 q0 q1 q3)), .second, .unset, .unset, .unset, .unset, .unset, .unset, .unset, .unset, .unset, .unset, .unset, .unset, .unset, .unset, .unset, .unset] [(.long (v0_100 q0 q1 q3))])) _
    refine XS.lload X6.here hx rfl (hb hby at_113) rfl ?_
    show Steps p.tables e below (T6.setTop (mkF m 115 #[.val (.long q0), .second, .val (.long q1), .second, .val (.long q2), .second, .val (.long q3), .second, .val (.long (v0_9 q0)), .second, .val (.long (v0_19 q3)), .second, .val (.long (v0_27 q2)), .second, .val (.long (v0_33 q1)), .second, .val (.long (v0_43 q1)), .second, .val (.long (v0_53 q1)), .second, .val (.long (v0_60 q1)), .second, .val (.long (v0_67 q0 q1)), .second, .val (.long (v0_76 q0 q1 q3)), .second, .val (.long (v0_86 q0 q1 q3)), .second, .val (.long (v0_100 q0 q1 q3)), .second, .val (.long (v0_109 q0 q1 q3)), .second, .unset, .unset, .unset, .unset, .unset, .unset, .unset, .unset, .unset, .unset, .unset, .unset, .unset, .unset, .unset, .unset] [(.long (v0_109 q0 q1 q3)), (.long (v0_100 q0 q1 q3))])) _
    refine XS.lload X6.here hx rfl (hb hby at_115) rfl ?_
    show Steps p.tables e below (T6.setTop (mkF m 117 #[.val (.long q0), .second, .val (.long q1), .second, .val (.long q2), .second, .val (.long q3), .second, .val (.long (v0_9 q0)), .second, .val (.long (v0_19 q3)), .second, .val (.long (v0_27 q2)), .second, .val (.long (v0_33 q1)), .second, .val (.long (v0_43 q1)), .second, .val (.long (v0_53 q1)), .second, .val (.long (v0_60 q1)), .second, .val (.long (v0_67 q0 q1)), .second, .val (.long (v0_76 q0 q1 q3)), .second, .val (.long (v0_86 q0 q1 q3)), .second, .val (.long (v0_100 q0 q1 q3)), .second, .val (.long (v0_109 q0 q1 q3)), .second, .unset, .unset, .unset, .unset, .unset, .unset, .unset, .unset, .unset, .unset, .unset, .unset, .unset, .unset, .unset, .unset] [(.long (v0_19 q3)), (.long (v0_109 q0 q1 q3)), (.long (v0_100 q0 q1 q3))])) _
    refine XS.lmul X6.here hx rfl (hb hby at_117) rfl ?_
    show Steps p.tables e below (T6.setTop (mkF m 118 #[.val (.long q0), .second, .val (.long q1), .second, .val (.long q2), .second, .val (.long q3), .second, .val (.long (v0_9 q0)), .second, .val (.long (v0_19 q3)), .second, .val (.long (v0_27 q2)), .second, .val (.long (v0_33 q1)), .second, .val (.long (v0_43 q1)), .second, .val (.long (v0_53 q1)), .second, .val (.long (v0_60 q1)), .second, .val (.long (v0_67 q0 q1)), .second, .val (.long (v0_76 q0 q1 q3)), .second, .val (.long (v0_86 q0 q1 q3)), .second, .val (.long (v0_100 q0 q1 q3)), .second, .val (.long (v0_109 q0 q1 q3)), .second, .unset, .unset, .unset, .unset, .unset, .unset, .unset, .unset, .unset, .unset, .unset, .unset, .unset, .unset, .unset, .unset] [(.long ((v0_109 q0 q1 q3) * (v0_19 q3))), (.long (v0_100 q0 q1 q3))])) _
    refine XS.lsub X6.here hx rfl (hb hby at_118) rfl ?_
    show Steps p.tables e below (T6.setTop (mkF m 119 #[.val (.long q0), .second, .val (.long q1), .second, .val (.long q2), .second, .val (.long q3), .second, .val (.long (v0_9 q0)), .second, .val (.long (v0_19 q3)), .second, .val (.long (v0_27 q2)), .second, .val (.long (v0_33 q1)), .second, .val (.long (v0_43 q1)), .second, .val (.long (v0_53 q1)), .second, .val (.long (v0_60 q1)), .second, .val (.long (v0_67 q0 q1)), .second, .val (.long (v0_76 q0 q1 q3)), .second, .val (.long (v0_86 q0 q1 q3)), .second, .val (.long (v0_100 q0 q1 q3)), .second, .val (.long (v0_109 q0 q1 q3)), .second, .unset, .unset, .unset, .unset, .unset, .unset, .unset, .unset, .unset, .unset, .unset, .unset, .unset, .unset, .unset, .unset] [(.long ((v0_100 q0 q1 q3) - ((v0_109 q0 q1 q3) * (v0_19 q3))))])) _
    refine XS.lstore X6.here hx rfl (hb hby at_119) rfl (l' := #[.val (.long q0), .second, .val (.long q1), .second, .val (.long q2), .second, .val (.long q3), .second, .val (.long (v0_9 q0)), .second, .val (.long (v0_19 q3)), .second, .val (.long (v0_27 q2)), .second, .val (.long (v0_33 q1)), .second, .val (.long (v0_43 q1)), .second, .val (.long (v0_53 q1)), .second, .val (.long (v0_60 q1)), .second, .val (.long (v0_67 q0 q1)), .second, .val (.long (v0_76 q0 q1 q3)), .second, .val (.long (v0_86 q0 q1 q3)), .second, .val (.long (v0_100 q0 q1 q3)), .second, .val (.long (v0_109 q0 q1 q3)), .second, .val (.long (v0_119 q0 q1 q3)), .second, .unset, .unset, .unset, .unset, .unset, .unset, .unset, .unset, .unset, .unset, .unset, .unset, .unset, .unset]) rfl ?_
    show Steps p.tables e below (T6.setTop (mkF m 121 #[.val (.long q0), .second, .val (.long q1), .second, .val (.long q2), .second, .val (.long q3), .second, .val (.long (v0_9 q0)), .second, .val (.long (v0_19 q3)), .second, .val (.long (v0_27 q2)), .second, .val (.long (v0_33 q1)), .second, .val (.long (v0_43 q1)), .second, .val (.long (v0_53 q1)), .second, .val (.long (v0_60 q1)), .second, .val (.long (v0_67 q0 q1)), .second, .val (.long (v0_76 q0 q1 q3)), .second, .val (.long (v0_86 q0 q1 q3)), .second, .val (.long (v0_100 q0 q1 q3)), .second, .val (.long (v0_109 q0 q1 q3)), .second, .val (.long (v0_119 q0 q1 q3)), .second, .unset, .unset, .unset, .unset, .unset, .unset, .unset, .unset, .unset, .unset, .unset, .unset, .unset, .unset] [])) _
    refine XS.lload X6.here hx rfl (hb hby at_121) rfl ?_
    show Steps p.tables e below (T6.setTop (mkF m 123 #[.val (.long q0), .second, .val (.long q1), .second, .val (.long q2), .second, .val (.long q3), .second, .val (.long (v0_9 q0)), .second, .val (.long (v0_19 q3)), .second, .val (.long (v0_27 q2)), .second, .val (.long (v0_33 q1)), .second, .val (.long (v0_43 q1)), .second, .val (.long (v0_53 q1)), .second, .val (.long (v0_60 q1)), .second, .val (.long (v0_67 q0 q1)), .second, .val (.long (v0_76 q0 q1 q3)), .second, .val (.long (v0_86 q0 q1 q3)), .second, .val (.long (v0_100 q0 q1 q3)), .second, .val (.long (v0_109 q0 q1 q3)), .second, .val (.long (v0_119 q0 q1 q3)), .second, .unset, .unset, .unset, .unset, .unset, .unset, .unset, .unset, .unset, .unset, .unset, .unset, .unset, .unset] [(.long (v0_119 q0 q1 q3))])) _
    refine X6.ldc2Long hx hown (mvT hZ (hw _ (List.mem_of_getElem? (i := 9) rfl))) (g := (mkF m 123 #[.val (.long q0), .second, .val (.long q1), .second, .val (.long q2), .second, .val (.long q3), .second, .val (.long (v0_9 q0)), .second, .val (.long (v0_19 q3)), .second, .val (.long (v0_27 q2)), .second, .val (.long (v0_33 q1)), .second, .val (.long (v0_43 q1)), .second, .val (.long (v0_53 q1)), .second, .val (.long (v0_60 q1)), .second, .val (.long (v0_67 q0 q1)), .second, .val (.long (v0_76 q0 q1 q3)), .second, .val (.long (v0_86 q0 q1 q3)), .second, .val (.long (v0_100 q0 q1 q3)), .second, .val (.long (v0_109 q0 q1 q3)), .second, .val (.long (v0_119 q0 q1 q3)), .second, .unset, .unset, .unset, .unset, .unset, .unset, .unset, .unset, .unset, .unset, .unset, .unset, .unset, .unset] [(.long (v0_119 q0 q1 q3))])) rfl (hb hby at_123) _ ?_
    show Steps p.tables e below (T6.setTop (mkF m 126 #[.val (.long q0), .second, .val (.long q1), .second, .val (.long q2), .second, .val (.long q3), .second, .val (.long (v0_9 q0)), .second, .val (.long (v0_19 q3)), .second, .val (.long (v0_27 q2)), .second, .val (.long (v0_33 q1)), .second, .val (.long (v0_43 q1)), .second, .val (.long (v0_53 q1)), .second, .val (.long (v0_60 q1)), .second, .val (.long (v0_67 q0 q1)), .second, .val (.long (v0_76 q0 q1 q3)), .second, .val (.long (v0_86 q0 q1 q3)), .second, .val (.long (v0_100 q0 q1 q3)), .second, .val (.long (v0_109 q0 q1 q3)), .second, .val (.long (v0_119 q0 q1 q3)), .second, .unset, .unset, .unset, .unset, .unset, .unset, .unset, .unset, .unset, .unset, .unset, .unset, .unset, .unset] [(.long (65536 : Int64)), (.long (v0_119 q0 q1 q3))])) _
    refine XS.lmul X6.here hx rfl (hb hby at_126) rfl ?_
    show Steps p.tables e below (T6.setTop (mkF m 127 #[.val (.long q0), .second, .val (.long q1), .second, .val (.long q2), .second, .val (.long q3), .second, .val (.long (v0_9 q0)), .second, .val (.long (v0_19 q3)), .second, .val (.long (v0_27 q2)), .second, .val (.long (v0_33 q1)), .second, .val (.long (v0_43 q1)), .second, .val (.long (v0_53 q1)), .second, .val (.long (v0_60 q1)), .second, .val (.long (v0_67 q0 q1)), .second, .val (.long (v0_76 q0 q1 q3)), .second, .val (.long (v0_86 q0 q1 q3)), .second, .val (.long (v0_100 q0 q1 q3)), .second, .val (.long (v0_109 q0 q1 q3)), .second, .val (.long (v0_119 q0 q1 q3)), .second, .unset, .unset, .unset, .unset, .unset, .unset, .unset, .unset, .unset, .unset, .unset, .unset, .unset, .unset] [(.long ((v0_119 q0 q1 q3) * (65536 : Int64)))])) _
    refine XS.lload X6.here hx rfl (hb hby at_127) rfl ?_
    show Steps p.tables e below (T6.setTop (mkF m 129 #[.val (.long q0), .second, .val (.long q1), .second, .val (.long q2), .second, .val (.long q3), .second, .val (.long (v0_9 q0)), .second, .val (.long (v0_19 q3)), .second, .val (.long (v0_27 q2)), .second, .val (.long (v0_33 q1)), .second, .val (.long (v0_43 q1)), .second, .val (.long (v0_53 q1)), .second, .val (.long (v0_60 q1)), .second, .val (.long (v0_67 q0 q1)), .second, .val (.long (v0_76 q0 q1 q3)), .second, .val (.long (v0_86 q0 q1 q3)), .second, .val (.long (v0_100 q0 q1 q3)), .second, .val (.long (v0_109 q0 q1 q3)), .second, .val (.long (v0_119 q0 q1 q3)), .second, .unset, .unset, .unset, .unset, .unset, .unset, .unset, .unset, .unset, .unset, .unset, .unset, .unset, .unset] [(.long (v0_9 q0)), (.long ((v0_119 q0 q1 q3) * (65536 : Int64)))])) _
    refine XS.lload X6.here hx rfl (hb hby at_129) rfl ?_
    show Steps p.tables e below (T6.setTop (mkF m 131 #[.val (.long q0), .second, .val (.long q1), .second, .val (.long q2), .second, .val (.long q3), .second, .val (.long (v0_9 q0)), .second, .val (.long (v0_19 q3)), .second, .val (.long (v0_27 q2)), .second, .val (.long (v0_33 q1)), .second, .val (.long (v0_43 q1)), .second, .val (.long (v0_53 q1)), .second, .val (.long (v0_60 q1)), .second, .val (.long (v0_67 q0 q1)), .second, .val (.long (v0_76 q0 q1 q3)), .second, .val (.long (v0_86 q0 q1 q3)), .second, .val (.long (v0_100 q0 q1 q3)), .second, .val (.long (v0_109 q0 q1 q3)), .second, .val (.long (v0_119 q0 q1 q3)), .second, .unset, .unset, .unset, .unset, .unset, .unset, .unset, .unset, .unset, .unset, .unset, .unset, .unset, .unset] [(.long (v0_53 q1)), (.long (v0_9 q0)), (.long ((v0_119 q0 q1 q3) * (65536 : Int64)))])) _
    refine XS.lmul X6.here hx rfl (hb hby at_131) rfl ?_
    show Steps p.tables e below (T6.setTop (mkF m 132 #[.val (.long q0), .second, .val (.long q1), .second, .val (.long q2), .second, .val (.long q3), .second, .val (.long (v0_9 q0)), .second, .val (.long (v0_19 q3)), .second, .val (.long (v0_27 q2)), .second, .val (.long (v0_33 q1)), .second, .val (.long (v0_43 q1)), .second, .val (.long (v0_53 q1)), .second, .val (.long (v0_60 q1)), .second, .val (.long (v0_67 q0 q1)), .second, .val (.long (v0_76 q0 q1 q3)), .second, .val (.long (v0_86 q0 q1 q3)), .second, .val (.long (v0_100 q0 q1 q3)), .second, .val (.long (v0_109 q0 q1 q3)), .second, .val (.long (v0_119 q0 q1 q3)), .second, .unset, .unset, .unset, .unset, .unset, .unset, .unset, .unset, .unset, .unset, .unset, .unset, .unset, .unset] [(.long ((v0_9 q0) * (v0_53 q1))), (.long ((v0_119 q0 q1 q3) * (65536 : Int64)))])) _
    refine XS.ladd X6.here hx rfl (hb hby at_132) rfl ?_
    show Steps p.tables e below (T6.setTop (mkF m 133 #[.val (.long q0), .second, .val (.long q1), .second, .val (.long q2), .second, .val (.long q3), .second, .val (.long (v0_9 q0)), .second, .val (.long (v0_19 q3)), .second, .val (.long (v0_27 q2)), .second, .val (.long (v0_33 q1)), .second, .val (.long (v0_43 q1)), .second, .val (.long (v0_53 q1)), .second, .val (.long (v0_60 q1)), .second, .val (.long (v0_67 q0 q1)), .second, .val (.long (v0_76 q0 q1 q3)), .second, .val (.long (v0_86 q0 q1 q3)), .second, .val (.long (v0_100 q0 q1 q3)), .second, .val (.long (v0_109 q0 q1 q3)), .second, .val (.long (v0_119 q0 q1 q3)), .second, .unset, .unset, .unset, .unset, .unset, .unset, .unset, .unset, .unset, .unset, .unset, .unset, .unset, .unset] [(.long (((v0_119 q0 q1 q3) * (65536 : Int64)) + ((v0_9 q0) * (v0_53 q1))))])) _
    refine XS.lstore X6.here hx rfl (hb hby at_133) rfl (l' := #[.val (.long q0), .second, .val (.long q1), .second, .val (.long q2), .second, .val (.long q3), .second, .val (.long (v0_9 q0)), .second, .val (.long (v0_19 q3)), .second, .val (.long (v0_27 q2)), .second, .val (.long (v0_33 q1)), .second, .val (.long (v0_43 q1)), .second, .val (.long (v0_53 q1)), .second, .val (.long (v0_60 q1)), .second, .val (.long (v0_67 q0 q1)), .second, .val (.long (v0_76 q0 q1 q3)), .second, .val (.long (v0_86 q0 q1 q3)), .second, .val (.long (v0_100 q0 q1 q3)), .second, .val (.long (v0_109 q0 q1 q3)), .second, .val (.long (v0_119 q0 q1 q3)), .second, .val (.long (v0_133 q0 q1 q3)), .second, .unset, .unset, .unset, .unset, .unset, .unset, .unset, .unset, .unset, .unset, .unset, .unset]) rfl ?_
    show Steps p.tables e below (T6.setTop (mkF m 135 #[.val (.long q0), .second, .val (.long q1), .second, .val (.long q2), .second, .val (.long q3), .second, .val (.long (v0_9 q0)), .second, .val (.long (v0_19 q3)), .second, .val (.long (v0_27 q2)), .second, .val (.long (v0_33 q1)), .second, .val (.long (v0_43 q1)), .second, .val (.long (v0_53 q1)), .second, .val (.long (v0_60 q1)), .second, .val (.long (v0_67 q0 q1)), .second, .val (.long (v0_76 q0 q1 q3)), .second, .val (.long (v0_86 q0 q1 q3)), .second, .val (.long (v0_100 q0 q1 q3)), .second, .val (.long (v0_109 q0 q1 q3)), .second, .val (.long (v0_119 q0 q1 q3)), .second, .val (.long (v0_133 q0 q1 q3)), .second, .unset, .unset, .unset, .unset, .unset, .unset, .unset, .unset, .unset, .unset, .unset, .unset] [])) _
    refine XS.lload X6.here hx rfl (hb hby at_135) rfl ?_
    show Steps p.tables e below (T6.setTop (mkF m 137 #[.val (.long q0), .second, .val (.long q1), .second, .val (.long q2), .second, .val (.long q3), .second, .val (.long (v0_9 q0)), .second, .val (.long (v0_19 q3)), .second, .val (.long (v0_27 q2)), .second, .val (.long (v0_33 q1)), .second, .val (.long (v0_43 q1)), .second, .val (.long (v0_53 q1)), .second, .val (.long (v0_60 q1)), .second, .val (.long (v0_67 q0 q1)), .second, .val (.long (v0_76 q0 q1 q3)), .second, .val (.long (v0_86 q0 q1 q3)), .second, .val (.long (v0_100 q0 q1 q3)), .second, .val (.long (v0_109 q0 q1 q3)), .second, .val (.long (v0_119 q0 q1 q3)), .second, .val (.long (v0_133 q0 q1 q3)), .second, .unset, .unset, .unset, .unset, .unset, .unset, .unset, .unset, .unset, .unset, .unset, .unset] [(.long (v0_133 q0 q1 q3))])) _
    refine XS.lload X6.here hx rfl (hb hby at_137) rfl ?_
    exact k)
  obtain ⟨_, _, ⟨T9, L9, k9, n9⟩, -, X9, ⟨Lc9, hQ9, l9, y9, z9⟩, st9⟩ := Jvm.LawKit.callS X6 hx (y := (⟨"com/example/stint/stint/limit/ExactFloorOfProductPinLaw", "fdiv", "(JJ)J"⟩ : MethodName)) hown (mvT hZ (hw _ (List.mem_of_getElem? (i := 5) rfl))) (mvT hZ (hw _ (List.mem_of_getElem? (i := 6) rfl))) (mvT hZ (hw _ (List.mem_of_getElem? (i := 7) rfl))) (mvT hZ (hw _ (List.mem_of_getElem? (i := 8) rfl))) (by decide) (backOf (W := 0) (rm1 l Z a0 hw [] (v0_133 q0 q1 q3) (v0_19 q3) h0 n0 Z0 (own_nz q3)) hZ (hw _ (List.mem_of_getElem? (i := 8) rfl)) (hw _ (List.mem_of_getElem? (i := 7) rfl)) (by decide) (by decide)) (g := (mkF m 139 #[.val (.long q0), .second, .val (.long q1), .second, .val (.long q2), .second, .val (.long q3), .second, .val (.long (v0_9 q0)), .second, .val (.long (v0_19 q3)), .second, .val (.long (v0_27 q2)), .second, .val (.long (v0_33 q1)), .second, .val (.long (v0_43 q1)), .second, .val (.long (v0_53 q1)), .second, .val (.long (v0_60 q1)), .second, .val (.long (v0_67 q0 q1)), .second, .val (.long (v0_76 q0 q1 q3)), .second, .val (.long (v0_86 q0 q1 q3)), .second, .val (.long (v0_100 q0 q1 q3)), .second, .val (.long (v0_109 q0 q1 q3)), .second, .val (.long (v0_119 q0 q1 q3)), .second, .val (.long (v0_133 q0 q1 q3)), .second, .unset, .unset, .unset, .unset, .unset, .unset, .unset, .unset, .unset, .unset, .unset, .unset] [(.long (v0_19 q3)), (.long (v0_133 q0 q1 q3))])) rfl (by rw [hml]; rfl) (argsL := [(.long (v0_133 q0 q1 q3)), (.long (v0_19 q3))]) (rest := []) (lenOf pd__JJ_J rfl) rfl (by show 2 * 0 + _ ≤ _; exact Nat.le_of_eq rfl) (hb hby at_139) (fun _ _ => ⟨rfl, e6, (by decide : 0 + 0 ≤ _), (by decide : 0 + 0 ≤ _)⟩)
  dsimp only [Pt.U, Pt.locs, Pt.cells, Pt.slots] at X9 l9 y9 z9 st9 hQ9
  subst l9 y9 z9
  obtain ⟨rfl, Nq9, e9⟩ := hQ9
  have N9 := Fr.app N6 Nq9
  have pre10 : ∀ t, Steps p.tables e below (T9.setTop (mkF m 142 #[.val (.long q0), .second, .val (.long q1), .second, .val (.long q2), .second, .val (.long q3), .second, .val (.long (v0_9 q0)), .second, .val (.long (v0_19 q3)), .second, .val (.long (v0_27 q2)), .second, .val (.long (v0_33 q1)), .second, .val (.long (v0_43 q1)), .second, .val (.long (v0_53 q1)), .second, .val (.long (v0_60 q1)), .second, .val (.long (v0_67 q0 q1)), .second, .val (.long (v0_76 q0 q1 q3)), .second, .val (.long (v0_86 q0 q1 q3)), .second, .val (.long (v0_100 q0 q1 q3)), .second, .val (.long (v0_109 q0 q1 q3)), .second, .val (.long (v0_119 q0 q1 q3)), .second, .val (.long (v0_133 q0 q1 q3)), .second, .unset, .unset, .unset, .unset, .unset, .unset, .unset, .unset, .unset, .unset, .unset, .unset] [(.long (f1 (v0_133 q0 q1 q3) (v0_19 q3)))])) t → Steps p.tables e below (s₁.setTop (entryFrame m #[(.long q0), (.long q1), (.long q2), (.long q3)] maxLocals)) t := fun t k => pre8 t (st9 _ k)
  have pre11 : ∀ t, Steps p.tables e below (T9.setTop (mkF m 175 #[.val (.long q0), .second, .val (.long q1), .second, .val (.long q2), .second, .val (.long q3), .second, .val (.long (v0_9 q0)), .second, .val (.long (v0_19 q3)), .second, .val (.long (v0_27 q2)), .second, .val (.long (v0_33 q1)), .second, .val (.long (v0_43 q1)), .second, .val (.long (v0_53 q1)), .second, .val (.long (v0_60 q1)), .second, .val (.long (v0_67 q0 q1)), .second, .val (.long (v0_76 q0 q1 q3)), .second, .val (.long (v0_86 q0 q1 q3)), .second, .val (.long (v0_100 q0 q1 q3)), .second, .val (.long (v0_109 q0 q1 q3)), .second, .val (.long (v0_119 q0 q1 q3)), .second, .val (.long (v0_133 q0 q1 q3)), .second, .val (.long (v0_142 q0 q1 q3)), .second, .val (.long (v0_152 q0 q1 q3)), .second, .val (.long (v0_169 q0 q1 q2 q3)), .second, .unset, .unset, .unset, .unset, .unset, .unset] [(.long (v0_19 q3)), (.long (v0_169 q0 q1 q2 q3))])) t → Steps p.tables e below (s₁.setTop (entryFrame m #[(.long q0), (.long q1), (.long q2), (.long q3)] maxLocals)) t := fun t k => pre10 t (by
    show Steps p.tables e below (T9.setTop (mkF m 142 #[.val (.long q0), .second, .val (.long q1), .second, .val (.long q2), .second, .val (.long q3), .second, .val (.long (v0_9 q0)), .second, .val (.long (v0_19 q3)), .second, .val (.long (v0_27 q2)), .second, .val (.long (v0_33 q1)), .second, .val (.long (v0_43 q1)), .second, .val (.long (v0_53 q1)), .second, .val (.long (v0_60 q1)), .second, .val (.long (v0_67 q0 q1)), .second, .val (.long (v0_76 q0 q1 q3)), .second, .val (.long (v0_86 q0 q1 q3)), .second, .val (.long (v0_100 q0 q1 q3)), .second, .val (.long (v0_109 q0 q1 q3)), .second, .val (.long (v0_119 q0 q1 q3)), .second, .val (.long (v0_133 q0 q1 q3)), .second, .unset, .unset, .unset, .unset, .unset, .unset, .unset, .unset, .unset, .unset, .unset, .unset] [(.long (f1 (v0_133 q0 q1 q3) (v0_19 q3)))])) _
    refine XS.lstore X9.here hx rfl (hb hby at_142) rfl (l' := #[.val (.long q0), .second, .val (.long q1), .second, .val (.long q2), .second, .val (.long q3), .second, .val (.long (v0_9 q0)), .second, .val (.long (v0_19 q3)), .second, .val (.long (v0_27 q2)), .second, .val (.long (v0_33 q1)), .second, .val (.long (v0_43 q1)), .second, .val (.long (v0_53 q1)), .second, .val (.long (v0_60 q1)), .second, .val (.long (v0_67 q0 q1)), .second, .val (.long (v0_76 q0 q1 q3)), .second, .val (.long (v0_86 q0 q1 q3)), .second, .val (.long (v0_100 q0 q1 q3)), .second, .val (.long (v0_109 q0 q1 q3)), .second, .val (.long (v0_119 q0 q1 q3)), .second, .val (.long (v0_133 q0 q1 q3)), .second, .val (.long (v0_142 q0 q1 q3)), .second, .unset, .unset, .unset, .unset, .unset, .unset, .unset, .unset, .unset, .unset]) rfl ?_
    show Steps p.tables e below (T9.setTop (mkF m 144 #[.val (.long q0), .second, .val (.long q1), .second, .val (.long q2), .second, .val (.long q3), .second, .val (.long (v0_9 q0)), .second, .val (.long (v0_19 q3)), .second, .val (.long (v0_27 q2)), .second, .val (.long (v0_33 q1)), .second, .val (.long (v0_43 q1)), .second, .val (.long (v0_53 q1)), .second, .val (.long (v0_60 q1)), .second, .val (.long (v0_67 q0 q1)), .second, .val (.long (v0_76 q0 q1 q3)), .second, .val (.long (v0_86 q0 q1 q3)), .second, .val (.long (v0_100 q0 q1 q3)), .second, .val (.long (v0_109 q0 q1 q3)), .second, .val (.long (v0_119 q0 q1 q3)), .second, .val (.long (v0_133 q0 q1 q3)), .second, .val (.long (v0_142 q0 q1 q3)), .second, .unset, .unset, .unset, .unset, .unset, .unset, .unset, .unset, .unset, .unset] [])) _
    refine XS.lload X9.here hx rfl (hb hby at_144) rfl ?_
    show Steps p.tables e below (T9.setTop (mkF m 146 #[.val (.long q0), .second, .val (.long q1), .second, .val (.long q2), .second, .val (.long q3), .second, .val (.long (v0_9 q0)), .second, .val (.long (v0_19 q3)), .second, .val (.long (v0_27 q2)), .second, .val (.long (v0_33 q1)), .second, .val (.long (v0_43 q1)), .second, .val (.long (v0_53 q1)), .second, .val (.long (v0_60 q1)), .second, .val (.long (v0_67 q0 q1)), .second, .val (.long (v0_76 q0 q1 q3)), .second, .val (.long (v0_86 q0 q1 q3)), .second, .val (.long (v0_100 q0 q1 q3)), .second, .val (.long (v0_109 q0 q1 q3)), .second, .val (.long (v0_119 q0 q1 q3)), .second, .val (.long (v0_133 q0 q1 q3)), .second, .val (.long (v0_142 q0 q1 q3)), .second, .unset, .unset, .unset, .unset, .unset, .unset, .unset, .unset, .unset, .unset] [(.long (v0_133 q0 q1 q3))])) _
    refine XS.lload X9.here hx rfl (hb hby at_146) rfl ?_
    show Steps p.tables e below (T9.setTop (mkF m 148 #[.val (.long q0), .second, .val (.long q1), .second, .val (.long q2), .second, .val (.long q3), .second, .val (.long (v0_9 q0)), .second, .val (.long (v0_19 q3)), .second, .val (.long (v0_27 q2)), .second, .val (.long (v0_33 q1)), .second, .val (.long (v0_43 q1)), .second, .val (.long (v0_53 q1)), .second, .val (.long (v0_60 q1)), .second, .val (.long (v0_67 q0 q1)), .second, .val (.long (v0_76 q0 q1 q3)), .second, .val (.long (v0_86 q0 q1 q3)), .second, .val (.long (v0_100 q0 q1 q3)), .second, .val (.long (v0_109 q0 q1 q3)), .second, .val (.long (v0_119 q0 q1 q3)), .second, .val (.long (v0_133 q0 q1 q3)), .second, .val (.long (v0_142 q0 q1 q3)), .second, .unset, .unset, .unset, .unset, .unset, .unset, .unset, .unset, .unset, .unset] [(.long (v0_142 q0 q1 q3)), (.long (v0_133 q0 q1 q3))])) _
    refine XS.lload X9.here hx rfl (hb hby at_148) rfl ?_
    show Steps p.tables e below (T9.setTop (mkF m 150 #[.val (.long q0), .second, .val (.long q1), .second, .val (.long q2), .second, .val (.long q3), .second, .val (.long (v0_9 q0)), .second, .val (.long (v0_19 q3)), .second, .val (.long (v0_27 q2)), .second, .val (.long (v0_33 q1)), .second, .val (.long (v0_43 q1)), .second, .val (.long (v0_53 q1)), .second, .val (.long (v0_60 q1)), .second, .val (.long (v0_67 q0 q1)), .second, .val (.long (v0_76 q0 q1 q3)), .second, .val (.long (v0_86 q0 q1 q3)), .second, .val (.long (v0_100 q0 q1 q3)), .second, .val (.long (v0_109 q0 q1 q3)), .second, .val (.long (v0_119 q0 q1 q3)), .second, .val (.long (v0_133 q0 q1 q3)), .second, .val (.long (v0_142 q0 q1 q3)), .second, .unset, .unset, .unset, .unset, .unset, .unset, .unset, .unset, .unset, .unset] [(.long (v0_19 q3)), (.long (v0_142 q0 q1 q3)), (.long (v0_133 q0 q1 q3))])) _
    refine XS.lmul X9.here hx rfl (hb hby at_150) rfl ?_
    show Steps p.tables e below (T9.setTop (mkF m 151 #[.val (.long q0), .second, .val (.long q1), .second, .val (.long q2), .second, .val (.long q3), .second, .val (.long (v0_9 q0)), .second, .val (.long (v0_19 q3)), .second, .val (.long (v0_27 q2)), .second, .val (.long (v0_33 q1)), .second, .val (.long (v0_43 q1)), .second, .val (.long (v0_53 q1)), .second, .val (.long (v0_60 q1)), .second, .val (.long (v0_67 q0 q1)), .second, .val (.long (v0_76 q0 q1 q3)), .second, .val (.long (v0_86 q0 q1 q3)), .second, .val (.long (v0_100 q0 q1 q3)), .second, .val (.long (v0_109 q0 q1 q3)), .second, .val (.long (v0_119 q0 q1 q3)), .second, .val (.long (v0_133 q0 q1 q3)), .second, .val (.long (v0_142 q0 q1 q3)), .second, .unset, .unset, .unset, .unset, .unset, .unset, .unset, .unset, .unset, .unset] [(.long ((v0_142 q0 q1 q3) * (v0_19 q3))), (.long (v0_133 q0 q1 q3))])) _
    refine XS.lsub X9.here hx rfl (hb hby at_151) rfl ?_
    show Steps p.tables e below (T9.setTop (mkF m 152 #[.val (.long q0), .second, .val (.long q1), .second, .val (.long q2), .second, .val (.long q3), .second, .val (.long (v0_9 q0)), .second, .val (.long (v0_19 q3)), .second, .val (.long (v0_27 q2)), .second, .val (.long (v0_33 q1)), .second, .val (.long (v0_43 q1)), .second, .val (.long (v0_53 q1)), .second, .val (.long (v0_60 q1)), .second, .val (.long (v0_67 q0 q1)), .second, .val (.long (v0_76 q0 q1 q3)), .second, .val (.long (v0_86 q0 q1 q3)), .second, .val (.long (v0_100 q0 q1 q3)), .second, .val (.long (v0_109 q0 q1 q3)), .second, .val (.long (v0_119 q0 q1 q3)), .second, .val (.long (v0_133 q0 q1 q3)), .second, .val (.long (v0_142 q0 q1 q3)), .second, .unset, .unset, .unset, .unset, .unset, .unset, .unset, .unset, .unset, .unset] [(.long ((v0_133 q0 q1 q3) - ((v0_142 q0 q1 q3) * (v0_19 q3))))])) _
    refine XS.lstore X9.here hx rfl (hb hby at_152) rfl (l' := #[.val (.long q0), .second, .val (.long q1), .second, .val (.long q2), .second, .val (.long q3), .second, .val (.long (v0_9 q0)), .second, .val (.long (v0_19 q3)), .second, .val (.long (v0_27 q2)), .second, .val (.long (v0_33 q1)), .second, .val (.long (v0_43 q1)), .second, .val (.long (v0_53 q1)), .second, .val (.long (v0_60 q1)), .second, .val (.long (v0_67 q0 q1)), .second, .val (.long (v0_76 q0 q1 q3)), .second, .val (.long (v0_86 q0 q1 q3)), .second, .val (.long (v0_100 q0 q1 q3)), .second, .val (.long (v0_109 q0 q1 q3)), .second, .val (.long (v0_119 q0 q1 q3)), .second, .val (.long (v0_133 q0 q1 q3)), .second, .val (.long (v0_142 q0 q1 q3)), .second, .val (.long (v0_152 q0 q1 q3)), .second, .unset, .unset, .unset, .unset, .unset, .unset, .unset, .unset]) rfl ?_
    show Steps p.tables e below (T9.setTop (mkF m 154 #[.val (.long q0), .second, .val (.long q1), .second, .val (.long q2), .second, .val (.long q3), .second, .val (.long (v0_9 q0)), .second, .val (.long (v0_19 q3)), .second, .val (.long (v0_27 q2)), .second, .val (.long (v0_33 q1)), .second, .val (.long (v0_43 q1)), .second, .val (.long (v0_53 q1)), .second, .val (.long (v0_60 q1)), .second, .val (.long (v0_67 q0 q1)), .second, .val (.long (v0_76 q0 q1 q3)), .second, .val (.long (v0_86 q0 q1 q3)), .second, .val (.long (v0_100 q0 q1 q3)), .second, .val (.long (v0_109 q0 q1 q3)), .second, .val (.long (v0_119 q0 q1 q3)), .second, .val (.long (v0_133 q0 q1 q3)), .second, .val (.long (v0_142 q0 q1 q3)), .second, .val (.long (v0_152 q0 q1 q3)), .second, .unset, .unset, .unset, .unset, .unset, .unset, .unset, .unset] [])) _
    refine XS.lload X9.here hx rfl (hb hby at_154) rfl ?_
    show Steps p.tables e below (T9.setTop (mkF m 156 #[.val (.long q0), .second, .val (.long q1), .second, .val (.long q2), .second, .val (.long q3), .second, .val (.long (v0_9 q0)), .second, .val (.long (v0_19 q3)), .second, .val (.long (v0_27 q2)), .second, .val (.long (v0_33 q1)), .second, .val (.long (v0_43 q1)), .second, .val (.long (v0_53 q1)), .second, .val (.long (v0_60 q1)), .second, .val (.long (v0_67 q0 q1)), .second, .val (.long (v0_76 q0 q1 q3)), .second, .val (.long (v0_86 q0 q1 q3)), .second, .val (.long (v0_100 q0 q1 q3)), .second, .val (.long (v0_109 q0 q1 q3)), .second, .val (.long (v0_119 q0 q1 q3)), .second, .val (.long (v0_133 q0 q1 q3)), .second, .val (.long (v0_142 q0 q1 q3)), .second, .val (.long (v0_152 q0 q1 q3)), .second, .unset, .unset, .unset, .unset, .unset, .unset, .unset, .unset] [(.long (v0_152 q0 q1 q3))])) _
    refine X9.ldc2Long hx hown (mvT hZ (hw _ (List.mem_of_getElem? (i := 9) rfl))) (g := (mkF m 156 #[.val (.long q0), .second, .val (.long q1), .second, .val (.long q2), .second, .val (.long q3), .second, .val (.long (v0_9 q0)), .second, .val (.long (v0_19 q3)), .second, .val (.long (v0_27 q2)), .second, .val (.long (v0_33 q1)), .second, .val (.long (v0_43 q1)), .second, .val (.long (v0_53 q1)), .second, .val (.long (v0_60 q1)), .second, .val (.long (v0_67 q0 q1)), .second, .val (.long (v0_76 q0 q1 q3)), .second, .val (.long (v0_86 q0 q1 q3)), .second, .val (.long (v0_100 q0 q1 q3)), .second, .val (.long (v0_109 q0 q1 q3)), .second, .val (.long (v0_119 q0 q1 q3)), .second, .val (.long (v0_133 q0 q1 q3)), .second, .val (.long (v0_142 q0 q1 q3)), .second, .val (.long (v0_152 q0 q1 q3)), .second, .unset, .unset, .unset, .unset, .unset, .unset, .unset, .unset] [(.long (v0_152 q0 q1 q3))])) rfl (hb hby at_156) _ ?_
    show Steps p.tables e below (T9.setTop (mkF m 159 #[.val (.long q0), .second, .val (.long q1), .second, .val (.long q2), .second, .val (.long q3), .second, .val (.long (v0_9 q0)), .second, .val (.long (v0_19 q3)), .second, .val (.long (v0_27 q2)), .second, .val (.long (v0_33 q1)), .second, .val (.long (v0_43 q1)), .second, .val (.long (v0_53 q1)), .second, .val (.long (v0_60 q1)), .second, .val (.long (v0_67 q0 q1)), .second, .val (.long (v0_76 q0 q1 q3)), .second, .val (.long (v0_86 q0 q1 q3)), .second, .val (.long (v0_100 q0 q1 q3)), .second, .val (.long (v0_109 q0 q1 q3)), .second, .val (.long (v0_119 q0 q1 q3)), .second, .val (.long (v0_133 q0 q1 q3)), .second, .val (.long (v0_142 q0 q1 q3)), .second, .val (.long (v0_152 q0 q1 q3)), .second, .unset, .unset, .unset, .unset, .unset, .unset, .unset, .unset] [(.long (65536 : Int64)), (.long (v0_152 q0 q1 q3))])) _
    refine XS.lmul X9.here hx rfl (hb hby at_159) rfl ?_
    show Steps p.tables e below (T9.setTop (mkF m 160 #[.val (.long q0), .second, .val (.long q1), .second, .val (.long q2), .second, .val (.long q3), .second, .val (.long (v0_9 q0)), .second, .val (.long (v0_19 q3)), .second, .val (.long (v0_27 q2)), .second, .val (.long (v0_33 q1)), .second, .val (.long (v0_43 q1)), .second, .val (.long (v0_53 q1)), .second, .val (.long (v0_60 q1)), .second, .val (.long (v0_67 q0 q1)), .second, .val (.long (v0_76 q0 q1 q3)), .second, .val (.long (v0_86 q0 q1 q3)), .second, .val (.long (v0_100 q0 q1 q3)), .second, .val (.long (v0_109 q0 q1 q3)), .second, .val (.long (v0_119 q0 q1 q3)), .second, .val (.long (v0_133 q0 q1 q3)), .second, .val (.long (v0_142 q0 q1 q3)), .second, .val (.long (v0_152 q0 q1 q3)), .second, .unset, .unset, .unset, .unset, .unset, .unset, .unset, .unset] [(.long ((v0_152 q0 q1 q3) * (65536 : Int64)))])) _
    refine XS.lload X9.here hx rfl (hb hby at_160) rfl ?_
    show Steps p.tables e below (T9.setTop (mkF m 162 #[.val (.long q0), .second, .val (.long q1), .second, .val (.long q2), .second, .val (.long q3), .second, .val (.long (v0_9 q0)), .second, .val (.long (v0_19 q3)), .second, .val (.long (v0_27 q2)), .second, .val (.long (v0_33 q1)), .second, .val (.long (v0_43 q1)), .second, .val (.long (v0_53 q1)), .second, .val (.long (v0_60 q1)), .second, .val (.long (v0_67 q0 q1)), .second, .val (.long (v0_76 q0 q1 q3)), .second, .val (.long (v0_86 q0 q1 q3)), .second, .val (.long (v0_100 q0 q1 q3)), .second, .val (.long (v0_109 q0 q1 q3)), .second, .val (.long (v0_119 q0 q1 q3)), .second, .val (.long (v0_133 q0 q1 q3)), .second, .val (.long (v0_142 q0 q1 q3)), .second, .val (.long (v0_152 q0 q1 q3)), .second, .unset, .unset, .unset, .unset, .unset, .unset, .unset, .unset] [(.long (v0_9 q0)), (.long ((v0_152 q0 q1 q3) * (65536 : Int64)))])) _
    refine XS.lload X9.here hx rfl (hb hby at_162) rfl ?_
    show Steps p.tables e below (T9.setTop (mkF m 164 #[.val (.long q0), .second, .val (.long q1), .second, .val (.long q2), .second, .val (.long q3), .second, .val (.long (v0_9 q0)), .second, .val (.long (v0_19 q3)), .second, .val (.long (v0_27 q2)), .second, .val (.long (v0_33 q1)), .second, .val (.long (v0_43 q1)), .second, .val (.long (v0_53 q1)), .second, .val (.long (v0_60 q1)), .second, .val (.long (v0_67 q0 q1)), .second, .val (.long (v0_76 q0 q1 q3)), .second, .val (.long (v0_86 q0 q1 q3)), .second, .val (.long (v0_100 q0 q1 q3)), .second, .val (.long (v0_109 q0 q1 q3)), .second, .val (.long (v0_119 q0 q1 q3)), .second, .val (.long (v0_133 q0 q1 q3)), .second, .val (.long (v0_142 q0 q1 q3)), .second, .val (.long (v0_152 q0 q1 q3)), .second, .unset, .unset, .unset, .unset, .unset, .unset, .unset, .unset] [(.long (v0_60 q1)), (.long (v0_9 q0)), (.long ((v0_152 q0 q1 q3) * (65536 : Int64)))])) _
    refine XS.lmul X9.here hx rfl (hb hby at_164) rfl ?_
    show Steps p.tables e below (T9.setTop (mkF m 165 #[.val (.long q0), .second, .val (.long q1), .second, .val (.long q2), .second, .val (.long q3), .second, .val (.long (v0_9 q0)), .second, .val (.long (v0_19 q3)), .second, .val (.long (v0_27 q2)), .second, .val (.long (v0_33 q1)), .second, .val (.long (v0_43 q1)), .second, .val (.long (v0_53 q1)), .second, .val (.long (v0_60 q1)), .second, .val (.long (v0_67 q0 q1)), .second, .val (.long (v0_76 q0 q1 q3)), .second, .val (.long (v0_86 q0 q1 q3)), .second, .val (.long (v0_100 q0 q1 q3)), .second, .val (.long (v0_109 q0 q1 q3)), .second, .val (.long (v0_119 q0 q1 q3)), .second, .val (.long (v0_133 q0 q1 q3)), .second, .val (.long (v0_142 q0 q1 q3)), .second, .val (.long (v0_152 q0 q1 q3)), .second, .unset, .unset, .unset, .unset, .unset, .unset, .unset, .unset] [(.long ((v0_9 q0) * (v0_60 q1))), (.long ((v0_152 q0 q1 q3) * (65536 : Int64)))])) _
    refine XS.ladd X9.here hx rfl (hb hby at_165) rfl ?_
    show Steps p.tables e below (T9.setTop (mkF m 166 #[.val (.long q0), .second, .val (.long q1), .second, .val (.long q2), .second, .val (.long q3), .second, .val (.long (v0_9 q0)), .second, .val (.long (v0_19 q3)), .second, .val (.long (v0_27 q2)), .second, .val (.long (v0_33 q1)), .second, .val (.long (v0_43 q1)), .second, .val (.long (v0_53 q1)), .second, .val (.long (v0_60 q1)), .second, .val (.long (v0_67 q0 q1)), .second, .val (.long (v0_76 q0 q1 q3)), .second, .val (.long (v0_86 q0 q1 q3)), .second, .val (.long (v0_100 q0 q1 q3)), .second, .val (.long (v0_109 q0 q1 q3)), .second, .val (.long (v0_119 q0 q1 q3)), .second, .val (.long (v0_133 q0 q1 q3)), .second, .val (.long (v0_142 q0 q1 q3)), .second, .val (.long (v0_152 q0 q1 q3)), .second, .unset, .unset, .unset, .unset, .unset, .unset, .unset, .unset] [(.long (((v0_152 q0 q1 q3) * (65536 : Int64)) + ((v0_9 q0) * (v0_60 q1))))])) _
    refine XS.lload X9.here hx rfl (hb hby at_166) rfl ?_
    show Steps p.tables e below (T9.setTop (mkF m 168 #[.val (.long q0), .second, .val (.long q1), .second, .val (.long q2), .second, .val (.long q3), .second, .val (.long (v0_9 q0)), .second, .val (.long (v0_19 q3)), .second, .val (.long (v0_27 q2)), .second, .val (.long (v0_33 q1)), .second, .val (.long (v0_43 q1)), .second, .val (.long (v0_53 q1)), .second, .val (.long (v0_60 q1)), .second, .val (.long (v0_67 q0 q1)), .second, .val (.long (v0_76 q0 q1 q3)), .second, .val (.long (v0_86 q0 q1 q3)), .second, .val (.long (v0_100 q0 q1 q3)), .second, .val (.long (v0_109 q0 q1 q3)), .second, .val (.long (v0_119 q0 q1 q3)), .second, .val (.long (v0_133 q0 q1 q3)), .second, .val (.long (v0_142 q0 q1 q3)), .second, .val (.long (v0_152 q0 q1 q3)), .second, .unset, .unset, .unset, .unset, .unset, .unset, .unset, .unset] [(.long (v0_27 q2)), (.long (((v0_152 q0 q1 q3) * (65536 : Int64)) + ((v0_9 q0) * (v0_60 q1))))])) _
    refine XS.ladd X9.here hx rfl (hb hby at_168) rfl ?_
    show Steps p.tables e below (T9.setTop (mkF m 169 #[.val (.long q0), .second, .val (.long q1), .second, .val (.long q2), .second, .val (.long q3), .second, .val (.long (v0_9 q0)), .second, .val (.long (v0_19 q3)), .second, .val (.long (v0_27 q2)), .second, .val (.long (v0_33 q1)), .second, .val (.long (v0_43 q1)), .second, .val (.long (v0_53 q1)), .second, .val (.long (v0_60 q1)), .second, .val (.long (v0_67 q0 q1)), .second, .val (.long (v0_76 q0 q1 q3)), .second, .val (.long (v0_86 q0 q1 q3)), .second, .val (.long (v0_100 q0 q1 q3)), .second, .val (.long (v0_109 q0 q1 q3)), .second, .val (.long (v0_119 q0 q1 q3)), .second, .val (.long (v0_133 q0 q1 q3)), .second, .val (.long (v0_142 q0 q1 q3)), .second, .val (.long (v0_152 q0 q1 q3)), .second, .unset, .unset, .unset, .unset, .unset, .unset, .unset, .unset] [(.long ((((v0_152 q0 q1 q3) * (65536 : Int64)) + ((v0_9 q0) * (v0_60 q1))) + (v0_27 q2)))])) _
    refine XS.lstore X9.here hx rfl (hb hby at_169) rfl (l' := #[.val (.long q0), .second, .val (.long q1), .second, .val (.long q2), .second, .val (.long q3), .second, .val (.long (v0_9 q0)), .second, .val (.long (v0_19 q3)), .second, .val (.long (v0_27 q2)), .second, .val (.long (v0_33 q1)), .second, .val (.long (v0_43 q1)), .second, .val (.long (v0_53 q1)), .second, .val (.long (v0_60 q1)), .second, .val (.long (v0_67 q0 q1)), .second, .val (.long (v0_76 q0 q1 q3)), .second, .val (.long (v0_86 q0 q1 q3)), .second, .val (.long (v0_100 q0 q1 q3)), .second, .val (.long (v0_109 q0 q1 q3)), .second, .val (.long (v0_119 q0 q1 q3)), .second, .val (.long (v0_133 q0 q1 q3)), .second, .val (.long (v0_142 q0 q1 q3)), .second, .val (.long (v0_152 q0 q1 q3)), .second, .val (.long (v0_169 q0 q1 q2 q3)), .second, .unset, .unset, .unset, .unset, .unset, .unset]) rfl ?_
    show Steps p.tables e below (T9.setTop (mkF m 171 #[.val (.long q0), .second, .val (.long q1), .second, .val (.long q2), .second, .val (.long q3), .second, .val (.long (v0_9 q0)), .second, .val (.long (v0_19 q3)), .second, .val (.long (v0_27 q2)), .second, .val (.long (v0_33 q1)), .second, .val (.long (v0_43 q1)), .second, .val (.long (v0_53 q1)), .second, .val (.long (v0_60 q1)), .second, .val (.long (v0_67 q0 q1)), .second, .val (.long (v0_76 q0 q1 q3)), .second, .val (.long (v0_86 q0 q1 q3)), .second, .val (.long (v0_100 q0 q1 q3)), .second, .val (.long (v0_109 q0 q1 q3)), .second, .val (.long (v0_119 q0 q1 q3)), .second, .val (.long (v0_133 q0 q1 q3)), .second, .val (.long (v0_142 q0 q1 q3)), .second, .val (.long (v0_152 q0 q1 q3)), .second, .val (.long (v0_169 q0 q1 q2 q3)), .second, .unset, .unset, .unset, .unset, .unset, .unset] [])) _
    refine XS.lload X9.here hx rfl (hb hby at_171) rfl ?_
    show Steps p.tables e below (T9.setTop (mkF m 173 #[.val (.long q0), .second, .val (.long q1), .second, .val (.long q2), .second, .val (.long q3), .second, .val (.long (v0_9 q0)), .second, .val (.long (v0_19 q3)), .second, .val (.long (v0_27 q2)), .second, .val (.long (v0_33 q1)), .second, .val (.long (v0_43 q1)), .second, .val (.long (v0_53 q1)), .second, .val (.long (v0_60 q1)), .second, .val (.long (v0_67 q0 q1)), .second, .val (.long (v0_76 q0 q1 q3)), .second, .val (.long (v0_86 q0 q1 q3)), .second, .val (.long (v0_100 q0 q1 q3)), .second, .val (.long (v0_109 q0 q1 q3)), .second, .val (.long (v0_119 q0 q1 q3)), .second, .val (.long (v0_133 q0 q1 q3)), .second, .val (.long (v0_142 q0 q1 q3)), .second, .val (.long (v0_152 q0 q1 q3)), .second, .val (.long (v0_169 q0 q1 q2 q3)), .second, .unset, .unset, .unset, .unset, .unset, .unset] [(.long (v0_169 q0 q1 q2 q3))])) _
    refine XS.lload X9.here hx rfl (hb hby at_173) rfl ?_
    exact k)
  obtain ⟨_, _, ⟨T12, L12, k12, n12⟩, -, X12, ⟨Lc12, hQ12, l12, y12, z12⟩, st12⟩ := Jvm.LawKit.callS X9 hx (y := (⟨"com/example/stint/stint/limit/ExactFloorOfProductPinLaw", "fdiv", "(JJ)J"⟩ : MethodName)) hown (mvT hZ (hw _ (List.mem_of_getElem? (i := 5) rfl))) (mvT hZ (hw _ (List.mem_of_getElem? (i := 6) rfl))) (mvT hZ (hw _ (List.mem_of_getElem? (i := 7) rfl))) (mvT hZ (hw _ (List.mem_of_getElem? (i := 8) rfl))) (by decide) (backOf (W := 0) (rm1 l Z a0 hw [] (v0_169 q0 q1 q2 q3) (v0_19 q3) h0 n0 Z0 (own_nz q3)) hZ (hw _ (List.mem_of_getElem? (i := 8) rfl)) (hw _ (List.mem_of_getElem? (i := 7) rfl)) (by decide) (by decide)) (g := (mkF m 175 #[.val (.long q0), .second, .val (.long q1), .second, .val (.long q2), .second, .val (.long q3), .second, .val (.long (v0_9 q0)), .second, .val (.long (v0_19 q3)), .second, .val (.long (v0_27 q2)), .second, .val (.long (v0_33 q1)), .second, .val (.long (v0_43 q1)), .second, .val (.long (v0_53 q1)), .second, .val (.long (v0_60 q1)), .second, .val (.long (v0_67 q0 q1)), .second, .val (.long (v0_76 q0 q1 q3)), .second, .val (.long (v0_86 q0 q1 q3)), .second, .val (.long (v0_100 q0 q1 q3)), .second, .val (.long (v0_109 q0 q1 q3)), .second, .val (.long (v0_119 q0 q1 q3)), .second, .val (.long (v0_133 q0 q1 q3)), .second, .val (.long (v0_142 q0 q1 q3)), .second, .val (.long (v0_152 q0 q1 q3)), .second, .val (.long (v0_169 q0 q1 q2 q3)), .second, .unset, .unset, .unset, .unset, .unset, .unset] [(.long (v0_19 q3)), (.long (v0_169 q0 q1 q2 q3))])) rfl (by rw [hml]; rfl) (argsL := [(.long (v0_169 q0 q1 q2 q3)), (.long (v0_19 q3))]) (rest := []) (lenOf pd__JJ_J rfl) rfl (by show 2 * 0 + _ ≤ _; exact Nat.le_of_eq rfl) (hb hby at_175) (fun _ _ => ⟨rfl, e9, (by decide : 0 + 0 ≤ _), (by decide : 0 + 0 ≤ _)⟩)
  dsimp only [Pt.U, Pt.locs, Pt.cells, Pt.slots] at X12 l12 y12 z12 st12 hQ12
  subst l12 y12 z12
  obtain ⟨rfl, Nq12, e12⟩ := hQ12
  have N12 := Fr.app N9 Nq12
  have pre13 : ∀ t, Steps p.tables e below (T12.setTop (mkF m 178 #[.val (.long q0), .second, .val (.long q1), .second, .val (.long q2), .second, .val (.long q3), .second, .val (.long (v0_9 q0)), .second, .val (.long (v0_19 q3)), .second, .val (.long (v0_27 q2)), .second, .val (.long (v0_33 q1)), .second, .val (.long (v0_43 q1)), .second, .val (.long (v0_53 q1)), .second, .val (.long (v0_60 q1)), .second, .val (.long (v0_67 q0 q1)), .second, .val (.long (v0_76 q0 q1 q3)), .second, .val (.long (v0_86 q0 q1 q3)), .second, .val (.long (v0_100 q0 q1 q3)), .second, .val (.long (v0_109 q0 q1 q3)), .second, .val (.long (v0_119 q0 q1 q3)), .second, .val (.long (v0_133 q0 q1 q3)), .second, .val (.long (v0_142 q0 q1 q3)), .second, .val (.long (v0_152 q0 q1 q3)), .second, .val (.long (v0_169 q0 q1 q2 q3)), .second, .unset, .unset, .unset, .unset, .unset, .unset] [(.long (f1 (v0_169 q0 q1 q2 q3) (v0_19 q3)))])) t → Steps p.tables e below (s₁.setTop (entryFrame m #[(.long q0), (.long q1), (.long q2), (.long q3)] maxLocals)) t := fun t k => pre11 t (st12 _ k)
  have pre14 : ∀ t, Steps p.tables e below (T12.setTop (mkF m 209 #[.val (.long q0), .second, .val (.long q1), .second, .val (.long q2), .second, .val (.long q3), .second, .val (.long (v0_9 q0)), .second, .val (.long (v0_19 q3)), .second, .val (.long (v0_27 q2)), .second, .val (.long (v0_33 q1)), .second, .val (.long (v0_43 q1)), .second, .val (.long (v0_53 q1)), .second, .val (.long (v0_60 q1)), .second, .val (.long (v0_67 q0 q1)), .second, .val (.long (v0_76 q0 q1 q3)), .second, .val (.long (v0_86 q0 q1 q3)), .second, .val (.long (v0_100 q0 q1 q3)), .second, .val (.long (v0_109 q0 q1 q3)), .second, .val (.long (v0_119 q0 q1 q3)), .second, .val (.long (v0_133 q0 q1 q3)), .second, .val (.long (v0_142 q0 q1 q3)), .second, .val (.long (v0_152 q0 q1 q3)), .second, .val (.long (v0_169 q0 q1 q2 q3)), .second, .val (.long (v0_178 q0 q1 q2 q3)), .second, .val (.long (v0_200 q0 q1 q2 q3)), .second, .unset, .unset] [(.long (v0_19 q3)), (.long (v0_27 q2)), (.long q1), (.long (v0_9 q0))])) t → Steps p.tables e below (s₁.setTop (entryFrame m #[(.long q0), (.long q1), (.long q2), (.long q3)] maxLocals)) t := fun t k => pre13 t (by
    show Steps p.tables e below (T12.setTop (mkF m 178 #[.val (.long q0), .second, .val (.long q1), .second, .val (.long q2), .second, .val (.long q3), .second, .val (.long (v0_9 q0)), .second, .val (.long (v0_19 q3)), .second, .val (.long (v0_27 q2)), .second, .val (.long (v0_33 q1)), .second, .val (.long (v0_43 q1)), .second, .val (.long (v0_53 q1)), .second, .val (.long (v0_60 q1)), .second, .val (.long (v0_67 q0 q1)), .second, .val (.long (v0_76 q0 q1 q3)), .second, .val (.long (v0_86 q0 q1 q3)), .second, .val (.long (v0_100 q0 q1 q3)), .second, .val (.long (v0_109 q0 q1 q3)), .second, .val (.long (v0_119 q0 q1 q3)), .second, .val (.long (v0_133 q0 q1 q3)), .second, .val (.long (v0_142 q0 q1 q3)), .second, .val (.long (v0_152 q0 q1 q3)), .second, .val (.long (v0_169 q0 q1 q2 q3)), .second, .unset, .unset, .unset, .unset, .unset, .unset] [(.long (f1 (v0_169 q0 q1 q2 q3) (v0_19 q3)))])) _
    refine XS.lstore X12.here hx rfl (hb hby at_178) rfl (l' := #[.val (.long q0), .second, .val (.long q1), .second, .val (.long q2), .second, .val (.long q3), .second, .val (.long (v0_9 q0)), .second, .val (.long (v0_19 q3)), .second, .val (.long (v0_27 q2)), .second, .val (.long (v0_33 q1)), .second, .val (.long (v0_43 q1)), .second, .val (.long (v0_53 q1)), .second, .val (.long (v0_60 q1)), .second, .val (.long (v0_67 q0 q1)), .second, .val (.long (v0_76 q0 q1 q3)), .second, .val (.long (v0_86 q0 q1 q3)), .second, .val (.long (v0_100 q0 q1 q3)), .second, .val (.long (v0_109 q0 q1 q3)), .second, .val (.long (v0_119 q0 q1 q3)), .second, .val (.long (v0_133 q0 q1 q3)), .second, .val (.long (v0_142 q0 q1 q3)), .second, .val (.long (v0_152 q0 q1 q3)), .second, .val (.long (v0_169 q0 q1 q2 q3)), .second, .val (.long (v0_178 q0 q1 q2 q3)), .second, .unset, .unset, .unset, .unset]) rfl ?_
    show Steps p.tables e below (T12.setTop (mkF m 180 #[.val (.long q0), .second, .val (.long q1), .second, .val (.long q2), .second, .val (.long q3), .second, .val (.long (v0_9 q0)), .second, .val (.long (v0_19 q3)), .second, .val (.long (v0_27 q2)), .second, .val (.long (v0_33 q1)), .second, .val (.long (v0_43 q1)), .second, .val (.long (v0_53 q1)), .second, .val (.long (v0_60 q1)), .second, .val (.long (v0_67 q0 q1)), .second, .val (.long (v0_76 q0 q1 q3)), .second, .val (.long (v0_86 q0 q1 q3)), .second, .val (.long (v0_100 q0 q1 q3)), .second, .val (.long (v0_109 q0 q1 q3)), .second, .val (.long (v0_119 q0 q1 q3)), .second, .val (.long (v0_133 q0 q1 q3)), .second, .val (.long (v0_142 q0 q1 q3)), .second, .val (.long (v0_152 q0 q1 q3)), .second, .val (.long (v0_169 q0 q1 q2 q3)), .second, .val (.long (v0_178 q0 q1 q2 q3)), .second, .unset, .unset, .unset, .unset] [])) _
    refine XS.lload X12.here hx rfl (hb hby at_180) rfl ?_
    show Steps p.tables e below (T12.setTop (mkF m 182 #[.val (.long q0), .second, .val (.long q1), .second, .val (.long q2), .second, .val (.long q3), .second, .val (.long (v0_9 q0)), .second, .val (.long (v0_19 q3)), .second, .val (.long (v0_27 q2)), .second, .val (.long (v0_33 q1)), .second, .val (.long (v0_43 q1)), .second, .val (.long (v0_53 q1)), .second, .val (.long (v0_60 q1)), .second, .val (.long (v0_67 q0 q1)), .second, .val (.long (v0_76 q0 q1 q3)), .second, .val (.long (v0_86 q0 q1 q3)), .second, .val (.long (v0_100 q0 q1 q3)), .second, .val (.long (v0_109 q0 q1 q3)), .second, .val (.long (v0_119 q0 q1 q3)), .second, .val (.long (v0_133 q0 q1 q3)), .second, .val (.long (v0_142 q0 q1 q3)), .second, .val (.long (v0_152 q0 q1 q3)), .second, .val (.long (v0_169 q0 q1 q2 q3)), .second, .val (.long (v0_178 q0 q1 q2 q3)), .second, .unset, .unset, .unset, .unset] [(.long (v0_76 q0 q1 q3))])) _
    refine XS.bipush X12.here hx rfl (hb hby at_182) ?_
    show Steps p.tables e below (T12.setTop (mkF m 184 #[.val (.long q0), .second, .val (.long q1), .second, .val (.long q2), .second, .val (.long q3), .second, .val (.long (v0_9 q0)), .second, .val (.long (v0_19 q3)), .second, .val (.long (v0_27 q2)), .second, .val (.long (v0_33 q1)), .second, .val (.long (v0_43 q1)), .second, .val (.long (v0_53 q1)), .second, .val (.long (v0_60 q1)), .second, .val (.long (v0_67 q0 q1)), .second, .val (.long (v0_76 q0 q1 q3)), .second, .val (.long (v0_86 q0 q1 q3)), .second, .val (.long (v0_100 q0 q1 q3)), .second, .val (.long (v0_109 q0 q1 q3)), .second, .val (.long (v0_119 q0 q1 q3)), .second, .val (.long (v0_133 q0 q1 q3)), .second, .val (.long (v0_142 q0 q1 q3)), .second, .val (.long (v0_152 q0 q1 q3)), .second, .val (.long (v0_169 q0 q1 q2 q3)), .second, .val (.long (v0_178 q0 q1 q2 q3)), .second, .unset, .unset, .unset, .unset] [(.int (48 : Int32)), (.long (v0_76 q0 q1 q3))])) _
    refine XS.lshl X12.here hx rfl (hb hby at_184) rfl ?_
    show Steps p.tables e below (T12.setTop (mkF m 185 #[.val (.long q0), .second, .val (.long q1), .second, .val (.long q2), .second, .val (.long q3), .second, .val (.long (v0_9 q0)), .second, .val (.long (v0_19 q3)), .second, .val (.long (v0_27 q2)), .second, .val (.long (v0_33 q1)), .second, .val (.long (v0_43 q1)), .second, .val (.long (v0_53 q1)), .second, .val (.long (v0_60 q1)), .second, .val (.long (v0_67 q0 q1)), .second, .val (.long (v0_76 q0 q1 q3)), .second, .val (.long (v0_86 q0 q1 q3)), .second, .val (.long (v0_100 q0 q1 q3)), .second, .val (.long (v0_109 q0 q1 q3)), .second, .val (.long (v0_119 q0 q1 q3)), .second, .val (.long (v0_133 q0 q1 q3)), .second, .val (.long (v0_142 q0 q1 q3)), .second, .val (.long (v0_152 q0 q1 q3)), .second, .val (.long (v0_169 q0 q1 q2 q3)), .second, .val (.long (v0_178 q0 q1 q2 q3)), .second, .unset, .unset, .unset, .unset] [(.long ((v0_76 q0 q1 q3) <<< ((48 : Int32) &&& 0x3f).toInt64))])) _
    refine XS.lload X12.here hx rfl (hb hby at_185) rfl ?_
    show Steps p.tables e below (T12.setTop (mkF m 187 #[.val (.long q0), .second, .val (.long q1), .second, .val (.long q2), .second, .val (.long q3), .second, .val (.long (v0_9 q0)), .second, .val (.long (v0_19 q3)), .second, .val (.long (v0_27 q2)), .second, .val (.long (v0_33 q1)), .second, .val (.long (v0_43 q1)), .second, .val (.long (v0_53 q1)), .second, .val (.long (v0_60 q1)), .second, .val (.long (v0_67 q0 q1)), .second, .val (.long (v0_76 q0 q1 q3)), .second, .val (.long (v0_86 q0 q1 q3)), .second, .val (.long (v0_100 q0 q1 q3)), .second, .val (.long (v0_109 q0 q1 q3)), .second, .val (.long (v0_119 q0 q1 q3)), .second, .val (.long (v0_133 q0 q1 q3)), .second, .val (.long (v0_142 q0 q1 q3)), .second, .val (.long (v0_152 q0 q1 q3)), .second, .val (.long (v0_169 q0 q1 q2 q3)), .second, .val (.long (v0_178 q0 q1 q2 q3)), .second, .unset, .unset, .unset, .unset] [(.long (v0_109 q0 q1 q3)), (.long ((v0_76 q0 q1 q3) <<< ((48 : Int32) &&& 0x3f).toInt64))])) _
    refine XS.bipush X12.here hx rfl (hb hby at_187) ?_
    show Steps p.tables e below (T12.setTop (mkF m 189 #[.val (.long q0), .second, .val (.long q1), .second, .val (.long q2), .second, .val (.long q3), .second, .val (.long (v0_9 q0)), .second, .val (.long (v0_19 q3)), .second, .val (.long (v0_27 q2)), .second, .val (.long (v0_33 q1)), .second, .val (.long (v0_43 q1)), .second, .val (.long (v0_53 q1)), .second, .val (.long (v0_60 q1)), .second, .val (.long (v0_67 q0 q1)), .second, .val (.long (v0_76 q0 q1 q3)), .second, .val (.long (v0_86 q0 q1 q3)), .second, .val (.long (v0_100 q0 q1 q3)), .second, .val (.long (v0_109 q0 q1 q3)), .second, .val (.long (v0_119 q0 q1 q3)), .second, .val (.long (v0_133 q0 q1 q3)), .second, .val (.long (v0_142 q0 q1 q3)), .second, .val (.long (v0_152 q0 q1 q3)), .second, .val (.long (v0_169 q0 q1 q2 q3)), .second, .val (.long (v0_178 q0 q1 q2 q3)), .second, .unset, .unset, .unset, .unset] [(.int (32 : Int32)), (.long (v0_109 q0 q1 q3)), (.long ((v0_76 q0 q1 q3) <<< ((48 : Int32) &&& 0x3f).toInt64))])) _
    refine XS.lshl X12.here hx rfl (hb hby at_189) rfl ?_
    show Steps p.tables e below (T12.setTop (mkF m 190 #[.val (.long q0), .second, .val (.long q1), .second, .val (.long q2), .second, .val (.long q3), .second, .val (.long (v0_9 q0)), .second, .val (.long (v0_19 q3)), .second, .val (.long (v0_27 q2)), .second, .val (.long (v0_33 q1)), .second, .val (.long (v0_43 q1)), .second, .val (.long (v0_53 q1)), .second, .val (.long (v0_60 q1)), .second, .val (.long (v0_67 q0 q1)), .second, .val (.long (v0_76 q0 q1 q3)), .second, .val (.long (v0_86 q0 q1 q3)), .second, .val (.long (v0_100 q0 q1 q3)), .second, .val (.long (v0_109 q0 q1 q3)), .second, .val (.long (v0_119 q0 q1 q3)), .second, .val (.long (v0_133 q0 q1 q3)), .second, .val (.long (v0_142 q0 q1 q3)), .second, .val (.long (v0_152 q0 q1 q3)), .second, .val (.long (v0_169 q0 q1 q2 q3)), .second, .val (.long (v0_178 q0 q1 q2 q3)), .second, .unset, .unset, .unset, .unset] [(.long ((v0_109 q0 q1 q3) <<< ((32 : Int32) &&& 0x3f).toInt64)), (.long ((v0_76 q0 q1 q3) <<< ((48 : Int32) &&& 0x3f).toInt64))])) _
    refine XS.ladd X12.here hx rfl (hb hby at_190) rfl ?_
    show Steps p.tables e below (T12.setTop (mkF m 191 #[.val (.long q0), .second, .val (.long q1), .second, .val (.long q2), .second, .val (.long q3), .second, .val (.long (v0_9 q0)), .second, .val (.long (v0_19 q3)), .second, .val (.long (v0_27 q2)), .second, .val (.long (v0_33 q1)), .second, .val (.long (v0_43 q1)), .second, .val (.long (v0_53 q1)), .second, .val (.long (v0_60 q1)), .second, .val (.long (v0_67 q0 q1)), .second, .val (.long (v0_76 q0 q1 q3)), .second, .val (.long (v0_86 q0 q1 q3)), .second, .val (.long (v0_100 q0 q1 q3)), .second, .val (.long (v0_109 q0 q1 q3)), .second, .val (.long (v0_119 q0 q1 q3)), .second, .val (.long (v0_133 q0 q1 q3)), .second, .val (.long (v0_142 q0 q1 q3)), .second, .val (.long (v0_152 q0 q1 q3)), .second, .val (.long (v0_169 q0 q1 q2 q3)), .second, .val (.long (v0_178 q0 q1 q2 q3)), .second, .unset, .unset, .unset, .unset] [(.long (((v0_76 q0 q1 q3) <<< ((48 : Int32) &&& 0x3f).toInt64) + ((v0_109 q0 q1 q3) <<< ((32 : Int32) &&& 0x3f).toInt64)))])) _
    refine XS.lload X12.here hx rfl (hb hby at_191) rfl ?_
    show Steps p.tables e below (T12.setTop (mkF m 193 #[.val (.long q0), .second, .val (.long q1), .second, .val (.long q2), .second, .val (.long q3), .second, .val (.long (v0_9 q0)), .second, .val (.long (v0_19 q3)), .second, .val (.long (v0_27 q2)), .second, .val (.long (v0_33 q1)), .second, .val (.long (v0_43 q1)), .second, .val (.long (v0_53 q1)), .second, .val (.long (v0_60 q1)), .second, .val (.long (v0_67 q0 q1)), .second, .val (.long (v0_76 q0 q1 q3)), .second, .val (.long (v0_86 q0 q1 q3)), .second, .val (.long (v0_100 q0 q1 q3)), .second, .val (.long (v0_109 q0 q1 q3)), .second, .val (.long (v0_119 q0 q1 q3)), .second, .val (.long (v0_133 q0 q1 q3)), .second, .val (.long (v0_142 q0 q1 q3)), .second, .val (.long (v0_152 q0 q1 q3)), .second, .val (.long (v0_169 q0 q1 q2 q3)), .second, .val (.long (v0_178 q0 q1 q2 q3)), .second, .unset, .unset, .unset, .unset] [(.long (v0_142 q0 q1 q3)), (.long (((v0_76 q0 q1 q3) <<< ((48 : Int32) &&& 0x3f).toInt64) + ((v0_109 q0 q1 q3) <<< ((32 : Int32) &&& 0x3f).toInt64)))])) _
    refine XS.bipush X12.here hx rfl (hb hby at_193) ?_
    show Steps p.tables e below (T12.setTop (mkF m 195 #[.val (.long q0), .second, .val (.long q1), .second, .val (.long q2), .second, .val (.long q3), .second, .val (.long (v0_9 q0)), .second, .val (.long (v0_19 q3)), .second, .val (.long (v0_27 q2)), .second, .val (.long (v0_33 q1)), .second, .val (.long (v0_43 q1)), .second, .val (.long (v0_53 q1)), .second, .val (.long (v0_60 q1)), .second, .val (.long (v0_67 q0 q1)), .second, .val (.long (v0_76 q0 q1 q3)), .second, .val (.long (v0_86 q0 q1 q3)), .second, .val (.long (v0_100 q0 q1 q3)), .second, .val (.long (v0_109 q0 q1 q3)), .second, .val (.long (v0_119 q0 q1 q3)), .second, .val (.long (v0_133 q0 q1 q3)), .second, .val (.long (v0_142 q0 q1 q3)), .second, .val (.long (v0_152 q0 q1 q3)), .second, .val (.long (v0_169 q0 q1 q2 q3)), .second, .val (.long (v0_178 q0 q1 q2 q3)), .second, .unset, .unset, .unset, .unset] [(.int (16 : Int32)), (.long (v0_142 q0 q1 q3)), (.long (((v0_76 q0 q1 q3) <<< ((48 : Int32) &&& 0x3f).toInt64) + ((v0_109 q0 q1 q3) <<< ((32 : Int32) &&& 0x3f).toInt64)))])) _
    refine XS.lshl X12.here hx rfl (hb hby at_195) rfl ?_
    show Steps p.tables e below (T12.setTop (mkF m 196 #[.val (.long q0), .second, .val (.long q1), .second, .val (.long q2), .second, .val (.long q3), .second, .val (.long (v0_9 q0)), .second, .val (.long (v0_19 q3)), .second, .val (.long (v0_27 q2)), .second, .val (.long (v0_33 q1)), .second, .val (.long (v0_43 q1)), .second, .val (.long (v0_53 q1)), .second, .val (.long (v0_60 q1)), .second, .val (.long (v0_67 q0 q1)), .second, .val (.long (v0_76 q0 q1 q3)), .second, .val (.long (v0_86 q0 q1 q3)), .second, .val (.long (v0_100 q0 q1 q3)), .second, .val (.long (v0_109 q0 q1 q3)), .second, .val (.long (v0_119 q0 q1 q3)), .second, .val (.long (v0_133 q0 q1 q3)), .second, .val (.long (v0_142 q0 q1 q3)), .second, .val (.long (v0_152 q0 q1 q3)), .second, .val (.long (v0_169 q0 q1 q2 q3)), .second, .val (.long (v0_178 q0 q1 q2 q3)), .second, .unset, .unset, .unset, .unset] [(.long ((v0_142 q0 q1 q3) <<< ((16 : Int32) &&& 0x3f).toInt64)), (.long (((v0_76 q0 q1 q3) <<< ((48 : Int32) &&& 0x3f).toInt64) + ((v0_109 q0 q1 q3) <<< ((32 : Int32) &&& 0x3f).toInt64)))])) _
    refine XS.ladd X12.here hx rfl (hb hby at_196) rfl ?_
    show Steps p.tables e below (T12.setTop (mkF m 197 #[.val (.long q0), .second, .val (.long q1), .second, .val (.long q2), .second, .val (.long q3), .second, .val (.long (v0_9 q0)), .second, .val (.long (v0_19 q3)), .second, .val (.long (v0_27 q2)), .second, .val (.long (v0_33 q1)), .second, .val (.long (v0_43 q1)), .second, .val (.long (v0_53 q1)), .second, .val (.long (v0_60 q1)), .second, .val (.long (v0_67 q0 q1)), .second, .val (.long (v0_76 q0 q1 q3)), .second, .val (.long (v0_86 q0 q1 q3)), .second, .val (.long (v0_100 q0 q1 q3)), .second, .val (.long (v0_109 q0 q1 q3)), .second, .val (.long (v0_119 q0 q1 q3)), .second, .val (.long (v0_133 q0 q1 q3)), .second, .val (.long (v0_142 q0 q1 q3)), .second, .val (.long (v0_152 q0 q1 q3)), .second, .val (.long (v0_169 q0 q1 q2 q3)), .second, .val (.long (v0_178 q0 q1 q2 q3)), .second, .unset, .unset, .unset, .unset] [(.long ((((v0_76 q0 q1 q3) <<< ((48 : Int32) &&& 0x3f).toInt64) + ((v0_109 q0 q1 q3) <<< ((32 : Int32) &&& 0x3f).toInt64)) + ((v0_142 q0 q1 q3) <<< ((16 : Int32) &&& 0x3f).toInt64)))])) _
    refine XS.lload X12.here hx rfl (hb hby at_197) rfl ?_
    show Steps p.tables e below (T12.setTop (mkF m 199 #[.val (.long q0), .second, .val (.long q1), .second, .val (.long q2), .second, .val (.long q3), .second, .val (.long (v0_9 q0)), .second, .val (.long (v0_19 q3)), .second, .val (.long (v0_27 q2)), .second, .val (.long (v0_33 q1)), .second, .val (.long (v0_43 q1)), .second, .val (.long (v0_53 q1)), .second, .val (.long (v0_60 q1)), .second, .val (.long (v0_67 q0 q1)), .second, .val (.long (v0_76 q0 q1 q3)), .second, .val (.long (v0_86 q0 q1 q3)), .second, .val (.long (v0_100 q0 q1 q3)), .second, .val (.long (v0_109 q0 q1 q3)), .second, .val (.long (v0_119 q0 q1 q3)), .second, .val (.long (v0_133 q0 q1 q3)), .second, .val (.long (v0_142 q0 q1 q3)), .second, .val (.long (v0_152 q0 q1 q3)), .second, .val (.long (v0_169 q0 q1 q2 q3)), .second, .val (.long (v0_178 q0 q1 q2 q3)), .second, .unset, .unset, .unset, .unset] [(.long (v0_178 q0 q1 q2 q3)), (.long ((((v0_76 q0 q1 q3) <<< ((48 : Int32) &&& 0x3f).toInt64) + ((v0_109 q0 q1 q3) <<< ((32 : Int32) &&& 0x3f).toInt64)) + ((v0_142 q0 q1 q3) <<< ((16 : Int32) &&& 0x3f).toInt64)))])) _
    refine XS.ladd X12.here hx rfl (hb hby at_199) rfl ?_
    show Steps p.tables e below (T12.setTop (mkF m 200 #[.val (.long q0), .second, .val (.long q1), .second, .val (.long q2), .second, .val (.long q3), .second, .val (.long (v0_9 q0)), .second, .val (.long (v0_19 q3)), .second, .val (.long (v0_27 q2)), .second, .val (.long (v0_33 q1)), .second, .val (.long (v0_43 q1)), .second, .val (.long (v0_53 q1)), .second, .val (.long (v0_60 q1)), .second, .val (.long (v0_67 q0 q1)), .second, .val (.long (v0_76 q0 q1 q3)), .second, .val (.long (v0_86 q0 q1 q3)), .second, .val (.long (v0_100 q0 q1 q3)), .second, .val (.long (v0_109 q0 q1 q3)), .second, .val (.long (v0_119 q0 q1 q3)), .second, .val (.long (v0_133 q0 q1 q3)), .second, .val (.long (v0_142 q0 q1 q3)), .second, .val (.long (v0_152 q0 q1 q3)), .second, .val (.long (v0_169 q0 q1 q2 q3)), .second, .val (.long (v0_178 q0 q1 q2 q3)), .second, .unset, .unset, .unset, .unset] [(.long (((((v0_76 q0 q1 q3) <<< ((48 : Int32) &&& 0x3f).toInt64) + ((v0_109 q0 q1 q3) <<< ((32 : Int32) &&& 0x3f).toInt64)) + ((v0_142 q0 q1 q3) <<< ((16 : Int32) &&& 0x3f).toInt64)) + (v0_178 q0 q1 q2 q3)))])) _
    refine XS.lstore X12.here hx rfl (hb hby at_200) rfl (l' := #[.val (.long q0), .second, .val (.long q1), .second, .val (.long q2), .second, .val (.long q3), .second, .val (.long (v0_9 q0)), .second, .val (.long (v0_19 q3)), .second, .val (.long (v0_27 q2)), .second, .val (.long (v0_33 q1)), .second, .val (.long (v0_43 q1)), .second, .val (.long (v0_53 q1)), .second, .val (.long (v0_60 q1)), .second, .val (.long (v0_67 q0 q1)), .second, .val (.long (v0_76 q0 q1 q3)), .second, .val (.long (v0_86 q0 q1 q3)), .second, .val (.long (v0_100 q0 q1 q3)), .second, .val (.long (v0_109 q0 q1 q3)), .second, .val (.long (v0_119 q0 q1 q3)), .second, .val (.long (v0_133 q0 q1 q3)), .second, .val (.long (v0_142 q0 q1 q3)), .second, .val (.long (v0_152 q0 q1 q3)), .second, .val (.long (v0_169 q0 q1 q2 q3)), .second, .val (.long (v0_178 q0 q1 q2 q3)), .second, .val (.long (v0_200 q0 q1 q2 q3)), .second, .unset, .unset]) rfl ?_
    show Steps p.tables e below (T12.setTop (mkF m 202 #[.val (.long q0), .second, .val (.long q1), .second, .val (.long q2), .second, .val (.long q3), .second, .val (.long (v0_9 q0)), .second, .val (.long (v0_19 q3)), .second, .val (.long (v0_27 q2)), .second, .val (.long (v0_33 q1)), .second, .val (.long (v0_43 q1)), .second, .val (.long (v0_53 q1)), .second, .val (.long (v0_60 q1)), .second, .val (.long (v0_67 q0 q1)), .second, .val (.long (v0_76 q0 q1 q3)), .second, .val (.long (v0_86 q0 q1 q3)), .second, .val (.long (v0_100 q0 q1 q3)), .second, .val (.long (v0_109 q0 q1 q3)), .second, .val (.long (v0_119 q0 q1 q3)), .second, .val (.long (v0_133 q0 q1 q3)), .second, .val (.long (v0_142 q0 q1 q3)), .second, .val (.long (v0_152 q0 q1 q3)), .second, .val (.long (v0_169 q0 q1 q2 q3)), .second, .val (.long (v0_178 q0 q1 q2 q3)), .second, .val (.long (v0_200 q0 q1 q2 q3)), .second, .unset, .unset] [])) _
    refine XS.lload X12.here hx rfl (hb hby at_202) rfl ?_
    show Steps p.tables e below (T12.setTop (mkF m 204 #[.val (.long q0), .second, .val (.long q1), .second, .val (.long q2), .second, .val (.long q3), .second, .val (.long (v0_9 q0)), .second, .val (.long (v0_19 q3)), .second, .val (.long (v0_27 q2)), .second, .val (.long (v0_33 q1)), .second, .val (.long (v0_43 q1)), .second, .val (.long (v0_53 q1)), .second, .val (.long (v0_60 q1)), .second, .val (.long (v0_67 q0 q1)), .second, .val (.long (v0_76 q0 q1 q3)), .second, .val (.long (v0_86 q0 q1 q3)), .second, .val (.long (v0_100 q0 q1 q3)), .second, .val (.long (v0_109 q0 q1 q3)), .second, .val (.long (v0_119 q0 q1 q3)), .second, .val (.long (v0_133 q0 q1 q3)), .second, .val (.long (v0_142 q0 q1 q3)), .second, .val (.long (v0_152 q0 q1 q3)), .second, .val (.long (v0_169 q0 q1 q2 q3)), .second, .val (.long (v0_178 q0 q1 q2 q3)), .second, .val (.long (v0_200 q0 q1 q2 q3)), .second, .unset, .unset] [(.long (v0_9 q0))])) _
    refine XS.lloadN X12.here hx rfl (hb hby at_204) rfl ?_
    show Steps p.tables e below (T12.setTop (mkF m 205 #[.val (.long q0), .second, .val (.long q1), .second, .val (.long q2), .second, .val (.long q3), .second, .val (.long (v0_9 q0)), .second, .val (.long (v0_19 q3)), .second, .val (.long (v0_27 q2)), .second, .val (.long (v0_33 q1)), .second, .val (.long (v0_43 q1)), .second, .val (.long (v0_53 q1)), .second, .val (.long (v0_60 q1)), .second, .val (.long (v0_67 q0 q1)), .second, .val (.long (v0_76 q0 q1 q3)), .second, .val (.long (v0_86 q0 q1 q3)), .second, .val (.long (v0_100 q0 q1 q3)), .second, .val (.long (v0_109 q0 q1 q3)), .second, .val (.long (v0_119 q0 q1 q3)), .second, .val (.long (v0_133 q0 q1 q3)), .second, .val (.long (v0_142 q0 q1 q3)), .second, .val (.long (v0_152 q0 q1 q3)), .second, .val (.long (v0_169 q0 q1 q2 q3)), .second, .val (.long (v0_178 q0 q1 q2 q3)), .second, .val (.long (v0_200 q0 q1 q2 q3)), .second, .unset, .unset] [(.long q1), (.long (v0_9 q0))])) _
    refine XS.lload X12.here hx rfl (hb hby at_205) rfl ?_
    show Steps p.tables e below (T12.setTop (mkF m 207 #[.val (.long q0), .second, .val (.long q1), .second, .val (.long q2), .second, .val (.long q3), .second, .val (.long (v0_9 q0)), .second, .val (.long (v0_19 q3)), .second, .val (.long (v0_27 q2)), .second, .val (.long (v0_33 q1)), .second, .val (.long (v0_43 q1)), .second, .val (.long (v0_53 q1)), .second, .val (.long (v0_60 q1)), .second, .val (.long (v0_67 q0 q1)), .second, .val (.long (v0_76 q0 q1 q3)), .second, .val (.long (v0_86 q0 q1 q3)), .second, .val (.long (v0_100 q0 q1 q3)), .second, .val (.long (v0_109 q0 q1 q3)), .second, .val (.long (v0_119 q0 q1 q3)), .second, .val (.long (v0_133 q0 q1 q3)), .second, .val (.long (v0_142 q0 q1 q3)), .second, .val (.long (v0_152 q0 q1 q3)), .second, .val (.long (v0_169 q0 q1 q2 q3)), .second, .val (.long (v0_178 q0 q1 q2 q3)), .second, .val (.long (v0_200 q0 q1 q2 q3)), .second, .unset, .unset] [(.long (v0_27 q2)), (.long q1), (.long (v0_9 q0))])) _
    refine XS.lload X12.here hx rfl (hb hby at_207) rfl ?_
    exact k)
  obtain ⟨_, _, ⟨T15, L15, k15, n15⟩, -, X15, ⟨Lc15, hQ15, l15, y15, z15⟩, st15⟩ := Jvm.LawKit.callS X12 hx (y := (⟨"com/example/stint/stint/limit/Exact", "floorOfProduct", "(JJJJ)J"⟩ : MethodName)) hown (mvT hZ (hw _ (List.mem_of_getElem? (i := 10) rfl))) (mvT hZ (hw _ (List.mem_of_getElem? (i := 11) rfl))) (mvT hZ (hw _ (List.mem_of_getElem? (i := 12) rfl))) (mvT hZ (hw _ (List.mem_of_getElem? (i := 13) rfl))) (by decide) (backOf (W := 0) (rm2 l Z a0 hw [] (v0_9 q0) q1 (v0_27 q2) (v0_19 q3) h0 n0 Z0 (own_nz q3)) hZ (hw _ (List.mem_of_getElem? (i := 13) rfl)) (hw _ (List.mem_of_getElem? (i := 12) rfl)) (by decide) (by decide)) (g := (mkF m 209 #[.val (.long q0), .second, .val (.long q1), .second, .val (.long q2), .second, .val (.long q3), .second, .val (.long (v0_9 q0)), .second, .val (.long (v0_19 q3)), .second, .val (.long (v0_27 q2)), .second, .val (.long (v0_33 q1)), .second, .val (.long (v0_43 q1)), .second, .val (.long (v0_53 q1)), .second, .val (.long (v0_60 q1)), .second, .val (.long (v0_67 q0 q1)), .second, .val (.long (v0_76 q0 q1 q3)), .second, .val (.long (v0_86 q0 q1 q3)), .second, .val (.long (v0_100 q0 q1 q3)), .second, .val (.long (v0_109 q0 q1 q3)), .second, .val (.long (v0_119 q0 q1 q3)), .second, .val (.long (v0_133 q0 q1 q3)), .second, .val (.long (v0_142 q0 q1 q3)), .second, .val (.long (v0_152 q0 q1 q3)), .second, .val (.long (v0_169 q0 q1 q2 q3)), .second, .val (.long (v0_178 q0 q1 q2 q3)), .second, .val (.long (v0_200 q0 q1 q2 q3)), .second, .unset, .unset] [(.long (v0_19 q3)), (.long (v0_27 q2)), (.long q1), (.long (v0_9 q0))])) rfl (by rw [hml]; rfl) (argsL := [(.long (v0_9 q0)), (.long q1), (.long (v0_27 q2)), (.long (v0_19 q3))]) (rest := []) (lenOf pd__JJJJ_J rfl) rfl (by show 2 * 0 + _ ≤ _; exact Nat.le_of_eq rfl) (hb hby at_209) (fun _ _ => ⟨rfl, e12, (by decide : 0 + 0 ≤ _), (by decide : 0 + 0 ≤ _)⟩)
  dsimp only [Pt.U, Pt.locs, Pt.cells, Pt.slots] at X15 l15 y15 z15 st15 hQ15
  subst l15 y15 z15
  obtain ⟨rfl, Nq15, e15⟩ := hQ15
  have N15 := Fr.app N12 Nq15
  have pre16 : ∀ t, Steps p.tables e below (T15.setTop (mkF m 212 #[.val (.long q0), .second, .val (.long q1), .second, .val (.long q2), .second, .val (.long q3), .second, .val (.long (v0_9 q0)), .second, .val (.long (v0_19 q3)), .second, .val (.long (v0_27 q2)), .second, .val (.long (v0_33 q1)), .second, .val (.long (v0_43 q1)), .second, .val (.long (v0_53 q1)), .second, .val (.long (v0_60 q1)), .second, .val (.long (v0_67 q0 q1)), .second, .val (.long (v0_76 q0 q1 q3)), .second, .val (.long (v0_86 q0 q1 q3)), .second, .val (.long (v0_100 q0 q1 q3)), .second, .val (.long (v0_109 q0 q1 q3)), .second, .val (.long (v0_119 q0 q1 q3)), .second, .val (.long (v0_133 q0 q1 q3)), .second, .val (.long (v0_142 q0 q1 q3)), .second, .val (.long (v0_152 q0 q1 q3)), .second, .val (.long (v0_169 q0 q1 q2 q3)), .second, .val (.long (v0_178 q0 q1 q2 q3)), .second, .val (.long (v0_200 q0 q1 q2 q3)), .second, .unset, .unset] [(.long (f2 (v0_9 q0) q1 (v0_27 q2) (v0_19 q3)))])) t → Steps p.tables e below (s₁.setTop (entryFrame m #[(.long q0), (.long q1), (.long q2), (.long q3)] maxLocals)) t := fun t k => pre14 t (st15 _ k)
  have pre17 : ∀ t, Steps p.tables e below (T15.setTop (mkF m 219 #[.val (.long q0), .second, .val (.long q1), .second, .val (.long q2), .second, .val (.long q3), .second, .val (.long (v0_9 q0)), .second, .val (.long (v0_19 q3)), .second, .val (.long (v0_27 q2)), .second, .val (.long (v0_33 q1)), .second, .val (.long (v0_43 q1)), .second, .val (.long (v0_53 q1)), .second, .val (.long (v0_60 q1)), .second, .val (.long (v0_67 q0 q1)), .second, .val (.long (v0_76 q0 q1 q3)), .second, .val (.long (v0_86 q0 q1 q3)), .second, .val (.long (v0_100 q0 q1 q3)), .second, .val (.long (v0_109 q0 q1 q3)), .second, .val (.long (v0_119 q0 q1 q3)), .second, .val (.long (v0_133 q0 q1 q3)), .second, .val (.long (v0_142 q0 q1 q3)), .second, .val (.long (v0_152 q0 q1 q3)), .second, .val (.long (v0_169 q0 q1 q2 q3)), .second, .val (.long (v0_178 q0 q1 q2 q3)), .second, .val (.long (v0_200 q0 q1 q2 q3)), .second, .val (.long (v0_212 q0 q1 q2 q3)), .second] [(.int (lcmpW (v0_212 q0 q1 q2 q3) (v0_200 q0 q1 q2 q3)))])) t → Steps p.tables e below (s₁.setTop (entryFrame m #[(.long q0), (.long q1), (.long q2), (.long q3)] maxLocals)) t := fun t k => pre16 t (by
    show Steps p.tables e below (T15.setTop (mkF m 212 #[.val (.long q0), .second, .val (.long q1), .second, .val (.long q2), .second, .val (.long q3), .second, .val (.long (v0_9 q0)), .second, .val (.long (v0_19 q3)), .second, .val (.long (v0_27 q2)), .second, .val (.long (v0_33 q1)), .second, .val (.long (v0_43 q1)), .second, .val (.long (v0_53 q1)), .second, .val (.long (v0_60 q1)), .second, .val (.long (v0_67 q0 q1)), .second, .val (.long (v0_76 q0 q1 q3)), .second, .val (.long (v0_86 q0 q1 q3)), .second, .val (.long (v0_100 q0 q1 q3)), .second, .val (.long (v0_109 q0 q1 q3)), .second, .val (.long (v0_119 q0 q1 q3)), .second, .val (.long (v0_133 q0 q1 q3)), .second, .val (.long (v0_142 q0 q1 q3)), .second, .val (.long (v0_152 q0 q1 q3)), .second, .val (.long (v0_169 q0 q1 q2 q3)), .second, .val (.long (v0_178 q0 q1 q2 q3)), .second, .val (.long (v0_200 q0 q1 q2 q3)), .second, .unset, .unset] [(.long (f2 (v0_9 q0) q1 (v0_27 q2) (v0_19 q3)))])) _
    refine XS.lstore X15.here hx rfl (hb hby at_212) rfl (l' := #[.val (.long q0), .second, .val (.long q1), .second, .val (.long q2), .second, .val (.long q3), .second, .val (.long (v0_9 q0)), .second, .val (.long (v0_19 q3)), .second, .val (.long (v0_27 q2)), .second, .val (.long (v0_33 q1)), .second, .val (.long (v0_43 q1)), .second, .val (.long (v0_53 q1)), .second, .val (.long (v0_60 q1)), .second, .val (.long (v0_67 q0 q1)), .second, .val (.long (v0_76 q0 q1 q3)), .second, .val (.long (v0_86 q0 q1 q3)), .second, .val (.long (v0_100 q0 q1 q3)), .second, .val (.long (v0_109 q0 q1 q3)), .second, .val (.long (v0_119 q0 q1 q3)), .second, .val (.long (v0_133 q0 q1 q3)), .second, .val (.long (v0_142 q0 q1 q3)), .second, .val (.long (v0_152 q0 q1 q3)), .second, .val (.long (v0_169 q0 q1 q2 q3)), .second, .val (.long (v0_178 q0 q1 q2 q3)), .second, .val (.long (v0_200 q0 q1 q2 q3)), .second, .val (.long (v0_212 q0 q1 q2 q3)), .second]) rfl ?_
    show Steps p.tables e below (T15.setTop (mkF m 214 #[.val (.long q0), .second, .val (.long q1), .second, .val (.long q2), .second, .val (.long q3), .second, .val (.long (v0_9 q0)), .second, .val (.long (v0_19 q3)), .second, .val (.long (v0_27 q2)), .second, .val (.long (v0_33 q1)), .second, .val (.long (v0_43 q1)), .second, .val (.long (v0_53 q1)), .second, .val (.long (v0_60 q1)), .second, .val (.long (v0_67 q0 q1)), .second, .val (.long (v0_76 q0 q1 q3)), .second, .val (.long (v0_86 q0 q1 q3)), .second, .val (.long (v0_100 q0 q1 q3)), .second, .val (.long (v0_109 q0 q1 q3)), .second, .val (.long (v0_119 q0 q1 q3)), .second, .val (.long (v0_133 q0 q1 q3)), .second, .val (.long (v0_142 q0 q1 q3)), .second, .val (.long (v0_152 q0 q1 q3)), .second, .val (.long (v0_169 q0 q1 q2 q3)), .second, .val (.long (v0_178 q0 q1 q2 q3)), .second, .val (.long (v0_200 q0 q1 q2 q3)), .second, .val (.long (v0_212 q0 q1 q2 q3)), .second] [])) _
    refine XS.lload X15.here hx rfl (hb hby at_214) rfl ?_
    show Steps p.tables e below (T15.setTop (mkF m 216 #[.val (.long q0), .second, .val (.long q1), .second, .val (.long q2), .second, .val (.long q3), .second, .val (.long (v0_9 q0)), .second, .val (.long (v0_19 q3)), .second, .val (.long (v0_27 q2)), .second, .val (.long (v0_33 q1)), .second, .val (.long (v0_43 q1)), .second, .val (.long (v0_53 q1)), .second, .val (.long (v0_60 q1)), .second, .val (.long (v0_67 q0 q1)), .second, .val (.long (v0_76 q0 q1 q3)), .second, .val (.long (v0_86 q0 q1 q3)), .second, .val (.long (v0_100 q0 q1 q3)), .second, .val (.long (v0_109 q0 q1 q3)), .second, .val (.long (v0_119 q0 q1 q3)), .second, .val (.long (v0_133 q0 q1 q3)), .second, .val (.long (v0_142 q0 q1 q3)), .second, .val (.long (v0_152 q0 q1 q3)), .second, .val (.long (v0_169 q0 q1 q2 q3)), .second, .val (.long (v0_178 q0 q1 q2 q3)), .second, .val (.long (v0_200 q0 q1 q2 q3)), .second, .val (.long (v0_212 q0 q1 q2 q3)), .second] [(.long (v0_212 q0 q1 q2 q3))])) _
    refine XS.lload X15.here hx rfl (hb hby at_216) rfl ?_
    show Steps p.tables e below (T15.setTop (mkF m 218 #[.val (.long q0), .second, .val (.long q1), .second, .val (.long q2), .second, .val (.long q3), .second, .val (.long (v0_9 q0)), .second, .val (.long (v0_19 q3)), .second, .val (.long (v0_27 q2)), .second, .val (.long (v0_33 q1)), .second, .val (.long (v0_43 q1)), .second, .val (.long (v0_53 q1)), .second, .val (.long (v0_60 q1)), .second, .val (.long (v0_67 q0 q1)), .second, .val (.long (v0_76 q0 q1 q3)), .second, .val (.long (v0_86 q0 q1 q3)), .second, .val (.long (v0_100 q0 q1 q3)), .second, .val (.long (v0_109 q0 q1 q3)), .second, .val (.long (v0_119 q0 q1 q3)), .second, .val (.long (v0_133 q0 q1 q3)), .second, .val (.long (v0_142 q0 q1 q3)), .second, .val (.long (v0_152 q0 q1 q3)), .second, .val (.long (v0_169 q0 q1 q2 q3)), .second, .val (.long (v0_178 q0 q1 q2 q3)), .second, .val (.long (v0_200 q0 q1 q2 q3)), .second, .val (.long (v0_212 q0 q1 q2 q3)), .second] [(.long (v0_200 q0 q1 q2 q3)), (.long (v0_212 q0 q1 q2 q3))])) _
    refine XS.lcmp X15.here hx rfl (hb hby at_218) rfl ?_
    exact k)
  by_cases hc219_1 : (v0_212 q0 q1 q2 q3) = (v0_200 q0 q1 q2 q3)
  · have pre18 : ∀ t, Steps p.tables e below (T15.setTop (mkF m 227 #[.val (.long q0), .second, .val (.long q1), .second, .val (.long q2), .second, .val (.long q3), .second, .val (.long (v0_9 q0)), .second, .val (.long (v0_19 q3)), .second, .val (.long (v0_27 q2)), .second, .val (.long (v0_33 q1)), .second, .val (.long (v0_43 q1)), .second, .val (.long (v0_53 q1)), .second, .val (.long (v0_60 q1)), .second, .val (.long (v0_67 q0 q1)), .second, .val (.long (v0_76 q0 q1 q3)), .second, .val (.long (v0_86 q0 q1 q3)), .second, .val (.long (v0_100 q0 q1 q3)), .second, .val (.long (v0_109 q0 q1 q3)), .second, .val (.long (v0_119 q0 q1 q3)), .second, .val (.long (v0_133 q0 q1 q3)), .second, .val (.long (v0_142 q0 q1 q3)), .second, .val (.long (v0_152 q0 q1 q3)), .second, .val (.long (v0_169 q0 q1 q2 q3)), .second, .val (.long (v0_178 q0 q1 q2 q3)), .second, .val (.long (v0_200 q0 q1 q2 q3)), .second, .val (.long (v0_212 q0 q1 q2 q3)), .second] [(.int (1 : Int32))])) t → Steps p.tables e below (s₁.setTop (entryFrame m #[(.long q0), (.long q1), (.long q2), (.long q3)] maxLocals)) t := fun t k => pre17 t (by
      show Steps p.tables e below (T15.setTop (mkF m 219 #[.val (.long q0), .second, .val (.long q1), .second, .val (.long q2), .second, .val (.long q3), .second, .val (.long (v0_9 q0)), .second, .val (.long (v0_19 q3)), .second, .val (.long (v0_27 q2)), .second, .val (.long (v0_33 q1)), .second, .val (.long (v0_43 q1)), .second, .val (.long (v0_53 q1)), .second, .val (.long (v0_60 q1)), .second, .val (.long (v0_67 q0 q1)), .second, .val (.long (v0_76 q0 q1 q3)), .second, .val (.long (v0_86 q0 q1 q3)), .second, .val (.long (v0_100 q0 q1 q3)), .second, .val (.long (v0_109 q0 q1 q3)), .second, .val (.long (v0_119 q0 q1 q3)), .second, .val (.long (v0_133 q0 q1 q3)), .second, .val (.long (v0_142 q0 q1 q3)), .second, .val (.long (v0_152 q0 q1 q3)), .second, .val (.long (v0_169 q0 q1 q2 q3)), .second, .val (.long (v0_178 q0 q1 q2 q3)), .second, .val (.long (v0_200 q0 q1 q2 q3)), .second, .val (.long (v0_212 q0 q1 q2 q3)), .second] [(.int (lcmpW (v0_212 q0 q1 q2 q3) (v0_200 q0 q1 q2 q3)))])) _
      refine XS.ifNo X15.here hx rfl (hb hby at_219) rfl ((if0 _ _).trans (teq ((lw_eq _ _).mpr hc219_1)).2) ?_
      show Steps p.tables e below (T15.setTop (mkF m 222 #[.val (.long q0), .second, .val (.long q1), .second, .val (.long q2), .second, .val (.long q3), .second, .val (.long (v0_9 q0)), .second, .val (.long (v0_19 q3)), .second, .val (.long (v0_27 q2)), .second, .val (.long (v0_33 q1)), .second, .val (.long (v0_43 q1)), .second, .val (.long (v0_53 q1)), .second, .val (.long (v0_60 q1)), .second, .val (.long (v0_67 q0 q1)), .second, .val (.long (v0_76 q0 q1 q3)), .second, .val (.long (v0_86 q0 q1 q3)), .second, .val (.long (v0_100 q0 q1 q3)), .second, .val (.long (v0_109 q0 q1 q3)), .second, .val (.long (v0_119 q0 q1 q3)), .second, .val (.long (v0_133 q0 q1 q3)), .second, .val (.long (v0_142 q0 q1 q3)), .second, .val (.long (v0_152 q0 q1 q3)), .second, .val (.long (v0_169 q0 q1 q2 q3)), .second, .val (.long (v0_178 q0 q1 q2 q3)), .second, .val (.long (v0_200 q0 q1 q2 q3)), .second, .val (.long (v0_212 q0 q1 q2 q3)), .second] [])) _
      refine XS.iconst X15.here hx rfl (hb hby at_222) ?_
      show Steps p.tables e below (T15.setTop (mkF m 223 #[.val (.long q0), .second, .val (.long q1), .second, .val (.long q2), .second, .val (.long q3), .second, .val (.long (v0_9 q0)), .second, .val (.long (v0_19 q3)), .second, .val (.long (v0_27 q2)), .second, .val (.long (v0_33 q1)), .second, .val (.long (v0_43 q1)), .second, .val (.long (v0_53 q1)), .second, .val (.long (v0_60 q1)), .second, .val (.long (v0_67 q0 q1)), .second, .val (.long (v0_76 q0 q1 q3)), .second, .val (.long (v0_86 q0 q1 q3)), .second, .val (.long (v0_100 q0 q1 q3)), .second, .val (.long (v0_109 q0 q1 q3)), .second, .val (.long (v0_119 q0 q1 q3)), .second, .val (.long (v0_133 q0 q1 q3)), .second, .val (.long (v0_142 q0 q1 q3)), .second, .val (.long (v0_152 q0 q1 q3)), .second, .val (.long (v0_169 q0 q1 q2 q3)), .second, .val (.long (v0_178 q0 q1 q2 q3)), .second, .val (.long (v0_200 q0 q1 q2 q3)), .second, .val (.long (v0_212 q0 q1 q2 q3)), .second] [(.int (1 : Int32))])) _
      refine XS.goto X15.here hx rfl (pc0 := 223) (pc' := 227) rfl (hb hby at_223) (by decide) (by decide) ?_
      exact k)
    obtain ⟨fs, hr, hrun, hended, hW, hsame⟩ := X15.leave (v := some (.int (1 : Int32))) (fun h => by rw [Bd.returns] at h; cases h)
    refine ⟨_, _, ?_, hrun, hended, _, _, rfl, ?_, ⟨_, rfl⟩, hW, hsame.mono (by decide) (by decide)⟩
    · exact pre18 _ (retN X15 hx (t := .boolean) Bd.returns (by simp) (hb hby at_227) hr)
    · exact ⟨by simp only [f0, if_pos hc219_1], N15, trivial⟩
  · have pre19 : ∀ t, Steps p.tables e below (T15.setTop (mkF m 227 #[.val (.long q0), .second, .val (.long q1), .second, .val (.long q2), .second, .val (.long q3), .second, .val (.long (v0_9 q0)), .second, .val (.long (v0_19 q3)), .second, .val (.long (v0_27 q2)), .second, .val (.long (v0_33 q1)), .second, .val (.long (v0_43 q1)), .second, .val (.long (v0_53 q1)), .second, .val (.long (v0_60 q1)), .second, .val (.long (v0_67 q0 q1)), .second, .val (.long (v0_76 q0 q1 q3)), .second, .val (.long (v0_86 q0 q1 q3)), .second, .val (.long (v0_100 q0 q1 q3)), .second, .val (.long (v0_109 q0 q1 q3)), .second, .val (.long (v0_119 q0 q1 q3)), .second, .val (.long (v0_133 q0 q1 q3)), .second, .val (.long (v0_142 q0 q1 q3)), .second, .val (.long (v0_152 q0 q1 q3)), .second, .val (.long (v0_169 q0 q1 q2 q3)), .second, .val (.long (v0_178 q0 q1 q2 q3)), .second, .val (.long (v0_200 q0 q1 q2 q3)), .second, .val (.long (v0_212 q0 q1 q2 q3)), .second] [(.int (0 : Int32))])) t → Steps p.tables e below (s₁.setTop (entryFrame m #[(.long q0), (.long q1), (.long q2), (.long q3)] maxLocals)) t := fun t k => pre17 t (by
      show Steps p.tables e below (T15.setTop (mkF m 219 #[.val (.long q0), .second, .val (.long q1), .second, .val (.long q2), .second, .val (.long q3), .second, .val (.long (v0_9 q0)), .second, .val (.long (v0_19 q3)), .second, .val (.long (v0_27 q2)), .second, .val (.long (v0_33 q1)), .second, .val (.long (v0_43 q1)), .second, .val (.long (v0_53 q1)), .second, .val (.long (v0_60 q1)), .second, .val (.long (v0_67 q0 q1)), .second, .val (.long (v0_76 q0 q1 q3)), .second, .val (.long (v0_86 q0 q1 q3)), .second, .val (.long (v0_100 q0 q1 q3)), .second, .val (.long (v0_109 q0 q1 q3)), .second, .val (.long (v0_119 q0 q1 q3)), .second, .val (.long (v0_133 q0 q1 q3)), .second, .val (.long (v0_142 q0 q1 q3)), .second, .val (.long (v0_152 q0 q1 q3)), .second, .val (.long (v0_169 q0 q1 q2 q3)), .second, .val (.long (v0_178 q0 q1 q2 q3)), .second, .val (.long (v0_200 q0 q1 q2 q3)), .second, .val (.long (v0_212 q0 q1 q2 q3)), .second] [(.int (lcmpW (v0_212 q0 q1 q2 q3) (v0_200 q0 q1 q2 q3)))])) _
      refine XS.ifYes X15.here hx rfl (pc0 := 219) (pc' := 226) rfl (hb hby at_219) rfl ((if0 _ _).trans (feq (fun q => hc219_1 ((lw_eq _ _).mp q))).2) (by decide) (by decide) ?_
      show Steps p.tables e below (T15.setTop (mkF m 226 #[.val (.long q0), .second, .val (.long q1), .second, .val (.long q2), .second, .val (.long q3), .second, .val (.long (v0_9 q0)), .second, .val (.long (v0_19 q3)), .second, .val (.long (v0_27 q2)), .second, .val (.long (v0_33 q1)), .second, .val (.long (v0_43 q1)), .second, .val (.long (v0_53 q1)), .second, .val (.long (v0_60 q1)), .second, .val (.long (v0_67 q0 q1)), .second, .val (.long (v0_76 q0 q1 q3)), .second, .val (.long (v0_86 q0 q1 q3)), .second, .val (.long (v0_100 q0 q1 q3)), .second, .val (.long (v0_109 q0 q1 q3)), .second, .val (.long (v0_119 q0 q1 q3)), .second, .val (.long (v0_133 q0 q1 q3)), .second, .val (.long (v0_142 q0 q1 q3)), .second, .val (.long (v0_152 q0 q1 q3)), .second, .val (.long (v0_169 q0 q1 q2 q3)), .second, .val (.long (v0_178 q0 q1 q2 q3)), .second, .val (.long (v0_200 q0 q1 q2 q3)), .second, .val (.long (v0_212 q0 q1 q2 q3)), .second] [])) _
      refine XS.iconst X15.here hx rfl (hb hby at_226) ?_
      exact k)
    obtain ⟨fs, hr, hrun, hended, hW, hsame⟩ := X15.leave (v := some (.int (0 : Int32))) (fun h => by rw [Bd.returns] at h; cases h)
    refine ⟨_, _, ?_, hrun, hended, _, _, rfl, ?_, ⟨_, rfl⟩, hW, hsame.mono (by decide) (by decide)⟩
    · exact pre19 _ (retN X15 hx (t := .boolean) Bd.returns (by simp) (hb hby at_227) hr)
    · exact ⟨by simp only [f0, if_neg hc219_1], N15, trivial⟩
theorem own_same {S1 S2 d N : Int} (hd : 0 < d) (a1 : 0 ≤ N - S1 * d) (a2 : N - S1 * d < d) (b1 : 0 ≤ N - S2 * d) (b2 : N - S2 * d < d) : S1 = S2 := by
  rcases Int.lt_trichotomy S1 S2 with h | h | h
  · have := Int.mul_le_mul_of_nonneg_right (show S1 + 1 ≤ S2 by omega) (Int.le_of_lt hd)
    rw [Int.add_mul] at this; omega
  · exact h
  · have := Int.mul_le_mul_of_nonneg_right (show S2 + 1 ≤ S1 by omega) (Int.le_of_lt hd)
    rw [Int.add_mul] at this; omega
theorem own_fl (x d : Int) (hd : 0 < d) : 0 ≤ x - x / d * d ∧ x - x / d * d < d := by
  have h1 := Int.emod_nonneg x (Int.ne_of_gt hd)
  have h2 := Int.emod_lt_of_pos x hd
  have h3 := Int.mul_ediv_add_emod x d
  rw [Int.mul_comm] at h3
  omega
theorem own_mul (x y : Int64) (a b : Nat) (hx : x.toInt.natAbs ≤ a) (hy : y.toInt.natAbs ≤ b) (hab : a * b < 9223372036854775808) : (x * y).toInt = x.toInt * y.toInt ∧ (x.toInt * y.toInt).natAbs ≤ a * b := by
  have h1 : (x.toInt * y.toInt).natAbs ≤ a * b := by rw [Int.natAbs_mul]; exact Nat.mul_le_mul hx hy
  have h2 := c_lmul x y
  have h3 := rng64 (x * y)
  generalize x.toInt * y.toInt = u at *
  generalize a * b = c at *
  refine ⟨?_, h1⟩
  omega
theorem own_ne1 {y : Int64} (h : 0 < y.toInt) : y ≠ -1 := fun e => by rw [e] at h; exact absurd h (by decide)
theorem own_f1 (x y : Int64) (hy : 0 < y.toInt) (hx : x.toInt.natAbs < 4611686018427387904) : 0 ≤ x.toInt - (f1 x y).toInt * y.toInt ∧ x.toInt - (f1 x y).toInt * y.toInt < y.toInt := by
  have hd := c_ldiv x y _ rfl (own_ne1 hy)
  have hr := c_lrem x y _ rfl
  have hs := c_lsub (x / y) 1
  have h1 : (1 : Int64).toInt = 1 := rfl
  have rs := rng64 (x / y - 1)
  have e : (f1 x y).toInt = if (x - x / y * y).toInt < 0 then (x / y - 1).toInt else (x / y).toInt := by
    simp only [f1, v1_19_l4, Int64.lt_iff_toInt_lt, show (0 : Int64).toInt = 0 from rfl]
    split <;> rfl
  rw [e]
  have hf := own_fl x.toInt _ hy
  have hg := own_fl (-x.toInt) _ hy
  have m1 := Int.mul_ediv_add_emod (-x.toInt) y.toInt
  have m2 := Int.emod_nonneg (-x.toInt) (Int.ne_of_gt hy)
  have m3 := Int.emod_lt_of_pos (-x.toInt) hy
  rw [Int.mul_comm] at m1
  by_cases p : 0 ≤ x.toInt
  · have k1 := hr.1 p
    have k2 := hd.1 p
    have k3 := Int.emod_nonneg x.toInt (Int.ne_of_gt hy)
    rw [if_neg (by omega), k2]
    exact hf
  · have k1 := hr.2 (by omega)
    have k2 := hd.2 (by omega)
    have k4 : (-x.toInt) / y.toInt ≤ -x.toInt := Int.ediv_le_self _ (by omega)
    have k5 : 0 ≤ (-x.toInt) / y.toInt := Int.ediv_nonneg (by omega) (by omega)
    rw [k1, k2]
    by_cases q : -(-x.toInt % y.toInt) < 0
    · rw [if_pos q]
      have k3 : (x / y - 1).toInt = -((-x.toInt) / y.toInt) - 1 := by omega
      rw [k3, Int.sub_mul, Int.neg_mul]
      generalize -x.toInt / y.toInt * y.toInt = z at *
      omega
    · rw [if_neg q, Int.neg_mul]
      generalize -x.toInt / y.toInt * y.toInt = z at *
      omega
theorem own_f3 (x y : Int64) (hy : 0 < y.toInt) (hx : x.toInt.natAbs < 4611686018427387904) : 0 ≤ x.toInt - (f3 x y).toInt * y.toInt ∧ x.toInt - (f3 x y).toInt * y.toInt < y.toInt := by
  have hd := c_ldiv x y _ rfl (own_ne1 hy)
  have hs := c_lsub (x / y) 1
  have h1 : (1 : Int64).toInt = 1 := rfl
  have rs := rng64 (x / y - 1)
  have hxo := c_xorSL x y
  have e : (f3 x y).toInt = if (x ^^^ y).toInt < 0 then (if (x / y * y).toInt = x.toInt then (x / y).toInt else (x / y - 1).toInt) else (x / y).toInt := by
    simp only [f3, Int64.lt_iff_toInt_lt, ← Int64.toInt_inj (x := x / y * y), show (0 : Int64).toInt = 0 from rfl]
    split
    · split <;> rfl
    · rfl
  rw [e]
  have hf := own_fl x.toInt _ hy
  have m1 := Int.mul_ediv_add_emod (-x.toInt) y.toInt
  have m2 := Int.emod_nonneg (-x.toInt) (Int.ne_of_gt hy)
  have m3 := Int.emod_lt_of_pos (-x.toInt) hy
  rw [Int.mul_comm] at m1
  by_cases p : 0 ≤ x.toInt
  · have k2 := hd.1 p
    have k3 := hxo.2.2.2 p (by omega)
    rw [if_neg (by omega), k2]
    exact hf
  · have k2 := hd.2 (by omega)
    have k4 : (-x.toInt) / y.toInt ≤ -x.toInt := Int.ediv_le_self _ (by omega)
    have k5 : 0 ≤ (-x.toInt) / y.toInt := Int.ediv_nonneg (by omega) (by omega)
    have k6 := hxo.2.1 (by omega) (by omega)
    have k8 : 0 ≤ -x.toInt / y.toInt * y.toInt := Int.mul_nonneg k5 (by omega)
    have k7 : (x / y * y).toInt = -(-x.toInt / y.toInt * y.toInt) := by
      have c := c_lmul (x / y) y
      have r := rng64 (x / y * y)
      rw [k2, Int.neg_mul] at c
      generalize -x.toInt / y.toInt * y.toInt = z at *
      omega
    rw [if_pos k6, k7, k2]
    have k3 : (x / y - 1).toInt = -((-x.toInt) / y.toInt) - 1 := by omega
    rw [k3]
    by_cases q : -(-x.toInt / y.toInt * y.toInt) = x.toInt
    · rw [if_pos q, Int.neg_mul]
      generalize -x.toInt / y.toInt * y.toInt = z at *
      omega
    · rw [if_neg q, Int.sub_mul, Int.neg_mul]
      generalize -x.toInt / y.toInt * y.toInt = z at *
      omega

theorem own_int {F M A d c3 c2 c1 c0 q3 q2 q1 q0 fh fl qm r qq w : Int} (hd : 0 < d)
    (hM : M = c3 * 281474976710656 + c2 * 4294967296 + c1 * 65536 + c0)
    (h1 : 0 ≤ (((F * c3 - q3 * d) * 65536 + F * c2 - q2 * d) * 65536 + F * c1 - q1 * d) * 65536 + F * c0 + A - q0 * d)
    (h2 : (((F * c3 - q3 * d) * 65536 + F * c2 - q2 * d) * 65536 + F * c1 - q1 * d) * 65536 + F * c0 + A - q0 * d < d)
    (hF : F = fh * 32768 + fl) (hm : M = qm * d + r)
    (u1 : 0 ≤ (r * fh - qq * d) * 32768 + r * fl + A - w * d) (u2 : (r * fh - qq * d) * 32768 + r * fl + A - w * d < d) :
    qm * F + qq * 32768 + w = q3 * 281474976710656 + q2 * 4294967296 + q1 * 65536 + q0 := by
  have e1 : (((F * c3 - q3 * d) * 65536 + F * c2 - q2 * d) * 65536 + F * c1 - q1 * d) * 65536 + F * c0 + A - q0 * d = (F * M + A) - (q3 * 281474976710656 + q2 * 4294967296 + q1 * 65536 + q0) * d := by
    rw [hM]; grind
  have e2 : (r * fh - qq * d) * 32768 + r * fl + A - w * d = (F * M + A) - (qm * F + qq * 32768 + w) * d := by
    rw [hm, hF]; grind
  rw [e1] at h1 h2
  rw [e2] at u1 u2
  exact own_same hd u1 u2 h1 h2
theorem own_step (x y : Int64) (hy : 0 < y.toInt) (hx : x.toInt.natAbs < 4611686018427387904) (hy2 : y.toInt ≤ 34359738368) : (x - f1 x y * y).toInt = x.toInt - (f1 x y).toInt * y.toInt ∧ 0 ≤ x.toInt - (f1 x y).toInt * y.toInt ∧ x.toInt - (f1 x y).toInt * y.toInt < y.toInt := by
  have h := own_f1 x y hy hx
  have c := c_lmul (f1 x y) y
  have r := rng64 (f1 x y * y)
  have c' := c_lsub x (f1 x y * y)
  have r' := rng64 (x - f1 x y * y)
  generalize (f1 x y).toInt * y.toInt = z at *
  refine ⟨?_, h.1, h.2⟩
  omega
theorem own_tdiv (x y : Int64) (hy : 0 < y.toInt) : (x - x / y * y).toInt = x.toInt - (x / y).toInt * y.toInt ∧ (x.toInt - (x / y).toInt * y.toInt).natAbs < y.toInt.natAbs := by
  have hd := c_ldiv x y _ rfl (own_ne1 hy)
  have hr := c_lrem x y _ rfl
  have m1 := Int.mul_ediv_add_emod (-x.toInt) y.toInt
  have m2 := Int.emod_nonneg (-x.toInt) (Int.ne_of_gt hy)
  have m3 := Int.emod_lt_of_pos (-x.toInt) hy
  have n1 := Int.mul_ediv_add_emod (x.toInt) y.toInt
  have n2 := Int.emod_nonneg (x.toInt) (Int.ne_of_gt hy)
  have n3 := Int.emod_lt_of_pos (x.toInt) hy
  rw [Int.mul_comm] at m1 n1
  by_cases p : 0 ≤ x.toInt
  · rw [hr.1 p, hd.1 p]
    generalize x.toInt / y.toInt * y.toInt = z at *
    omega
  · rw [hr.2 (by omega), hd.2 (by omega), Int.neg_mul]
    generalize -x.toInt / y.toInt * y.toInt = z at *
    omega
theorem own_fm (F M A d : Int64) (hd : 0 < d.toInt) (hd2 : d.toInt ≤ 34359738368) (hF : 0 ≤ F.toInt) (hF2 : F.toInt ≤ 2147483648) (hA : A.toInt.natAbs ≤ 1125899906842624) :
    ∃ fh fl qm r qq w : Int, F.toInt = fh * 32768 + fl ∧ M.toInt = qm * d.toInt + r ∧ 0 ≤ (r * fh - qq * d.toInt) * 32768 + r * fl + A.toInt - w * d.toInt ∧ (r * fh - qq * d.toInt) * 32768 + r * fl + A.toInt - w * d.toInt < d.toInt ∧
      ((f2 F M A d).toInt - (qm * F.toInt + qq * 32768 + w)) % 18446744073709551616 = 0 := by
  have a1 := own_tdiv M d hd
  have b1 : (v2_16 F).toInt = F.toInt / 32768 := c_lshr F 15 15 (by decide)
  have b2 : (F &&& (32767 : Int64)).toInt = F.toInt % 32768 := c_maskL F 32767 15 (by decide) (by decide)
  have t1 := own_mul (M - M / d * d) (v2_16 F) 34359738368 65536 (by omega) (by omega) (by decide)
  have t2 := own_mul (M - M / d * d) (F &&& (32767 : Int64)) 34359738368 32768 (by omega) (by omega) (by decide)
  have a2 := own_tdiv ((M - M / d * d) * (v2_16 F)) d hd
  have e33 : v2_33 F M d = ((M - M / d * d) * (v2_16 F)) / d := rfl
  rw [← e33] at a2
  have t3 := own_mul ((M - M / d * d) * (v2_16 F) - v2_33 F M d * d) 32768 34359738368 32768 (by omega) (by decide) (by decide)
  rw [show (32768 : Int64).toInt = 32768 from rfl] at t3
  have s1 := c_ladd (((M - M / d * d) * (v2_16 F) - v2_33 F M d * d) * 32768) ((M - M / d * d) * (F &&& (32767 : Int64)))
  have s2 := c_ladd (((M - M / d * d) * (v2_16 F) - v2_33 F M d * d) * 32768 + (M - M / d * d) * (F &&& (32767 : Int64))) A
  have e59 : v2_59 F M A d = ((M - M / d * d) * (v2_16 F) - v2_33 F M d * d) * 32768 + (M - M / d * d) * (F &&& (32767 : Int64)) + A := rfl
  rw [← e59] at s2
  have r1 := rng64 (((M - M / d * d) * (v2_16 F) - v2_33 F M d * d) * 32768 + (M - M / d * d) * (F &&& (32767 : Int64)))
  have r2 := rng64 (v2_59 F M A d)
  have hu : (v2_59 F M A d).toInt = ((M - M / d * d).toInt * (v2_16 F).toInt - (v2_33 F M d).toInt * d.toInt) * 32768 + (M - M / d * d).toInt * (F &&& (32767 : Int64)).toInt + A.toInt ∧ (v2_59 F M A d).toInt.natAbs < 4611686018427387904 := by
    rw [← t1.1, ← a2.1, ← t3.1, ← t2.1]
    have := t3.2
    have := t2.2
    rw [← t3.1] at *
    rw [← t2.1] at *
    omega
  have w := own_f3 (v2_59 F M A d) d hd hu.2
  refine ⟨(v2_16 F).toInt, (F &&& (32767 : Int64)).toInt, (M / d).toInt, (M - M / d * d).toInt, (v2_33 F M d).toInt, (f3 (v2_59 F M A d) d).toInt, by omega, by omega, ?_, ?_, ?_⟩
  · rw [← hu.1]; exact w.1
  · rw [← hu.1]; exact w.2
  · have g1 := c_lmul (M / d) F
    have g2 := c_lmul (v2_33 F M d) 32768
    have g3 := c_ladd (M / d * F) (v2_33 F M d * 32768)
    have g4 := c_ladd (M / d * F + v2_33 F M d * 32768) (f3 (v2_59 F M A d) d)
    rw [show (32768 : Int64).toInt = 32768 from rfl] at g2
    have e : f2 F M A d = M / d * F + v2_33 F M d * 32768 + f3 (v2_59 F M A d) d := rfl
    rw [e]
    generalize (M / d).toInt * F.toInt = z1 at *
    omega
theorem own_digit {r F C d x q r' : Int64} (ex : x = r * 65536 + F * C) (eq : q = f1 x d) (er : r' = x - q * d) (dpos : 0 < d.toInt) (dle : d.toInt ≤ 34359738368) (r0 : 0 ≤ r.toInt) (r1 : r.toInt < d.toInt) (hF : F.toInt.natAbs ≤ 2147483648) (hC : C.toInt.natAbs ≤ 65536) :
    r'.toInt = r.toInt * 65536 + F.toInt * C.toInt - q.toInt * d.toInt ∧ 0 ≤ r'.toInt ∧ r'.toInt < d.toInt := by
  have p2 := own_mul F C 2147483648 65536 hF hC (by decide)
  have t2 := own_mul r 65536 34359738368 65536 (by omega) (by decide) (by decide)
  rw [show (65536 : Int64).toInt = 65536 from rfl] at t2
  have a2 := c_ladd (r * 65536) (F * C)
  rw [← ex, p2.1] at a2
  have b2 := rng64 x
  generalize F.toInt * C.toInt = z at *
  have xe : x.toInt = r.toInt * 65536 + z ∧ x.toInt.natAbs < 4611686018427387904 := by omega
  have s2 := own_step x d dpos xe.2 dle
  rw [← eq, ← er] at s2
  rw [s2.1, xe.1]
  rw [xe.1] at s2
  exact ⟨rfl, s2.2.1, s2.2.2⟩
theorem own_last {r F C A d x q : Int64} (ex : x = r * 65536 + F * C + A) (eq : q = f1 x d) (dpos : 0 < d.toInt) (dle : d.toInt ≤ 34359738368) (r0 : 0 ≤ r.toInt) (r1 : r.toInt < d.toInt) (hF : F.toInt.natAbs ≤ 2147483648) (hC : C.toInt.natAbs ≤ 65536) (hA : A.toInt.natAbs ≤ 1125899906842624) :
    0 ≤ r.toInt * 65536 + F.toInt * C.toInt + A.toInt - q.toInt * d.toInt ∧ r.toInt * 65536 + F.toInt * C.toInt + A.toInt - q.toInt * d.toInt < d.toInt := by
  have p2 := own_mul F C 2147483648 65536 hF hC (by decide)
  have t2 := own_mul r 65536 34359738368 65536 (by omega) (by decide) (by decide)
  rw [show (65536 : Int64).toInt = 65536 from rfl] at t2
  have a2 := c_ladd (r * 65536) (F * C)
  rw [p2.1] at a2
  have b2 := rng64 (r * 65536 + F * C)
  have a3 := c_ladd (r * 65536 + F * C) A
  rw [← ex] at a3
  have b3 := rng64 x
  generalize F.toInt * C.toInt = z at *
  have xe : x.toInt = r.toInt * 65536 + z + A.toInt ∧ x.toInt.natAbs < 4611686018427387904 := by omega
  have s2 := own_step x d dpos xe.2 dle
  rw [← eq, xe.1] at s2
  exact ⟨s2.2.1, s2.2.2⟩
theorem own_head {F C d x q r' : Int64} (ex : x = F * C) (eq : q = f1 x d) (er : r' = x - q * d) (dpos : 0 < d.toInt) (dle : d.toInt ≤ 34359738368) (hF : F.toInt.natAbs ≤ 2147483648) (hC : C.toInt.natAbs ≤ 65536) :
    r'.toInt = F.toInt * C.toInt - q.toInt * d.toInt ∧ 0 ≤ r'.toInt ∧ r'.toInt < d.toInt := by
  have p2 := own_mul F C 2147483648 65536 hF hC (by decide)
  rw [← ex] at p2
  generalize F.toInt * C.toInt = z at *
  have s2 := own_step x d dpos (by omega) dle
  rw [← eq, ← er, p2.1] at s2
  rw [s2.1]
  exact ⟨rfl, s2.2.1, s2.2.2⟩
theorem own_sum {q3 q2 q1 q0 y : Int64} (e : y = (q3 <<< ((48 : Int32) &&& 0x3f).toInt64) + (q2 <<< ((32 : Int32) &&& 0x3f).toInt64) + (q1 <<< ((16 : Int32) &&& 0x3f).toInt64) + q0) :
    (y.toInt - (q3.toInt * 281474976710656 + q2.toInt * 4294967296 + q1.toInt * 65536 + q0.toInt)) % 18446744073709551616 = 0 := by
  have l1 := c_lshl q3 48 48 (by decide)
  have l2 := c_lshl q2 32 32 (by decide)
  have l3 := c_lshl q1 16 16 (by decide)
  have l4 := c_ladd (q3 <<< ((48 : Int32) &&& 0x3f).toInt64) (q2 <<< ((32 : Int32) &&& 0x3f).toInt64)
  have l5 := c_ladd (q3 <<< ((48 : Int32) &&& 0x3f).toInt64 + q2 <<< ((32 : Int32) &&& 0x3f).toInt64) (q1 <<< ((16 : Int32) &&& 0x3f).toInt64)
  have l6 := c_ladd (q3 <<< ((48 : Int32) &&& 0x3f).toInt64 + q2 <<< ((32 : Int32) &&& 0x3f).toInt64 + q1 <<< ((16 : Int32) &&& 0x3f).toInt64) q0
  rw [← e] at l6
  generalize (q3 <<< ((48 : Int32) &&& 0x3f).toInt64 + q2 <<< ((32 : Int32) &&& 0x3f).toInt64 + q1 <<< ((16 : Int32) &&& 0x3f).toInt64) = u at *
  generalize (q3 <<< ((48 : Int32) &&& 0x3f).toInt64 + q2 <<< ((32 : Int32) &&& 0x3f).toInt64) = u2 at *
  generalize (q3 <<< ((48 : Int32) &&& 0x3f).toInt64) = u3 at *
  generalize (q2 <<< ((32 : Int32) &&& 0x3f).toInt64) = u4 at *
  generalize (q1 <<< ((16 : Int32) &&& 0x3f).toInt64) = u5 at *
  omega
theorem own_core {F M A d C3 C2 C1 C0 q3 r3 x2 q2 r2 x1 q1 r1 x0 q0 x3 ex : Int64} (dpos : 0 < d.toInt) (dle : d.toInt ≤ 34359738368) (F0 : 0 ≤ F.toInt) (F1 : F.toInt ≤ 2147483648) (hA : A.toInt.natAbs ≤ 1125899906842624)
    (h3 : C3.toInt.natAbs ≤ 65536) (h2 : C2.toInt.natAbs ≤ 65536) (h1 : C1.toInt.natAbs ≤ 65536) (h0 : C0.toInt.natAbs ≤ 65536) (hM : M.toInt = C3.toInt * 281474976710656 + C2.toInt * 4294967296 + C1.toInt * 65536 + C0.toInt)
    (e67 : x3 = F * C3) (e76 : q3 = f1 x3 d) (e86 : r3 = x3 - q3 * d) (e100 : x2 = r3 * 65536 + F * C2) (e109 : q2 = f1 x2 d) (e119 : r2 = x2 - q2 * d)
    (e133 : x1 = r2 * 65536 + F * C1) (e142 : q1 = f1 x1 d) (e152 : r1 = x1 - q1 * d) (e169 : x0 = r1 * 65536 + F * C0 + A) (e178 : q0 = f1 x0 d)
    (e200 : ex = (q3 <<< ((48 : Int32) &&& 0x3f).toInt64) + (q2 <<< ((32 : Int32) &&& 0x3f).toInt64) + (q1 <<< ((16 : Int32) &&& 0x3f).toInt64) + q0) : f2 F M A d = ex := by
  obtain ⟨fh, fl, qm, r, qq, w, z1, z2, z3, z4, z5⟩ := own_fm F M A d dpos dle F0 F1 hA
  have Fle : F.toInt.natAbs ≤ 2147483648 := by omega
  obtain ⟨a3, b3, c3⟩ := own_head e67 e76 e86 dpos dle Fle h3
  obtain ⟨a2, b2, c2⟩ := own_digit e100 e109 e119 dpos dle b3 c3 Fle h2
  obtain ⟨a1, b1, c1⟩ := own_digit e133 e142 e152 dpos dle b2 c2 Fle h1
  obtain ⟨b0, c0⟩ := own_last e169 e178 dpos dle b1 c1 Fle h0 hA
  rw [a1, a2, a3] at b0 c0
  have key := own_int dpos hM b0 c0 z1 z2 z3 z4
  have s := own_sum e200
  have g1 := rng64 (f2 F M A d)
  have g2 := rng64 ex
  refine Int64.toInt_inj.mp ?_
  clear a1 a2 a3 b0 c0 z1 z2 z3 z4 hM
  rw [key] at z5
  omega
theorem own_F (i : Int64) : 0 ≤ ((i &&& (4294967295 : Int64)) - (i &&& (4294967295 : Int64)) / (2147483649 : Int64) * (2147483649 : Int64)).toInt ∧ ((i &&& (4294967295 : Int64)) - (i &&& (4294967295 : Int64)) / (2147483649 : Int64) * (2147483649 : Int64)).toInt ≤ 2147483648 := by
  have m0 : (i &&& (4294967295 : Int64)).toInt = i.toInt % 4294967296 := c_maskL i 4294967295 32 (by decide) (by decide)
  have hF := (c_lrem (i &&& (4294967295 : Int64)) 2147483649 2147483649 rfl).1 (by omega)
  rw [hF]; omega
theorem own_d (i : Int64) : 0 < ((i &&& (34359738367 : Int64)) + (1 : Int64)).toInt ∧ ((i &&& (34359738367 : Int64)) + (1 : Int64)).toInt ≤ 34359738368 := by
  have m1 : (i &&& (34359738367 : Int64)).toInt = i.toInt % 34359738368 := c_maskL i 34359738367 35 (by decide) (by decide)
  have hd := c_ladd (i &&& (34359738367 : Int64)) 1
  have rd := rng64 ((i &&& (34359738367 : Int64)) + 1)
  rw [show (1 : Int64).toInt = 1 from rfl] at hd
  omega
theorem own_A (i : Int64) : (i - i / (1125899906842625 : Int64) * (1125899906842625 : Int64)).toInt.natAbs ≤ 1125899906842624 := by
  have hA := own_tdiv i 1125899906842625 (by decide)
  rw [show (1125899906842625 : Int64).toInt = 1125899906842625 from rfl] at hA
  omega
theorem own_c2 (i : Int64) : (((i.toUInt64 >>> ((32 : Int32) &&& 0x3f).toInt64.toUInt64).toInt64) &&& (65535 : Int64)).toInt = i.toInt % 18446744073709551616 / 4294967296 % 65536 := by
  have u : ((i.toUInt64 >>> ((32 : Int32) &&& 0x3f).toInt64.toUInt64).toInt64).toInt = (i.toInt % 18446744073709551616) / 4294967296 := c_lushr i 32 32 (by decide) (by decide)
  rw [← u]; exact c_maskL _ 65535 16 (by decide) (by decide)
theorem own_c1 (i : Int64) : (((i.toUInt64 >>> ((16 : Int32) &&& 0x3f).toInt64.toUInt64).toInt64) &&& (65535 : Int64)).toInt = i.toInt % 18446744073709551616 / 65536 % 65536 := by
  have u : ((i.toUInt64 >>> ((16 : Int32) &&& 0x3f).toInt64.toUInt64).toInt64).toInt = (i.toInt % 18446744073709551616) / 65536 := c_lushr i 16 16 (by decide) (by decide)
  rw [← u]; exact c_maskL _ 65535 16 (by decide) (by decide)
theorem own_c3 (i : Int64) : (i >>> ((48 : Int32) &&& 0x3f).toInt64).toInt = i.toInt / 281474976710656 := c_lshr i 48 48 (by decide)
theorem own_c0 (i : Int64) : (i &&& (65535 : Int64)).toInt = i.toInt % 65536 := c_maskL i 65535 16 (by decide) (by decide)
theorem own_split (i : Int64) : i.toInt = (i >>> ((48 : Int32) &&& 0x3f).toInt64).toInt * 281474976710656 + (((i.toUInt64 >>> ((32 : Int32) &&& 0x3f).toInt64.toUInt64).toInt64) &&& (65535 : Int64)).toInt * 4294967296 + (((i.toUInt64 >>> ((16 : Int32) &&& 0x3f).toInt64.toUInt64).toInt64) &&& (65535 : Int64)).toInt * 65536 + (i &&& (65535 : Int64)).toInt := by
  rw [own_c3, own_c2, own_c1, own_c0]
  have r := rng64 i
  generalize i.toInt = n at *
  omega
theorem own_small (i : Int64) : (i >>> ((48 : Int32) &&& 0x3f).toInt64).toInt.natAbs ≤ 65536 ∧ (((i.toUInt64 >>> ((32 : Int32) &&& 0x3f).toInt64.toUInt64).toInt64) &&& (65535 : Int64)).toInt.natAbs ≤ 65536 ∧ (((i.toUInt64 >>> ((16 : Int32) &&& 0x3f).toInt64.toUInt64).toInt64) &&& (65535 : Int64)).toInt.natAbs ≤ 65536 ∧ (i &&& (65535 : Int64)).toInt.natAbs ≤ 65536 := by
  rw [own_c3, own_c2, own_c1, own_c0]
  have r := rng64 i
  generalize i.toInt = n at *
  omega
theorem own_law (i0 i1 i2 i3 : Int64) : f0 i0 i1 i2 i3 = 1 := by
  refine if_pos ?_
  have s := own_small i1
  exact own_core (F := v0_9 i0) (M := i1) (A := v0_27 i2) (d := v0_19 i3) (C3 := v0_33 i1) (C2 := v0_43 i1) (C1 := v0_53 i1) (C0 := i1 &&& (65535 : Int64))
    (q3 := v0_76 i0 i1 i3) (r3 := v0_86 i0 i1 i3) (x2 := v0_100 i0 i1 i3) (q2 := v0_109 i0 i1 i3) (r2 := v0_119 i0 i1 i3) (x1 := v0_133 i0 i1 i3) (q1 := v0_142 i0 i1 i3) (r1 := v0_152 i0 i1 i3) (x0 := v0_169 i0 i1 i2 i3) (q0 := v0_178 i0 i1 i2 i3) (x3 := v0_67 i0 i1) (ex := v0_200 i0 i1 i2 i3)
    (own_d i3).1 (own_d i3).2 (own_F i0).1 (own_F i0).2 (own_A i2) s.1 s.2.1 s.2.2.1 s.2.2.2 (own_split i1) rfl rfl rfl rfl rfl rfl rfl rfl rfl rfl rfl rfl
set_option maxRecDepth 65536 in
set_option maxHeartbeats 40000000 in
theorem comes_1 {Post : Tables → Env → Array Value → State → Outcome → State → Prop} (hpost : ∀ tb e args s v u, (limb_1_1.after args s (.returned v) u = true ∧ limb_1_2.after args s (.returned v) u = true ∧ True) → FrameEnd s (.returned v) u (Jvm.fieldLocs frame_1_writes args s ++ Jvm.arrayLocs frame_1_arrays args s ++ Jvm.staticLocs frame_1_statics s) 0 0 → Post tb e args s (.returned v) u) :
    ArmFor flags0 classFile x code maxLocals ret World_1 tables_1 room_1 Calls_1 rest_1 Pre_1 Post := by
  intro l hfl _ _ p e ha hc hk s m args below hf hA hF happ hP
  obtain ⟨hcalls, hrest, hpre⟩ := hP
  obtain ⟨-, -, -, hnamed, -, -, -, hat⟩ := (Spec.applies_iff hf).mp happ
  obtain ⟨hg, hn⟩ := and_e (Cond.before_iff.mp (show (Jvm.Cond.and given_1 narrow_1).before args s = true from hpre))
  obtain ⟨g1, g2⟩ := and_e hg
  obtain ⟨g3, g4⟩ := and_e g2
  obtain ⟨g5, g6⟩ := and_e g4
  obtain ⟨g7, g8⟩ := and_e g6
  obtain ⟨w0, w1, w2, w3, rfl⟩ : ∃ w0 w1 w2 w3 : Value, args = #[w0, w1, w2, w3] := by
    have hs : args.size = 4 := by simpa [Cond.value, given_1] using g1
    obtain ⟨L⟩ := args
    match L, hs with
    | [w0, w1, w2, w3], _ => exact ⟨w0, w1, w2, w3, rfl⟩
  have hw := fun d (hd : d ∈ tables_1) => atoms_spec (ws := Jvm.Cond.code x code maxLocals ret :: tables_1) hat d (List.mem_cons_of_mem _ hd)
  obtain ⟨i0, ei0⟩ := isL_v g3
  obtain rfl : w0 = (.long i0) := Option.some.inj ei0
  obtain ⟨i1, ei1⟩ := isL_v g5
  obtain rfl : w1 = (.long i1) := Option.some.inj ei1
  obtain ⟨i2, ei2⟩ := isL_v g7
  obtain rfl : w2 = (.long i2) := Option.some.inj ei2
  obtain ⟨i3, ei3⟩ := isL_v g8
  obtain rfl : w3 = (.long i3) := Option.some.inj ei3
  obtain ⟨n, o, h1, h2, h3, _, L, rfl, ⟨rfl, N, -⟩, hq⟩ := rm0 l s _ hw tables_1 i0 i1 i2 i3 s.heap s.heap.size (Nat.le_refl _) p e ha hc hk s m _ below hf ((Spec.applies_iff_loose hf).mp happ).1 ⟨rfl, State.Warmed39.refl s, rfl⟩ trivial
  rw [own_law i0 i1 i2 i3] at h3 hq
  refine ⟨n, _, h1, h2, h3, hpost _ _ _ _ _ _ ⟨Cond.after_iff.mpr rfl, Cond.after_iff.mpr (eq_i res_at (Term.int_eval (1)) rfl), trivial⟩ ⟨hq.1, hq.2.1, (hq.2.2.sift fun y hy => Or.inr (N y hy)).mono (by decide) (by decide)⟩⟩
theorem main_1_1 : Claimed_1_1 := comes_1 fun _ _ _ _ _ _ h hF => ⟨h.1, hF⟩
theorem main_1_2 : Claimed_1_2 := comes_1 fun _ _ _ _ _ _ h hF => ⟨h.2.1, hF⟩
end Jvm.Pilot.@@N@@
namespace Jvm.Pilot.@@N@@
open Jvm Jvm.ClassFile Sem Op Lib Jvm.Free Jvm.Stand Jvm.Pilot.@@N@@.Jvm.D
/-! MADE BY PROGRAM (witnessworld.py) out of the Statement's table words and the real class files: 10 classes; the members and pool entries that the words name. The judged class is class 1, her method 2. -/
namespace start1
open Jvm.ClassFile
def u (s : String) : CpInfo := .utf8 (stringToUtf16 s)
/-- a pool by its gaps: so many unusable entries, then the entry; so many at the end -/
def gap : Nat → List CpInfo → List CpInfo
  | 0, r => r
  | n + 1, r => .unusable :: gap n r
def poolList (es : List (Nat × CpInfo)) (last : Nat) : List CpInfo := es.foldr (fun e r => gap e.1 (e.2 :: r)) (gap last [])
def pool (es : List (Nat × CpInfo)) (last : Nat) : Array CpInfo := ⟨poolList es last⟩
def fileOf (pool : Array CpInfo) (this : Nat) (attrs : Array Attribute := #[]) (ms : Array MethodInfo := #[]) (fl : Nat := 33) (sup : Nat := 0) (ifs : Array Nat := #[]) (fds : Array FieldInfo := #[]) : ClassFile where
  minorVersion := 0
  majorVersion := 65
  constantPool := pool
  accessFlags := fl
  thisClass := this
  superClass := sup
  interfaces := ifs
  fields := fds
  methods := ms
  attributes := attrs
def plain (name : String) (sup : Option ClassId) : Class where
  name := name
  kind := .ordinary
  loader := none
  accessFlags := 33
  super := sup
  interfaces := #[]
  cf := none
  fields := #[]
  methods := #[]
  instanceTypes := #[]
  staticTypes := #[]
  resolved := #[]
  callSites := []
  init := .initialized
  statics := none
  mirror := none

def pool0 : Array CpInfo := pool [(5, u "<init>"), (0, u "()V"), (1, .class_ 10), (1, u "java/lang/Object")] 113

def k0m0 : Method := { name := "<init>", desc := "()V", sig := { parameters := [], returnType := none }, accessFlags := 1, code := none }
/-- java/lang/Object -/
def k0 : Class := { plain "java/lang/Object" none with
  accessFlags := 33
  interfaces := #[]
  cf := some (fileOf pool0 8 #[] #[{ accessFlags := 1, nameIndex := 5, descriptorIndex := 6, attributes := #[] }] 33 0 #[] #[])
  fields := #[]
  methods := #[k0m0]
  instanceTypes := #[]
  staticTypes := #[]
  resolved := Array.replicate 124 none
  statics := none }

def pool1 : Array CpInfo := pool [(2, .class_ 4), (1, u "java/lang/Object"), (0, u "<init>"), (0, u "()V"), (0, .long 4294967295), (1, .long 2147483649), (1, .long 34359738367), (1, .long 1125899906842625), (1, .long 65535), (1, .methodref 18 19), (0, .class_ 20), (0, .nameAndType 21 22), (0, u "com/example/stint/stint/limit/ExactFloorOfProductPinLaw"), (0, u "fdiv"), (0, u "(JJ)J"), (0, .long 65536), (1, .methodref 26 27), (0, .class_ 28), (0, .nameAndType 29 30), (0, u "com/example/stint/stint/limit/Exact"), (0, u "floorOfProduct"), (0, u "(JJJJ)J"), (3, u "law"), (0, u "(JJJJ)Z")] 2

def k1m0 : Method := { name := "<init>", desc := "()V", sig := { parameters := [], returnType := none }, accessFlags := 2, code := none }
def k1c1 : Code := { maxStack := 4, maxLocals := 6, code := method_2_code, exceptionTable := #[], attributes := #[] }
def k1m1 : Method := { name := "fdiv", desc := "(JJ)J", sig := { parameters := [.long, .long], returnType := some .long }, accessFlags := 10, code := some k1c1 }
def k1c2 : Code := { maxStack := 8, maxLocals := 48, code := code, exceptionTable := #[], attributes := #[] }
def k1m2 : Method := { name := "law", desc := "(JJJJ)Z", sig := { parameters := [.long, .long, .long, .long], returnType := some .boolean }, accessFlags := 9, code := some k1c2 }
/-- com/example/stint/stint/limit/ExactFloorOfProductPinLaw -/
def k1 : Class := { plain "com/example/stint/stint/limit/ExactFloorOfProductPinLaw" (some 0) with
  accessFlags := 49
  interfaces := #[]
  cf := some (fileOf pool1 18 #[] #[{ accessFlags := 2, nameIndex := 5, descriptorIndex := 6, attributes := #[] }, { accessFlags := 10, nameIndex := 21, descriptorIndex := 22, attributes := #[] }, { accessFlags := 9, nameIndex := 34, descriptorIndex := 35, attributes := #[] }] 49 2 #[] #[])
  fields := #[]
  methods := #[k1m0, k1m1, k1m2]
  instanceTypes := #[]
  staticTypes := #[]
  resolved := Array.replicate 38 none
  statics := none }

def pool2 : Array CpInfo := pool [(2, .class_ 4), (1, u "java/lang/Object"), (0, u "<init>"), (0, u "()V"), (0, .long 32767), (1, .long 32768), (1, .methodref 12 13), (0, .class_ 14), (0, .nameAndType 15 16), (0, u "java/lang/Math"), (0, u "floorDiv"), (0, u "(JJ)J"), (0, .class_ 18), (0, u "com/example/stint/stint/limit/Exact"), (2, u "floorOfProduct"), (0, u "(JJJJ)J")] 2

def k2m0 : Method := { name := "<init>", desc := "()V", sig := { parameters := [], returnType := none }, accessFlags := 2, code := none }
def k2c1 : Code := { maxStack := 6, maxLocals := 20, code := prog_12_method_2_code, exceptionTable := #[], attributes := #[] }
def k2m1 : Method := { name := "floorOfProduct", desc := "(JJJJ)J", sig := { parameters := [.long, .long, .long, .long], returnType := some .long }, accessFlags := 8, code := some k2c1 }
/-- com/example/stint/stint/limit/Exact -/
def k2 : Class := { plain "com/example/stint/stint/limit/Exact" (some 0) with
  accessFlags := 48
  interfaces := #[]
  cf := some (fileOf pool2 17 #[] #[{ accessFlags := 2, nameIndex := 5, descriptorIndex := 6, attributes := #[] }, { accessFlags := 8, nameIndex := 21, descriptorIndex := 22, attributes := #[] }] 48 2 #[] #[])
  fields := #[]
  methods := #[k2m0, k2m1]
  instanceTypes := #[]
  staticTypes := #[]
  resolved := Array.replicate 25 none
  statics := none }

def pool3 : Array CpInfo := pool [(1, .class_ 2), (0, u "java/lang/Math"), (1, .class_ 6), (1, u "java/lang/Object"), (0, u "<init>"), (0, u "()V"), (89, .class_ 100), (1, u "java/lang/Math$RandomNumberGeneratorHolder"), (20, u "(JJ)J"), (23, u "floorDiv"), (26, u "negativeZeroFloatBits"), (0, u "J"), (2, u "negativeZeroDoubleBits"), (68, u "$assertionsDisabled"), (0, u "Z"), (91, u "twoToTheDoubleScaleDown"), (0, u "D"), (4, u "twoToTheDoubleScaleUp"), (9, u "E"), (3, u "PI"), (2, u "TAU"), (2, u "DEGREES_TO_RADIANS"), (0, u "RADIANS_TO_DEGREES")] 94

def k3m0 : Method := { name := "<init>", desc := "()V", sig := { parameters := [], returnType := none }, accessFlags := 2, code := none }
def k3c1 : Code := { maxStack := 4, maxLocals := 6, code := jdk_29_method_49_code, exceptionTable := #[], attributes := #[] }
def k3m1 : Method := { name := "floorDiv", desc := "(JJ)J", sig := { parameters := [.long, .long], returnType := some .long }, accessFlags := 9, code := some k3c1 }
/-- java/lang/Math -/
def k3 : Class := { plain "java/lang/Math" (some 0) with
  accessFlags := 49
  interfaces := #[]
  cf := some (fileOf pool3 1 #[.nestMembers #[98]] #[{ accessFlags := 2, nameIndex := 7, descriptorIndex := 8, attributes := #[] }, { accessFlags := 9, nameIndex := 145, descriptorIndex := 121, attributes := #[] }] 49 4 #[] #[{ accessFlags := 25, nameIndex := 354, descriptorIndex := 339, attributes := #[] }, { accessFlags := 25, nameIndex := 358, descriptorIndex := 339, attributes := #[] }, { accessFlags := 25, nameIndex := 361, descriptorIndex := 339, attributes := #[] }, { accessFlags := 26, nameIndex := 364, descriptorIndex := 339, attributes := #[] }, { accessFlags := 26, nameIndex := 365, descriptorIndex := 339, attributes := #[] }, { accessFlags := 26, nameIndex := 172, descriptorIndex := 173, attributes := #[] }, { accessFlags := 26, nameIndex := 176, descriptorIndex := 173, attributes := #[] }, { accessFlags := 8, nameIndex := 344, descriptorIndex := 339, attributes := #[] }, { accessFlags := 8, nameIndex := 338, descriptorIndex := 339, attributes := #[] }, { accessFlags := 4120, nameIndex := 245, descriptorIndex := 246, attributes := #[] }])
  fields := #[{ name := "E", type := .double, accessFlags := 25, slot := 0, constantValue := 0 }, { name := "PI", type := .double, accessFlags := 25, slot := 1, constantValue := 0 }, { name := "TAU", type := .double, accessFlags := 25, slot := 2, constantValue := 0 }, { name := "DEGREES_TO_RADIANS", type := .double, accessFlags := 26, slot := 3, constantValue := 0 }, { name := "RADIANS_TO_DEGREES", type := .double, accessFlags := 26, slot := 4, constantValue := 0 }, { name := "negativeZeroFloatBits", type := .long, accessFlags := 26, slot := 5, constantValue := 0 }, { name := "negativeZeroDoubleBits", type := .long, accessFlags := 26, slot := 6, constantValue := 0 }, { name := "twoToTheDoubleScaleUp", type := .double, accessFlags := 8, slot := 7, constantValue := 0 }, { name := "twoToTheDoubleScaleDown", type := .double, accessFlags := 8, slot := 8, constantValue := 0 }, { name := "$assertionsDisabled", type := .boolean, accessFlags := 4120, slot := 9, constantValue := 0 }]
  methods := #[k3m0, k3m1]
  instanceTypes := #[]
  staticTypes := #[.double, .double, .double, .double, .double, .long, .long, .double, .double, .boolean]
  resolved := Array.replicate 460 none
  statics := none }

def pool4 : Array CpInfo := pool [(1, u "java/lang/Cloneable"), (0, .class_ 1), (0, u "java/lang/Object"), (0, .class_ 3)] 3

/-- java/lang/Cloneable -/
def k4 : Class := { plain "java/lang/Cloneable" (some 0) with
  accessFlags := 1537
  interfaces := #[]
  cf := some (fileOf pool4 2 #[] #[] 1537 4 #[] #[])
  fields := #[]
  methods := #[]
  instanceTypes := #[]
  staticTypes := #[]
  resolved := Array.replicate 8 none
  statics := none }

def pool5 : Array CpInfo := pool [(1, u "java/io/Serializable"), (0, .class_ 1), (0, u "java/lang/Object"), (0, .class_ 3)] 3

/-- java/io/Serializable -/
def k5 : Class := { plain "java/io/Serializable" (some 0) with
  accessFlags := 1537
  interfaces := #[]
  cf := some (fileOf pool5 2 #[] #[] 1537 4 #[] #[])
  fields := #[]
  methods := #[]
  instanceTypes := #[]
  staticTypes := #[]
  resolved := Array.replicate 8 none
  statics := none }

/-- the primitive byte -/
def k6 : Class := { plain "byte" none with kind := .primitive 'B', accessFlags := 0x411 }
/-- [B -/
def k7 : Class := { plain "[B" (some 0) with kind := .array 6 .byte, interfaces := #[4, 5], accessFlags := 1041 }

/-- the primitive int -/
def k8 : Class := { plain "int" none with kind := .primitive 'I', accessFlags := 0x411 }
/-- [I -/
def k9 : Class := { plain "[I" (some 0) with kind := .array 8 .int, interfaces := #[4, 5], accessFlags := 1041 }

def heap : Heap := #[]
def classes : Array Class := #[k0, k1, k2, k3, k4, k5, k6, k7, k8, k9]
def interned : List (Array UInt16 × Addr) := []
def slotsUsed : Nat := 0
def theMethod : MethodId := ⟨1, 2⟩
def args0 : Array Value := #[.long 5, .long 7, .long 9, .long 3]
def aboutOver (below : List Frame) : State where
  vm := { classes := classes, interned := interned.toArray }
  heap := heap
  slotsUsed := slotsUsed
  threads := #[{ frames := .invoking theMethod args0 :: below }]
def below0 : List Frame := [.native { method := ⟨0, 0⟩, args := #[] }]
def about1 : State := aboutOver below0
def p0 : Program := .bare "" "" ""
def e0 : Env := launch0.env 0 0 0
theorem w_frames : about1.frames = Frame.invoking theMethod args0 :: below0 := rfl
set_option maxRecDepth 65536 in
theorem w_args : argsFit about1.vm theMethod args0 = true := by decide +kernel
set_option maxRecDepth 65536 in
theorem w_heap : heapFits about1 = true := by decide +kernel
set_option maxRecDepth 65536 in
theorem w_runnable : about1.curStatus? = some .runnable := by decide +kernel
set_option maxRecDepth 65536 in
theorem w_alone : about1.alone = true := by decide +kernel
set_option maxRecDepth 65536 in
theorem w_named : about1.methodNamed? x = some theMethod := by decide +kernel
set_option maxRecDepth 65536 in
theorem w_hears : about1.hears theMethod below0 = true := by decide +kernel
set_option maxRecDepth 65536 in
theorem w_ripe : about1.ripe theMethod args0 below0 = true := by decide +kernel
theorem w_running : about1.status = .running := rfl
set_option maxRecDepth 65536 in
theorem w_room : about1.hasRoom e0.platform room_1 = true :=
  launch0.hasRoom_least _ room_1 (by decide +kernel) (by decide +kernel) (by decide +kernel) (by decide +kernel) (by decide +kernel) (by decide +kernel)
theorem allAtoms_all (ts : List Jvm.Cond) (a : Array Jvm.Value) (st : Jvm.State) : (allAtoms ts).before a st = ts.all (fun c => c.before a st) := by
  induction ts with
  | nil => rfl
  | cons c t ih =>
    show (Jvm.Cond.and c (allAtoms t)).before a st = _
    rw [Jvm.Cond.before_and, ih, List.all_cons]
def words1 : List Jvm.Cond := Jvm.Cond.code x code maxLocals ret :: tables_1
/-- a 'code' word, met by the world's own term for the bytes: nothing is compared byte by byte -/
theorem code_word {y : MethodName} {bytes : ByteArray} {mx : Nat} {rt : Option FieldType} {a : Array Value} {s : State} {m : MethodId} {meth : Method} {c : Code} (h1 : s.methodNamed? y = some m) (h2 : s.vm.method? m = some meth) (h3 : meth.code = some c) (h4 : c.code = bytes)
    (h5 : (c.maxLocals == mx && c.exceptionTable.isEmpty && decide (c.maxStack ≤ mostOperands) && decide (meth.sig.returnType = rt) && !meth.locks && decide (parseMethodDescriptor y.desc = some meth.sig)) = true) : (Jvm.Cond.code y bytes mx rt).before a s = true := by
  simp only [Bool.and_eq_true, beq_iff_eq, Bool.not_eq_true', decide_eq_true_eq] at h5
  obtain ⟨⟨⟨⟨⟨g1, g2⟩, g3⟩, g4⟩, g5⟩, g6⟩ := h5
  simp [Cond.before, Cond.holds, Cond.value, h1, h2, h3, h4, g1, g2, g3, g4, g5, g6]
def isCode : Jvm.Cond → Bool
  | .code _ _ _ _ => true
  | _ => false
theorem all_split {L : List Jvm.Cond} {P : Jvm.Cond → Bool} (h1 : L.all (fun c => isCode c || P c) = true) (h2 : ∀ c ∈ L.filter isCode, P c = true) : L.all P = true := by
  refine List.all_eq_true.mpr fun c hc => ?_
  have h := List.all_eq_true.mp h1 c hc
  rcases Bool.eq_false_or_eq_true (isCode c) with hi | hi
  · exact h2 c (List.mem_filter.mpr ⟨hc, hi⟩)
  · simpa [hi] using h
set_option maxRecDepth 65536 in
theorem w_c0 : (Jvm.Cond.code x code maxLocals ret).before args0 about1 = true := code_word (m := ⟨1, 2⟩) (meth := k1m2) (c := k1c2) (by decide +kernel) rfl rfl rfl (by decide +kernel)
set_option maxRecDepth 65536 in
theorem w_c1 : (Jvm.Cond.code ({ cls := "com/example/stint/stint/limit/ExactFloorOfProductPinLaw", name := "fdiv", desc := "(JJ)J" } : Jvm.MethodName) method_2_code (6 : Nat) (Option.some Jvm.ClassFile.FieldType.long)).before args0 about1 = true := code_word (m := ⟨1, 1⟩) (meth := k1m1) (c := k1c1) (by decide +kernel) rfl rfl rfl (by decide +kernel)
set_option maxRecDepth 65536 in
theorem w_c2 : (Jvm.Cond.code ({ cls := "com/example/stint/stint/limit/Exact", name := "floorOfProduct", desc := "(JJJJ)J" } : Jvm.MethodName) prog_12_method_2_code (20 : Nat) (Option.some Jvm.ClassFile.FieldType.long)).before args0 about1 = true := code_word (m := ⟨2, 1⟩) (meth := k2m1) (c := k2c1) (by decide +kernel) rfl rfl rfl (by decide +kernel)
set_option maxRecDepth 65536 in
theorem w_c3 : (Jvm.Cond.code ({ cls := "java/lang/Math", name := "floorDiv", desc := "(JJ)J" } : Jvm.MethodName) jdk_29_method_49_code (6 : Nat) (Option.some Jvm.ClassFile.FieldType.long)).before args0 about1 = true := code_word (m := ⟨3, 1⟩) (meth := k3m1) (c := k3c1) (by decide +kernel) rfl rfl rfl (by decide +kernel)
def codes1 : List Jvm.Cond := [Jvm.Cond.code x code maxLocals ret, Jvm.Cond.code ({ cls := "com/example/stint/stint/limit/ExactFloorOfProductPinLaw", name := "fdiv", desc := "(JJ)J" } : Jvm.MethodName) method_2_code (6 : Nat) (Option.some Jvm.ClassFile.FieldType.long), Jvm.Cond.code ({ cls := "com/example/stint/stint/limit/Exact", name := "floorOfProduct", desc := "(JJJJ)J" } : Jvm.MethodName) prog_12_method_2_code (20 : Nat) (Option.some Jvm.ClassFile.FieldType.long), Jvm.Cond.code ({ cls := "java/lang/Math", name := "floorDiv", desc := "(JJ)J" } : Jvm.MethodName) jdk_29_method_49_code (6 : Nat) (Option.some Jvm.ClassFile.FieldType.long)]
set_option maxRecDepth 65536 in
theorem codes_eq : words1.filter isCode = codes1 := rfl
theorem w_codes : ∀ c ∈ words1.filter isCode, c.before args0 about1 = true := by
  rw [codes_eq]
  intro c hc
  simp only [codes1, List.mem_cons, List.not_mem_nil, or_false] at hc
  rcases hc with rfl | rfl | rfl | rfl
  · exact w_c0
  · exact w_c1
  · exact w_c2
  · exact w_c3
set_option maxRecDepth 65536 in
theorem w_t1 : words1.all (fun c => isCode c || c.before args0 about1) = true := by decide +kernel
theorem w_tables : (allAtoms (Jvm.Cond.code x code maxLocals ret :: tables_1)).before args0 about1 = true := by
  rw [allAtoms_all]
  show words1.all (fun c => c.before args0 about1) = true
  refine all_split ?_ w_codes
  rw [w_t1]
set_option maxRecDepth 65536 in
theorem w_case : (Jvm.Cond.and given_1 narrow_1).before args0 about1 = true := by decide +kernel
theorem w_applies : (headSpec (Jvm.Cond.code x code maxLocals ret :: tables_1) room_1).applies x e0.platform about1 = true :=
  (Spec.applies_iff w_frames).mpr ⟨w_running, w_runnable, w_alone, w_named, w_hears, w_ripe, w_room, w_tables⟩
theorem atStart : AtStart classFile x code maxLocals ret World_1 tables_1 room_1 Calls_1 rest_1 Pre_1 launch0 p0 e0 about1 theMethod args0 below0 :=
  ⟨lists_1, trivial, launch0.admits_env _ _ _, launch0.least_env, fairChoices_fair.cas, fairChoices_fair.clock, w_frames, w_args, w_heap, w_applies, trivial, trivial, w_case⟩
end start1
theorem witness_1 : WitnessClaimed_1 := ⟨start1.p0, start1.e0, start1.about1, start1.theMethod, start1.args0, start1.below0, start1.atStart⟩
end Jvm.Pilot.@@N@@
